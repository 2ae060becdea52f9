import JvmDerived
import JvmDerived.Pilot.@@N@@Statement
import JvmDerived.Pilot.@@N@@Code
set_option linter.unusedVariables false
set_option linter.unusedSimpArgs false
namespace Jvm.RoadKit
open Sem ClassFile Op Lib Jvm.Stand Jvm.Free Jvm.LawKit
section New
variable {p : Program} {l : Launch} {e : Env} {R : Room} {s : State} {m : MethodId} {args : Array Value} {below : List Frame} {meth : Method} {c : Code} {T : State} {locs : List Loc} {cells slots : Nat}
theorem retI (X : Stand p l e R s m args below meth c T locs cells slots) (hx : p.tables.exec = Jvm.exec) {pc : Nat} {Ls : Array Slot} {z : Int32} {rest : List Value} (hret : meth.sig.returnType = some .int) (hd : decode c.code pc = .ok (.ireturn, 1)) {fs : List Frame}
    (hl : ∀ (f : JFrame) (acts : List Action), f.method = m → f.locked = none → f.entered = [] → (doReturn e (T.setTop f) acts (some (.int z))).1 = T.setFrames fs) : Steps p.tables e below (T.setTop (mkF m pc Ls (.int z :: rest))) (T.setFrames fs) := by
  have hm' : T.vm.method? m = some meth := X.method'
  have hn : narrow .int (.int z) = .int z := rfl
  show Steps p.tables e below (T.setTop { method := m, pc := pc, locals := Ls, stack := _ :: rest, locked := none }) _
  jvm_step X.here [X.here.top, hx, hd, hm', hret, hn]
  first | (intro acts; rw [hl _ acts rfl rfl rfl]) | rw [hl _ _ rfl rfl rfl]
  exact Steps.refl _
end New
end Jvm.RoadKit
namespace Jvm.Pilot.@@N@@
open Jvm Jvm.ClassFile Sem Op Lib Jvm.Free Jvm.Stand Jvm.LawKit Jvm.RoadKit Bundle Jvm.Pilot.@@N@@.Jvm.D
section Own
variable {p : Program} {l : Launch} {e : Env} {R : Room} {s : State} {m : MethodId} {args : Array Value} {below : List Frame} {meth : Method} {c : Code} {T : State} {locs : List Loc} {cells slots : Nat} {Z : State} {a0 : Array Value} {h h' : Heap}
/-- an array of n places, whose j-th holds f j -/
def own_AF (Z : State) (h : Heap) (a : Addr) (ty : FieldType) (n : Nat) (f : Nat → Value) : Prop := n < 2147483648 ∧ ∃ c : Cell, Arr Z h a c ty ∧ c.slots.size = n ∧ ∀ j, j < n → c.slots[j]? = some (f j)
/-- an array of ints, bytes, chars, booleans -/
def own_AI (Z : State) (h : Heap) (a : Addr) (ty : FieldType) (n : Nat) (f : Nat → Int32) : Prop := own_AF Z h a ty n (fun j => .int (f j))
def own_AL (Z : State) (h : Heap) (a : Addr) (n : Nat) (f : Nat → Int64) : Prop := own_AF Z h a .long n (fun j => .long (f j))
def own_upd {α : Type} (f : Nat → α) (i : Nat) (x : α) : Nat → α := fun j => if j = i then x else f j
theorem own_AF.lt {a : Addr} {ty : FieldType} {n : Nat} {f : Nat → Value} (F : own_AF Z h a ty n f) : a < h.size := by obtain ⟨_, c, A, -⟩ := F; exact A.lt
theorem own_AI.lt {a : Addr} {ty : FieldType} {n : Nat} {f : Nat → Int32} (F : own_AI Z h a ty n f) : a < h.size := own_AF.lt F
theorem own_AL.lt {a : Addr} {n : Nat} {f : Nat → Int64} (F : own_AL Z h a n f) : a < h.size := own_AF.lt F
theorem own_AF.keep {a : Addr} {ty : FieldType} {n : Nat} {f : Nat → Value} {ws : List Addr} (F : own_AF Z h a ty n f) (K : Keep h h' ws) (q : a ∉ ws) : own_AF Z h' a ty n f := by
  obtain ⟨b, c, A, r⟩ := F; exact ⟨b, c, ⟨K.2.1 a c A.1 q, A.2⟩, r⟩
theorem own_AI.keep {a : Addr} {ty : FieldType} {n : Nat} {f : Nat → Int32} {ws : List Addr} (F : own_AI Z h a ty n f) (K : Keep h h' ws) (q : a ∉ ws) : own_AI Z h' a ty n f := own_AF.keep F K q
theorem own_AL.keep {a : Addr} {n : Nat} {f : Nat → Int64} {ws : List Addr} (F : own_AL Z h a n f) (K : Keep h h' ws) (q : a ∉ ws) : own_AL Z h' a n f := own_AF.keep F K q
theorem own_AF.congr {a : Addr} {ty : FieldType} {n : Nat} {f g : Nat → Value} (F : own_AF Z h a ty n f) (q : ∀ j, j < n → f j = g j) : own_AF Z h a ty n g := by
  obtain ⟨b, c, A, s, r⟩ := F; exact ⟨b, c, A, s, fun j hj => by rw [r j hj, q j hj]⟩
theorem own_AI.congr {a : Addr} {ty : FieldType} {n : Nat} {f g : Nat → Int32} (F : own_AI Z h a ty n f) (q : ∀ j, j < n → f j = g j) : own_AI Z h a ty n g := own_AF.congr F fun j hj => by show Value.int (f j) = .int (g j); rw [q j hj]
theorem own_AF.wr {a : Addr} {ty : FieldType} {n i : Nat} {f : Nat → Value} {v : Value} (F : own_AF Z h a ty n f) (hi : i < n) (W : Wr h h' a i v) : own_AF Z h' a ty n (own_upd f i v) := by
  obtain ⟨b, c, A, s, r⟩ := F
  refine ⟨b, _, A.same W, by rw [sz_set]; exact s, fun j hj => ?_⟩
  simp only [Cell.setSlot, own_upd, Array.getElem?_setIfInBounds]
  by_cases q : i = j
  · subst q; simp [s, hi]
  · have q' : ¬ j = i := fun e => q e.symm
    simp [q, q', r j hj]
theorem own_AI.wr {a : Addr} {ty : FieldType} {n i : Nat} {f : Nat → Int32} {x : Int32} (F : own_AI Z h a ty n f) (hi : i < n) (W : Wr h h' a i (.int x)) : own_AI Z h' a ty n (own_upd f i x) :=
  (own_AF.wr F hi W).congr fun j hj => by simp only [own_upd]; split <;> rfl
theorem own_AL.wr {a : Addr} {n i : Nat} {f : Nat → Int64} {x : Int64} (F : own_AL Z h a n f) (hi : i < n) (W : Wr h h' a i (.long x)) : own_AL Z h' a n (own_upd f i x) :=
  (own_AF.wr F hi W).congr fun j hj => by simp only [own_upd]; split <;> rfl
theorem own_idx {j : Int32} {i : Nat} (hj : j.toInt = i) : ¬ j < 0 ∧ j.toNatClampNeg = i := by
  refine ⟨by rw [Int32.lt_iff_toInt_lt, Int32.toInt_zero]; omega, ?_⟩
  have := nat_of (j := j) (by rw [Int32.lt_iff_toInt_lt, Int32.toInt_zero]; omega)
  omega
theorem own_inb {j : Int32} {i n : Nat} {cl : Cell} (hj : j.toInt = i) (hi : i < n) (hs : cl.slots.size = n) : ¬ (j < 0 ∨ cl.slots.size ≤ j.toNatClampNeg) := by
  obtain ⟨h1, h2⟩ := own_idx hj
  rintro (q | q)
  · exact h1 q
  · rw [h2, hs] at q; omega
theorem own_ldF {a : Addr} {n i : Nat} {ty : FieldType} {f : Nat → Value} {j : Int32} {v : Value} (A : own_AF Z h a ty n f) (hj : j.toInt = i) (hi : i < n) (hv : f i = v) : ∃ cl : Cell, Arr Z h a cl ty ∧ ¬ (j < 0 ∨ cl.slots.size ≤ j.toNatClampNeg) ∧ cl.slots[j.toNatClampNeg]? = some v := by
  obtain ⟨b, cl, Ar, hs, hf⟩ := A
  exact ⟨cl, Ar, own_inb hj hi hs, by rw [(own_idx hj).2, hf i hi, hv]⟩
theorem own_ldI (X : Stand p l e R s m args below meth c T locs cells slots) (hx : p.tables.exec = Jvm.exec) (hZ : Z.Warmed39 s.vm) (eT : T.heap = h) {a : Addr} {n i : Nat} {f : Nat → Int32} {j x : Int32} (A : own_AI Z h a .int n f) (hj : j.toInt = i) (hi : i < n) (hv : f i = x) {g : JFrame} (hg : g.method = m) {rest : List Value} (hs : g.stack = .int j :: .ref a :: rest) (hd : decode c.code g.pc = .ok (.iaload, 1)) :
    ∀ target, Steps p.tables e below (T.setTop { g with pc := g.pc + 1, stack := .int x :: rest }) target → Steps p.tables e below (T.setTop g) target := by
  obtain ⟨cl, Ar, h1, h2⟩ := own_ldF A hj hi (by rw [hv])
  exact X.iaload hx (by rw [eT]; exact Ar.1) (State.isArrayOf_alike hZ.alike Ar.2.1) Ar.2.2 h1 h2 hg hs hd
theorem own_ldC (X : Stand p l e R s m args below meth c T locs cells slots) (hx : p.tables.exec = Jvm.exec) (hZ : Z.Warmed39 s.vm) (eT : T.heap = h) {a : Addr} {n i : Nat} {f : Nat → Int32} {j x : Int32} (A : own_AI Z h a .char n f) (hj : j.toInt = i) (hi : i < n) (hv : f i = x) {g : JFrame} (hg : g.method = m) {rest : List Value} (hs : g.stack = .int j :: .ref a :: rest) (hd : decode c.code g.pc = .ok (.caload, 1)) :
    ∀ target, Steps p.tables e below (T.setTop { g with pc := g.pc + 1, stack := .int x :: rest }) target → Steps p.tables e below (T.setTop g) target := by
  obtain ⟨cl, Ar, h1, h2⟩ := own_ldF A hj hi (by rw [hv])
  exact X.caload hx (by rw [eT]; exact Ar.1) (State.isArrayOf_alike hZ.alike Ar.2.1) Ar.2.2 h1 h2 hg hs hd
theorem own_ldB (X : Stand p l e R s m args below meth c T locs cells slots) (hx : p.tables.exec = Jvm.exec) (hZ : Z.Warmed39 s.vm) (eT : T.heap = h) {a : Addr} {n i : Nat} {f : Nat → Int32} {j x : Int32} (A : own_AI Z h a .byte n f) (hj : j.toInt = i) (hi : i < n) (hv : f i = x) {g : JFrame} (hg : g.method = m) {rest : List Value} (hs : g.stack = .int j :: .ref a :: rest) (hd : decode c.code g.pc = .ok (.baload, 1)) :
    ∀ target, Steps p.tables e below (T.setTop { g with pc := g.pc + 1, stack := .int x :: rest }) target → Steps p.tables e below (T.setTop g) target := by
  obtain ⟨cl, Ar, h1, h2⟩ := own_ldF A hj hi (by rw [hv])
  exact X.baloadBytes hx (by rw [eT]; exact Ar.1) (State.isArrayOf_alike hZ.alike Ar.2.1) Ar.2.2 h1 h2 hg hs hd
theorem own_ldZ (X : Stand p l e R s m args below meth c T locs cells slots) (hx : p.tables.exec = Jvm.exec) (hZ : Z.Warmed39 s.vm) (eT : T.heap = h) {a : Addr} {n i : Nat} {f : Nat → Int32} {j x : Int32} (A : own_AI Z h a .boolean n f) (hj : j.toInt = i) (hi : i < n) (hv : f i = x) {g : JFrame} (hg : g.method = m) {rest : List Value} (hs : g.stack = .int j :: .ref a :: rest) (hd : decode c.code g.pc = .ok (.baload, 1)) :
    ∀ target, Steps p.tables e below (T.setTop { g with pc := g.pc + 1, stack := .int x :: rest }) target → Steps p.tables e below (T.setTop g) target := by
  obtain ⟨cl, Ar, h1, h2⟩ := own_ldF A hj hi (by rw [hv])
  exact X.baloadBooleans hx (by rw [eT]; exact Ar.1) (State.isArrayOf_alike hZ.alike Ar.2.1) Ar.2.2 h1 h2 hg hs hd
theorem own_ldJ (X : Stand p l e R s m args below meth c T locs cells slots) (hx : p.tables.exec = Jvm.exec) (hZ : Z.Warmed39 s.vm) (eT : T.heap = h) {a : Addr} {n i : Nat} {f : Nat → Int64} {j : Int32} {x : Int64} (A : own_AL Z h a n f) (hj : j.toInt = i) (hi : i < n) (hv : f i = x) {g : JFrame} (hg : g.method = m) {rest : List Value} (hs : g.stack = .int j :: .ref a :: rest) (hd : decode c.code g.pc = .ok (.laload, 1)) :
    ∀ target, Steps p.tables e below (T.setTop { g with pc := g.pc + 1, stack := .long x :: rest }) target → Steps p.tables e below (T.setTop g) target := by
  obtain ⟨cl, Ar, h1, h2⟩ := own_ldF A hj hi (by rw [hv])
  exact X.laload hx (by rw [eT]; exact Ar.1) (State.isArrayOf_alike hZ.alike Ar.2.1) Ar.2.2 h1 h2 hg hs hd
theorem own_ldR (X : Stand p l e R s m args below meth c T locs cells slots) (hx : p.tables.exec = Jvm.exec) (hZ : Z.Warmed39 s.vm) (eT : T.heap = h) {a : Addr} {n i : Nat} {ty : FieldType} {f : Nat → Value} {j : Int32} {v : Value} (hty : ty.isReference = true) (A : own_AF Z h a ty n f) (hj : j.toInt = i) (hi : i < n) (hv : f i = v) {g : JFrame} (hg : g.method = m) {rest : List Value} (hs : g.stack = .int j :: .ref a :: rest) (hd : decode c.code g.pc = .ok (.aaload, 1)) :
    ∀ target, Steps p.tables e below (T.setTop { g with pc := g.pc + 1, stack := v :: rest }) target → Steps p.tables e below (T.setTop g) target := by
  obtain ⟨cl, Ar, h1, h2⟩ := own_ldF A hj hi hv
  exact X.aaload hx (by rw [eT]; exact Ar.1) (State.isArrayOf_alike hZ.alike Ar.2.1) hty Ar.2.2 h1 h2 hg hs hd
theorem own_len (X : Stand p l e R s m args below meth c T locs cells slots) (hx : p.tables.exec = Jvm.exec) (hZ : Z.Warmed39 s.vm) (eT : T.heap = h) {a : Addr} {n : Nat} {ty : FieldType} {f : Nat → Value} {z : Int32} (A : own_AF Z h a ty n f) (hz : z.toInt = n) {g : JFrame} (hg : g.method = m) {rest : List Value} (hs : g.stack = .ref a :: rest) (hd : decode c.code g.pc = .ok (.arraylength, 1)) :
    ∀ target, Steps p.tables e below (T.setTop { g with pc := g.pc + 1, stack := .int z :: rest }) target → Steps p.tables e below (T.setTop g) target := by
  obtain ⟨b, cl, Ar, hs', hf⟩ := A
  intro target k
  refine X.arraylength hx (by rw [eT]; exact Ar.1) (State.isArrayOf_alike hZ.alike Ar.2.1) hg hs hd target ?_
  have q : cl.slots.size.toInt32 = z := by
    apply Int32.toInt_inj.mp
    rw [hs', len_toInt (by omega), hz]
  rw [q]; exact k
theorem own_stI (X : Stand p l e R s m args below meth c T locs cells slots) (hx : p.tables.exec = Jvm.exec) (hZ : Z.Warmed39 s.vm) (eT : T.heap = h) {a : Addr} {n i : Nat} {f : Nat → Int32} {j x : Int32} (A : own_AI Z h a .int n f) (hj : j.toInt = i) (hi : i < n) {g : JFrame} (hg : g.method = m) {rest : List Value} (hs : g.stack = .int x :: .int j :: .ref a :: rest) (hd : decode c.code g.pc = .ok (.iastore, 1)) :
    ∃ T' h', Stand p l e R s m args below meth c T' (locs ++ [⟨a, i⟩]) cells slots ∧ T'.heap = h' ∧ Wr h h' a i (.int x) ∧ own_AI Z h' a .int n (own_upd f i x) ∧ ∀ target, Steps p.tables e below (T'.setTop { g with pc := g.pc + 1, stack := rest }) target → Steps p.tables e below (T.setTop g) target := by
  obtain ⟨cl, Ar, h1, -⟩ := own_ldF A hj hi rfl
  obtain ⟨T', h', X', e', W, st⟩ := stI X hx hZ eT Ar h1 hg hs hd
  rw [(own_idx hj).2] at X' W
  exact ⟨T', h', X', e', W, A.wr hi W, st⟩
theorem own_stB (X : Stand p l e R s m args below meth c T locs cells slots) (hx : p.tables.exec = Jvm.exec) (hZ : Z.Warmed39 s.vm) (eT : T.heap = h) {a : Addr} {n i : Nat} {f : Nat → Int32} {j x : Int32} (A : own_AI Z h a .byte n f) (hj : j.toInt = i) (hi : i < n) {g : JFrame} (hg : g.method = m) {rest : List Value} (hs : g.stack = .int x :: .int j :: .ref a :: rest) (hd : decode c.code g.pc = .ok (.bastore, 1)) :
    ∃ T' h', Stand p l e R s m args below meth c T' (locs ++ [⟨a, i⟩]) cells slots ∧ T'.heap = h' ∧ Wr h h' a i (.int (x.toInt8.toInt32)) ∧ own_AI Z h' a .byte n (own_upd f i (x.toInt8.toInt32)) ∧ ∀ target, Steps p.tables e below (T'.setTop { g with pc := g.pc + 1, stack := rest }) target → Steps p.tables e below (T.setTop g) target := by
  obtain ⟨cl, Ar, h1, -⟩ := own_ldF A hj hi rfl
  obtain ⟨T', h', X', e', W, st⟩ := stB X hx hZ eT Ar h1 hg hs hd
  rw [(own_idx hj).2] at X' W
  exact ⟨T', h', X', e', W, A.wr hi W, st⟩
theorem own_stZ (X : Stand p l e R s m args below meth c T locs cells slots) (hx : p.tables.exec = Jvm.exec) (hZ : Z.Warmed39 s.vm) (eT : T.heap = h) {a : Addr} {n i : Nat} {f : Nat → Int32} {j x : Int32} (A : own_AI Z h a .boolean n f) (hj : j.toInt = i) (hi : i < n) {g : JFrame} (hg : g.method = m) {rest : List Value} (hs : g.stack = .int x :: .int j :: .ref a :: rest) (hd : decode c.code g.pc = .ok (.bastore, 1)) :
    ∃ T' h', Stand p l e R s m args below meth c T' (locs ++ [⟨a, i⟩]) cells slots ∧ T'.heap = h' ∧ Wr h h' a i (.int (x &&& 1)) ∧ own_AI Z h' a .boolean n (own_upd f i (x &&& 1)) ∧ ∀ target, Steps p.tables e below (T'.setTop { g with pc := g.pc + 1, stack := rest }) target → Steps p.tables e below (T.setTop g) target := by
  obtain ⟨cl, Ar, h1, -⟩ := own_ldF A hj hi rfl
  obtain ⟨T', h', X', e', W, st⟩ := stZ X hx hZ eT Ar h1 hg hs hd
  rw [(own_idx hj).2] at X' W
  exact ⟨T', h', X', e', W, A.wr hi W, st⟩
theorem own_stC (X : Stand p l e R s m args below meth c T locs cells slots) (hx : p.tables.exec = Jvm.exec) (hZ : Z.Warmed39 s.vm) (eT : T.heap = h) {a : Addr} {n i : Nat} {f : Nat → Int32} {j x : Int32} (A : own_AI Z h a .char n f) (hj : j.toInt = i) (hi : i < n) {g : JFrame} (hg : g.method = m) {rest : List Value} (hs : g.stack = .int x :: .int j :: .ref a :: rest) (hd : decode c.code g.pc = .ok (.castore, 1)) :
    ∃ T' h', Stand p l e R s m args below meth c T' (locs ++ [⟨a, i⟩]) cells slots ∧ T'.heap = h' ∧ Wr h h' a i (.int (x.toUInt32.toUInt16.toUInt32.toInt32)) ∧ own_AI Z h' a .char n (own_upd f i (x.toUInt32.toUInt16.toUInt32.toInt32)) ∧ ∀ target, Steps p.tables e below (T'.setTop { g with pc := g.pc + 1, stack := rest }) target → Steps p.tables e below (T.setTop g) target := by
  obtain ⟨cl, Ar, h1, -⟩ := own_ldF A hj hi rfl
  obtain ⟨T', h', X', e', W, st⟩ := stC X hx hZ eT Ar h1 hg hs hd
  rw [(own_idx hj).2] at X' W
  exact ⟨T', h', X', e', W, A.wr hi W, st⟩
theorem own_stJ (X : Stand p l e R s m args below meth c T locs cells slots) (hx : p.tables.exec = Jvm.exec) (hZ : Z.Warmed39 s.vm) (eT : T.heap = h) {a : Addr} {n i : Nat} {f : Nat → Int64} {j : Int32} {x : Int64} (A : own_AL Z h a n f) (hj : j.toInt = i) (hi : i < n) {g : JFrame} (hg : g.method = m) {rest : List Value} (hs : g.stack = .long x :: .int j :: .ref a :: rest) (hd : decode c.code g.pc = .ok (.lastore, 1)) :
    ∃ T' h', Stand p l e R s m args below meth c T' (locs ++ [⟨a, i⟩]) cells slots ∧ T'.heap = h' ∧ Wr h h' a i (.long x) ∧ own_AL Z h' a n (own_upd f i x) ∧ ∀ target, Steps p.tables e below (T'.setTop { g with pc := g.pc + 1, stack := rest }) target → Steps p.tables e below (T.setTop g) target := by
  obtain ⟨cl, Ar, h1, -⟩ := own_ldF A hj hi rfl
  obtain ⟨T', h', X', e', W, st⟩ := stJ X hx hZ eT Ar h1 hg hs hd
  rw [(own_idx hj).2] at X' W
  exact ⟨T', h', X', e', W, A.wr hi W, st⟩
theorem own_newF {a : Addr} {cA : ClassId} {ty : FieldType} {n : Int32} {i : Nat} (hn : n.toInt = i) (A : Arr Z h a (newA cA ty n) ty) : own_AF Z h a ty i (fun _ => defaultValue ty) := by
  obtain ⟨h1, h2⟩ := own_idx hn
  have := n.toInt_lt
  refine ⟨by omega, _, A, by rw [sz_new, h2], fun j hj => ?_⟩
  simp [newA, h2, hj]
theorem own_newI {a : Addr} {cA : ClassId} {ty : FieldType} {n : Int32} {i : Nat} (hn : n.toInt = i) (A : Arr Z h a (newA cA ty n) ty) (hd : defaultValue ty = .int 0) : own_AI Z h a ty i (fun _ => 0) :=
  (own_newF hn A).congr fun _ _ => hd
theorem own_newL {a : Addr} {cA : ClassId} {n : Int32} {i : Nat} (hn : n.toInt = i) (A : Arr Z h a (newA cA .long n) .long) : own_AL Z h a i (fun _ => 0) :=
  (own_newF hn A).congr fun _ _ => rfl
theorem own_Sta.keep {C n d : String} {v : Value} {ws : List Addr} (F : Sta Z h C n d v) (K : Keep h h' ws) (q : ∀ x ∈ ws, ∀ cl : Cell, h[x]? = some cl → cl.vm.isStatics = false) : Sta Z h' C n d v := by
  obtain ⟨cf, i, k, f, st, cell, h1, h2, h3, h4, h5, h6, h7⟩ := F
  refine ⟨cf, i, k, f, st, cell, h1, h2, h3, h4, K.2.1 st cell h5 (fun q' => ?_), h6, h7⟩
  have := q st q' cell h5
  rw [h6] at this; cases this
theorem own_selP {args : Array Value} {C : String} {y y' : MethodName} (hcls : y'.cls = y.cls) (hs : (Jvm.Cond.selects C y' y').before args s = true) (hi' : (Jvm.Cond.instanceMethod y').before args s = true) (hp : (Jvm.Cond.privateMethod y).before args s = true) (hi : (Jvm.Cond.instanceMethod y).before args s = true) (hy : y.cls ≠ "java/lang/invoke/MethodHandle" ∧ y.cls ≠ "java/lang/invoke/VarHandle") : (Jvm.Cond.selects y.cls y y).before args s = true := by
  obtain ⟨mk, methM, hnamed, -⟩ := Cond.instanceMethod_spec hi'
  obtain ⟨kr, hk, hni⟩ := notFace_of_selects hs mk hnamed
  have hc := findClass_of_methodNamed hnamed
  rw [hcls] at hc
  exact selects_self_of_private hc hk hni (Cond.privateMethod_at hp) hi hy
end Own

theorem own_hiAll : ∀ i : Fin 256, ((Int32.ofNat i.1) &&& 128).toInt = i.1 - i.1 % 128 ∧ ((Int32.ofNat i.1) &&& 192).toInt = i.1 - i.1 % 64 ∧ ((Int32.ofNat i.1) &&& 224).toInt = i.1 - i.1 % 32 ∧ ((Int32.ofNat i.1) &&& 240).toInt = i.1 - i.1 % 16 ∧ ((Int32.ofNat i.1) &&& 248).toInt = i.1 - i.1 % 8 := by decide +kernel
theorem own_hi (x : Int32) (h0 : 0 ≤ x.toInt) (h1 : x.toInt < 256) : (x &&& 128).toInt = x.toInt - x.toInt % 128 ∧ (x &&& 192).toInt = x.toInt - x.toInt % 64 ∧ (x &&& 224).toInt = x.toInt - x.toInt % 32 ∧ (x &&& 240).toInt = x.toInt - x.toInt % 16 ∧ (x &&& 248).toInt = x.toInt - x.toInt % 8 := by
  have e : x = Int32.ofNat x.toInt.toNat := by
    apply Int32.toInt_inj.mp
    rw [Int32.toInt_ofNat_of_lt (by omega)]
    omega
  have q := own_hiAll ⟨x.toInt.toNat, by omega⟩
  simp only at q
  rw [← e] at q
  have e2 : ((x.toInt.toNat : Nat) : Int) = x.toInt := by omega
  rw [e2] at q
  exact q
theorem own_hi128 (x : Int32) : 0 ≤ x.toInt → x.toInt < 256 → (x &&& 128).toInt = x.toInt - x.toInt % 128 := fun a b => (own_hi x a b).1
theorem own_hi192 (x : Int32) : 0 ≤ x.toInt → x.toInt < 256 → (x &&& 192).toInt = x.toInt - x.toInt % 64 := fun a b => (own_hi x a b).2.1
theorem own_hi224 (x : Int32) : 0 ≤ x.toInt → x.toInt < 256 → (x &&& 224).toInt = x.toInt - x.toInt % 32 := fun a b => (own_hi x a b).2.2.1
theorem own_hi240 (x : Int32) : 0 ≤ x.toInt → x.toInt < 256 → (x &&& 240).toInt = x.toInt - x.toInt % 16 := fun a b => (own_hi x a b).2.2.2.1
theorem own_hi248 (x : Int32) : 0 ≤ x.toInt → x.toInt < 256 → (x &&& 248).toInt = x.toInt - x.toInt % 8 := fun a b => (own_hi x a b).2.2.2.2

theorem d3_0 : decode method_3_code 0 = .ok (.iload_n 0, 1) := by decide +kernel
theorem d3_1 : decode method_3_code 1 = .ok (.sipush 192, 3) := by decide +kernel
theorem d3_4 : decode method_3_code 4 = .ok (.iand, 1) := by decide +kernel
theorem d3_5 : decode method_3_code 5 = .ok (.sipush 128, 3) := by decide +kernel
theorem d3_8 : decode method_3_code 8 = .ok (.if_icmp .ne 7, 3) := by decide +kernel
theorem d3_11 : decode method_3_code 11 = .ok (.iconst 1, 1) := by decide +kernel
theorem d3_12 : decode method_3_code 12 = .ok (.goto 4, 3) := by decide +kernel
theorem d3_15 : decode method_3_code 15 = .ok (.iconst 0, 1) := by decide +kernel
theorem d3_16 : decode method_3_code 16 = .ok (.ireturn, 1) := by decide +kernel
theorem pn_3 : plainName "com/example/benzer/benzer/cli/Utf8SequenceSizePinLaw" = true := by first | (simp [plainName, overriddenIn]; done) | decide +kernel
theorem ef_3 (m : MethodId) (x0 : Int32) : entryFrame m #[(.int x0)] 1 = mkF m 0 #[.val (.int x0)] [] := by first | (simp [entryFrame, mkF, argsToLocals, Value.category]; done) | rfl
def own_cont (p0 : Int32) : Int32 := (if (p0 &&& (192 : Int32)) = (128 : Int32) then (1 : Int32) else (0 : Int32))
theorem own_eq_own_cont (p0 : Int32) : own_cont p0 = (if (p0 &&& (192 : Int32)) = (128 : Int32) then (1 : Int32) else (0 : Int32)) := rfl
def Q3 (Z : State) (p0 : Int32) (h0 : Heap) (n0 : Nat) (rv_ : Option Value) (h : Heap) (LL_ : List Loc) : Prop := rv_ = some (.int (own_cont p0)) ∧ Fr n0 LL_ ∧ h = h0
set_option maxRecDepth 65536 in
set_option maxHeartbeats 40000000 in
theorem rm3 (l : Launch) (Z : State) (a0 : Array Value) (hw : ∀ d ∈ tables_1, d.before a0 Z = true) (ws : List Jvm.Cond) (p0 : Int32) (h0 : Heap) (n0 : Nat) :
    MetFree l (⟨"com/example/benzer/benzer/cli/Utf8SequenceSizePinLaw", "cont", "(I)Z"⟩ : MethodName) (head1 (Jvm.Cond.code (⟨"com/example/benzer/benzer/cli/Utf8SequenceSizePinLaw", "cont", "(I)Z"⟩ : MethodName) method_3_code 1 (some .boolean) :: ws) ({ frames := 0, cells := 0, slots := 0, locals := 0 } : Room)) (fun aa UU => aa = #[(.int p0)] ∧ Z.Warmed39 UU.vm ∧ UU.heap = h0) (fun _ _ _ _ _ => True) (fun _ UU oo UV => ∃ vv LL, oo = .returned vv ∧ Q3 Z p0 h0 n0 vv UV.heap LL ∧ FrameEnd UU oo UV LL ({ frames := 0, cells := 0, slots := 0, locals := 0 } : Room).cells ({ frames := 0, cells := 0, slots := 0, locals := 0 } : Room).slots) := by
  refine MetFree.of_bodySF (plainFor_of_name pn_3) hisR ?_
  intro p e s m args below meth c s₁ Bd hml0 hP hK
  obtain ⟨rfl, hZ, hh⟩ := hP
  have hx := Bd.exec
  have hby := Bd.bytes
  have hml : c.maxLocals = 1 := hml0
  have hown : s.vm.findClass "com/example/benzer/benzer/cli/Utf8SequenceSizePinLaw" = some m.cls := findClass_of_methodNamed Bd.named
  have hnm := (name_of_methodNamed Bd.named Bd.method).1
  have X0 : Stand p l e ({ frames := 0, cells := 0, slots := 0, locals := 0 } : Room) s m #[(.int p0)] below meth c s₁ [] 0 0 := Stand.of_body Bd
  have e0 : s₁.heap = h0 := by rw [← hh, Bd.state]; rfl
  have N0 := Fr.nil n0
  have k0 : ∀ tg_, Steps p.tables e below (s₁.setTop (mkF m 0 #[.val (.int p0)] [])) tg_ → Steps p.tables e below (s₁.setTop (entryFrame m #[(.int p0)] 1)) tg_ := fun tg_ k => castTop (ef_3 m p0) k
  have k1 : ∀ tg_, Steps p.tables e below (s₁.setTop (mkF m 8 #[.val (.int p0)] [(.int (128 : Int32)), (.int (p0 &&& (192 : Int32)))])) tg_ → Steps p.tables e below (s₁.setTop (entryFrame m #[(.int p0)] 1)) tg_ := by
    intro tg_ kt
    refine k0 tg_ ?_
    refine XS.iloadN X0.here hx rfl (hb hby d3_0) rfl ?_
    show Steps p.tables e below (s₁.setTop (mkF m 1 #[.val (.int p0)] [(.int p0)])) _
    refine XS.sipush X0.here hx rfl (hb hby d3_1) ?_
    show Steps p.tables e below (s₁.setTop (mkF m 4 #[.val (.int p0)] [(.int (192 : Int32)), (.int p0)])) _
    refine XS.iand X0.here hx rfl (hb hby d3_4) rfl ?_
    show Steps p.tables e below (s₁.setTop (mkF m 5 #[.val (.int p0)] [(.int (p0 &&& (192 : Int32)))])) _
    refine XS.sipush X0.here hx rfl (hb hby d3_5) ?_
    show Steps p.tables e below (s₁.setTop (mkF m 8 #[.val (.int p0)] [(.int (128 : Int32)), (.int (p0 &&& (192 : Int32)))])) _
    exact kt
  by_cases hc8_2 : (p0 &&& (192 : Int32)) = (128 : Int32)
  · have k3 : ∀ tg_, Steps p.tables e below (s₁.setTop (mkF m 16 #[.val (.int p0)] [(.int (1 : Int32))])) tg_ → Steps p.tables e below (s₁.setTop (entryFrame m #[(.int p0)] 1)) tg_ := by
      intro tg_ kt
      refine k1 tg_ ?_
      refine XS.icmpNo X0.here hx rfl (hb hby d3_8) rfl (teq hc8_2).2 ?_
      show Steps p.tables e below (s₁.setTop (mkF m 11 #[.val (.int p0)] [])) _
      refine XS.iconst X0.here hx rfl (hb hby d3_11) ?_
      show Steps p.tables e below (s₁.setTop (mkF m 12 #[.val (.int p0)] [(.int (1 : Int32))])) _
      refine XS.goto X0.here hx rfl (pc0 := 12) (pc' := 16) rfl (hb hby d3_12) (by decide) (by decide) ?_
      show Steps p.tables e below (s₁.setTop (mkF m 16 #[.val (.int p0)] [(.int (1 : Int32))])) _
      exact kt
    obtain ⟨fs, hr, hrun, hended, hW, hsame⟩ := X0.leave (v := some (.int (1 : Int32))) (fun h => by rw [Bd.returns] at h; cases h)
    refine ⟨_, _, k3 _ (retN X0 hx (t := .boolean) Bd.returns (by simp) (hb hby d3_16) hr), hrun, hended, _, _, rfl, ?_, ⟨_, rfl⟩, hW, hsame.mono (by decide) (by decide)⟩
    show Q3 Z p0 h0 n0 _ s₁.heap _
    rw [e0]
    exact ⟨(by rw [own_eq_own_cont]; rw [if_pos hc8_2]), N0, rfl⟩
  · have k4 : ∀ tg_, Steps p.tables e below (s₁.setTop (mkF m 16 #[.val (.int p0)] [(.int (0 : Int32))])) tg_ → Steps p.tables e below (s₁.setTop (entryFrame m #[(.int p0)] 1)) tg_ := by
      intro tg_ kt
      refine k1 tg_ ?_
      refine XS.icmpYes X0.here hx rfl (pc0 := 8) (pc' := 15) rfl (hb hby d3_8) rfl (feq hc8_2).2 (by decide) (by decide) ?_
      show Steps p.tables e below (s₁.setTop (mkF m 15 #[.val (.int p0)] [])) _
      refine XS.iconst X0.here hx rfl (hb hby d3_15) ?_
      show Steps p.tables e below (s₁.setTop (mkF m 16 #[.val (.int p0)] [(.int (0 : Int32))])) _
      exact kt
    obtain ⟨fs, hr, hrun, hended, hW, hsame⟩ := X0.leave (v := some (.int (0 : Int32))) (fun h => by rw [Bd.returns] at h; cases h)
    refine ⟨_, _, k4 _ (retN X0 hx (t := .boolean) Bd.returns (by simp) (hb hby d3_16) hr), hrun, hended, _, _, rfl, ?_, ⟨_, rfl⟩, hW, hsame.mono (by decide) (by decide)⟩
    show Q3 Z p0 h0 n0 _ s₁.heap _
    rw [e0]
    exact ⟨(by rw [own_eq_own_cont]; rw [if_neg hc8_2]), N0, rfl⟩
theorem pd_2 : parseMethodDescriptor "(I)Z" = some ⟨[.int], some .boolean⟩ := by decide +kernel
theorem d2_0 : decode method_4_code 0 = .ok (.iload_n 0, 1) := by decide +kernel
theorem d2_1 : decode method_4_code 1 = .ok (.sipush 128, 3) := by decide +kernel
theorem d2_4 : decode method_4_code 4 = .ok (.if_icmp .ge 9, 3) := by decide +kernel
theorem d2_7 : decode method_4_code 7 = .ok (.iconst 1, 1) := by decide +kernel
theorem d2_8 : decode method_4_code 8 = .ok (.istore 5, 2) := by decide +kernel
theorem d2_10 : decode method_4_code 10 = .ok (.goto 56, 3) := by decide +kernel
theorem d2_13 : decode method_4_code 13 = .ok (.iload_n 0, 1) := by decide +kernel
theorem d2_14 : decode method_4_code 14 = .ok (.sipush 224, 3) := by decide +kernel
theorem d2_17 : decode method_4_code 17 = .ok (.iand, 1) := by decide +kernel
theorem d2_18 : decode method_4_code 18 = .ok (.sipush 192, 3) := by decide +kernel
theorem d2_21 : decode method_4_code 21 = .ok (.if_icmp .ne 9, 3) := by decide +kernel
theorem d2_24 : decode method_4_code 24 = .ok (.iconst 2, 1) := by decide +kernel
theorem d2_25 : decode method_4_code 25 = .ok (.istore 5, 2) := by decide +kernel
theorem d2_27 : decode method_4_code 27 = .ok (.goto 39, 3) := by decide +kernel
theorem d2_30 : decode method_4_code 30 = .ok (.iload_n 0, 1) := by decide +kernel
theorem d2_31 : decode method_4_code 31 = .ok (.sipush 240, 3) := by decide +kernel
theorem d2_34 : decode method_4_code 34 = .ok (.iand, 1) := by decide +kernel
theorem d2_35 : decode method_4_code 35 = .ok (.sipush 224, 3) := by decide +kernel
theorem d2_38 : decode method_4_code 38 = .ok (.if_icmp .ne 9, 3) := by decide +kernel
theorem d2_41 : decode method_4_code 41 = .ok (.iconst 3, 1) := by decide +kernel
theorem d2_42 : decode method_4_code 42 = .ok (.istore 5, 2) := by decide +kernel
theorem d2_44 : decode method_4_code 44 = .ok (.goto 22, 3) := by decide +kernel
theorem d2_47 : decode method_4_code 47 = .ok (.iload_n 0, 1) := by decide +kernel
theorem d2_48 : decode method_4_code 48 = .ok (.sipush 248, 3) := by decide +kernel
theorem d2_51 : decode method_4_code 51 = .ok (.iand, 1) := by decide +kernel
theorem d2_52 : decode method_4_code 52 = .ok (.sipush 240, 3) := by decide +kernel
theorem d2_55 : decode method_4_code 55 = .ok (.if_icmp .ne 9, 3) := by decide +kernel
theorem d2_58 : decode method_4_code 58 = .ok (.iconst 4, 1) := by decide +kernel
theorem d2_59 : decode method_4_code 59 = .ok (.istore 5, 2) := by decide +kernel
theorem d2_61 : decode method_4_code 61 = .ok (.goto 5, 3) := by decide +kernel
theorem d2_64 : decode method_4_code 64 = .ok (.iconst 0, 1) := by decide +kernel
theorem d2_65 : decode method_4_code 65 = .ok (.ireturn, 1) := by decide +kernel
theorem d2_66 : decode method_4_code 66 = .ok (.iload 5, 2) := by decide +kernel
theorem d2_68 : decode method_4_code 68 = .ok (.iload 4, 2) := by decide +kernel
theorem d2_70 : decode method_4_code 70 = .ok (.if_icmp .le 5, 3) := by decide +kernel
theorem d2_73 : decode method_4_code 73 = .ok (.iconst 0, 1) := by decide +kernel
theorem d2_74 : decode method_4_code 74 = .ok (.ireturn, 1) := by decide +kernel
theorem d2_75 : decode method_4_code 75 = .ok (.iload 5, 2) := by decide +kernel
theorem d2_77 : decode method_4_code 77 = .ok (.iconst 1, 1) := by decide +kernel
theorem d2_78 : decode method_4_code 78 = .ok (.if_icmp .ne 5, 3) := by decide +kernel
theorem d2_81 : decode method_4_code 81 = .ok (.iconst 1, 1) := by decide +kernel
theorem d2_82 : decode method_4_code 82 = .ok (.ireturn, 1) := by decide +kernel
theorem d2_83 : decode method_4_code 83 = .ok (.iload_n 1, 1) := by decide +kernel
theorem d2_84 : decode method_4_code 84 = .ok (.invokestatic 19, 3) := by decide +kernel
theorem d2_87 : decode method_4_code 87 = .ok (.ifCond .ne 5, 3) := by decide +kernel
theorem d2_90 : decode method_4_code 90 = .ok (.iconst 0, 1) := by decide +kernel
theorem d2_91 : decode method_4_code 91 = .ok (.ireturn, 1) := by decide +kernel
theorem d2_92 : decode method_4_code 92 = .ok (.iload 5, 2) := by decide +kernel
theorem d2_94 : decode method_4_code 94 = .ok (.iconst 2, 1) := by decide +kernel
theorem d2_95 : decode method_4_code 95 = .ok (.if_icmp .ne 31, 3) := by decide +kernel
theorem d2_98 : decode method_4_code 98 = .ok (.iload_n 0, 1) := by decide +kernel
theorem d2_99 : decode method_4_code 99 = .ok (.bipush 31, 2) := by decide +kernel
theorem d2_101 : decode method_4_code 101 = .ok (.iand, 1) := by decide +kernel
theorem d2_102 : decode method_4_code 102 = .ok (.bipush 6, 2) := by decide +kernel
theorem d2_104 : decode method_4_code 104 = .ok (.ishl, 1) := by decide +kernel
theorem d2_105 : decode method_4_code 105 = .ok (.iload_n 1, 1) := by decide +kernel
theorem d2_106 : decode method_4_code 106 = .ok (.bipush 63, 2) := by decide +kernel
theorem d2_108 : decode method_4_code 108 = .ok (.iand, 1) := by decide +kernel
theorem d2_109 : decode method_4_code 109 = .ok (.ior, 1) := by decide +kernel
theorem d2_110 : decode method_4_code 110 = .ok (.istore 6, 2) := by decide +kernel
theorem d2_112 : decode method_4_code 112 = .ok (.iload 6, 2) := by decide +kernel
theorem d2_114 : decode method_4_code 114 = .ok (.sipush 128, 3) := by decide +kernel
theorem d2_117 : decode method_4_code 117 = .ok (.if_icmp .lt 7, 3) := by decide +kernel
theorem d2_120 : decode method_4_code 120 = .ok (.iconst 2, 1) := by decide +kernel
theorem d2_121 : decode method_4_code 121 = .ok (.goto 4, 3) := by decide +kernel
theorem d2_124 : decode method_4_code 124 = .ok (.iconst 0, 1) := by decide +kernel
theorem d2_125 : decode method_4_code 125 = .ok (.ireturn, 1) := by decide +kernel
theorem d2_126 : decode method_4_code 126 = .ok (.iload_n 2, 1) := by decide +kernel
theorem d2_127 : decode method_4_code 127 = .ok (.invokestatic 19, 3) := by decide +kernel
theorem d2_130 : decode method_4_code 130 = .ok (.ifCond .ne 5, 3) := by decide +kernel
theorem d2_133 : decode method_4_code 133 = .ok (.iconst 0, 1) := by decide +kernel
theorem d2_134 : decode method_4_code 134 = .ok (.ireturn, 1) := by decide +kernel
theorem d2_135 : decode method_4_code 135 = .ok (.iload 5, 2) := by decide +kernel
theorem d2_137 : decode method_4_code 137 = .ok (.iconst 3, 1) := by decide +kernel
theorem d2_138 : decode method_4_code 138 = .ok (.if_icmp .ne 53, 3) := by decide +kernel
theorem d2_141 : decode method_4_code 141 = .ok (.iload_n 0, 1) := by decide +kernel
theorem d2_142 : decode method_4_code 142 = .ok (.bipush 15, 2) := by decide +kernel
theorem d2_144 : decode method_4_code 144 = .ok (.iand, 1) := by decide +kernel
theorem d2_145 : decode method_4_code 145 = .ok (.bipush 12, 2) := by decide +kernel
theorem d2_147 : decode method_4_code 147 = .ok (.ishl, 1) := by decide +kernel
theorem d2_148 : decode method_4_code 148 = .ok (.iload_n 1, 1) := by decide +kernel
theorem d2_149 : decode method_4_code 149 = .ok (.bipush 63, 2) := by decide +kernel
theorem d2_151 : decode method_4_code 151 = .ok (.iand, 1) := by decide +kernel
theorem d2_152 : decode method_4_code 152 = .ok (.bipush 6, 2) := by decide +kernel
theorem d2_154 : decode method_4_code 154 = .ok (.ishl, 1) := by decide +kernel
theorem d2_155 : decode method_4_code 155 = .ok (.ior, 1) := by decide +kernel
theorem d2_156 : decode method_4_code 156 = .ok (.iload_n 2, 1) := by decide +kernel
theorem d2_157 : decode method_4_code 157 = .ok (.bipush 63, 2) := by decide +kernel
theorem d2_159 : decode method_4_code 159 = .ok (.iand, 1) := by decide +kernel
theorem d2_160 : decode method_4_code 160 = .ok (.ior, 1) := by decide +kernel
theorem d2_161 : decode method_4_code 161 = .ok (.istore 6, 2) := by decide +kernel
theorem d2_163 : decode method_4_code 163 = .ok (.iload 6, 2) := by decide +kernel
theorem d2_165 : decode method_4_code 165 = .ok (.sipush 2048, 3) := by decide +kernel
theorem d2_168 : decode method_4_code 168 = .ok (.if_icmp .lt 21, 3) := by decide +kernel
theorem d2_171 : decode method_4_code 171 = .ok (.iload 6, 2) := by decide +kernel
theorem d2_173 : decode method_4_code 173 = .ok (.ldc 23, 2) := by decide +kernel
theorem d2_175 : decode method_4_code 175 = .ok (.if_icmp .lt 10, 3) := by decide +kernel
theorem d2_178 : decode method_4_code 178 = .ok (.iload 6, 2) := by decide +kernel
theorem d2_180 : decode method_4_code 180 = .ok (.ldc 24, 2) := by decide +kernel
theorem d2_182 : decode method_4_code 182 = .ok (.if_icmp .le 7, 3) := by decide +kernel
theorem d2_185 : decode method_4_code 185 = .ok (.iconst 3, 1) := by decide +kernel
theorem d2_186 : decode method_4_code 186 = .ok (.goto 4, 3) := by decide +kernel
theorem d2_189 : decode method_4_code 189 = .ok (.iconst 0, 1) := by decide +kernel
theorem d2_190 : decode method_4_code 190 = .ok (.ireturn, 1) := by decide +kernel
theorem d2_191 : decode method_4_code 191 = .ok (.iload_n 3, 1) := by decide +kernel
theorem d2_192 : decode method_4_code 192 = .ok (.invokestatic 19, 3) := by decide +kernel
theorem d2_195 : decode method_4_code 195 = .ok (.ifCond .ne 5, 3) := by decide +kernel
theorem d2_198 : decode method_4_code 198 = .ok (.iconst 0, 1) := by decide +kernel
theorem d2_199 : decode method_4_code 199 = .ok (.ireturn, 1) := by decide +kernel
theorem d2_200 : decode method_4_code 200 = .ok (.iload_n 0, 1) := by decide +kernel
theorem d2_201 : decode method_4_code 201 = .ok (.bipush 7, 2) := by decide +kernel
theorem d2_203 : decode method_4_code 203 = .ok (.iand, 1) := by decide +kernel
theorem d2_204 : decode method_4_code 204 = .ok (.bipush 18, 2) := by decide +kernel
theorem d2_206 : decode method_4_code 206 = .ok (.ishl, 1) := by decide +kernel
theorem d2_207 : decode method_4_code 207 = .ok (.iload_n 1, 1) := by decide +kernel
theorem d2_208 : decode method_4_code 208 = .ok (.bipush 63, 2) := by decide +kernel
theorem d2_210 : decode method_4_code 210 = .ok (.iand, 1) := by decide +kernel
theorem d2_211 : decode method_4_code 211 = .ok (.bipush 12, 2) := by decide +kernel
theorem d2_213 : decode method_4_code 213 = .ok (.ishl, 1) := by decide +kernel
theorem d2_214 : decode method_4_code 214 = .ok (.ior, 1) := by decide +kernel
theorem d2_215 : decode method_4_code 215 = .ok (.iload_n 2, 1) := by decide +kernel
theorem d2_216 : decode method_4_code 216 = .ok (.bipush 63, 2) := by decide +kernel
theorem d2_218 : decode method_4_code 218 = .ok (.iand, 1) := by decide +kernel
theorem d2_219 : decode method_4_code 219 = .ok (.bipush 6, 2) := by decide +kernel
theorem d2_221 : decode method_4_code 221 = .ok (.ishl, 1) := by decide +kernel
theorem d2_222 : decode method_4_code 222 = .ok (.ior, 1) := by decide +kernel
theorem d2_223 : decode method_4_code 223 = .ok (.iload_n 3, 1) := by decide +kernel
theorem d2_224 : decode method_4_code 224 = .ok (.bipush 63, 2) := by decide +kernel
theorem d2_226 : decode method_4_code 226 = .ok (.iand, 1) := by decide +kernel
theorem d2_227 : decode method_4_code 227 = .ok (.ior, 1) := by decide +kernel
theorem d2_228 : decode method_4_code 228 = .ok (.istore 6, 2) := by decide +kernel
theorem d2_230 : decode method_4_code 230 = .ok (.iload 6, 2) := by decide +kernel
theorem d2_232 : decode method_4_code 232 = .ok (.ldc 25, 2) := by decide +kernel
theorem d2_234 : decode method_4_code 234 = .ok (.if_icmp .lt 14, 3) := by decide +kernel
theorem d2_237 : decode method_4_code 237 = .ok (.iload 6, 2) := by decide +kernel
theorem d2_239 : decode method_4_code 239 = .ok (.ldc 26, 2) := by decide +kernel
theorem d2_241 : decode method_4_code 241 = .ok (.if_icmp .gt 7, 3) := by decide +kernel
theorem d2_244 : decode method_4_code 244 = .ok (.iconst 4, 1) := by decide +kernel
theorem d2_245 : decode method_4_code 245 = .ok (.goto 4, 3) := by decide +kernel
theorem d2_248 : decode method_4_code 248 = .ok (.iconst 0, 1) := by decide +kernel
theorem d2_249 : decode method_4_code 249 = .ok (.ireturn, 1) := by decide +kernel
theorem pn_2 : plainName "com/example/benzer/benzer/cli/Utf8SequenceSizePinLaw" = true := by first | (simp [plainName, overriddenIn]; done) | decide +kernel
theorem ef_2 (m : MethodId) (x0 : Int32) (x1 : Int32) (x2 : Int32) (x3 : Int32) (x4 : Int32) : entryFrame m #[(.int x0), (.int x1), (.int x2), (.int x3), (.int x4)] 7 = mkF m 0 #[.val (.int x0), .val (.int x1), .val (.int x2), .val (.int x3), .val (.int x4), .unset, .unset] [] := by first | (simp [entryFrame, mkF, argsToLocals, Value.category]; done) | rfl
def own_exp (ld : Int32) (c1 : Int32) (c2 : Int32) (c3 : Int32) (room : Int32) : Int32 := (if ld < (128 : Int32) then (if room < (1 : Int32) then (0 : Int32) else (1 : Int32)) else (if (ld &&& (224 : Int32)) = (192 : Int32) then (if room < (2 : Int32) then (0 : Int32) else (if (own_cont c1) = (0 : Int32) then (0 : Int32) else (if (((ld &&& (31 : Int32)) <<< ((6 : Int32) &&& 31)) ||| (c1 &&& (63 : Int32))) < (128 : Int32) then (0 : Int32) else (2 : Int32)))) else (if (ld &&& (240 : Int32)) = (224 : Int32) then (if room < (3 : Int32) then (0 : Int32) else (if (own_cont c1) = (0 : Int32) then (0 : Int32) else (if (own_cont c2) = (0 : Int32) then (0 : Int32) else (if ((((ld &&& (15 : Int32)) <<< ((12 : Int32) &&& 31)) ||| ((c1 &&& (63 : Int32)) <<< ((6 : Int32) &&& 31))) ||| (c2 &&& (63 : Int32))) < (2048 : Int32) then (0 : Int32) else (if ((((ld &&& (15 : Int32)) <<< ((12 : Int32) &&& 31)) ||| ((c1 &&& (63 : Int32)) <<< ((6 : Int32) &&& 31))) ||| (c2 &&& (63 : Int32))) < (55296 : Int32) then (3 : Int32) else (if (57343 : Int32) < ((((ld &&& (15 : Int32)) <<< ((12 : Int32) &&& 31)) ||| ((c1 &&& (63 : Int32)) <<< ((6 : Int32) &&& 31))) ||| (c2 &&& (63 : Int32))) then (3 : Int32) else (0 : Int32))))))) else (if (ld &&& (248 : Int32)) = (240 : Int32) then (if room < (4 : Int32) then (0 : Int32) else (if (own_cont c1) = (0 : Int32) then (0 : Int32) else (if (own_cont c2) = (0 : Int32) then (0 : Int32) else (if (own_cont c3) = (0 : Int32) then (0 : Int32) else (if (((((ld &&& (7 : Int32)) <<< ((18 : Int32) &&& 31)) ||| ((c1 &&& (63 : Int32)) <<< ((12 : Int32) &&& 31))) ||| ((c2 &&& (63 : Int32)) <<< ((6 : Int32) &&& 31))) ||| (c3 &&& (63 : Int32))) < (65536 : Int32) then (0 : Int32) else (if (1114111 : Int32) < (((((ld &&& (7 : Int32)) <<< ((18 : Int32) &&& 31)) ||| ((c1 &&& (63 : Int32)) <<< ((12 : Int32) &&& 31))) ||| ((c2 &&& (63 : Int32)) <<< ((6 : Int32) &&& 31))) ||| (c3 &&& (63 : Int32))) then (0 : Int32) else (4 : Int32))))))) else (0 : Int32)))))
theorem own_eq_own_exp (ld : Int32) (c1 : Int32) (c2 : Int32) (c3 : Int32) (room : Int32) : own_exp ld c1 c2 c3 room = (if ld < (128 : Int32) then (if room < (1 : Int32) then (0 : Int32) else (1 : Int32)) else (if (ld &&& (224 : Int32)) = (192 : Int32) then (if room < (2 : Int32) then (0 : Int32) else (if (own_cont c1) = (0 : Int32) then (0 : Int32) else (if (((ld &&& (31 : Int32)) <<< ((6 : Int32) &&& 31)) ||| (c1 &&& (63 : Int32))) < (128 : Int32) then (0 : Int32) else (2 : Int32)))) else (if (ld &&& (240 : Int32)) = (224 : Int32) then (if room < (3 : Int32) then (0 : Int32) else (if (own_cont c1) = (0 : Int32) then (0 : Int32) else (if (own_cont c2) = (0 : Int32) then (0 : Int32) else (if ((((ld &&& (15 : Int32)) <<< ((12 : Int32) &&& 31)) ||| ((c1 &&& (63 : Int32)) <<< ((6 : Int32) &&& 31))) ||| (c2 &&& (63 : Int32))) < (2048 : Int32) then (0 : Int32) else (if ((((ld &&& (15 : Int32)) <<< ((12 : Int32) &&& 31)) ||| ((c1 &&& (63 : Int32)) <<< ((6 : Int32) &&& 31))) ||| (c2 &&& (63 : Int32))) < (55296 : Int32) then (3 : Int32) else (if (57343 : Int32) < ((((ld &&& (15 : Int32)) <<< ((12 : Int32) &&& 31)) ||| ((c1 &&& (63 : Int32)) <<< ((6 : Int32) &&& 31))) ||| (c2 &&& (63 : Int32))) then (3 : Int32) else (0 : Int32))))))) else (if (ld &&& (248 : Int32)) = (240 : Int32) then (if room < (4 : Int32) then (0 : Int32) else (if (own_cont c1) = (0 : Int32) then (0 : Int32) else (if (own_cont c2) = (0 : Int32) then (0 : Int32) else (if (own_cont c3) = (0 : Int32) then (0 : Int32) else (if (((((ld &&& (7 : Int32)) <<< ((18 : Int32) &&& 31)) ||| ((c1 &&& (63 : Int32)) <<< ((12 : Int32) &&& 31))) ||| ((c2 &&& (63 : Int32)) <<< ((6 : Int32) &&& 31))) ||| (c3 &&& (63 : Int32))) < (65536 : Int32) then (0 : Int32) else (if (1114111 : Int32) < (((((ld &&& (7 : Int32)) <<< ((18 : Int32) &&& 31)) ||| ((c1 &&& (63 : Int32)) <<< ((12 : Int32) &&& 31))) ||| ((c2 &&& (63 : Int32)) <<< ((6 : Int32) &&& 31))) ||| (c3 &&& (63 : Int32))) then (0 : Int32) else (4 : Int32))))))) else (0 : Int32))))) := rfl
def Q2 (Z : State) (ld : Int32) (c1 : Int32) (c2 : Int32) (c3 : Int32) (room : Int32) (h0 : Heap) (n0 : Nat) (rv_ : Option Value) (h : Heap) (LL_ : List Loc) : Prop := rv_ = some (.int (own_exp ld c1 c2 c3 room)) ∧ Fr n0 LL_ ∧ h = h0
set_option maxRecDepth 65536 in
set_option maxHeartbeats 40000000 in
theorem rm2 (l : Launch) (Z : State) (a0 : Array Value) (hw : ∀ d ∈ tables_1, d.before a0 Z = true) (ws : List Jvm.Cond) (ld : Int32) (c1 : Int32) (c2 : Int32) (c3 : Int32) (room : Int32) (h0 : Heap) (n0 : Nat) :
    MetFree l (⟨"com/example/benzer/benzer/cli/Utf8SequenceSizePinLaw", "expected", "(IIIII)I"⟩ : MethodName) (head1 (Jvm.Cond.code (⟨"com/example/benzer/benzer/cli/Utf8SequenceSizePinLaw", "expected", "(IIIII)I"⟩ : MethodName) method_4_code 7 (some .int) :: ws) ({ frames := 1, cells := 0, slots := 0, locals := 12 } : Room)) (fun aa UU => aa = #[(.int ld), (.int c1), (.int c2), (.int c3), (.int room)] ∧ Z.Warmed39 UU.vm ∧ UU.heap = h0) (fun _ _ _ _ _ => True) (fun _ UU oo UV => ∃ vv LL, oo = .returned vv ∧ Q2 Z ld c1 c2 c3 room h0 n0 vv UV.heap LL ∧ FrameEnd UU oo UV LL ({ frames := 1, cells := 0, slots := 0, locals := 12 } : Room).cells ({ frames := 1, cells := 0, slots := 0, locals := 12 } : Room).slots) := by
  refine MetFree.of_bodySF (plainFor_of_name pn_2) hisR ?_
  intro p e s m args below meth c s₁ Bd hml0 hP hK
  obtain ⟨rfl, hZ, hh⟩ := hP
  have hx := Bd.exec
  have hby := Bd.bytes
  have hml : c.maxLocals = 7 := hml0
  have hown : s.vm.findClass "com/example/benzer/benzer/cli/Utf8SequenceSizePinLaw" = some m.cls := findClass_of_methodNamed Bd.named
  have hnm := (name_of_methodNamed Bd.named Bd.method).1
  have X0 : Stand p l e ({ frames := 1, cells := 0, slots := 0, locals := 12 } : Room) s m #[(.int ld), (.int c1), (.int c2), (.int c3), (.int room)] below meth c s₁ [] 0 0 := Stand.of_body Bd
  have e0 : s₁.heap = h0 := by rw [← hh, Bd.state]; rfl
  have N0 := Fr.nil n0
  have k0 : ∀ tg_, Steps p.tables e below (s₁.setTop (mkF m 0 #[.val (.int ld), .val (.int c1), .val (.int c2), .val (.int c3), .val (.int room), .unset, .unset] [])) tg_ → Steps p.tables e below (s₁.setTop (entryFrame m #[(.int ld), (.int c1), (.int c2), (.int c3), (.int room)] 7)) tg_ := fun tg_ k => castTop (ef_2 m ld c1 c2 c3 room) k
  have k5 : ∀ tg_, Steps p.tables e below (s₁.setTop (mkF m 4 #[.val (.int ld), .val (.int c1), .val (.int c2), .val (.int c3), .val (.int room), .unset, .unset] [(.int (128 : Int32)), (.int ld)])) tg_ → Steps p.tables e below (s₁.setTop (entryFrame m #[(.int ld), (.int c1), (.int c2), (.int c3), (.int room)] 7)) tg_ := by
    intro tg_ kt
    refine k0 tg_ ?_
    refine XS.iloadN X0.here hx rfl (hb hby d2_0) rfl ?_
    show Steps p.tables e below (s₁.setTop (mkF m 1 #[.val (.int ld), .val (.int c1), .val (.int c2), .val (.int c3), .val (.int room), .unset, .unset] [(.int ld)])) _
    refine XS.sipush X0.here hx rfl (hb hby d2_1) ?_
    show Steps p.tables e below (s₁.setTop (mkF m 4 #[.val (.int ld), .val (.int c1), .val (.int c2), .val (.int c3), .val (.int room), .unset, .unset] [(.int (128 : Int32)), (.int ld)])) _
    exact kt
  by_cases hc4_6 : ld < (128 : Int32)
  · have k7 : ∀ tg_, Steps p.tables e below (s₁.setTop (mkF m 70 #[.val (.int ld), .val (.int c1), .val (.int c2), .val (.int c3), .val (.int room), .val (.int (1 : Int32)), .unset] [(.int room), (.int (1 : Int32))])) tg_ → Steps p.tables e below (s₁.setTop (entryFrame m #[(.int ld), (.int c1), (.int c2), (.int c3), (.int room)] 7)) tg_ := by
      intro tg_ kt
      refine k5 tg_ ?_
      refine XS.icmpNo X0.here hx rfl (hb hby d2_4) rfl (tlt hc4_6).2.1 ?_
      show Steps p.tables e below (s₁.setTop (mkF m 7 #[.val (.int ld), .val (.int c1), .val (.int c2), .val (.int c3), .val (.int room), .unset, .unset] [])) _
      refine XS.iconst X0.here hx rfl (hb hby d2_7) ?_
      show Steps p.tables e below (s₁.setTop (mkF m 8 #[.val (.int ld), .val (.int c1), .val (.int c2), .val (.int c3), .val (.int room), .unset, .unset] [(.int (1 : Int32))])) _
      refine XS.istore X0.here hx rfl (hb hby d2_8) rfl (l' := #[.val (.int ld), .val (.int c1), .val (.int c2), .val (.int c3), .val (.int room), .val (.int (1 : Int32)), .unset]) rfl ?_
      show Steps p.tables e below (s₁.setTop (mkF m 10 #[.val (.int ld), .val (.int c1), .val (.int c2), .val (.int c3), .val (.int room), .val (.int (1 : Int32)), .unset] [])) _
      refine XS.goto X0.here hx rfl (pc0 := 10) (pc' := 66) rfl (hb hby d2_10) (by decide) (by decide) ?_
      show Steps p.tables e below (s₁.setTop (mkF m 66 #[.val (.int ld), .val (.int c1), .val (.int c2), .val (.int c3), .val (.int room), .val (.int (1 : Int32)), .unset] [])) _
      refine XS.iload X0.here hx rfl (hb hby d2_66) rfl ?_
      show Steps p.tables e below (s₁.setTop (mkF m 68 #[.val (.int ld), .val (.int c1), .val (.int c2), .val (.int c3), .val (.int room), .val (.int (1 : Int32)), .unset] [(.int (1 : Int32))])) _
      refine XS.iload X0.here hx rfl (hb hby d2_68) rfl ?_
      show Steps p.tables e below (s₁.setTop (mkF m 70 #[.val (.int ld), .val (.int c1), .val (.int c2), .val (.int c3), .val (.int room), .val (.int (1 : Int32)), .unset] [(.int room), (.int (1 : Int32))])) _
      exact kt
    by_cases hc70_8 : room < (1 : Int32)
    · have k9 : ∀ tg_, Steps p.tables e below (s₁.setTop (mkF m 74 #[.val (.int ld), .val (.int c1), .val (.int c2), .val (.int c3), .val (.int room), .val (.int (1 : Int32)), .unset] [(.int (0 : Int32))])) tg_ → Steps p.tables e below (s₁.setTop (entryFrame m #[(.int ld), (.int c1), (.int c2), (.int c3), (.int room)] 7)) tg_ := by
        intro tg_ kt
        refine k7 tg_ ?_
        refine XS.icmpNo X0.here hx rfl (hb hby d2_70) rfl (tlt hc70_8).2.2.2 ?_
        show Steps p.tables e below (s₁.setTop (mkF m 73 #[.val (.int ld), .val (.int c1), .val (.int c2), .val (.int c3), .val (.int room), .val (.int (1 : Int32)), .unset] [])) _
        refine XS.iconst X0.here hx rfl (hb hby d2_73) ?_
        show Steps p.tables e below (s₁.setTop (mkF m 74 #[.val (.int ld), .val (.int c1), .val (.int c2), .val (.int c3), .val (.int room), .val (.int (1 : Int32)), .unset] [(.int (0 : Int32))])) _
        exact kt
      obtain ⟨fs, hr, hrun, hended, hW, hsame⟩ := X0.leave (v := some (.int (0 : Int32))) (fun h => by rw [Bd.returns] at h; cases h)
      refine ⟨_, _, k9 _ (retI X0 hx Bd.returns (hb hby d2_74) hr), hrun, hended, _, _, rfl, ?_, ⟨_, rfl⟩, hW, hsame.mono (by decide) (by decide)⟩
      show Q2 Z ld c1 c2 c3 room h0 n0 _ s₁.heap _
      rw [e0]
      exact ⟨(by rw [own_eq_own_exp]; rw [if_pos hc4_6, if_pos hc70_8]), N0, rfl⟩
    · have k10 : ∀ tg_, Steps p.tables e below (s₁.setTop (mkF m 82 #[.val (.int ld), .val (.int c1), .val (.int c2), .val (.int c3), .val (.int room), .val (.int (1 : Int32)), .unset] [(.int (1 : Int32))])) tg_ → Steps p.tables e below (s₁.setTop (entryFrame m #[(.int ld), (.int c1), (.int c2), (.int c3), (.int room)] 7)) tg_ := by
        intro tg_ kt
        refine k7 tg_ ?_
        refine XS.icmpYes X0.here hx rfl (pc0 := 70) (pc' := 75) rfl (hb hby d2_70) rfl (flt hc70_8).2.2.2 (by decide) (by decide) ?_
        show Steps p.tables e below (s₁.setTop (mkF m 75 #[.val (.int ld), .val (.int c1), .val (.int c2), .val (.int c3), .val (.int room), .val (.int (1 : Int32)), .unset] [])) _
        refine XS.iload X0.here hx rfl (hb hby d2_75) rfl ?_
        show Steps p.tables e below (s₁.setTop (mkF m 77 #[.val (.int ld), .val (.int c1), .val (.int c2), .val (.int c3), .val (.int room), .val (.int (1 : Int32)), .unset] [(.int (1 : Int32))])) _
        refine XS.iconst X0.here hx rfl (hb hby d2_77) ?_
        show Steps p.tables e below (s₁.setTop (mkF m 78 #[.val (.int ld), .val (.int c1), .val (.int c2), .val (.int c3), .val (.int room), .val (.int (1 : Int32)), .unset] [(.int (1 : Int32)), (.int (1 : Int32))])) _
        refine XS.icmpNo X0.here hx rfl (hb hby d2_78) rfl (teq (by decide : (1 : Int32) = (1 : Int32))).2 ?_
        show Steps p.tables e below (s₁.setTop (mkF m 81 #[.val (.int ld), .val (.int c1), .val (.int c2), .val (.int c3), .val (.int room), .val (.int (1 : Int32)), .unset] [])) _
        refine XS.iconst X0.here hx rfl (hb hby d2_81) ?_
        show Steps p.tables e below (s₁.setTop (mkF m 82 #[.val (.int ld), .val (.int c1), .val (.int c2), .val (.int c3), .val (.int room), .val (.int (1 : Int32)), .unset] [(.int (1 : Int32))])) _
        exact kt
      obtain ⟨fs, hr, hrun, hended, hW, hsame⟩ := X0.leave (v := some (.int (1 : Int32))) (fun h => by rw [Bd.returns] at h; cases h)
      refine ⟨_, _, k10 _ (retI X0 hx Bd.returns (hb hby d2_82) hr), hrun, hended, _, _, rfl, ?_, ⟨_, rfl⟩, hW, hsame.mono (by decide) (by decide)⟩
      show Q2 Z ld c1 c2 c3 room h0 n0 _ s₁.heap _
      rw [e0]
      exact ⟨(by rw [own_eq_own_exp]; rw [if_pos hc4_6, if_neg hc70_8]), N0, rfl⟩
  · have k11 : ∀ tg_, Steps p.tables e below (s₁.setTop (mkF m 21 #[.val (.int ld), .val (.int c1), .val (.int c2), .val (.int c3), .val (.int room), .unset, .unset] [(.int (192 : Int32)), (.int (ld &&& (224 : Int32)))])) tg_ → Steps p.tables e below (s₁.setTop (entryFrame m #[(.int ld), (.int c1), (.int c2), (.int c3), (.int room)] 7)) tg_ := by
      intro tg_ kt
      refine k5 tg_ ?_
      refine XS.icmpYes X0.here hx rfl (pc0 := 4) (pc' := 13) rfl (hb hby d2_4) rfl (flt hc4_6).2.1 (by decide) (by decide) ?_
      show Steps p.tables e below (s₁.setTop (mkF m 13 #[.val (.int ld), .val (.int c1), .val (.int c2), .val (.int c3), .val (.int room), .unset, .unset] [])) _
      refine XS.iloadN X0.here hx rfl (hb hby d2_13) rfl ?_
      show Steps p.tables e below (s₁.setTop (mkF m 14 #[.val (.int ld), .val (.int c1), .val (.int c2), .val (.int c3), .val (.int room), .unset, .unset] [(.int ld)])) _
      refine XS.sipush X0.here hx rfl (hb hby d2_14) ?_
      show Steps p.tables e below (s₁.setTop (mkF m 17 #[.val (.int ld), .val (.int c1), .val (.int c2), .val (.int c3), .val (.int room), .unset, .unset] [(.int (224 : Int32)), (.int ld)])) _
      refine XS.iand X0.here hx rfl (hb hby d2_17) rfl ?_
      show Steps p.tables e below (s₁.setTop (mkF m 18 #[.val (.int ld), .val (.int c1), .val (.int c2), .val (.int c3), .val (.int room), .unset, .unset] [(.int (ld &&& (224 : Int32)))])) _
      refine XS.sipush X0.here hx rfl (hb hby d2_18) ?_
      show Steps p.tables e below (s₁.setTop (mkF m 21 #[.val (.int ld), .val (.int c1), .val (.int c2), .val (.int c3), .val (.int room), .unset, .unset] [(.int (192 : Int32)), (.int (ld &&& (224 : Int32)))])) _
      exact kt
    by_cases hc21_12 : (ld &&& (224 : Int32)) = (192 : Int32)
    · have k13 : ∀ tg_, Steps p.tables e below (s₁.setTop (mkF m 70 #[.val (.int ld), .val (.int c1), .val (.int c2), .val (.int c3), .val (.int room), .val (.int (2 : Int32)), .unset] [(.int room), (.int (2 : Int32))])) tg_ → Steps p.tables e below (s₁.setTop (entryFrame m #[(.int ld), (.int c1), (.int c2), (.int c3), (.int room)] 7)) tg_ := by
        intro tg_ kt
        refine k11 tg_ ?_
        refine XS.icmpNo X0.here hx rfl (hb hby d2_21) rfl (teq hc21_12).2 ?_
        show Steps p.tables e below (s₁.setTop (mkF m 24 #[.val (.int ld), .val (.int c1), .val (.int c2), .val (.int c3), .val (.int room), .unset, .unset] [])) _
        refine XS.iconst X0.here hx rfl (hb hby d2_24) ?_
        show Steps p.tables e below (s₁.setTop (mkF m 25 #[.val (.int ld), .val (.int c1), .val (.int c2), .val (.int c3), .val (.int room), .unset, .unset] [(.int (2 : Int32))])) _
        refine XS.istore X0.here hx rfl (hb hby d2_25) rfl (l' := #[.val (.int ld), .val (.int c1), .val (.int c2), .val (.int c3), .val (.int room), .val (.int (2 : Int32)), .unset]) rfl ?_
        show Steps p.tables e below (s₁.setTop (mkF m 27 #[.val (.int ld), .val (.int c1), .val (.int c2), .val (.int c3), .val (.int room), .val (.int (2 : Int32)), .unset] [])) _
        refine XS.goto X0.here hx rfl (pc0 := 27) (pc' := 66) rfl (hb hby d2_27) (by decide) (by decide) ?_
        show Steps p.tables e below (s₁.setTop (mkF m 66 #[.val (.int ld), .val (.int c1), .val (.int c2), .val (.int c3), .val (.int room), .val (.int (2 : Int32)), .unset] [])) _
        refine XS.iload X0.here hx rfl (hb hby d2_66) rfl ?_
        show Steps p.tables e below (s₁.setTop (mkF m 68 #[.val (.int ld), .val (.int c1), .val (.int c2), .val (.int c3), .val (.int room), .val (.int (2 : Int32)), .unset] [(.int (2 : Int32))])) _
        refine XS.iload X0.here hx rfl (hb hby d2_68) rfl ?_
        show Steps p.tables e below (s₁.setTop (mkF m 70 #[.val (.int ld), .val (.int c1), .val (.int c2), .val (.int c3), .val (.int room), .val (.int (2 : Int32)), .unset] [(.int room), (.int (2 : Int32))])) _
        exact kt
      by_cases hc70_14 : room < (2 : Int32)
      · have k15 : ∀ tg_, Steps p.tables e below (s₁.setTop (mkF m 74 #[.val (.int ld), .val (.int c1), .val (.int c2), .val (.int c3), .val (.int room), .val (.int (2 : Int32)), .unset] [(.int (0 : Int32))])) tg_ → Steps p.tables e below (s₁.setTop (entryFrame m #[(.int ld), (.int c1), (.int c2), (.int c3), (.int room)] 7)) tg_ := by
          intro tg_ kt
          refine k13 tg_ ?_
          refine XS.icmpNo X0.here hx rfl (hb hby d2_70) rfl (tlt hc70_14).2.2.2 ?_
          show Steps p.tables e below (s₁.setTop (mkF m 73 #[.val (.int ld), .val (.int c1), .val (.int c2), .val (.int c3), .val (.int room), .val (.int (2 : Int32)), .unset] [])) _
          refine XS.iconst X0.here hx rfl (hb hby d2_73) ?_
          show Steps p.tables e below (s₁.setTop (mkF m 74 #[.val (.int ld), .val (.int c1), .val (.int c2), .val (.int c3), .val (.int room), .val (.int (2 : Int32)), .unset] [(.int (0 : Int32))])) _
          exact kt
        obtain ⟨fs, hr, hrun, hended, hW, hsame⟩ := X0.leave (v := some (.int (0 : Int32))) (fun h => by rw [Bd.returns] at h; cases h)
        refine ⟨_, _, k15 _ (retI X0 hx Bd.returns (hb hby d2_74) hr), hrun, hended, _, _, rfl, ?_, ⟨_, rfl⟩, hW, hsame.mono (by decide) (by decide)⟩
        show Q2 Z ld c1 c2 c3 room h0 n0 _ s₁.heap _
        rw [e0]
        exact ⟨(by rw [own_eq_own_exp]; rw [if_neg hc4_6, if_pos hc21_12, if_pos hc70_14]), N0, rfl⟩
      · obtain ⟨_, _, ⟨T16, L16, kc16, nc16⟩, -, X16, ⟨Lc16, hQ16, l16, y16, z16⟩, st16⟩ := Jvm.LawKit.callS X0 hx (y := (⟨"com/example/benzer/benzer/cli/Utf8SequenceSizePinLaw", "cont", "(I)Z"⟩ : MethodName)) hown (mvT hZ (hw _ (List.mem_of_getElem? (i := 9) rfl))) (mvT hZ (hw _ (List.mem_of_getElem? (i := 10) rfl))) (mvT hZ (hw _ (List.mem_of_getElem? (i := 7) rfl))) (mvT hZ (hw _ (List.mem_of_getElem? (i := 11) rfl))) (by decide) (backOf (W := 0) (rm3 l Z a0 hw [] c1 h0 n0 ) hZ (hw _ (List.mem_of_getElem? (i := 11) rfl)) (hw _ (List.mem_of_getElem? (i := 7) rfl)) (by decide) (by decide)) (g := (mkF m 84 #[.val (.int ld), .val (.int c1), .val (.int c2), .val (.int c3), .val (.int room), .val (.int (2 : Int32)), .unset] [(.int c1)])) rfl (by rw [hml]; rfl) (argsL := [(.int c1)]) (rest := []) (lenOf pd_2 rfl) rfl (by show 2 * 0 + _ ≤ _; exact Nat.le_of_eq rfl) (hb hby d2_84) (fun _ _ => ⟨rfl, e0, (by decide : 0 + 0 ≤ _), (by decide : 0 + 0 ≤ _)⟩)
        dsimp only [Pt.U, Pt.locs, Pt.cells, Pt.slots] at X16 l16 y16 z16 st16 hQ16
        rw [l16, y16, z16] at X16
        replace X16 : Stand p l e ({ frames := 1, cells := 0, slots := 0, locals := 12 } : Room) s m #[(.int ld), (.int c1), (.int c2), (.int c3), (.int room)] below meth c T16 _ 0 0 := X16
        obtain ⟨rfl, Nq16, eq16⟩ := hQ16
        have N16 := Fr.app N0 Nq16
        have k17 : ∀ tg_, Steps p.tables e below (T16.setTop (mkF m 87 #[.val (.int ld), .val (.int c1), .val (.int c2), .val (.int c3), .val (.int room), .val (.int (2 : Int32)), .unset] [(.int (own_cont c1))])) tg_ → Steps p.tables e below (s₁.setTop (entryFrame m #[(.int ld), (.int c1), (.int c2), (.int c3), (.int room)] 7)) tg_ := by
          intro tg_ kt
          refine k13 tg_ ?_
          refine XS.icmpYes X0.here hx rfl (pc0 := 70) (pc' := 75) rfl (hb hby d2_70) rfl (flt hc70_14).2.2.2 (by decide) (by decide) ?_
          show Steps p.tables e below (s₁.setTop (mkF m 75 #[.val (.int ld), .val (.int c1), .val (.int c2), .val (.int c3), .val (.int room), .val (.int (2 : Int32)), .unset] [])) _
          refine XS.iload X0.here hx rfl (hb hby d2_75) rfl ?_
          show Steps p.tables e below (s₁.setTop (mkF m 77 #[.val (.int ld), .val (.int c1), .val (.int c2), .val (.int c3), .val (.int room), .val (.int (2 : Int32)), .unset] [(.int (2 : Int32))])) _
          refine XS.iconst X0.here hx rfl (hb hby d2_77) ?_
          show Steps p.tables e below (s₁.setTop (mkF m 78 #[.val (.int ld), .val (.int c1), .val (.int c2), .val (.int c3), .val (.int room), .val (.int (2 : Int32)), .unset] [(.int (1 : Int32)), (.int (2 : Int32))])) _
          refine XS.icmpYes X0.here hx rfl (pc0 := 78) (pc' := 83) rfl (hb hby d2_78) rfl (feq (by decide : ¬ ((2 : Int32) = (1 : Int32)))).2 (by decide) (by decide) ?_
          show Steps p.tables e below (s₁.setTop (mkF m 83 #[.val (.int ld), .val (.int c1), .val (.int c2), .val (.int c3), .val (.int room), .val (.int (2 : Int32)), .unset] [])) _
          refine XS.iloadN X0.here hx rfl (hb hby d2_83) rfl ?_
          show Steps p.tables e below (s₁.setTop (mkF m 84 #[.val (.int ld), .val (.int c1), .val (.int c2), .val (.int c3), .val (.int room), .val (.int (2 : Int32)), .unset] [(.int c1)])) _
          refine st16 _ ?_
          show Steps p.tables e below (T16.setTop (mkF m 87 #[.val (.int ld), .val (.int c1), .val (.int c2), .val (.int c3), .val (.int room), .val (.int (2 : Int32)), .unset] [(.int (own_cont c1))])) _
          exact kt
        by_cases hc87_18 : (own_cont c1) = (0 : Int32)
        · have k19 : ∀ tg_, Steps p.tables e below (T16.setTop (mkF m 91 #[.val (.int ld), .val (.int c1), .val (.int c2), .val (.int c3), .val (.int room), .val (.int (2 : Int32)), .unset] [(.int (0 : Int32))])) tg_ → Steps p.tables e below (s₁.setTop (entryFrame m #[(.int ld), (.int c1), (.int c2), (.int c3), (.int room)] 7)) tg_ := by
            intro tg_ kt
            refine k17 tg_ ?_
            refine XS.ifNo X16.here hx rfl (hb hby d2_87) rfl ((if0 _ _).trans (teq hc87_18).2) ?_
            show Steps p.tables e below (T16.setTop (mkF m 90 #[.val (.int ld), .val (.int c1), .val (.int c2), .val (.int c3), .val (.int room), .val (.int (2 : Int32)), .unset] [])) _
            refine XS.iconst X16.here hx rfl (hb hby d2_90) ?_
            show Steps p.tables e below (T16.setTop (mkF m 91 #[.val (.int ld), .val (.int c1), .val (.int c2), .val (.int c3), .val (.int room), .val (.int (2 : Int32)), .unset] [(.int (0 : Int32))])) _
            exact kt
          obtain ⟨fs, hr, hrun, hended, hW, hsame⟩ := X16.leave (v := some (.int (0 : Int32))) (fun h => by rw [Bd.returns] at h; cases h)
          refine ⟨_, _, k19 _ (retI X16 hx Bd.returns (hb hby d2_91) hr), hrun, hended, _, _, rfl, ?_, ⟨_, rfl⟩, hW, hsame.mono (by decide) (by decide)⟩
          show Q2 Z ld c1 c2 c3 room h0 n0 _ T16.heap _
          rw [eq16]
          exact ⟨(by rw [own_eq_own_exp]; rw [if_neg hc4_6, if_pos hc21_12, if_neg hc70_14, if_pos hc87_18]), N16, rfl⟩
        · have k20 : ∀ tg_, Steps p.tables e below (T16.setTop (mkF m 117 #[.val (.int ld), .val (.int c1), .val (.int c2), .val (.int c3), .val (.int room), .val (.int (2 : Int32)), .val (.int (((ld &&& (31 : Int32)) <<< ((6 : Int32) &&& 31)) ||| (c1 &&& (63 : Int32))))] [(.int (128 : Int32)), (.int (((ld &&& (31 : Int32)) <<< ((6 : Int32) &&& 31)) ||| (c1 &&& (63 : Int32))))])) tg_ → Steps p.tables e below (s₁.setTop (entryFrame m #[(.int ld), (.int c1), (.int c2), (.int c3), (.int room)] 7)) tg_ := by
            intro tg_ kt
            refine k17 tg_ ?_
            refine XS.ifYes X16.here hx rfl (pc0 := 87) (pc' := 92) rfl (hb hby d2_87) rfl ((if0 _ _).trans (feq hc87_18).2) (by decide) (by decide) ?_
            show Steps p.tables e below (T16.setTop (mkF m 92 #[.val (.int ld), .val (.int c1), .val (.int c2), .val (.int c3), .val (.int room), .val (.int (2 : Int32)), .unset] [])) _
            refine XS.iload X16.here hx rfl (hb hby d2_92) rfl ?_
            show Steps p.tables e below (T16.setTop (mkF m 94 #[.val (.int ld), .val (.int c1), .val (.int c2), .val (.int c3), .val (.int room), .val (.int (2 : Int32)), .unset] [(.int (2 : Int32))])) _
            refine XS.iconst X16.here hx rfl (hb hby d2_94) ?_
            show Steps p.tables e below (T16.setTop (mkF m 95 #[.val (.int ld), .val (.int c1), .val (.int c2), .val (.int c3), .val (.int room), .val (.int (2 : Int32)), .unset] [(.int (2 : Int32)), (.int (2 : Int32))])) _
            refine XS.icmpNo X16.here hx rfl (hb hby d2_95) rfl (teq (by decide : (2 : Int32) = (2 : Int32))).2 ?_
            show Steps p.tables e below (T16.setTop (mkF m 98 #[.val (.int ld), .val (.int c1), .val (.int c2), .val (.int c3), .val (.int room), .val (.int (2 : Int32)), .unset] [])) _
            refine XS.iloadN X16.here hx rfl (hb hby d2_98) rfl ?_
            show Steps p.tables e below (T16.setTop (mkF m 99 #[.val (.int ld), .val (.int c1), .val (.int c2), .val (.int c3), .val (.int room), .val (.int (2 : Int32)), .unset] [(.int ld)])) _
            refine XS.bipush X16.here hx rfl (hb hby d2_99) ?_
            show Steps p.tables e below (T16.setTop (mkF m 101 #[.val (.int ld), .val (.int c1), .val (.int c2), .val (.int c3), .val (.int room), .val (.int (2 : Int32)), .unset] [(.int (31 : Int32)), (.int ld)])) _
            refine XS.iand X16.here hx rfl (hb hby d2_101) rfl ?_
            show Steps p.tables e below (T16.setTop (mkF m 102 #[.val (.int ld), .val (.int c1), .val (.int c2), .val (.int c3), .val (.int room), .val (.int (2 : Int32)), .unset] [(.int (ld &&& (31 : Int32)))])) _
            refine XS.bipush X16.here hx rfl (hb hby d2_102) ?_
            show Steps p.tables e below (T16.setTop (mkF m 104 #[.val (.int ld), .val (.int c1), .val (.int c2), .val (.int c3), .val (.int room), .val (.int (2 : Int32)), .unset] [(.int (6 : Int32)), (.int (ld &&& (31 : Int32)))])) _
            refine XS.ishl X16.here hx rfl (hb hby d2_104) rfl ?_
            show Steps p.tables e below (T16.setTop (mkF m 105 #[.val (.int ld), .val (.int c1), .val (.int c2), .val (.int c3), .val (.int room), .val (.int (2 : Int32)), .unset] [(.int ((ld &&& (31 : Int32)) <<< ((6 : Int32) &&& 31)))])) _
            refine XS.iloadN X16.here hx rfl (hb hby d2_105) rfl ?_
            show Steps p.tables e below (T16.setTop (mkF m 106 #[.val (.int ld), .val (.int c1), .val (.int c2), .val (.int c3), .val (.int room), .val (.int (2 : Int32)), .unset] [(.int c1), (.int ((ld &&& (31 : Int32)) <<< ((6 : Int32) &&& 31)))])) _
            refine XS.bipush X16.here hx rfl (hb hby d2_106) ?_
            show Steps p.tables e below (T16.setTop (mkF m 108 #[.val (.int ld), .val (.int c1), .val (.int c2), .val (.int c3), .val (.int room), .val (.int (2 : Int32)), .unset] [(.int (63 : Int32)), (.int c1), (.int ((ld &&& (31 : Int32)) <<< ((6 : Int32) &&& 31)))])) _
            refine XS.iand X16.here hx rfl (hb hby d2_108) rfl ?_
            show Steps p.tables e below (T16.setTop (mkF m 109 #[.val (.int ld), .val (.int c1), .val (.int c2), .val (.int c3), .val (.int room), .val (.int (2 : Int32)), .unset] [(.int (c1 &&& (63 : Int32))), (.int ((ld &&& (31 : Int32)) <<< ((6 : Int32) &&& 31)))])) _
            refine XS.ior X16.here hx rfl (hb hby d2_109) rfl ?_
            show Steps p.tables e below (T16.setTop (mkF m 110 #[.val (.int ld), .val (.int c1), .val (.int c2), .val (.int c3), .val (.int room), .val (.int (2 : Int32)), .unset] [(.int (((ld &&& (31 : Int32)) <<< ((6 : Int32) &&& 31)) ||| (c1 &&& (63 : Int32))))])) _
            refine XS.istore X16.here hx rfl (hb hby d2_110) rfl (l' := #[.val (.int ld), .val (.int c1), .val (.int c2), .val (.int c3), .val (.int room), .val (.int (2 : Int32)), .val (.int (((ld &&& (31 : Int32)) <<< ((6 : Int32) &&& 31)) ||| (c1 &&& (63 : Int32))))]) rfl ?_
            show Steps p.tables e below (T16.setTop (mkF m 112 #[.val (.int ld), .val (.int c1), .val (.int c2), .val (.int c3), .val (.int room), .val (.int (2 : Int32)), .val (.int (((ld &&& (31 : Int32)) <<< ((6 : Int32) &&& 31)) ||| (c1 &&& (63 : Int32))))] [])) _
            refine XS.iload X16.here hx rfl (hb hby d2_112) rfl ?_
            show Steps p.tables e below (T16.setTop (mkF m 114 #[.val (.int ld), .val (.int c1), .val (.int c2), .val (.int c3), .val (.int room), .val (.int (2 : Int32)), .val (.int (((ld &&& (31 : Int32)) <<< ((6 : Int32) &&& 31)) ||| (c1 &&& (63 : Int32))))] [(.int (((ld &&& (31 : Int32)) <<< ((6 : Int32) &&& 31)) ||| (c1 &&& (63 : Int32))))])) _
            refine XS.sipush X16.here hx rfl (hb hby d2_114) ?_
            show Steps p.tables e below (T16.setTop (mkF m 117 #[.val (.int ld), .val (.int c1), .val (.int c2), .val (.int c3), .val (.int room), .val (.int (2 : Int32)), .val (.int (((ld &&& (31 : Int32)) <<< ((6 : Int32) &&& 31)) ||| (c1 &&& (63 : Int32))))] [(.int (128 : Int32)), (.int (((ld &&& (31 : Int32)) <<< ((6 : Int32) &&& 31)) ||| (c1 &&& (63 : Int32))))])) _
            exact kt
          by_cases hc117_21 : (((ld &&& (31 : Int32)) <<< ((6 : Int32) &&& 31)) ||| (c1 &&& (63 : Int32))) < (128 : Int32)
          · have k22 : ∀ tg_, Steps p.tables e below (T16.setTop (mkF m 125 #[.val (.int ld), .val (.int c1), .val (.int c2), .val (.int c3), .val (.int room), .val (.int (2 : Int32)), .val (.int (((ld &&& (31 : Int32)) <<< ((6 : Int32) &&& 31)) ||| (c1 &&& (63 : Int32))))] [(.int (0 : Int32))])) tg_ → Steps p.tables e below (s₁.setTop (entryFrame m #[(.int ld), (.int c1), (.int c2), (.int c3), (.int room)] 7)) tg_ := by
              intro tg_ kt
              refine k20 tg_ ?_
              refine XS.icmpYes X16.here hx rfl (pc0 := 117) (pc' := 124) rfl (hb hby d2_117) rfl (tlt hc117_21).1 (by decide) (by decide) ?_
              show Steps p.tables e below (T16.setTop (mkF m 124 #[.val (.int ld), .val (.int c1), .val (.int c2), .val (.int c3), .val (.int room), .val (.int (2 : Int32)), .val (.int (((ld &&& (31 : Int32)) <<< ((6 : Int32) &&& 31)) ||| (c1 &&& (63 : Int32))))] [])) _
              refine XS.iconst X16.here hx rfl (hb hby d2_124) ?_
              show Steps p.tables e below (T16.setTop (mkF m 125 #[.val (.int ld), .val (.int c1), .val (.int c2), .val (.int c3), .val (.int room), .val (.int (2 : Int32)), .val (.int (((ld &&& (31 : Int32)) <<< ((6 : Int32) &&& 31)) ||| (c1 &&& (63 : Int32))))] [(.int (0 : Int32))])) _
              exact kt
            obtain ⟨fs, hr, hrun, hended, hW, hsame⟩ := X16.leave (v := some (.int (0 : Int32))) (fun h => by rw [Bd.returns] at h; cases h)
            refine ⟨_, _, k22 _ (retI X16 hx Bd.returns (hb hby d2_125) hr), hrun, hended, _, _, rfl, ?_, ⟨_, rfl⟩, hW, hsame.mono (by decide) (by decide)⟩
            show Q2 Z ld c1 c2 c3 room h0 n0 _ T16.heap _
            rw [eq16]
            exact ⟨(by rw [own_eq_own_exp]; rw [if_neg hc4_6, if_pos hc21_12, if_neg hc70_14, if_neg hc87_18, if_pos hc117_21]), N16, rfl⟩
          · have k23 : ∀ tg_, Steps p.tables e below (T16.setTop (mkF m 125 #[.val (.int ld), .val (.int c1), .val (.int c2), .val (.int c3), .val (.int room), .val (.int (2 : Int32)), .val (.int (((ld &&& (31 : Int32)) <<< ((6 : Int32) &&& 31)) ||| (c1 &&& (63 : Int32))))] [(.int (2 : Int32))])) tg_ → Steps p.tables e below (s₁.setTop (entryFrame m #[(.int ld), (.int c1), (.int c2), (.int c3), (.int room)] 7)) tg_ := by
              intro tg_ kt
              refine k20 tg_ ?_
              refine XS.icmpNo X16.here hx rfl (hb hby d2_117) rfl (flt hc117_21).1 ?_
              show Steps p.tables e below (T16.setTop (mkF m 120 #[.val (.int ld), .val (.int c1), .val (.int c2), .val (.int c3), .val (.int room), .val (.int (2 : Int32)), .val (.int (((ld &&& (31 : Int32)) <<< ((6 : Int32) &&& 31)) ||| (c1 &&& (63 : Int32))))] [])) _
              refine XS.iconst X16.here hx rfl (hb hby d2_120) ?_
              show Steps p.tables e below (T16.setTop (mkF m 121 #[.val (.int ld), .val (.int c1), .val (.int c2), .val (.int c3), .val (.int room), .val (.int (2 : Int32)), .val (.int (((ld &&& (31 : Int32)) <<< ((6 : Int32) &&& 31)) ||| (c1 &&& (63 : Int32))))] [(.int (2 : Int32))])) _
              refine XS.goto X16.here hx rfl (pc0 := 121) (pc' := 125) rfl (hb hby d2_121) (by decide) (by decide) ?_
              show Steps p.tables e below (T16.setTop (mkF m 125 #[.val (.int ld), .val (.int c1), .val (.int c2), .val (.int c3), .val (.int room), .val (.int (2 : Int32)), .val (.int (((ld &&& (31 : Int32)) <<< ((6 : Int32) &&& 31)) ||| (c1 &&& (63 : Int32))))] [(.int (2 : Int32))])) _
              exact kt
            obtain ⟨fs, hr, hrun, hended, hW, hsame⟩ := X16.leave (v := some (.int (2 : Int32))) (fun h => by rw [Bd.returns] at h; cases h)
            refine ⟨_, _, k23 _ (retI X16 hx Bd.returns (hb hby d2_125) hr), hrun, hended, _, _, rfl, ?_, ⟨_, rfl⟩, hW, hsame.mono (by decide) (by decide)⟩
            show Q2 Z ld c1 c2 c3 room h0 n0 _ T16.heap _
            rw [eq16]
            exact ⟨(by rw [own_eq_own_exp]; rw [if_neg hc4_6, if_pos hc21_12, if_neg hc70_14, if_neg hc87_18, if_neg hc117_21]), N16, rfl⟩
    · have k24 : ∀ tg_, Steps p.tables e below (s₁.setTop (mkF m 38 #[.val (.int ld), .val (.int c1), .val (.int c2), .val (.int c3), .val (.int room), .unset, .unset] [(.int (224 : Int32)), (.int (ld &&& (240 : Int32)))])) tg_ → Steps p.tables e below (s₁.setTop (entryFrame m #[(.int ld), (.int c1), (.int c2), (.int c3), (.int room)] 7)) tg_ := by
        intro tg_ kt
        refine k11 tg_ ?_
        refine XS.icmpYes X0.here hx rfl (pc0 := 21) (pc' := 30) rfl (hb hby d2_21) rfl (feq hc21_12).2 (by decide) (by decide) ?_
        show Steps p.tables e below (s₁.setTop (mkF m 30 #[.val (.int ld), .val (.int c1), .val (.int c2), .val (.int c3), .val (.int room), .unset, .unset] [])) _
        refine XS.iloadN X0.here hx rfl (hb hby d2_30) rfl ?_
        show Steps p.tables e below (s₁.setTop (mkF m 31 #[.val (.int ld), .val (.int c1), .val (.int c2), .val (.int c3), .val (.int room), .unset, .unset] [(.int ld)])) _
        refine XS.sipush X0.here hx rfl (hb hby d2_31) ?_
        show Steps p.tables e below (s₁.setTop (mkF m 34 #[.val (.int ld), .val (.int c1), .val (.int c2), .val (.int c3), .val (.int room), .unset, .unset] [(.int (240 : Int32)), (.int ld)])) _
        refine XS.iand X0.here hx rfl (hb hby d2_34) rfl ?_
        show Steps p.tables e below (s₁.setTop (mkF m 35 #[.val (.int ld), .val (.int c1), .val (.int c2), .val (.int c3), .val (.int room), .unset, .unset] [(.int (ld &&& (240 : Int32)))])) _
        refine XS.sipush X0.here hx rfl (hb hby d2_35) ?_
        show Steps p.tables e below (s₁.setTop (mkF m 38 #[.val (.int ld), .val (.int c1), .val (.int c2), .val (.int c3), .val (.int room), .unset, .unset] [(.int (224 : Int32)), (.int (ld &&& (240 : Int32)))])) _
        exact kt
      by_cases hc38_25 : (ld &&& (240 : Int32)) = (224 : Int32)
      · have k26 : ∀ tg_, Steps p.tables e below (s₁.setTop (mkF m 70 #[.val (.int ld), .val (.int c1), .val (.int c2), .val (.int c3), .val (.int room), .val (.int (3 : Int32)), .unset] [(.int room), (.int (3 : Int32))])) tg_ → Steps p.tables e below (s₁.setTop (entryFrame m #[(.int ld), (.int c1), (.int c2), (.int c3), (.int room)] 7)) tg_ := by
          intro tg_ kt
          refine k24 tg_ ?_
          refine XS.icmpNo X0.here hx rfl (hb hby d2_38) rfl (teq hc38_25).2 ?_
          show Steps p.tables e below (s₁.setTop (mkF m 41 #[.val (.int ld), .val (.int c1), .val (.int c2), .val (.int c3), .val (.int room), .unset, .unset] [])) _
          refine XS.iconst X0.here hx rfl (hb hby d2_41) ?_
          show Steps p.tables e below (s₁.setTop (mkF m 42 #[.val (.int ld), .val (.int c1), .val (.int c2), .val (.int c3), .val (.int room), .unset, .unset] [(.int (3 : Int32))])) _
          refine XS.istore X0.here hx rfl (hb hby d2_42) rfl (l' := #[.val (.int ld), .val (.int c1), .val (.int c2), .val (.int c3), .val (.int room), .val (.int (3 : Int32)), .unset]) rfl ?_
          show Steps p.tables e below (s₁.setTop (mkF m 44 #[.val (.int ld), .val (.int c1), .val (.int c2), .val (.int c3), .val (.int room), .val (.int (3 : Int32)), .unset] [])) _
          refine XS.goto X0.here hx rfl (pc0 := 44) (pc' := 66) rfl (hb hby d2_44) (by decide) (by decide) ?_
          show Steps p.tables e below (s₁.setTop (mkF m 66 #[.val (.int ld), .val (.int c1), .val (.int c2), .val (.int c3), .val (.int room), .val (.int (3 : Int32)), .unset] [])) _
          refine XS.iload X0.here hx rfl (hb hby d2_66) rfl ?_
          show Steps p.tables e below (s₁.setTop (mkF m 68 #[.val (.int ld), .val (.int c1), .val (.int c2), .val (.int c3), .val (.int room), .val (.int (3 : Int32)), .unset] [(.int (3 : Int32))])) _
          refine XS.iload X0.here hx rfl (hb hby d2_68) rfl ?_
          show Steps p.tables e below (s₁.setTop (mkF m 70 #[.val (.int ld), .val (.int c1), .val (.int c2), .val (.int c3), .val (.int room), .val (.int (3 : Int32)), .unset] [(.int room), (.int (3 : Int32))])) _
          exact kt
        by_cases hc70_27 : room < (3 : Int32)
        · have k28 : ∀ tg_, Steps p.tables e below (s₁.setTop (mkF m 74 #[.val (.int ld), .val (.int c1), .val (.int c2), .val (.int c3), .val (.int room), .val (.int (3 : Int32)), .unset] [(.int (0 : Int32))])) tg_ → Steps p.tables e below (s₁.setTop (entryFrame m #[(.int ld), (.int c1), (.int c2), (.int c3), (.int room)] 7)) tg_ := by
            intro tg_ kt
            refine k26 tg_ ?_
            refine XS.icmpNo X0.here hx rfl (hb hby d2_70) rfl (tlt hc70_27).2.2.2 ?_
            show Steps p.tables e below (s₁.setTop (mkF m 73 #[.val (.int ld), .val (.int c1), .val (.int c2), .val (.int c3), .val (.int room), .val (.int (3 : Int32)), .unset] [])) _
            refine XS.iconst X0.here hx rfl (hb hby d2_73) ?_
            show Steps p.tables e below (s₁.setTop (mkF m 74 #[.val (.int ld), .val (.int c1), .val (.int c2), .val (.int c3), .val (.int room), .val (.int (3 : Int32)), .unset] [(.int (0 : Int32))])) _
            exact kt
          obtain ⟨fs, hr, hrun, hended, hW, hsame⟩ := X0.leave (v := some (.int (0 : Int32))) (fun h => by rw [Bd.returns] at h; cases h)
          refine ⟨_, _, k28 _ (retI X0 hx Bd.returns (hb hby d2_74) hr), hrun, hended, _, _, rfl, ?_, ⟨_, rfl⟩, hW, hsame.mono (by decide) (by decide)⟩
          show Q2 Z ld c1 c2 c3 room h0 n0 _ s₁.heap _
          rw [e0]
          exact ⟨(by rw [own_eq_own_exp]; rw [if_neg hc4_6, if_neg hc21_12, if_pos hc38_25, if_pos hc70_27]), N0, rfl⟩
        · obtain ⟨_, _, ⟨T29, L29, kc29, nc29⟩, -, X29, ⟨Lc29, hQ29, l29, y29, z29⟩, st29⟩ := Jvm.LawKit.callS X0 hx (y := (⟨"com/example/benzer/benzer/cli/Utf8SequenceSizePinLaw", "cont", "(I)Z"⟩ : MethodName)) hown (mvT hZ (hw _ (List.mem_of_getElem? (i := 9) rfl))) (mvT hZ (hw _ (List.mem_of_getElem? (i := 10) rfl))) (mvT hZ (hw _ (List.mem_of_getElem? (i := 7) rfl))) (mvT hZ (hw _ (List.mem_of_getElem? (i := 11) rfl))) (by decide) (backOf (W := 0) (rm3 l Z a0 hw [] c1 h0 n0 ) hZ (hw _ (List.mem_of_getElem? (i := 11) rfl)) (hw _ (List.mem_of_getElem? (i := 7) rfl)) (by decide) (by decide)) (g := (mkF m 84 #[.val (.int ld), .val (.int c1), .val (.int c2), .val (.int c3), .val (.int room), .val (.int (3 : Int32)), .unset] [(.int c1)])) rfl (by rw [hml]; rfl) (argsL := [(.int c1)]) (rest := []) (lenOf pd_2 rfl) rfl (by show 2 * 0 + _ ≤ _; exact Nat.le_of_eq rfl) (hb hby d2_84) (fun _ _ => ⟨rfl, e0, (by decide : 0 + 0 ≤ _), (by decide : 0 + 0 ≤ _)⟩)
          dsimp only [Pt.U, Pt.locs, Pt.cells, Pt.slots] at X29 l29 y29 z29 st29 hQ29
          rw [l29, y29, z29] at X29
          replace X29 : Stand p l e ({ frames := 1, cells := 0, slots := 0, locals := 12 } : Room) s m #[(.int ld), (.int c1), (.int c2), (.int c3), (.int room)] below meth c T29 _ 0 0 := X29
          obtain ⟨rfl, Nq29, eq29⟩ := hQ29
          have N29 := Fr.app N0 Nq29
          have k30 : ∀ tg_, Steps p.tables e below (T29.setTop (mkF m 87 #[.val (.int ld), .val (.int c1), .val (.int c2), .val (.int c3), .val (.int room), .val (.int (3 : Int32)), .unset] [(.int (own_cont c1))])) tg_ → Steps p.tables e below (s₁.setTop (entryFrame m #[(.int ld), (.int c1), (.int c2), (.int c3), (.int room)] 7)) tg_ := by
            intro tg_ kt
            refine k26 tg_ ?_
            refine XS.icmpYes X0.here hx rfl (pc0 := 70) (pc' := 75) rfl (hb hby d2_70) rfl (flt hc70_27).2.2.2 (by decide) (by decide) ?_
            show Steps p.tables e below (s₁.setTop (mkF m 75 #[.val (.int ld), .val (.int c1), .val (.int c2), .val (.int c3), .val (.int room), .val (.int (3 : Int32)), .unset] [])) _
            refine XS.iload X0.here hx rfl (hb hby d2_75) rfl ?_
            show Steps p.tables e below (s₁.setTop (mkF m 77 #[.val (.int ld), .val (.int c1), .val (.int c2), .val (.int c3), .val (.int room), .val (.int (3 : Int32)), .unset] [(.int (3 : Int32))])) _
            refine XS.iconst X0.here hx rfl (hb hby d2_77) ?_
            show Steps p.tables e below (s₁.setTop (mkF m 78 #[.val (.int ld), .val (.int c1), .val (.int c2), .val (.int c3), .val (.int room), .val (.int (3 : Int32)), .unset] [(.int (1 : Int32)), (.int (3 : Int32))])) _
            refine XS.icmpYes X0.here hx rfl (pc0 := 78) (pc' := 83) rfl (hb hby d2_78) rfl (feq (by decide : ¬ ((3 : Int32) = (1 : Int32)))).2 (by decide) (by decide) ?_
            show Steps p.tables e below (s₁.setTop (mkF m 83 #[.val (.int ld), .val (.int c1), .val (.int c2), .val (.int c3), .val (.int room), .val (.int (3 : Int32)), .unset] [])) _
            refine XS.iloadN X0.here hx rfl (hb hby d2_83) rfl ?_
            show Steps p.tables e below (s₁.setTop (mkF m 84 #[.val (.int ld), .val (.int c1), .val (.int c2), .val (.int c3), .val (.int room), .val (.int (3 : Int32)), .unset] [(.int c1)])) _
            refine st29 _ ?_
            show Steps p.tables e below (T29.setTop (mkF m 87 #[.val (.int ld), .val (.int c1), .val (.int c2), .val (.int c3), .val (.int room), .val (.int (3 : Int32)), .unset] [(.int (own_cont c1))])) _
            exact kt
          by_cases hc87_31 : (own_cont c1) = (0 : Int32)
          · have k32 : ∀ tg_, Steps p.tables e below (T29.setTop (mkF m 91 #[.val (.int ld), .val (.int c1), .val (.int c2), .val (.int c3), .val (.int room), .val (.int (3 : Int32)), .unset] [(.int (0 : Int32))])) tg_ → Steps p.tables e below (s₁.setTop (entryFrame m #[(.int ld), (.int c1), (.int c2), (.int c3), (.int room)] 7)) tg_ := by
              intro tg_ kt
              refine k30 tg_ ?_
              refine XS.ifNo X29.here hx rfl (hb hby d2_87) rfl ((if0 _ _).trans (teq hc87_31).2) ?_
              show Steps p.tables e below (T29.setTop (mkF m 90 #[.val (.int ld), .val (.int c1), .val (.int c2), .val (.int c3), .val (.int room), .val (.int (3 : Int32)), .unset] [])) _
              refine XS.iconst X29.here hx rfl (hb hby d2_90) ?_
              show Steps p.tables e below (T29.setTop (mkF m 91 #[.val (.int ld), .val (.int c1), .val (.int c2), .val (.int c3), .val (.int room), .val (.int (3 : Int32)), .unset] [(.int (0 : Int32))])) _
              exact kt
            obtain ⟨fs, hr, hrun, hended, hW, hsame⟩ := X29.leave (v := some (.int (0 : Int32))) (fun h => by rw [Bd.returns] at h; cases h)
            refine ⟨_, _, k32 _ (retI X29 hx Bd.returns (hb hby d2_91) hr), hrun, hended, _, _, rfl, ?_, ⟨_, rfl⟩, hW, hsame.mono (by decide) (by decide)⟩
            show Q2 Z ld c1 c2 c3 room h0 n0 _ T29.heap _
            rw [eq29]
            exact ⟨(by rw [own_eq_own_exp]; rw [if_neg hc4_6, if_neg hc21_12, if_pos hc38_25, if_neg hc70_27, if_pos hc87_31]), N29, rfl⟩
          · obtain ⟨_, _, ⟨T33, L33, kc33, nc33⟩, -, X33, ⟨Lc33, hQ33, l33, y33, z33⟩, st33⟩ := Jvm.LawKit.callS X29 hx (y := (⟨"com/example/benzer/benzer/cli/Utf8SequenceSizePinLaw", "cont", "(I)Z"⟩ : MethodName)) hown (mvT hZ (hw _ (List.mem_of_getElem? (i := 9) rfl))) (mvT hZ (hw _ (List.mem_of_getElem? (i := 10) rfl))) (mvT hZ (hw _ (List.mem_of_getElem? (i := 7) rfl))) (mvT hZ (hw _ (List.mem_of_getElem? (i := 11) rfl))) (by decide) (backOf (W := 0) (rm3 l Z a0 hw [] c2 h0 n0 ) hZ (hw _ (List.mem_of_getElem? (i := 11) rfl)) (hw _ (List.mem_of_getElem? (i := 7) rfl)) (by decide) (by decide)) (g := (mkF m 127 #[.val (.int ld), .val (.int c1), .val (.int c2), .val (.int c3), .val (.int room), .val (.int (3 : Int32)), .unset] [(.int c2)])) rfl (by rw [hml]; rfl) (argsL := [(.int c2)]) (rest := []) (lenOf pd_2 rfl) rfl (by show 2 * 0 + _ ≤ _; exact Nat.le_of_eq rfl) (hb hby d2_127) (fun _ _ => ⟨rfl, eq29, (by decide : 0 + 0 ≤ _), (by decide : 0 + 0 ≤ _)⟩)
            dsimp only [Pt.U, Pt.locs, Pt.cells, Pt.slots] at X33 l33 y33 z33 st33 hQ33
            rw [l33, y33, z33] at X33
            replace X33 : Stand p l e ({ frames := 1, cells := 0, slots := 0, locals := 12 } : Room) s m #[(.int ld), (.int c1), (.int c2), (.int c3), (.int room)] below meth c T33 _ 0 0 := X33
            obtain ⟨rfl, Nq33, eq33⟩ := hQ33
            have N33 := Fr.app N29 Nq33
            have k34 : ∀ tg_, Steps p.tables e below (T33.setTop (mkF m 130 #[.val (.int ld), .val (.int c1), .val (.int c2), .val (.int c3), .val (.int room), .val (.int (3 : Int32)), .unset] [(.int (own_cont c2))])) tg_ → Steps p.tables e below (s₁.setTop (entryFrame m #[(.int ld), (.int c1), (.int c2), (.int c3), (.int room)] 7)) tg_ := by
              intro tg_ kt
              refine k30 tg_ ?_
              refine XS.ifYes X29.here hx rfl (pc0 := 87) (pc' := 92) rfl (hb hby d2_87) rfl ((if0 _ _).trans (feq hc87_31).2) (by decide) (by decide) ?_
              show Steps p.tables e below (T29.setTop (mkF m 92 #[.val (.int ld), .val (.int c1), .val (.int c2), .val (.int c3), .val (.int room), .val (.int (3 : Int32)), .unset] [])) _
              refine XS.iload X29.here hx rfl (hb hby d2_92) rfl ?_
              show Steps p.tables e below (T29.setTop (mkF m 94 #[.val (.int ld), .val (.int c1), .val (.int c2), .val (.int c3), .val (.int room), .val (.int (3 : Int32)), .unset] [(.int (3 : Int32))])) _
              refine XS.iconst X29.here hx rfl (hb hby d2_94) ?_
              show Steps p.tables e below (T29.setTop (mkF m 95 #[.val (.int ld), .val (.int c1), .val (.int c2), .val (.int c3), .val (.int room), .val (.int (3 : Int32)), .unset] [(.int (2 : Int32)), (.int (3 : Int32))])) _
              refine XS.icmpYes X29.here hx rfl (pc0 := 95) (pc' := 126) rfl (hb hby d2_95) rfl (feq (by decide : ¬ ((3 : Int32) = (2 : Int32)))).2 (by decide) (by decide) ?_
              show Steps p.tables e below (T29.setTop (mkF m 126 #[.val (.int ld), .val (.int c1), .val (.int c2), .val (.int c3), .val (.int room), .val (.int (3 : Int32)), .unset] [])) _
              refine XS.iloadN X29.here hx rfl (hb hby d2_126) rfl ?_
              show Steps p.tables e below (T29.setTop (mkF m 127 #[.val (.int ld), .val (.int c1), .val (.int c2), .val (.int c3), .val (.int room), .val (.int (3 : Int32)), .unset] [(.int c2)])) _
              refine st33 _ ?_
              show Steps p.tables e below (T33.setTop (mkF m 130 #[.val (.int ld), .val (.int c1), .val (.int c2), .val (.int c3), .val (.int room), .val (.int (3 : Int32)), .unset] [(.int (own_cont c2))])) _
              exact kt
            by_cases hc130_35 : (own_cont c2) = (0 : Int32)
            · have k36 : ∀ tg_, Steps p.tables e below (T33.setTop (mkF m 134 #[.val (.int ld), .val (.int c1), .val (.int c2), .val (.int c3), .val (.int room), .val (.int (3 : Int32)), .unset] [(.int (0 : Int32))])) tg_ → Steps p.tables e below (s₁.setTop (entryFrame m #[(.int ld), (.int c1), (.int c2), (.int c3), (.int room)] 7)) tg_ := by
                intro tg_ kt
                refine k34 tg_ ?_
                refine XS.ifNo X33.here hx rfl (hb hby d2_130) rfl ((if0 _ _).trans (teq hc130_35).2) ?_
                show Steps p.tables e below (T33.setTop (mkF m 133 #[.val (.int ld), .val (.int c1), .val (.int c2), .val (.int c3), .val (.int room), .val (.int (3 : Int32)), .unset] [])) _
                refine XS.iconst X33.here hx rfl (hb hby d2_133) ?_
                show Steps p.tables e below (T33.setTop (mkF m 134 #[.val (.int ld), .val (.int c1), .val (.int c2), .val (.int c3), .val (.int room), .val (.int (3 : Int32)), .unset] [(.int (0 : Int32))])) _
                exact kt
              obtain ⟨fs, hr, hrun, hended, hW, hsame⟩ := X33.leave (v := some (.int (0 : Int32))) (fun h => by rw [Bd.returns] at h; cases h)
              refine ⟨_, _, k36 _ (retI X33 hx Bd.returns (hb hby d2_134) hr), hrun, hended, _, _, rfl, ?_, ⟨_, rfl⟩, hW, hsame.mono (by decide) (by decide)⟩
              show Q2 Z ld c1 c2 c3 room h0 n0 _ T33.heap _
              rw [eq33]
              exact ⟨(by rw [own_eq_own_exp]; rw [if_neg hc4_6, if_neg hc21_12, if_pos hc38_25, if_neg hc70_27, if_neg hc87_31, if_pos hc130_35]), N33, rfl⟩
            · have k37 : ∀ tg_, Steps p.tables e below (T33.setTop (mkF m 168 #[.val (.int ld), .val (.int c1), .val (.int c2), .val (.int c3), .val (.int room), .val (.int (3 : Int32)), .val (.int ((((ld &&& (15 : Int32)) <<< ((12 : Int32) &&& 31)) ||| ((c1 &&& (63 : Int32)) <<< ((6 : Int32) &&& 31))) ||| (c2 &&& (63 : Int32))))] [(.int (2048 : Int32)), (.int ((((ld &&& (15 : Int32)) <<< ((12 : Int32) &&& 31)) ||| ((c1 &&& (63 : Int32)) <<< ((6 : Int32) &&& 31))) ||| (c2 &&& (63 : Int32))))])) tg_ → Steps p.tables e below (s₁.setTop (entryFrame m #[(.int ld), (.int c1), (.int c2), (.int c3), (.int room)] 7)) tg_ := by
                intro tg_ kt
                refine k34 tg_ ?_
                refine XS.ifYes X33.here hx rfl (pc0 := 130) (pc' := 135) rfl (hb hby d2_130) rfl ((if0 _ _).trans (feq hc130_35).2) (by decide) (by decide) ?_
                show Steps p.tables e below (T33.setTop (mkF m 135 #[.val (.int ld), .val (.int c1), .val (.int c2), .val (.int c3), .val (.int room), .val (.int (3 : Int32)), .unset] [])) _
                refine XS.iload X33.here hx rfl (hb hby d2_135) rfl ?_
                show Steps p.tables e below (T33.setTop (mkF m 137 #[.val (.int ld), .val (.int c1), .val (.int c2), .val (.int c3), .val (.int room), .val (.int (3 : Int32)), .unset] [(.int (3 : Int32))])) _
                refine XS.iconst X33.here hx rfl (hb hby d2_137) ?_
                show Steps p.tables e below (T33.setTop (mkF m 138 #[.val (.int ld), .val (.int c1), .val (.int c2), .val (.int c3), .val (.int room), .val (.int (3 : Int32)), .unset] [(.int (3 : Int32)), (.int (3 : Int32))])) _
                refine XS.icmpNo X33.here hx rfl (hb hby d2_138) rfl (teq (by decide : (3 : Int32) = (3 : Int32))).2 ?_
                show Steps p.tables e below (T33.setTop (mkF m 141 #[.val (.int ld), .val (.int c1), .val (.int c2), .val (.int c3), .val (.int room), .val (.int (3 : Int32)), .unset] [])) _
                refine XS.iloadN X33.here hx rfl (hb hby d2_141) rfl ?_
                show Steps p.tables e below (T33.setTop (mkF m 142 #[.val (.int ld), .val (.int c1), .val (.int c2), .val (.int c3), .val (.int room), .val (.int (3 : Int32)), .unset] [(.int ld)])) _
                refine XS.bipush X33.here hx rfl (hb hby d2_142) ?_
                show Steps p.tables e below (T33.setTop (mkF m 144 #[.val (.int ld), .val (.int c1), .val (.int c2), .val (.int c3), .val (.int room), .val (.int (3 : Int32)), .unset] [(.int (15 : Int32)), (.int ld)])) _
                refine XS.iand X33.here hx rfl (hb hby d2_144) rfl ?_
                show Steps p.tables e below (T33.setTop (mkF m 145 #[.val (.int ld), .val (.int c1), .val (.int c2), .val (.int c3), .val (.int room), .val (.int (3 : Int32)), .unset] [(.int (ld &&& (15 : Int32)))])) _
                refine XS.bipush X33.here hx rfl (hb hby d2_145) ?_
                show Steps p.tables e below (T33.setTop (mkF m 147 #[.val (.int ld), .val (.int c1), .val (.int c2), .val (.int c3), .val (.int room), .val (.int (3 : Int32)), .unset] [(.int (12 : Int32)), (.int (ld &&& (15 : Int32)))])) _
                refine XS.ishl X33.here hx rfl (hb hby d2_147) rfl ?_
                show Steps p.tables e below (T33.setTop (mkF m 148 #[.val (.int ld), .val (.int c1), .val (.int c2), .val (.int c3), .val (.int room), .val (.int (3 : Int32)), .unset] [(.int ((ld &&& (15 : Int32)) <<< ((12 : Int32) &&& 31)))])) _
                refine XS.iloadN X33.here hx rfl (hb hby d2_148) rfl ?_
                show Steps p.tables e below (T33.setTop (mkF m 149 #[.val (.int ld), .val (.int c1), .val (.int c2), .val (.int c3), .val (.int room), .val (.int (3 : Int32)), .unset] [(.int c1), (.int ((ld &&& (15 : Int32)) <<< ((12 : Int32) &&& 31)))])) _
                refine XS.bipush X33.here hx rfl (hb hby d2_149) ?_
                show Steps p.tables e below (T33.setTop (mkF m 151 #[.val (.int ld), .val (.int c1), .val (.int c2), .val (.int c3), .val (.int room), .val (.int (3 : Int32)), .unset] [(.int (63 : Int32)), (.int c1), (.int ((ld &&& (15 : Int32)) <<< ((12 : Int32) &&& 31)))])) _
                refine XS.iand X33.here hx rfl (hb hby d2_151) rfl ?_
                show Steps p.tables e below (T33.setTop (mkF m 152 #[.val (.int ld), .val (.int c1), .val (.int c2), .val (.int c3), .val (.int room), .val (.int (3 : Int32)), .unset] [(.int (c1 &&& (63 : Int32))), (.int ((ld &&& (15 : Int32)) <<< ((12 : Int32) &&& 31)))])) _
                refine XS.bipush X33.here hx rfl (hb hby d2_152) ?_
                show Steps p.tables e below (T33.setTop (mkF m 154 #[.val (.int ld), .val (.int c1), .val (.int c2), .val (.int c3), .val (.int room), .val (.int (3 : Int32)), .unset] [(.int (6 : Int32)), (.int (c1 &&& (63 : Int32))), (.int ((ld &&& (15 : Int32)) <<< ((12 : Int32) &&& 31)))])) _
                refine XS.ishl X33.here hx rfl (hb hby d2_154) rfl ?_
                show Steps p.tables e below (T33.setTop (mkF m 155 #[.val (.int ld), .val (.int c1), .val (.int c2), .val (.int c3), .val (.int room), .val (.int (3 : Int32)), .unset] [(.int ((c1 &&& (63 : Int32)) <<< ((6 : Int32) &&& 31))), (.int ((ld &&& (15 : Int32)) <<< ((12 : Int32) &&& 31)))])) _
                refine XS.ior X33.here hx rfl (hb hby d2_155) rfl ?_
                show Steps p.tables e below (T33.setTop (mkF m 156 #[.val (.int ld), .val (.int c1), .val (.int c2), .val (.int c3), .val (.int room), .val (.int (3 : Int32)), .unset] [(.int (((ld &&& (15 : Int32)) <<< ((12 : Int32) &&& 31)) ||| ((c1 &&& (63 : Int32)) <<< ((6 : Int32) &&& 31))))])) _
                refine XS.iloadN X33.here hx rfl (hb hby d2_156) rfl ?_
                show Steps p.tables e below (T33.setTop (mkF m 157 #[.val (.int ld), .val (.int c1), .val (.int c2), .val (.int c3), .val (.int room), .val (.int (3 : Int32)), .unset] [(.int c2), (.int (((ld &&& (15 : Int32)) <<< ((12 : Int32) &&& 31)) ||| ((c1 &&& (63 : Int32)) <<< ((6 : Int32) &&& 31))))])) _
                refine XS.bipush X33.here hx rfl (hb hby d2_157) ?_
                show Steps p.tables e below (T33.setTop (mkF m 159 #[.val (.int ld), .val (.int c1), .val (.int c2), .val (.int c3), .val (.int room), .val (.int (3 : Int32)), .unset] [(.int (63 : Int32)), (.int c2), (.int (((ld &&& (15 : Int32)) <<< ((12 : Int32) &&& 31)) ||| ((c1 &&& (63 : Int32)) <<< ((6 : Int32) &&& 31))))])) _
                refine XS.iand X33.here hx rfl (hb hby d2_159) rfl ?_
                show Steps p.tables e below (T33.setTop (mkF m 160 #[.val (.int ld), .val (.int c1), .val (.int c2), .val (.int c3), .val (.int room), .val (.int (3 : Int32)), .unset] [(.int (c2 &&& (63 : Int32))), (.int (((ld &&& (15 : Int32)) <<< ((12 : Int32) &&& 31)) ||| ((c1 &&& (63 : Int32)) <<< ((6 : Int32) &&& 31))))])) _
                refine XS.ior X33.here hx rfl (hb hby d2_160) rfl ?_
                show Steps p.tables e below (T33.setTop (mkF m 161 #[.val (.int ld), .val (.int c1), .val (.int c2), .val (.int c3), .val (.int room), .val (.int (3 : Int32)), .unset] [(.int ((((ld &&& (15 : Int32)) <<< ((12 : Int32) &&& 31)) ||| ((c1 &&& (63 : Int32)) <<< ((6 : Int32) &&& 31))) ||| (c2 &&& (63 : Int32))))])) _
                refine XS.istore X33.here hx rfl (hb hby d2_161) rfl (l' := #[.val (.int ld), .val (.int c1), .val (.int c2), .val (.int c3), .val (.int room), .val (.int (3 : Int32)), .val (.int ((((ld &&& (15 : Int32)) <<< ((12 : Int32) &&& 31)) ||| ((c1 &&& (63 : Int32)) <<< ((6 : Int32) &&& 31))) ||| (c2 &&& (63 : Int32))))]) rfl ?_
                show Steps p.tables e below (T33.setTop (mkF m 163 #[.val (.int ld), .val (.int c1), .val (.int c2), .val (.int c3), .val (.int room), .val (.int (3 : Int32)), .val (.int ((((ld &&& (15 : Int32)) <<< ((12 : Int32) &&& 31)) ||| ((c1 &&& (63 : Int32)) <<< ((6 : Int32) &&& 31))) ||| (c2 &&& (63 : Int32))))] [])) _
                refine XS.iload X33.here hx rfl (hb hby d2_163) rfl ?_
                show Steps p.tables e below (T33.setTop (mkF m 165 #[.val (.int ld), .val (.int c1), .val (.int c2), .val (.int c3), .val (.int room), .val (.int (3 : Int32)), .val (.int ((((ld &&& (15 : Int32)) <<< ((12 : Int32) &&& 31)) ||| ((c1 &&& (63 : Int32)) <<< ((6 : Int32) &&& 31))) ||| (c2 &&& (63 : Int32))))] [(.int ((((ld &&& (15 : Int32)) <<< ((12 : Int32) &&& 31)) ||| ((c1 &&& (63 : Int32)) <<< ((6 : Int32) &&& 31))) ||| (c2 &&& (63 : Int32))))])) _
                refine XS.sipush X33.here hx rfl (hb hby d2_165) ?_
                show Steps p.tables e below (T33.setTop (mkF m 168 #[.val (.int ld), .val (.int c1), .val (.int c2), .val (.int c3), .val (.int room), .val (.int (3 : Int32)), .val (.int ((((ld &&& (15 : Int32)) <<< ((12 : Int32) &&& 31)) ||| ((c1 &&& (63 : Int32)) <<< ((6 : Int32) &&& 31))) ||| (c2 &&& (63 : Int32))))] [(.int (2048 : Int32)), (.int ((((ld &&& (15 : Int32)) <<< ((12 : Int32) &&& 31)) ||| ((c1 &&& (63 : Int32)) <<< ((6 : Int32) &&& 31))) ||| (c2 &&& (63 : Int32))))])) _
                exact kt
              by_cases hc168_38 : ((((ld &&& (15 : Int32)) <<< ((12 : Int32) &&& 31)) ||| ((c1 &&& (63 : Int32)) <<< ((6 : Int32) &&& 31))) ||| (c2 &&& (63 : Int32))) < (2048 : Int32)
              · have k39 : ∀ tg_, Steps p.tables e below (T33.setTop (mkF m 190 #[.val (.int ld), .val (.int c1), .val (.int c2), .val (.int c3), .val (.int room), .val (.int (3 : Int32)), .val (.int ((((ld &&& (15 : Int32)) <<< ((12 : Int32) &&& 31)) ||| ((c1 &&& (63 : Int32)) <<< ((6 : Int32) &&& 31))) ||| (c2 &&& (63 : Int32))))] [(.int (0 : Int32))])) tg_ → Steps p.tables e below (s₁.setTop (entryFrame m #[(.int ld), (.int c1), (.int c2), (.int c3), (.int room)] 7)) tg_ := by
                  intro tg_ kt
                  refine k37 tg_ ?_
                  refine XS.icmpYes X33.here hx rfl (pc0 := 168) (pc' := 189) rfl (hb hby d2_168) rfl (tlt hc168_38).1 (by decide) (by decide) ?_
                  show Steps p.tables e below (T33.setTop (mkF m 189 #[.val (.int ld), .val (.int c1), .val (.int c2), .val (.int c3), .val (.int room), .val (.int (3 : Int32)), .val (.int ((((ld &&& (15 : Int32)) <<< ((12 : Int32) &&& 31)) ||| ((c1 &&& (63 : Int32)) <<< ((6 : Int32) &&& 31))) ||| (c2 &&& (63 : Int32))))] [])) _
                  refine XS.iconst X33.here hx rfl (hb hby d2_189) ?_
                  show Steps p.tables e below (T33.setTop (mkF m 190 #[.val (.int ld), .val (.int c1), .val (.int c2), .val (.int c3), .val (.int room), .val (.int (3 : Int32)), .val (.int ((((ld &&& (15 : Int32)) <<< ((12 : Int32) &&& 31)) ||| ((c1 &&& (63 : Int32)) <<< ((6 : Int32) &&& 31))) ||| (c2 &&& (63 : Int32))))] [(.int (0 : Int32))])) _
                  exact kt
                obtain ⟨fs, hr, hrun, hended, hW, hsame⟩ := X33.leave (v := some (.int (0 : Int32))) (fun h => by rw [Bd.returns] at h; cases h)
                refine ⟨_, _, k39 _ (retI X33 hx Bd.returns (hb hby d2_190) hr), hrun, hended, _, _, rfl, ?_, ⟨_, rfl⟩, hW, hsame.mono (by decide) (by decide)⟩
                show Q2 Z ld c1 c2 c3 room h0 n0 _ T33.heap _
                rw [eq33]
                exact ⟨(by rw [own_eq_own_exp]; rw [if_neg hc4_6, if_neg hc21_12, if_pos hc38_25, if_neg hc70_27, if_neg hc87_31, if_neg hc130_35, if_pos hc168_38]), N33, rfl⟩
              · have k40 : ∀ tg_, Steps p.tables e below (T33.setTop (mkF m 175 #[.val (.int ld), .val (.int c1), .val (.int c2), .val (.int c3), .val (.int room), .val (.int (3 : Int32)), .val (.int ((((ld &&& (15 : Int32)) <<< ((12 : Int32) &&& 31)) ||| ((c1 &&& (63 : Int32)) <<< ((6 : Int32) &&& 31))) ||| (c2 &&& (63 : Int32))))] [(.int (55296 : Int32)), (.int ((((ld &&& (15 : Int32)) <<< ((12 : Int32) &&& 31)) ||| ((c1 &&& (63 : Int32)) <<< ((6 : Int32) &&& 31))) ||| (c2 &&& (63 : Int32))))])) tg_ → Steps p.tables e below (s₁.setTop (entryFrame m #[(.int ld), (.int c1), (.int c2), (.int c3), (.int room)] 7)) tg_ := by
                  intro tg_ kt
                  refine k37 tg_ ?_
                  refine XS.icmpNo X33.here hx rfl (hb hby d2_168) rfl (flt hc168_38).1 ?_
                  show Steps p.tables e below (T33.setTop (mkF m 171 #[.val (.int ld), .val (.int c1), .val (.int c2), .val (.int c3), .val (.int room), .val (.int (3 : Int32)), .val (.int ((((ld &&& (15 : Int32)) <<< ((12 : Int32) &&& 31)) ||| ((c1 &&& (63 : Int32)) <<< ((6 : Int32) &&& 31))) ||| (c2 &&& (63 : Int32))))] [])) _
                  refine XS.iload X33.here hx rfl (hb hby d2_171) rfl ?_
                  show Steps p.tables e below (T33.setTop (mkF m 173 #[.val (.int ld), .val (.int c1), .val (.int c2), .val (.int c3), .val (.int room), .val (.int (3 : Int32)), .val (.int ((((ld &&& (15 : Int32)) <<< ((12 : Int32) &&& 31)) ||| ((c1 &&& (63 : Int32)) <<< ((6 : Int32) &&& 31))) ||| (c2 &&& (63 : Int32))))] [(.int ((((ld &&& (15 : Int32)) <<< ((12 : Int32) &&& 31)) ||| ((c1 &&& (63 : Int32)) <<< ((6 : Int32) &&& 31))) ||| (c2 &&& (63 : Int32))))])) _
                  refine X33.ldcInt hx hown (mvT hZ (hw _ (List.mem_of_getElem? (i := 12) rfl))) (g := (mkF m 173 #[.val (.int ld), .val (.int c1), .val (.int c2), .val (.int c3), .val (.int room), .val (.int (3 : Int32)), .val (.int ((((ld &&& (15 : Int32)) <<< ((12 : Int32) &&& 31)) ||| ((c1 &&& (63 : Int32)) <<< ((6 : Int32) &&& 31))) ||| (c2 &&& (63 : Int32))))] [(.int ((((ld &&& (15 : Int32)) <<< ((12 : Int32) &&& 31)) ||| ((c1 &&& (63 : Int32)) <<< ((6 : Int32) &&& 31))) ||| (c2 &&& (63 : Int32))))])) rfl (hb hby d2_173) _ ?_
                  show Steps p.tables e below (T33.setTop (mkF m 175 #[.val (.int ld), .val (.int c1), .val (.int c2), .val (.int c3), .val (.int room), .val (.int (3 : Int32)), .val (.int ((((ld &&& (15 : Int32)) <<< ((12 : Int32) &&& 31)) ||| ((c1 &&& (63 : Int32)) <<< ((6 : Int32) &&& 31))) ||| (c2 &&& (63 : Int32))))] [(.int (55296 : Int32)), (.int ((((ld &&& (15 : Int32)) <<< ((12 : Int32) &&& 31)) ||| ((c1 &&& (63 : Int32)) <<< ((6 : Int32) &&& 31))) ||| (c2 &&& (63 : Int32))))])) _
                  exact kt
                by_cases hc175_41 : ((((ld &&& (15 : Int32)) <<< ((12 : Int32) &&& 31)) ||| ((c1 &&& (63 : Int32)) <<< ((6 : Int32) &&& 31))) ||| (c2 &&& (63 : Int32))) < (55296 : Int32)
                · have k42 : ∀ tg_, Steps p.tables e below (T33.setTop (mkF m 190 #[.val (.int ld), .val (.int c1), .val (.int c2), .val (.int c3), .val (.int room), .val (.int (3 : Int32)), .val (.int ((((ld &&& (15 : Int32)) <<< ((12 : Int32) &&& 31)) ||| ((c1 &&& (63 : Int32)) <<< ((6 : Int32) &&& 31))) ||| (c2 &&& (63 : Int32))))] [(.int (3 : Int32))])) tg_ → Steps p.tables e below (s₁.setTop (entryFrame m #[(.int ld), (.int c1), (.int c2), (.int c3), (.int room)] 7)) tg_ := by
                    intro tg_ kt
                    refine k40 tg_ ?_
                    refine XS.icmpYes X33.here hx rfl (pc0 := 175) (pc' := 185) rfl (hb hby d2_175) rfl (tlt hc175_41).1 (by decide) (by decide) ?_
                    show Steps p.tables e below (T33.setTop (mkF m 185 #[.val (.int ld), .val (.int c1), .val (.int c2), .val (.int c3), .val (.int room), .val (.int (3 : Int32)), .val (.int ((((ld &&& (15 : Int32)) <<< ((12 : Int32) &&& 31)) ||| ((c1 &&& (63 : Int32)) <<< ((6 : Int32) &&& 31))) ||| (c2 &&& (63 : Int32))))] [])) _
                    refine XS.iconst X33.here hx rfl (hb hby d2_185) ?_
                    show Steps p.tables e below (T33.setTop (mkF m 186 #[.val (.int ld), .val (.int c1), .val (.int c2), .val (.int c3), .val (.int room), .val (.int (3 : Int32)), .val (.int ((((ld &&& (15 : Int32)) <<< ((12 : Int32) &&& 31)) ||| ((c1 &&& (63 : Int32)) <<< ((6 : Int32) &&& 31))) ||| (c2 &&& (63 : Int32))))] [(.int (3 : Int32))])) _
                    refine XS.goto X33.here hx rfl (pc0 := 186) (pc' := 190) rfl (hb hby d2_186) (by decide) (by decide) ?_
                    show Steps p.tables e below (T33.setTop (mkF m 190 #[.val (.int ld), .val (.int c1), .val (.int c2), .val (.int c3), .val (.int room), .val (.int (3 : Int32)), .val (.int ((((ld &&& (15 : Int32)) <<< ((12 : Int32) &&& 31)) ||| ((c1 &&& (63 : Int32)) <<< ((6 : Int32) &&& 31))) ||| (c2 &&& (63 : Int32))))] [(.int (3 : Int32))])) _
                    exact kt
                  obtain ⟨fs, hr, hrun, hended, hW, hsame⟩ := X33.leave (v := some (.int (3 : Int32))) (fun h => by rw [Bd.returns] at h; cases h)
                  refine ⟨_, _, k42 _ (retI X33 hx Bd.returns (hb hby d2_190) hr), hrun, hended, _, _, rfl, ?_, ⟨_, rfl⟩, hW, hsame.mono (by decide) (by decide)⟩
                  show Q2 Z ld c1 c2 c3 room h0 n0 _ T33.heap _
                  rw [eq33]
                  exact ⟨(by rw [own_eq_own_exp]; rw [if_neg hc4_6, if_neg hc21_12, if_pos hc38_25, if_neg hc70_27, if_neg hc87_31, if_neg hc130_35, if_neg hc168_38, if_pos hc175_41]), N33, rfl⟩
                · have k43 : ∀ tg_, Steps p.tables e below (T33.setTop (mkF m 182 #[.val (.int ld), .val (.int c1), .val (.int c2), .val (.int c3), .val (.int room), .val (.int (3 : Int32)), .val (.int ((((ld &&& (15 : Int32)) <<< ((12 : Int32) &&& 31)) ||| ((c1 &&& (63 : Int32)) <<< ((6 : Int32) &&& 31))) ||| (c2 &&& (63 : Int32))))] [(.int (57343 : Int32)), (.int ((((ld &&& (15 : Int32)) <<< ((12 : Int32) &&& 31)) ||| ((c1 &&& (63 : Int32)) <<< ((6 : Int32) &&& 31))) ||| (c2 &&& (63 : Int32))))])) tg_ → Steps p.tables e below (s₁.setTop (entryFrame m #[(.int ld), (.int c1), (.int c2), (.int c3), (.int room)] 7)) tg_ := by
                    intro tg_ kt
                    refine k40 tg_ ?_
                    refine XS.icmpNo X33.here hx rfl (hb hby d2_175) rfl (flt hc175_41).1 ?_
                    show Steps p.tables e below (T33.setTop (mkF m 178 #[.val (.int ld), .val (.int c1), .val (.int c2), .val (.int c3), .val (.int room), .val (.int (3 : Int32)), .val (.int ((((ld &&& (15 : Int32)) <<< ((12 : Int32) &&& 31)) ||| ((c1 &&& (63 : Int32)) <<< ((6 : Int32) &&& 31))) ||| (c2 &&& (63 : Int32))))] [])) _
                    refine XS.iload X33.here hx rfl (hb hby d2_178) rfl ?_
                    show Steps p.tables e below (T33.setTop (mkF m 180 #[.val (.int ld), .val (.int c1), .val (.int c2), .val (.int c3), .val (.int room), .val (.int (3 : Int32)), .val (.int ((((ld &&& (15 : Int32)) <<< ((12 : Int32) &&& 31)) ||| ((c1 &&& (63 : Int32)) <<< ((6 : Int32) &&& 31))) ||| (c2 &&& (63 : Int32))))] [(.int ((((ld &&& (15 : Int32)) <<< ((12 : Int32) &&& 31)) ||| ((c1 &&& (63 : Int32)) <<< ((6 : Int32) &&& 31))) ||| (c2 &&& (63 : Int32))))])) _
                    refine X33.ldcInt hx hown (mvT hZ (hw _ (List.mem_of_getElem? (i := 13) rfl))) (g := (mkF m 180 #[.val (.int ld), .val (.int c1), .val (.int c2), .val (.int c3), .val (.int room), .val (.int (3 : Int32)), .val (.int ((((ld &&& (15 : Int32)) <<< ((12 : Int32) &&& 31)) ||| ((c1 &&& (63 : Int32)) <<< ((6 : Int32) &&& 31))) ||| (c2 &&& (63 : Int32))))] [(.int ((((ld &&& (15 : Int32)) <<< ((12 : Int32) &&& 31)) ||| ((c1 &&& (63 : Int32)) <<< ((6 : Int32) &&& 31))) ||| (c2 &&& (63 : Int32))))])) rfl (hb hby d2_180) _ ?_
                    show Steps p.tables e below (T33.setTop (mkF m 182 #[.val (.int ld), .val (.int c1), .val (.int c2), .val (.int c3), .val (.int room), .val (.int (3 : Int32)), .val (.int ((((ld &&& (15 : Int32)) <<< ((12 : Int32) &&& 31)) ||| ((c1 &&& (63 : Int32)) <<< ((6 : Int32) &&& 31))) ||| (c2 &&& (63 : Int32))))] [(.int (57343 : Int32)), (.int ((((ld &&& (15 : Int32)) <<< ((12 : Int32) &&& 31)) ||| ((c1 &&& (63 : Int32)) <<< ((6 : Int32) &&& 31))) ||| (c2 &&& (63 : Int32))))])) _
                    exact kt
                  by_cases hc182_44 : (57343 : Int32) < ((((ld &&& (15 : Int32)) <<< ((12 : Int32) &&& 31)) ||| ((c1 &&& (63 : Int32)) <<< ((6 : Int32) &&& 31))) ||| (c2 &&& (63 : Int32)))
                  · have k45 : ∀ tg_, Steps p.tables e below (T33.setTop (mkF m 190 #[.val (.int ld), .val (.int c1), .val (.int c2), .val (.int c3), .val (.int room), .val (.int (3 : Int32)), .val (.int ((((ld &&& (15 : Int32)) <<< ((12 : Int32) &&& 31)) ||| ((c1 &&& (63 : Int32)) <<< ((6 : Int32) &&& 31))) ||| (c2 &&& (63 : Int32))))] [(.int (3 : Int32))])) tg_ → Steps p.tables e below (s₁.setTop (entryFrame m #[(.int ld), (.int c1), (.int c2), (.int c3), (.int room)] 7)) tg_ := by
                      intro tg_ kt
                      refine k43 tg_ ?_
                      refine XS.icmpNo X33.here hx rfl (hb hby d2_182) rfl (tlt hc182_44).2.2.2 ?_
                      show Steps p.tables e below (T33.setTop (mkF m 185 #[.val (.int ld), .val (.int c1), .val (.int c2), .val (.int c3), .val (.int room), .val (.int (3 : Int32)), .val (.int ((((ld &&& (15 : Int32)) <<< ((12 : Int32) &&& 31)) ||| ((c1 &&& (63 : Int32)) <<< ((6 : Int32) &&& 31))) ||| (c2 &&& (63 : Int32))))] [])) _
                      refine XS.iconst X33.here hx rfl (hb hby d2_185) ?_
                      show Steps p.tables e below (T33.setTop (mkF m 186 #[.val (.int ld), .val (.int c1), .val (.int c2), .val (.int c3), .val (.int room), .val (.int (3 : Int32)), .val (.int ((((ld &&& (15 : Int32)) <<< ((12 : Int32) &&& 31)) ||| ((c1 &&& (63 : Int32)) <<< ((6 : Int32) &&& 31))) ||| (c2 &&& (63 : Int32))))] [(.int (3 : Int32))])) _
                      refine XS.goto X33.here hx rfl (pc0 := 186) (pc' := 190) rfl (hb hby d2_186) (by decide) (by decide) ?_
                      show Steps p.tables e below (T33.setTop (mkF m 190 #[.val (.int ld), .val (.int c1), .val (.int c2), .val (.int c3), .val (.int room), .val (.int (3 : Int32)), .val (.int ((((ld &&& (15 : Int32)) <<< ((12 : Int32) &&& 31)) ||| ((c1 &&& (63 : Int32)) <<< ((6 : Int32) &&& 31))) ||| (c2 &&& (63 : Int32))))] [(.int (3 : Int32))])) _
                      exact kt
                    obtain ⟨fs, hr, hrun, hended, hW, hsame⟩ := X33.leave (v := some (.int (3 : Int32))) (fun h => by rw [Bd.returns] at h; cases h)
                    refine ⟨_, _, k45 _ (retI X33 hx Bd.returns (hb hby d2_190) hr), hrun, hended, _, _, rfl, ?_, ⟨_, rfl⟩, hW, hsame.mono (by decide) (by decide)⟩
                    show Q2 Z ld c1 c2 c3 room h0 n0 _ T33.heap _
                    rw [eq33]
                    exact ⟨(by rw [own_eq_own_exp]; rw [if_neg hc4_6, if_neg hc21_12, if_pos hc38_25, if_neg hc70_27, if_neg hc87_31, if_neg hc130_35, if_neg hc168_38, if_neg hc175_41, if_pos hc182_44]), N33, rfl⟩
                  · have k46 : ∀ tg_, Steps p.tables e below (T33.setTop (mkF m 190 #[.val (.int ld), .val (.int c1), .val (.int c2), .val (.int c3), .val (.int room), .val (.int (3 : Int32)), .val (.int ((((ld &&& (15 : Int32)) <<< ((12 : Int32) &&& 31)) ||| ((c1 &&& (63 : Int32)) <<< ((6 : Int32) &&& 31))) ||| (c2 &&& (63 : Int32))))] [(.int (0 : Int32))])) tg_ → Steps p.tables e below (s₁.setTop (entryFrame m #[(.int ld), (.int c1), (.int c2), (.int c3), (.int room)] 7)) tg_ := by
                      intro tg_ kt
                      refine k43 tg_ ?_
                      refine XS.icmpYes X33.here hx rfl (pc0 := 182) (pc' := 189) rfl (hb hby d2_182) rfl (flt hc182_44).2.2.2 (by decide) (by decide) ?_
                      show Steps p.tables e below (T33.setTop (mkF m 189 #[.val (.int ld), .val (.int c1), .val (.int c2), .val (.int c3), .val (.int room), .val (.int (3 : Int32)), .val (.int ((((ld &&& (15 : Int32)) <<< ((12 : Int32) &&& 31)) ||| ((c1 &&& (63 : Int32)) <<< ((6 : Int32) &&& 31))) ||| (c2 &&& (63 : Int32))))] [])) _
                      refine XS.iconst X33.here hx rfl (hb hby d2_189) ?_
                      show Steps p.tables e below (T33.setTop (mkF m 190 #[.val (.int ld), .val (.int c1), .val (.int c2), .val (.int c3), .val (.int room), .val (.int (3 : Int32)), .val (.int ((((ld &&& (15 : Int32)) <<< ((12 : Int32) &&& 31)) ||| ((c1 &&& (63 : Int32)) <<< ((6 : Int32) &&& 31))) ||| (c2 &&& (63 : Int32))))] [(.int (0 : Int32))])) _
                      exact kt
                    obtain ⟨fs, hr, hrun, hended, hW, hsame⟩ := X33.leave (v := some (.int (0 : Int32))) (fun h => by rw [Bd.returns] at h; cases h)
                    refine ⟨_, _, k46 _ (retI X33 hx Bd.returns (hb hby d2_190) hr), hrun, hended, _, _, rfl, ?_, ⟨_, rfl⟩, hW, hsame.mono (by decide) (by decide)⟩
                    show Q2 Z ld c1 c2 c3 room h0 n0 _ T33.heap _
                    rw [eq33]
                    exact ⟨(by rw [own_eq_own_exp]; rw [if_neg hc4_6, if_neg hc21_12, if_pos hc38_25, if_neg hc70_27, if_neg hc87_31, if_neg hc130_35, if_neg hc168_38, if_neg hc175_41, if_neg hc182_44]), N33, rfl⟩
      · have k47 : ∀ tg_, Steps p.tables e below (s₁.setTop (mkF m 55 #[.val (.int ld), .val (.int c1), .val (.int c2), .val (.int c3), .val (.int room), .unset, .unset] [(.int (240 : Int32)), (.int (ld &&& (248 : Int32)))])) tg_ → Steps p.tables e below (s₁.setTop (entryFrame m #[(.int ld), (.int c1), (.int c2), (.int c3), (.int room)] 7)) tg_ := by
          intro tg_ kt
          refine k24 tg_ ?_
          refine XS.icmpYes X0.here hx rfl (pc0 := 38) (pc' := 47) rfl (hb hby d2_38) rfl (feq hc38_25).2 (by decide) (by decide) ?_
          show Steps p.tables e below (s₁.setTop (mkF m 47 #[.val (.int ld), .val (.int c1), .val (.int c2), .val (.int c3), .val (.int room), .unset, .unset] [])) _
          refine XS.iloadN X0.here hx rfl (hb hby d2_47) rfl ?_
          show Steps p.tables e below (s₁.setTop (mkF m 48 #[.val (.int ld), .val (.int c1), .val (.int c2), .val (.int c3), .val (.int room), .unset, .unset] [(.int ld)])) _
          refine XS.sipush X0.here hx rfl (hb hby d2_48) ?_
          show Steps p.tables e below (s₁.setTop (mkF m 51 #[.val (.int ld), .val (.int c1), .val (.int c2), .val (.int c3), .val (.int room), .unset, .unset] [(.int (248 : Int32)), (.int ld)])) _
          refine XS.iand X0.here hx rfl (hb hby d2_51) rfl ?_
          show Steps p.tables e below (s₁.setTop (mkF m 52 #[.val (.int ld), .val (.int c1), .val (.int c2), .val (.int c3), .val (.int room), .unset, .unset] [(.int (ld &&& (248 : Int32)))])) _
          refine XS.sipush X0.here hx rfl (hb hby d2_52) ?_
          show Steps p.tables e below (s₁.setTop (mkF m 55 #[.val (.int ld), .val (.int c1), .val (.int c2), .val (.int c3), .val (.int room), .unset, .unset] [(.int (240 : Int32)), (.int (ld &&& (248 : Int32)))])) _
          exact kt
        by_cases hc55_48 : (ld &&& (248 : Int32)) = (240 : Int32)
        · have k49 : ∀ tg_, Steps p.tables e below (s₁.setTop (mkF m 70 #[.val (.int ld), .val (.int c1), .val (.int c2), .val (.int c3), .val (.int room), .val (.int (4 : Int32)), .unset] [(.int room), (.int (4 : Int32))])) tg_ → Steps p.tables e below (s₁.setTop (entryFrame m #[(.int ld), (.int c1), (.int c2), (.int c3), (.int room)] 7)) tg_ := by
            intro tg_ kt
            refine k47 tg_ ?_
            refine XS.icmpNo X0.here hx rfl (hb hby d2_55) rfl (teq hc55_48).2 ?_
            show Steps p.tables e below (s₁.setTop (mkF m 58 #[.val (.int ld), .val (.int c1), .val (.int c2), .val (.int c3), .val (.int room), .unset, .unset] [])) _
            refine XS.iconst X0.here hx rfl (hb hby d2_58) ?_
            show Steps p.tables e below (s₁.setTop (mkF m 59 #[.val (.int ld), .val (.int c1), .val (.int c2), .val (.int c3), .val (.int room), .unset, .unset] [(.int (4 : Int32))])) _
            refine XS.istore X0.here hx rfl (hb hby d2_59) rfl (l' := #[.val (.int ld), .val (.int c1), .val (.int c2), .val (.int c3), .val (.int room), .val (.int (4 : Int32)), .unset]) rfl ?_
            show Steps p.tables e below (s₁.setTop (mkF m 61 #[.val (.int ld), .val (.int c1), .val (.int c2), .val (.int c3), .val (.int room), .val (.int (4 : Int32)), .unset] [])) _
            refine XS.goto X0.here hx rfl (pc0 := 61) (pc' := 66) rfl (hb hby d2_61) (by decide) (by decide) ?_
            show Steps p.tables e below (s₁.setTop (mkF m 66 #[.val (.int ld), .val (.int c1), .val (.int c2), .val (.int c3), .val (.int room), .val (.int (4 : Int32)), .unset] [])) _
            refine XS.iload X0.here hx rfl (hb hby d2_66) rfl ?_
            show Steps p.tables e below (s₁.setTop (mkF m 68 #[.val (.int ld), .val (.int c1), .val (.int c2), .val (.int c3), .val (.int room), .val (.int (4 : Int32)), .unset] [(.int (4 : Int32))])) _
            refine XS.iload X0.here hx rfl (hb hby d2_68) rfl ?_
            show Steps p.tables e below (s₁.setTop (mkF m 70 #[.val (.int ld), .val (.int c1), .val (.int c2), .val (.int c3), .val (.int room), .val (.int (4 : Int32)), .unset] [(.int room), (.int (4 : Int32))])) _
            exact kt
          by_cases hc70_50 : room < (4 : Int32)
          · have k51 : ∀ tg_, Steps p.tables e below (s₁.setTop (mkF m 74 #[.val (.int ld), .val (.int c1), .val (.int c2), .val (.int c3), .val (.int room), .val (.int (4 : Int32)), .unset] [(.int (0 : Int32))])) tg_ → Steps p.tables e below (s₁.setTop (entryFrame m #[(.int ld), (.int c1), (.int c2), (.int c3), (.int room)] 7)) tg_ := by
              intro tg_ kt
              refine k49 tg_ ?_
              refine XS.icmpNo X0.here hx rfl (hb hby d2_70) rfl (tlt hc70_50).2.2.2 ?_
              show Steps p.tables e below (s₁.setTop (mkF m 73 #[.val (.int ld), .val (.int c1), .val (.int c2), .val (.int c3), .val (.int room), .val (.int (4 : Int32)), .unset] [])) _
              refine XS.iconst X0.here hx rfl (hb hby d2_73) ?_
              show Steps p.tables e below (s₁.setTop (mkF m 74 #[.val (.int ld), .val (.int c1), .val (.int c2), .val (.int c3), .val (.int room), .val (.int (4 : Int32)), .unset] [(.int (0 : Int32))])) _
              exact kt
            obtain ⟨fs, hr, hrun, hended, hW, hsame⟩ := X0.leave (v := some (.int (0 : Int32))) (fun h => by rw [Bd.returns] at h; cases h)
            refine ⟨_, _, k51 _ (retI X0 hx Bd.returns (hb hby d2_74) hr), hrun, hended, _, _, rfl, ?_, ⟨_, rfl⟩, hW, hsame.mono (by decide) (by decide)⟩
            show Q2 Z ld c1 c2 c3 room h0 n0 _ s₁.heap _
            rw [e0]
            exact ⟨(by rw [own_eq_own_exp]; rw [if_neg hc4_6, if_neg hc21_12, if_neg hc38_25, if_pos hc55_48, if_pos hc70_50]), N0, rfl⟩
          · obtain ⟨_, _, ⟨T52, L52, kc52, nc52⟩, -, X52, ⟨Lc52, hQ52, l52, y52, z52⟩, st52⟩ := Jvm.LawKit.callS X0 hx (y := (⟨"com/example/benzer/benzer/cli/Utf8SequenceSizePinLaw", "cont", "(I)Z"⟩ : MethodName)) hown (mvT hZ (hw _ (List.mem_of_getElem? (i := 9) rfl))) (mvT hZ (hw _ (List.mem_of_getElem? (i := 10) rfl))) (mvT hZ (hw _ (List.mem_of_getElem? (i := 7) rfl))) (mvT hZ (hw _ (List.mem_of_getElem? (i := 11) rfl))) (by decide) (backOf (W := 0) (rm3 l Z a0 hw [] c1 h0 n0 ) hZ (hw _ (List.mem_of_getElem? (i := 11) rfl)) (hw _ (List.mem_of_getElem? (i := 7) rfl)) (by decide) (by decide)) (g := (mkF m 84 #[.val (.int ld), .val (.int c1), .val (.int c2), .val (.int c3), .val (.int room), .val (.int (4 : Int32)), .unset] [(.int c1)])) rfl (by rw [hml]; rfl) (argsL := [(.int c1)]) (rest := []) (lenOf pd_2 rfl) rfl (by show 2 * 0 + _ ≤ _; exact Nat.le_of_eq rfl) (hb hby d2_84) (fun _ _ => ⟨rfl, e0, (by decide : 0 + 0 ≤ _), (by decide : 0 + 0 ≤ _)⟩)
            dsimp only [Pt.U, Pt.locs, Pt.cells, Pt.slots] at X52 l52 y52 z52 st52 hQ52
            rw [l52, y52, z52] at X52
            replace X52 : Stand p l e ({ frames := 1, cells := 0, slots := 0, locals := 12 } : Room) s m #[(.int ld), (.int c1), (.int c2), (.int c3), (.int room)] below meth c T52 _ 0 0 := X52
            obtain ⟨rfl, Nq52, eq52⟩ := hQ52
            have N52 := Fr.app N0 Nq52
            have k53 : ∀ tg_, Steps p.tables e below (T52.setTop (mkF m 87 #[.val (.int ld), .val (.int c1), .val (.int c2), .val (.int c3), .val (.int room), .val (.int (4 : Int32)), .unset] [(.int (own_cont c1))])) tg_ → Steps p.tables e below (s₁.setTop (entryFrame m #[(.int ld), (.int c1), (.int c2), (.int c3), (.int room)] 7)) tg_ := by
              intro tg_ kt
              refine k49 tg_ ?_
              refine XS.icmpYes X0.here hx rfl (pc0 := 70) (pc' := 75) rfl (hb hby d2_70) rfl (flt hc70_50).2.2.2 (by decide) (by decide) ?_
              show Steps p.tables e below (s₁.setTop (mkF m 75 #[.val (.int ld), .val (.int c1), .val (.int c2), .val (.int c3), .val (.int room), .val (.int (4 : Int32)), .unset] [])) _
              refine XS.iload X0.here hx rfl (hb hby d2_75) rfl ?_
              show Steps p.tables e below (s₁.setTop (mkF m 77 #[.val (.int ld), .val (.int c1), .val (.int c2), .val (.int c3), .val (.int room), .val (.int (4 : Int32)), .unset] [(.int (4 : Int32))])) _
              refine XS.iconst X0.here hx rfl (hb hby d2_77) ?_
              show Steps p.tables e below (s₁.setTop (mkF m 78 #[.val (.int ld), .val (.int c1), .val (.int c2), .val (.int c3), .val (.int room), .val (.int (4 : Int32)), .unset] [(.int (1 : Int32)), (.int (4 : Int32))])) _
              refine XS.icmpYes X0.here hx rfl (pc0 := 78) (pc' := 83) rfl (hb hby d2_78) rfl (feq (by decide : ¬ ((4 : Int32) = (1 : Int32)))).2 (by decide) (by decide) ?_
              show Steps p.tables e below (s₁.setTop (mkF m 83 #[.val (.int ld), .val (.int c1), .val (.int c2), .val (.int c3), .val (.int room), .val (.int (4 : Int32)), .unset] [])) _
              refine XS.iloadN X0.here hx rfl (hb hby d2_83) rfl ?_
              show Steps p.tables e below (s₁.setTop (mkF m 84 #[.val (.int ld), .val (.int c1), .val (.int c2), .val (.int c3), .val (.int room), .val (.int (4 : Int32)), .unset] [(.int c1)])) _
              refine st52 _ ?_
              show Steps p.tables e below (T52.setTop (mkF m 87 #[.val (.int ld), .val (.int c1), .val (.int c2), .val (.int c3), .val (.int room), .val (.int (4 : Int32)), .unset] [(.int (own_cont c1))])) _
              exact kt
            by_cases hc87_54 : (own_cont c1) = (0 : Int32)
            · have k55 : ∀ tg_, Steps p.tables e below (T52.setTop (mkF m 91 #[.val (.int ld), .val (.int c1), .val (.int c2), .val (.int c3), .val (.int room), .val (.int (4 : Int32)), .unset] [(.int (0 : Int32))])) tg_ → Steps p.tables e below (s₁.setTop (entryFrame m #[(.int ld), (.int c1), (.int c2), (.int c3), (.int room)] 7)) tg_ := by
                intro tg_ kt
                refine k53 tg_ ?_
                refine XS.ifNo X52.here hx rfl (hb hby d2_87) rfl ((if0 _ _).trans (teq hc87_54).2) ?_
                show Steps p.tables e below (T52.setTop (mkF m 90 #[.val (.int ld), .val (.int c1), .val (.int c2), .val (.int c3), .val (.int room), .val (.int (4 : Int32)), .unset] [])) _
                refine XS.iconst X52.here hx rfl (hb hby d2_90) ?_
                show Steps p.tables e below (T52.setTop (mkF m 91 #[.val (.int ld), .val (.int c1), .val (.int c2), .val (.int c3), .val (.int room), .val (.int (4 : Int32)), .unset] [(.int (0 : Int32))])) _
                exact kt
              obtain ⟨fs, hr, hrun, hended, hW, hsame⟩ := X52.leave (v := some (.int (0 : Int32))) (fun h => by rw [Bd.returns] at h; cases h)
              refine ⟨_, _, k55 _ (retI X52 hx Bd.returns (hb hby d2_91) hr), hrun, hended, _, _, rfl, ?_, ⟨_, rfl⟩, hW, hsame.mono (by decide) (by decide)⟩
              show Q2 Z ld c1 c2 c3 room h0 n0 _ T52.heap _
              rw [eq52]
              exact ⟨(by rw [own_eq_own_exp]; rw [if_neg hc4_6, if_neg hc21_12, if_neg hc38_25, if_pos hc55_48, if_neg hc70_50, if_pos hc87_54]), N52, rfl⟩
            · obtain ⟨_, _, ⟨T56, L56, kc56, nc56⟩, -, X56, ⟨Lc56, hQ56, l56, y56, z56⟩, st56⟩ := Jvm.LawKit.callS X52 hx (y := (⟨"com/example/benzer/benzer/cli/Utf8SequenceSizePinLaw", "cont", "(I)Z"⟩ : MethodName)) hown (mvT hZ (hw _ (List.mem_of_getElem? (i := 9) rfl))) (mvT hZ (hw _ (List.mem_of_getElem? (i := 10) rfl))) (mvT hZ (hw _ (List.mem_of_getElem? (i := 7) rfl))) (mvT hZ (hw _ (List.mem_of_getElem? (i := 11) rfl))) (by decide) (backOf (W := 0) (rm3 l Z a0 hw [] c2 h0 n0 ) hZ (hw _ (List.mem_of_getElem? (i := 11) rfl)) (hw _ (List.mem_of_getElem? (i := 7) rfl)) (by decide) (by decide)) (g := (mkF m 127 #[.val (.int ld), .val (.int c1), .val (.int c2), .val (.int c3), .val (.int room), .val (.int (4 : Int32)), .unset] [(.int c2)])) rfl (by rw [hml]; rfl) (argsL := [(.int c2)]) (rest := []) (lenOf pd_2 rfl) rfl (by show 2 * 0 + _ ≤ _; exact Nat.le_of_eq rfl) (hb hby d2_127) (fun _ _ => ⟨rfl, eq52, (by decide : 0 + 0 ≤ _), (by decide : 0 + 0 ≤ _)⟩)
              dsimp only [Pt.U, Pt.locs, Pt.cells, Pt.slots] at X56 l56 y56 z56 st56 hQ56
              rw [l56, y56, z56] at X56
              replace X56 : Stand p l e ({ frames := 1, cells := 0, slots := 0, locals := 12 } : Room) s m #[(.int ld), (.int c1), (.int c2), (.int c3), (.int room)] below meth c T56 _ 0 0 := X56
              obtain ⟨rfl, Nq56, eq56⟩ := hQ56
              have N56 := Fr.app N52 Nq56
              have k57 : ∀ tg_, Steps p.tables e below (T56.setTop (mkF m 130 #[.val (.int ld), .val (.int c1), .val (.int c2), .val (.int c3), .val (.int room), .val (.int (4 : Int32)), .unset] [(.int (own_cont c2))])) tg_ → Steps p.tables e below (s₁.setTop (entryFrame m #[(.int ld), (.int c1), (.int c2), (.int c3), (.int room)] 7)) tg_ := by
                intro tg_ kt
                refine k53 tg_ ?_
                refine XS.ifYes X52.here hx rfl (pc0 := 87) (pc' := 92) rfl (hb hby d2_87) rfl ((if0 _ _).trans (feq hc87_54).2) (by decide) (by decide) ?_
                show Steps p.tables e below (T52.setTop (mkF m 92 #[.val (.int ld), .val (.int c1), .val (.int c2), .val (.int c3), .val (.int room), .val (.int (4 : Int32)), .unset] [])) _
                refine XS.iload X52.here hx rfl (hb hby d2_92) rfl ?_
                show Steps p.tables e below (T52.setTop (mkF m 94 #[.val (.int ld), .val (.int c1), .val (.int c2), .val (.int c3), .val (.int room), .val (.int (4 : Int32)), .unset] [(.int (4 : Int32))])) _
                refine XS.iconst X52.here hx rfl (hb hby d2_94) ?_
                show Steps p.tables e below (T52.setTop (mkF m 95 #[.val (.int ld), .val (.int c1), .val (.int c2), .val (.int c3), .val (.int room), .val (.int (4 : Int32)), .unset] [(.int (2 : Int32)), (.int (4 : Int32))])) _
                refine XS.icmpYes X52.here hx rfl (pc0 := 95) (pc' := 126) rfl (hb hby d2_95) rfl (feq (by decide : ¬ ((4 : Int32) = (2 : Int32)))).2 (by decide) (by decide) ?_
                show Steps p.tables e below (T52.setTop (mkF m 126 #[.val (.int ld), .val (.int c1), .val (.int c2), .val (.int c3), .val (.int room), .val (.int (4 : Int32)), .unset] [])) _
                refine XS.iloadN X52.here hx rfl (hb hby d2_126) rfl ?_
                show Steps p.tables e below (T52.setTop (mkF m 127 #[.val (.int ld), .val (.int c1), .val (.int c2), .val (.int c3), .val (.int room), .val (.int (4 : Int32)), .unset] [(.int c2)])) _
                refine st56 _ ?_
                show Steps p.tables e below (T56.setTop (mkF m 130 #[.val (.int ld), .val (.int c1), .val (.int c2), .val (.int c3), .val (.int room), .val (.int (4 : Int32)), .unset] [(.int (own_cont c2))])) _
                exact kt
              by_cases hc130_58 : (own_cont c2) = (0 : Int32)
              · have k59 : ∀ tg_, Steps p.tables e below (T56.setTop (mkF m 134 #[.val (.int ld), .val (.int c1), .val (.int c2), .val (.int c3), .val (.int room), .val (.int (4 : Int32)), .unset] [(.int (0 : Int32))])) tg_ → Steps p.tables e below (s₁.setTop (entryFrame m #[(.int ld), (.int c1), (.int c2), (.int c3), (.int room)] 7)) tg_ := by
                  intro tg_ kt
                  refine k57 tg_ ?_
                  refine XS.ifNo X56.here hx rfl (hb hby d2_130) rfl ((if0 _ _).trans (teq hc130_58).2) ?_
                  show Steps p.tables e below (T56.setTop (mkF m 133 #[.val (.int ld), .val (.int c1), .val (.int c2), .val (.int c3), .val (.int room), .val (.int (4 : Int32)), .unset] [])) _
                  refine XS.iconst X56.here hx rfl (hb hby d2_133) ?_
                  show Steps p.tables e below (T56.setTop (mkF m 134 #[.val (.int ld), .val (.int c1), .val (.int c2), .val (.int c3), .val (.int room), .val (.int (4 : Int32)), .unset] [(.int (0 : Int32))])) _
                  exact kt
                obtain ⟨fs, hr, hrun, hended, hW, hsame⟩ := X56.leave (v := some (.int (0 : Int32))) (fun h => by rw [Bd.returns] at h; cases h)
                refine ⟨_, _, k59 _ (retI X56 hx Bd.returns (hb hby d2_134) hr), hrun, hended, _, _, rfl, ?_, ⟨_, rfl⟩, hW, hsame.mono (by decide) (by decide)⟩
                show Q2 Z ld c1 c2 c3 room h0 n0 _ T56.heap _
                rw [eq56]
                exact ⟨(by rw [own_eq_own_exp]; rw [if_neg hc4_6, if_neg hc21_12, if_neg hc38_25, if_pos hc55_48, if_neg hc70_50, if_neg hc87_54, if_pos hc130_58]), N56, rfl⟩
              · obtain ⟨_, _, ⟨T60, L60, kc60, nc60⟩, -, X60, ⟨Lc60, hQ60, l60, y60, z60⟩, st60⟩ := Jvm.LawKit.callS X56 hx (y := (⟨"com/example/benzer/benzer/cli/Utf8SequenceSizePinLaw", "cont", "(I)Z"⟩ : MethodName)) hown (mvT hZ (hw _ (List.mem_of_getElem? (i := 9) rfl))) (mvT hZ (hw _ (List.mem_of_getElem? (i := 10) rfl))) (mvT hZ (hw _ (List.mem_of_getElem? (i := 7) rfl))) (mvT hZ (hw _ (List.mem_of_getElem? (i := 11) rfl))) (by decide) (backOf (W := 0) (rm3 l Z a0 hw [] c3 h0 n0 ) hZ (hw _ (List.mem_of_getElem? (i := 11) rfl)) (hw _ (List.mem_of_getElem? (i := 7) rfl)) (by decide) (by decide)) (g := (mkF m 192 #[.val (.int ld), .val (.int c1), .val (.int c2), .val (.int c3), .val (.int room), .val (.int (4 : Int32)), .unset] [(.int c3)])) rfl (by rw [hml]; rfl) (argsL := [(.int c3)]) (rest := []) (lenOf pd_2 rfl) rfl (by show 2 * 0 + _ ≤ _; exact Nat.le_of_eq rfl) (hb hby d2_192) (fun _ _ => ⟨rfl, eq56, (by decide : 0 + 0 ≤ _), (by decide : 0 + 0 ≤ _)⟩)
                dsimp only [Pt.U, Pt.locs, Pt.cells, Pt.slots] at X60 l60 y60 z60 st60 hQ60
                rw [l60, y60, z60] at X60
                replace X60 : Stand p l e ({ frames := 1, cells := 0, slots := 0, locals := 12 } : Room) s m #[(.int ld), (.int c1), (.int c2), (.int c3), (.int room)] below meth c T60 _ 0 0 := X60
                obtain ⟨rfl, Nq60, eq60⟩ := hQ60
                have N60 := Fr.app N56 Nq60
                have k61 : ∀ tg_, Steps p.tables e below (T60.setTop (mkF m 195 #[.val (.int ld), .val (.int c1), .val (.int c2), .val (.int c3), .val (.int room), .val (.int (4 : Int32)), .unset] [(.int (own_cont c3))])) tg_ → Steps p.tables e below (s₁.setTop (entryFrame m #[(.int ld), (.int c1), (.int c2), (.int c3), (.int room)] 7)) tg_ := by
                  intro tg_ kt
                  refine k57 tg_ ?_
                  refine XS.ifYes X56.here hx rfl (pc0 := 130) (pc' := 135) rfl (hb hby d2_130) rfl ((if0 _ _).trans (feq hc130_58).2) (by decide) (by decide) ?_
                  show Steps p.tables e below (T56.setTop (mkF m 135 #[.val (.int ld), .val (.int c1), .val (.int c2), .val (.int c3), .val (.int room), .val (.int (4 : Int32)), .unset] [])) _
                  refine XS.iload X56.here hx rfl (hb hby d2_135) rfl ?_
                  show Steps p.tables e below (T56.setTop (mkF m 137 #[.val (.int ld), .val (.int c1), .val (.int c2), .val (.int c3), .val (.int room), .val (.int (4 : Int32)), .unset] [(.int (4 : Int32))])) _
                  refine XS.iconst X56.here hx rfl (hb hby d2_137) ?_
                  show Steps p.tables e below (T56.setTop (mkF m 138 #[.val (.int ld), .val (.int c1), .val (.int c2), .val (.int c3), .val (.int room), .val (.int (4 : Int32)), .unset] [(.int (3 : Int32)), (.int (4 : Int32))])) _
                  refine XS.icmpYes X56.here hx rfl (pc0 := 138) (pc' := 191) rfl (hb hby d2_138) rfl (feq (by decide : ¬ ((4 : Int32) = (3 : Int32)))).2 (by decide) (by decide) ?_
                  show Steps p.tables e below (T56.setTop (mkF m 191 #[.val (.int ld), .val (.int c1), .val (.int c2), .val (.int c3), .val (.int room), .val (.int (4 : Int32)), .unset] [])) _
                  refine XS.iloadN X56.here hx rfl (hb hby d2_191) rfl ?_
                  show Steps p.tables e below (T56.setTop (mkF m 192 #[.val (.int ld), .val (.int c1), .val (.int c2), .val (.int c3), .val (.int room), .val (.int (4 : Int32)), .unset] [(.int c3)])) _
                  refine st60 _ ?_
                  show Steps p.tables e below (T60.setTop (mkF m 195 #[.val (.int ld), .val (.int c1), .val (.int c2), .val (.int c3), .val (.int room), .val (.int (4 : Int32)), .unset] [(.int (own_cont c3))])) _
                  exact kt
                by_cases hc195_62 : (own_cont c3) = (0 : Int32)
                · have k63 : ∀ tg_, Steps p.tables e below (T60.setTop (mkF m 199 #[.val (.int ld), .val (.int c1), .val (.int c2), .val (.int c3), .val (.int room), .val (.int (4 : Int32)), .unset] [(.int (0 : Int32))])) tg_ → Steps p.tables e below (s₁.setTop (entryFrame m #[(.int ld), (.int c1), (.int c2), (.int c3), (.int room)] 7)) tg_ := by
                    intro tg_ kt
                    refine k61 tg_ ?_
                    refine XS.ifNo X60.here hx rfl (hb hby d2_195) rfl ((if0 _ _).trans (teq hc195_62).2) ?_
                    show Steps p.tables e below (T60.setTop (mkF m 198 #[.val (.int ld), .val (.int c1), .val (.int c2), .val (.int c3), .val (.int room), .val (.int (4 : Int32)), .unset] [])) _
                    refine XS.iconst X60.here hx rfl (hb hby d2_198) ?_
                    show Steps p.tables e below (T60.setTop (mkF m 199 #[.val (.int ld), .val (.int c1), .val (.int c2), .val (.int c3), .val (.int room), .val (.int (4 : Int32)), .unset] [(.int (0 : Int32))])) _
                    exact kt
                  obtain ⟨fs, hr, hrun, hended, hW, hsame⟩ := X60.leave (v := some (.int (0 : Int32))) (fun h => by rw [Bd.returns] at h; cases h)
                  refine ⟨_, _, k63 _ (retI X60 hx Bd.returns (hb hby d2_199) hr), hrun, hended, _, _, rfl, ?_, ⟨_, rfl⟩, hW, hsame.mono (by decide) (by decide)⟩
                  show Q2 Z ld c1 c2 c3 room h0 n0 _ T60.heap _
                  rw [eq60]
                  exact ⟨(by rw [own_eq_own_exp]; rw [if_neg hc4_6, if_neg hc21_12, if_neg hc38_25, if_pos hc55_48, if_neg hc70_50, if_neg hc87_54, if_neg hc130_58, if_pos hc195_62]), N60, rfl⟩
                · have k64 : ∀ tg_, Steps p.tables e below (T60.setTop (mkF m 234 #[.val (.int ld), .val (.int c1), .val (.int c2), .val (.int c3), .val (.int room), .val (.int (4 : Int32)), .val (.int (((((ld &&& (7 : Int32)) <<< ((18 : Int32) &&& 31)) ||| ((c1 &&& (63 : Int32)) <<< ((12 : Int32) &&& 31))) ||| ((c2 &&& (63 : Int32)) <<< ((6 : Int32) &&& 31))) ||| (c3 &&& (63 : Int32))))] [(.int (65536 : Int32)), (.int (((((ld &&& (7 : Int32)) <<< ((18 : Int32) &&& 31)) ||| ((c1 &&& (63 : Int32)) <<< ((12 : Int32) &&& 31))) ||| ((c2 &&& (63 : Int32)) <<< ((6 : Int32) &&& 31))) ||| (c3 &&& (63 : Int32))))])) tg_ → Steps p.tables e below (s₁.setTop (entryFrame m #[(.int ld), (.int c1), (.int c2), (.int c3), (.int room)] 7)) tg_ := by
                    intro tg_ kt
                    refine k61 tg_ ?_
                    refine XS.ifYes X60.here hx rfl (pc0 := 195) (pc' := 200) rfl (hb hby d2_195) rfl ((if0 _ _).trans (feq hc195_62).2) (by decide) (by decide) ?_
                    show Steps p.tables e below (T60.setTop (mkF m 200 #[.val (.int ld), .val (.int c1), .val (.int c2), .val (.int c3), .val (.int room), .val (.int (4 : Int32)), .unset] [])) _
                    refine XS.iloadN X60.here hx rfl (hb hby d2_200) rfl ?_
                    show Steps p.tables e below (T60.setTop (mkF m 201 #[.val (.int ld), .val (.int c1), .val (.int c2), .val (.int c3), .val (.int room), .val (.int (4 : Int32)), .unset] [(.int ld)])) _
                    refine XS.bipush X60.here hx rfl (hb hby d2_201) ?_
                    show Steps p.tables e below (T60.setTop (mkF m 203 #[.val (.int ld), .val (.int c1), .val (.int c2), .val (.int c3), .val (.int room), .val (.int (4 : Int32)), .unset] [(.int (7 : Int32)), (.int ld)])) _
                    refine XS.iand X60.here hx rfl (hb hby d2_203) rfl ?_
                    show Steps p.tables e below (T60.setTop (mkF m 204 #[.val (.int ld), .val (.int c1), .val (.int c2), .val (.int c3), .val (.int room), .val (.int (4 : Int32)), .unset] [(.int (ld &&& (7 : Int32)))])) _
                    refine XS.bipush X60.here hx rfl (hb hby d2_204) ?_
                    show Steps p.tables e below (T60.setTop (mkF m 206 #[.val (.int ld), .val (.int c1), .val (.int c2), .val (.int c3), .val (.int room), .val (.int (4 : Int32)), .unset] [(.int (18 : Int32)), (.int (ld &&& (7 : Int32)))])) _
                    refine XS.ishl X60.here hx rfl (hb hby d2_206) rfl ?_
                    show Steps p.tables e below (T60.setTop (mkF m 207 #[.val (.int ld), .val (.int c1), .val (.int c2), .val (.int c3), .val (.int room), .val (.int (4 : Int32)), .unset] [(.int ((ld &&& (7 : Int32)) <<< ((18 : Int32) &&& 31)))])) _
                    refine XS.iloadN X60.here hx rfl (hb hby d2_207) rfl ?_
                    show Steps p.tables e below (T60.setTop (mkF m 208 #[.val (.int ld), .val (.int c1), .val (.int c2), .val (.int c3), .val (.int room), .val (.int (4 : Int32)), .unset] [(.int c1), (.int ((ld &&& (7 : Int32)) <<< ((18 : Int32) &&& 31)))])) _
                    refine XS.bipush X60.here hx rfl (hb hby d2_208) ?_
                    show Steps p.tables e below (T60.setTop (mkF m 210 #[.val (.int ld), .val (.int c1), .val (.int c2), .val (.int c3), .val (.int room), .val (.int (4 : Int32)), .unset] [(.int (63 : Int32)), (.int c1), (.int ((ld &&& (7 : Int32)) <<< ((18 : Int32) &&& 31)))])) _
                    refine XS.iand X60.here hx rfl (hb hby d2_210) rfl ?_
                    show Steps p.tables e below (T60.setTop (mkF m 211 #[.val (.int ld), .val (.int c1), .val (.int c2), .val (.int c3), .val (.int room), .val (.int (4 : Int32)), .unset] [(.int (c1 &&& (63 : Int32))), (.int ((ld &&& (7 : Int32)) <<< ((18 : Int32) &&& 31)))])) _
                    refine XS.bipush X60.here hx rfl (hb hby d2_211) ?_
                    show Steps p.tables e below (T60.setTop (mkF m 213 #[.val (.int ld), .val (.int c1), .val (.int c2), .val (.int c3), .val (.int room), .val (.int (4 : Int32)), .unset] [(.int (12 : Int32)), (.int (c1 &&& (63 : Int32))), (.int ((ld &&& (7 : Int32)) <<< ((18 : Int32) &&& 31)))])) _
                    refine XS.ishl X60.here hx rfl (hb hby d2_213) rfl ?_
                    show Steps p.tables e below (T60.setTop (mkF m 214 #[.val (.int ld), .val (.int c1), .val (.int c2), .val (.int c3), .val (.int room), .val (.int (4 : Int32)), .unset] [(.int ((c1 &&& (63 : Int32)) <<< ((12 : Int32) &&& 31))), (.int ((ld &&& (7 : Int32)) <<< ((18 : Int32) &&& 31)))])) _
                    refine XS.ior X60.here hx rfl (hb hby d2_214) rfl ?_
                    show Steps p.tables e below (T60.setTop (mkF m 215 #[.val (.int ld), .val (.int c1), .val (.int c2), .val (.int c3), .val (.int room), .val (.int (4 : Int32)), .unset] [(.int (((ld &&& (7 : Int32)) <<< ((18 : Int32) &&& 31)) ||| ((c1 &&& (63 : Int32)) <<< ((12 : Int32) &&& 31))))])) _
                    refine XS.iloadN X60.here hx rfl (hb hby d2_215) rfl ?_
                    show Steps p.tables e below (T60.setTop (mkF m 216 #[.val (.int ld), .val (.int c1), .val (.int c2), .val (.int c3), .val (.int room), .val (.int (4 : Int32)), .unset] [(.int c2), (.int (((ld &&& (7 : Int32)) <<< ((18 : Int32) &&& 31)) ||| ((c1 &&& (63 : Int32)) <<< ((12 : Int32) &&& 31))))])) _
                    refine XS.bipush X60.here hx rfl (hb hby d2_216) ?_
                    show Steps p.tables e below (T60.setTop (mkF m 218 #[.val (.int ld), .val (.int c1), .val (.int c2), .val (.int c3), .val (.int room), .val (.int (4 : Int32)), .unset] [(.int (63 : Int32)), (.int c2), (.int (((ld &&& (7 : Int32)) <<< ((18 : Int32) &&& 31)) ||| ((c1 &&& (63 : Int32)) <<< ((12 : Int32) &&& 31))))])) _
                    refine XS.iand X60.here hx rfl (hb hby d2_218) rfl ?_
                    show Steps p.tables e below (T60.setTop (mkF m 219 #[.val (.int ld), .val (.int c1), .val (.int c2), .val (.int c3), .val (.int room), .val (.int (4 : Int32)), .unset] [(.int (c2 &&& (63 : Int32))), (.int (((ld &&& (7 : Int32)) <<< ((18 : Int32) &&& 31)) ||| ((c1 &&& (63 : Int32)) <<< ((12 : Int32) &&& 31))))])) _
                    refine XS.bipush X60.here hx rfl (hb hby d2_219) ?_
                    show Steps p.tables e below (T60.setTop (mkF m 221 #[.val (.int ld), .val (.int c1), .val (.int c2), .val (.int c3), .val (.int room), .val (.int (4 : Int32)), .unset] [(.int (6 : Int32)), (.int (c2 &&& (63 : Int32))), (.int (((ld &&& (7 : Int32)) <<< ((18 : Int32) &&& 31)) ||| ((c1 &&& (63 : Int32)) <<< ((12 : Int32) &&& 31))))])) _
                    refine XS.ishl X60.here hx rfl (hb hby d2_221) rfl ?_
                    show Steps p.tables e below (T60.setTop (mkF m 222 #[.val (.int ld), .val (.int c1), .val (.int c2), .val (.int c3), .val (.int room), .val (.int (4 : Int32)), .unset] [(.int ((c2 &&& (63 : Int32)) <<< ((6 : Int32) &&& 31))), (.int (((ld &&& (7 : Int32)) <<< ((18 : Int32) &&& 31)) ||| ((c1 &&& (63 : Int32)) <<< ((12 : Int32) &&& 31))))])) _
                    refine XS.ior X60.here hx rfl (hb hby d2_222) rfl ?_
                    show Steps p.tables e below (T60.setTop (mkF m 223 #[.val (.int ld), .val (.int c1), .val (.int c2), .val (.int c3), .val (.int room), .val (.int (4 : Int32)), .unset] [(.int ((((ld &&& (7 : Int32)) <<< ((18 : Int32) &&& 31)) ||| ((c1 &&& (63 : Int32)) <<< ((12 : Int32) &&& 31))) ||| ((c2 &&& (63 : Int32)) <<< ((6 : Int32) &&& 31))))])) _
                    refine XS.iloadN X60.here hx rfl (hb hby d2_223) rfl ?_
                    show Steps p.tables e below (T60.setTop (mkF m 224 #[.val (.int ld), .val (.int c1), .val (.int c2), .val (.int c3), .val (.int room), .val (.int (4 : Int32)), .unset] [(.int c3), (.int ((((ld &&& (7 : Int32)) <<< ((18 : Int32) &&& 31)) ||| ((c1 &&& (63 : Int32)) <<< ((12 : Int32) &&& 31))) ||| ((c2 &&& (63 : Int32)) <<< ((6 : Int32) &&& 31))))])) _
                    refine XS.bipush X60.here hx rfl (hb hby d2_224) ?_
                    show Steps p.tables e below (T60.setTop (mkF m 226 #[.val (.int ld), .val (.int c1), .val (.int c2), .val (.int c3), .val (.int room), .val (.int (4 : Int32)), .unset] [(.int (63 : Int32)), (.int c3), (.int ((((ld &&& (7 : Int32)) <<< ((18 : Int32) &&& 31)) ||| ((c1 &&& (63 : Int32)) <<< ((12 : Int32) &&& 31))) ||| ((c2 &&& (63 : Int32)) <<< ((6 : Int32) &&& 31))))])) _
                    refine XS.iand X60.here hx rfl (hb hby d2_226) rfl ?_
                    show Steps p.tables e below (T60.setTop (mkF m 227 #[.val (.int ld), .val (.int c1), .val (.int c2), .val (.int c3), .val (.int room), .val (.int (4 : Int32)), .unset] [(.int (c3 &&& (63 : Int32))), (.int ((((ld &&& (7 : Int32)) <<< ((18 : Int32) &&& 31)) ||| ((c1 &&& (63 : Int32)) <<< ((12 : Int32) &&& 31))) ||| ((c2 &&& (63 : Int32)) <<< ((6 : Int32) &&& 31))))])) _
                    refine XS.ior X60.here hx rfl (hb hby d2_227) rfl ?_
                    show Steps p.tables e below (T60.setTop (mkF m 228 #[.val (.int ld), .val (.int c1), .val (.int c2), .val (.int c3), .val (.int room), .val (.int (4 : Int32)), .unset] [(.int (((((ld &&& (7 : Int32)) <<< ((18 : Int32) &&& 31)) ||| ((c1 &&& (63 : Int32)) <<< ((12 : Int32) &&& 31))) ||| ((c2 &&& (63 : Int32)) <<< ((6 : Int32) &&& 31))) ||| (c3 &&& (63 : Int32))))])) _
                    refine XS.istore X60.here hx rfl (hb hby d2_228) rfl (l' := #[.val (.int ld), .val (.int c1), .val (.int c2), .val (.int c3), .val (.int room), .val (.int (4 : Int32)), .val (.int (((((ld &&& (7 : Int32)) <<< ((18 : Int32) &&& 31)) ||| ((c1 &&& (63 : Int32)) <<< ((12 : Int32) &&& 31))) ||| ((c2 &&& (63 : Int32)) <<< ((6 : Int32) &&& 31))) ||| (c3 &&& (63 : Int32))))]) rfl ?_
                    show Steps p.tables e below (T60.setTop (mkF m 230 #[.val (.int ld), .val (.int c1), .val (.int c2), .val (.int c3), .val (.int room), .val (.int (4 : Int32)), .val (.int (((((ld &&& (7 : Int32)) <<< ((18 : Int32) &&& 31)) ||| ((c1 &&& (63 : Int32)) <<< ((12 : Int32) &&& 31))) ||| ((c2 &&& (63 : Int32)) <<< ((6 : Int32) &&& 31))) ||| (c3 &&& (63 : Int32))))] [])) _
                    refine XS.iload X60.here hx rfl (hb hby d2_230) rfl ?_
                    show Steps p.tables e below (T60.setTop (mkF m 232 #[.val (.int ld), .val (.int c1), .val (.int c2), .val (.int c3), .val (.int room), .val (.int (4 : Int32)), .val (.int (((((ld &&& (7 : Int32)) <<< ((18 : Int32) &&& 31)) ||| ((c1 &&& (63 : Int32)) <<< ((12 : Int32) &&& 31))) ||| ((c2 &&& (63 : Int32)) <<< ((6 : Int32) &&& 31))) ||| (c3 &&& (63 : Int32))))] [(.int (((((ld &&& (7 : Int32)) <<< ((18 : Int32) &&& 31)) ||| ((c1 &&& (63 : Int32)) <<< ((12 : Int32) &&& 31))) ||| ((c2 &&& (63 : Int32)) <<< ((6 : Int32) &&& 31))) ||| (c3 &&& (63 : Int32))))])) _
                    refine X60.ldcInt hx hown (mvT hZ (hw _ (List.mem_of_getElem? (i := 14) rfl))) (g := (mkF m 232 #[.val (.int ld), .val (.int c1), .val (.int c2), .val (.int c3), .val (.int room), .val (.int (4 : Int32)), .val (.int (((((ld &&& (7 : Int32)) <<< ((18 : Int32) &&& 31)) ||| ((c1 &&& (63 : Int32)) <<< ((12 : Int32) &&& 31))) ||| ((c2 &&& (63 : Int32)) <<< ((6 : Int32) &&& 31))) ||| (c3 &&& (63 : Int32))))] [(.int (((((ld &&& (7 : Int32)) <<< ((18 : Int32) &&& 31)) ||| ((c1 &&& (63 : Int32)) <<< ((12 : Int32) &&& 31))) ||| ((c2 &&& (63 : Int32)) <<< ((6 : Int32) &&& 31))) ||| (c3 &&& (63 : Int32))))])) rfl (hb hby d2_232) _ ?_
                    show Steps p.tables e below (T60.setTop (mkF m 234 #[.val (.int ld), .val (.int c1), .val (.int c2), .val (.int c3), .val (.int room), .val (.int (4 : Int32)), .val (.int (((((ld &&& (7 : Int32)) <<< ((18 : Int32) &&& 31)) ||| ((c1 &&& (63 : Int32)) <<< ((12 : Int32) &&& 31))) ||| ((c2 &&& (63 : Int32)) <<< ((6 : Int32) &&& 31))) ||| (c3 &&& (63 : Int32))))] [(.int (65536 : Int32)), (.int (((((ld &&& (7 : Int32)) <<< ((18 : Int32) &&& 31)) ||| ((c1 &&& (63 : Int32)) <<< ((12 : Int32) &&& 31))) ||| ((c2 &&& (63 : Int32)) <<< ((6 : Int32) &&& 31))) ||| (c3 &&& (63 : Int32))))])) _
                    exact kt
                  by_cases hc234_65 : (((((ld &&& (7 : Int32)) <<< ((18 : Int32) &&& 31)) ||| ((c1 &&& (63 : Int32)) <<< ((12 : Int32) &&& 31))) ||| ((c2 &&& (63 : Int32)) <<< ((6 : Int32) &&& 31))) ||| (c3 &&& (63 : Int32))) < (65536 : Int32)
                  · have k66 : ∀ tg_, Steps p.tables e below (T60.setTop (mkF m 249 #[.val (.int ld), .val (.int c1), .val (.int c2), .val (.int c3), .val (.int room), .val (.int (4 : Int32)), .val (.int (((((ld &&& (7 : Int32)) <<< ((18 : Int32) &&& 31)) ||| ((c1 &&& (63 : Int32)) <<< ((12 : Int32) &&& 31))) ||| ((c2 &&& (63 : Int32)) <<< ((6 : Int32) &&& 31))) ||| (c3 &&& (63 : Int32))))] [(.int (0 : Int32))])) tg_ → Steps p.tables e below (s₁.setTop (entryFrame m #[(.int ld), (.int c1), (.int c2), (.int c3), (.int room)] 7)) tg_ := by
                      intro tg_ kt
                      refine k64 tg_ ?_
                      refine XS.icmpYes X60.here hx rfl (pc0 := 234) (pc' := 248) rfl (hb hby d2_234) rfl (tlt hc234_65).1 (by decide) (by decide) ?_
                      show Steps p.tables e below (T60.setTop (mkF m 248 #[.val (.int ld), .val (.int c1), .val (.int c2), .val (.int c3), .val (.int room), .val (.int (4 : Int32)), .val (.int (((((ld &&& (7 : Int32)) <<< ((18 : Int32) &&& 31)) ||| ((c1 &&& (63 : Int32)) <<< ((12 : Int32) &&& 31))) ||| ((c2 &&& (63 : Int32)) <<< ((6 : Int32) &&& 31))) ||| (c3 &&& (63 : Int32))))] [])) _
                      refine XS.iconst X60.here hx rfl (hb hby d2_248) ?_
                      show Steps p.tables e below (T60.setTop (mkF m 249 #[.val (.int ld), .val (.int c1), .val (.int c2), .val (.int c3), .val (.int room), .val (.int (4 : Int32)), .val (.int (((((ld &&& (7 : Int32)) <<< ((18 : Int32) &&& 31)) ||| ((c1 &&& (63 : Int32)) <<< ((12 : Int32) &&& 31))) ||| ((c2 &&& (63 : Int32)) <<< ((6 : Int32) &&& 31))) ||| (c3 &&& (63 : Int32))))] [(.int (0 : Int32))])) _
                      exact kt
                    obtain ⟨fs, hr, hrun, hended, hW, hsame⟩ := X60.leave (v := some (.int (0 : Int32))) (fun h => by rw [Bd.returns] at h; cases h)
                    refine ⟨_, _, k66 _ (retI X60 hx Bd.returns (hb hby d2_249) hr), hrun, hended, _, _, rfl, ?_, ⟨_, rfl⟩, hW, hsame.mono (by decide) (by decide)⟩
                    show Q2 Z ld c1 c2 c3 room h0 n0 _ T60.heap _
                    rw [eq60]
                    exact ⟨(by rw [own_eq_own_exp]; rw [if_neg hc4_6, if_neg hc21_12, if_neg hc38_25, if_pos hc55_48, if_neg hc70_50, if_neg hc87_54, if_neg hc130_58, if_neg hc195_62, if_pos hc234_65]), N60, rfl⟩
                  · have k67 : ∀ tg_, Steps p.tables e below (T60.setTop (mkF m 241 #[.val (.int ld), .val (.int c1), .val (.int c2), .val (.int c3), .val (.int room), .val (.int (4 : Int32)), .val (.int (((((ld &&& (7 : Int32)) <<< ((18 : Int32) &&& 31)) ||| ((c1 &&& (63 : Int32)) <<< ((12 : Int32) &&& 31))) ||| ((c2 &&& (63 : Int32)) <<< ((6 : Int32) &&& 31))) ||| (c3 &&& (63 : Int32))))] [(.int (1114111 : Int32)), (.int (((((ld &&& (7 : Int32)) <<< ((18 : Int32) &&& 31)) ||| ((c1 &&& (63 : Int32)) <<< ((12 : Int32) &&& 31))) ||| ((c2 &&& (63 : Int32)) <<< ((6 : Int32) &&& 31))) ||| (c3 &&& (63 : Int32))))])) tg_ → Steps p.tables e below (s₁.setTop (entryFrame m #[(.int ld), (.int c1), (.int c2), (.int c3), (.int room)] 7)) tg_ := by
                      intro tg_ kt
                      refine k64 tg_ ?_
                      refine XS.icmpNo X60.here hx rfl (hb hby d2_234) rfl (flt hc234_65).1 ?_
                      show Steps p.tables e below (T60.setTop (mkF m 237 #[.val (.int ld), .val (.int c1), .val (.int c2), .val (.int c3), .val (.int room), .val (.int (4 : Int32)), .val (.int (((((ld &&& (7 : Int32)) <<< ((18 : Int32) &&& 31)) ||| ((c1 &&& (63 : Int32)) <<< ((12 : Int32) &&& 31))) ||| ((c2 &&& (63 : Int32)) <<< ((6 : Int32) &&& 31))) ||| (c3 &&& (63 : Int32))))] [])) _
                      refine XS.iload X60.here hx rfl (hb hby d2_237) rfl ?_
                      show Steps p.tables e below (T60.setTop (mkF m 239 #[.val (.int ld), .val (.int c1), .val (.int c2), .val (.int c3), .val (.int room), .val (.int (4 : Int32)), .val (.int (((((ld &&& (7 : Int32)) <<< ((18 : Int32) &&& 31)) ||| ((c1 &&& (63 : Int32)) <<< ((12 : Int32) &&& 31))) ||| ((c2 &&& (63 : Int32)) <<< ((6 : Int32) &&& 31))) ||| (c3 &&& (63 : Int32))))] [(.int (((((ld &&& (7 : Int32)) <<< ((18 : Int32) &&& 31)) ||| ((c1 &&& (63 : Int32)) <<< ((12 : Int32) &&& 31))) ||| ((c2 &&& (63 : Int32)) <<< ((6 : Int32) &&& 31))) ||| (c3 &&& (63 : Int32))))])) _
                      refine X60.ldcInt hx hown (mvT hZ (hw _ (List.mem_of_getElem? (i := 15) rfl))) (g := (mkF m 239 #[.val (.int ld), .val (.int c1), .val (.int c2), .val (.int c3), .val (.int room), .val (.int (4 : Int32)), .val (.int (((((ld &&& (7 : Int32)) <<< ((18 : Int32) &&& 31)) ||| ((c1 &&& (63 : Int32)) <<< ((12 : Int32) &&& 31))) ||| ((c2 &&& (63 : Int32)) <<< ((6 : Int32) &&& 31))) ||| (c3 &&& (63 : Int32))))] [(.int (((((ld &&& (7 : Int32)) <<< ((18 : Int32) &&& 31)) ||| ((c1 &&& (63 : Int32)) <<< ((12 : Int32) &&& 31))) ||| ((c2 &&& (63 : Int32)) <<< ((6 : Int32) &&& 31))) ||| (c3 &&& (63 : Int32))))])) rfl (hb hby d2_239) _ ?_
                      show Steps p.tables e below (T60.setTop (mkF m 241 #[.val (.int ld), .val (.int c1), .val (.int c2), .val (.int c3), .val (.int room), .val (.int (4 : Int32)), .val (.int (((((ld &&& (7 : Int32)) <<< ((18 : Int32) &&& 31)) ||| ((c1 &&& (63 : Int32)) <<< ((12 : Int32) &&& 31))) ||| ((c2 &&& (63 : Int32)) <<< ((6 : Int32) &&& 31))) ||| (c3 &&& (63 : Int32))))] [(.int (1114111 : Int32)), (.int (((((ld &&& (7 : Int32)) <<< ((18 : Int32) &&& 31)) ||| ((c1 &&& (63 : Int32)) <<< ((12 : Int32) &&& 31))) ||| ((c2 &&& (63 : Int32)) <<< ((6 : Int32) &&& 31))) ||| (c3 &&& (63 : Int32))))])) _
                      exact kt
                    by_cases hc241_68 : (1114111 : Int32) < (((((ld &&& (7 : Int32)) <<< ((18 : Int32) &&& 31)) ||| ((c1 &&& (63 : Int32)) <<< ((12 : Int32) &&& 31))) ||| ((c2 &&& (63 : Int32)) <<< ((6 : Int32) &&& 31))) ||| (c3 &&& (63 : Int32)))
                    · have k69 : ∀ tg_, Steps p.tables e below (T60.setTop (mkF m 249 #[.val (.int ld), .val (.int c1), .val (.int c2), .val (.int c3), .val (.int room), .val (.int (4 : Int32)), .val (.int (((((ld &&& (7 : Int32)) <<< ((18 : Int32) &&& 31)) ||| ((c1 &&& (63 : Int32)) <<< ((12 : Int32) &&& 31))) ||| ((c2 &&& (63 : Int32)) <<< ((6 : Int32) &&& 31))) ||| (c3 &&& (63 : Int32))))] [(.int (0 : Int32))])) tg_ → Steps p.tables e below (s₁.setTop (entryFrame m #[(.int ld), (.int c1), (.int c2), (.int c3), (.int room)] 7)) tg_ := by
                        intro tg_ kt
                        refine k67 tg_ ?_
                        refine XS.icmpYes X60.here hx rfl (pc0 := 241) (pc' := 248) rfl (hb hby d2_241) rfl (tlt hc241_68).2.2.1 (by decide) (by decide) ?_
                        show Steps p.tables e below (T60.setTop (mkF m 248 #[.val (.int ld), .val (.int c1), .val (.int c2), .val (.int c3), .val (.int room), .val (.int (4 : Int32)), .val (.int (((((ld &&& (7 : Int32)) <<< ((18 : Int32) &&& 31)) ||| ((c1 &&& (63 : Int32)) <<< ((12 : Int32) &&& 31))) ||| ((c2 &&& (63 : Int32)) <<< ((6 : Int32) &&& 31))) ||| (c3 &&& (63 : Int32))))] [])) _
                        refine XS.iconst X60.here hx rfl (hb hby d2_248) ?_
                        show Steps p.tables e below (T60.setTop (mkF m 249 #[.val (.int ld), .val (.int c1), .val (.int c2), .val (.int c3), .val (.int room), .val (.int (4 : Int32)), .val (.int (((((ld &&& (7 : Int32)) <<< ((18 : Int32) &&& 31)) ||| ((c1 &&& (63 : Int32)) <<< ((12 : Int32) &&& 31))) ||| ((c2 &&& (63 : Int32)) <<< ((6 : Int32) &&& 31))) ||| (c3 &&& (63 : Int32))))] [(.int (0 : Int32))])) _
                        exact kt
                      obtain ⟨fs, hr, hrun, hended, hW, hsame⟩ := X60.leave (v := some (.int (0 : Int32))) (fun h => by rw [Bd.returns] at h; cases h)
                      refine ⟨_, _, k69 _ (retI X60 hx Bd.returns (hb hby d2_249) hr), hrun, hended, _, _, rfl, ?_, ⟨_, rfl⟩, hW, hsame.mono (by decide) (by decide)⟩
                      show Q2 Z ld c1 c2 c3 room h0 n0 _ T60.heap _
                      rw [eq60]
                      exact ⟨(by rw [own_eq_own_exp]; rw [if_neg hc4_6, if_neg hc21_12, if_neg hc38_25, if_pos hc55_48, if_neg hc70_50, if_neg hc87_54, if_neg hc130_58, if_neg hc195_62, if_neg hc234_65, if_pos hc241_68]), N60, rfl⟩
                    · have k70 : ∀ tg_, Steps p.tables e below (T60.setTop (mkF m 249 #[.val (.int ld), .val (.int c1), .val (.int c2), .val (.int c3), .val (.int room), .val (.int (4 : Int32)), .val (.int (((((ld &&& (7 : Int32)) <<< ((18 : Int32) &&& 31)) ||| ((c1 &&& (63 : Int32)) <<< ((12 : Int32) &&& 31))) ||| ((c2 &&& (63 : Int32)) <<< ((6 : Int32) &&& 31))) ||| (c3 &&& (63 : Int32))))] [(.int (4 : Int32))])) tg_ → Steps p.tables e below (s₁.setTop (entryFrame m #[(.int ld), (.int c1), (.int c2), (.int c3), (.int room)] 7)) tg_ := by
                        intro tg_ kt
                        refine k67 tg_ ?_
                        refine XS.icmpNo X60.here hx rfl (hb hby d2_241) rfl (flt hc241_68).2.2.1 ?_
                        show Steps p.tables e below (T60.setTop (mkF m 244 #[.val (.int ld), .val (.int c1), .val (.int c2), .val (.int c3), .val (.int room), .val (.int (4 : Int32)), .val (.int (((((ld &&& (7 : Int32)) <<< ((18 : Int32) &&& 31)) ||| ((c1 &&& (63 : Int32)) <<< ((12 : Int32) &&& 31))) ||| ((c2 &&& (63 : Int32)) <<< ((6 : Int32) &&& 31))) ||| (c3 &&& (63 : Int32))))] [])) _
                        refine XS.iconst X60.here hx rfl (hb hby d2_244) ?_
                        show Steps p.tables e below (T60.setTop (mkF m 245 #[.val (.int ld), .val (.int c1), .val (.int c2), .val (.int c3), .val (.int room), .val (.int (4 : Int32)), .val (.int (((((ld &&& (7 : Int32)) <<< ((18 : Int32) &&& 31)) ||| ((c1 &&& (63 : Int32)) <<< ((12 : Int32) &&& 31))) ||| ((c2 &&& (63 : Int32)) <<< ((6 : Int32) &&& 31))) ||| (c3 &&& (63 : Int32))))] [(.int (4 : Int32))])) _
                        refine XS.goto X60.here hx rfl (pc0 := 245) (pc' := 249) rfl (hb hby d2_245) (by decide) (by decide) ?_
                        show Steps p.tables e below (T60.setTop (mkF m 249 #[.val (.int ld), .val (.int c1), .val (.int c2), .val (.int c3), .val (.int room), .val (.int (4 : Int32)), .val (.int (((((ld &&& (7 : Int32)) <<< ((18 : Int32) &&& 31)) ||| ((c1 &&& (63 : Int32)) <<< ((12 : Int32) &&& 31))) ||| ((c2 &&& (63 : Int32)) <<< ((6 : Int32) &&& 31))) ||| (c3 &&& (63 : Int32))))] [(.int (4 : Int32))])) _
                        exact kt
                      obtain ⟨fs, hr, hrun, hended, hW, hsame⟩ := X60.leave (v := some (.int (4 : Int32))) (fun h => by rw [Bd.returns] at h; cases h)
                      refine ⟨_, _, k70 _ (retI X60 hx Bd.returns (hb hby d2_249) hr), hrun, hended, _, _, rfl, ?_, ⟨_, rfl⟩, hW, hsame.mono (by decide) (by decide)⟩
                      show Q2 Z ld c1 c2 c3 room h0 n0 _ T60.heap _
                      rw [eq60]
                      exact ⟨(by rw [own_eq_own_exp]; rw [if_neg hc4_6, if_neg hc21_12, if_neg hc38_25, if_pos hc55_48, if_neg hc70_50, if_neg hc87_54, if_neg hc130_58, if_neg hc195_62, if_neg hc234_65, if_neg hc241_68]), N60, rfl⟩
        · have k71 : ∀ tg_, Steps p.tables e below (s₁.setTop (mkF m 65 #[.val (.int ld), .val (.int c1), .val (.int c2), .val (.int c3), .val (.int room), .unset, .unset] [(.int (0 : Int32))])) tg_ → Steps p.tables e below (s₁.setTop (entryFrame m #[(.int ld), (.int c1), (.int c2), (.int c3), (.int room)] 7)) tg_ := by
            intro tg_ kt
            refine k47 tg_ ?_
            refine XS.icmpYes X0.here hx rfl (pc0 := 55) (pc' := 64) rfl (hb hby d2_55) rfl (feq hc55_48).2 (by decide) (by decide) ?_
            show Steps p.tables e below (s₁.setTop (mkF m 64 #[.val (.int ld), .val (.int c1), .val (.int c2), .val (.int c3), .val (.int room), .unset, .unset] [])) _
            refine XS.iconst X0.here hx rfl (hb hby d2_64) ?_
            show Steps p.tables e below (s₁.setTop (mkF m 65 #[.val (.int ld), .val (.int c1), .val (.int c2), .val (.int c3), .val (.int room), .unset, .unset] [(.int (0 : Int32))])) _
            exact kt
          obtain ⟨fs, hr, hrun, hended, hW, hsame⟩ := X0.leave (v := some (.int (0 : Int32))) (fun h => by rw [Bd.returns] at h; cases h)
          refine ⟨_, _, k71 _ (retI X0 hx Bd.returns (hb hby d2_65) hr), hrun, hended, _, _, rfl, ?_, ⟨_, rfl⟩, hW, hsame.mono (by decide) (by decide)⟩
          show Q2 Z ld c1 c2 c3 room h0 n0 _ s₁.heap _
          rw [e0]
          exact ⟨(by rw [own_eq_own_exp]; rw [if_neg hc4_6, if_neg hc21_12, if_neg hc38_25, if_neg hc55_48]), N0, rfl⟩
theorem d1_0 : decode prog_27_method_2_code 0 = .ok (.aload_n 0, 1) := by decide +kernel
theorem d1_1 : decode prog_27_method_2_code 1 = .ok (.iload_n 1, 1) := by decide +kernel
theorem d1_2 : decode prog_27_method_2_code 2 = .ok (.baload, 1) := by decide +kernel
theorem d1_3 : decode prog_27_method_2_code 3 = .ok (.sipush 255, 3) := by decide +kernel
theorem d1_6 : decode prog_27_method_2_code 6 = .ok (.iand, 1) := by decide +kernel
theorem d1_7 : decode prog_27_method_2_code 7 = .ok (.istore_n 3, 1) := by decide +kernel
theorem d1_8 : decode prog_27_method_2_code 8 = .ok (.sipush 128, 3) := by decide +kernel
theorem d1_11 : decode prog_27_method_2_code 11 = .ok (.istore 5, 2) := by decide +kernel
theorem d1_13 : decode prog_27_method_2_code 13 = .ok (.sipush 191, 3) := by decide +kernel
theorem d1_16 : decode prog_27_method_2_code 16 = .ok (.istore 6, 2) := by decide +kernel
theorem d1_18 : decode prog_27_method_2_code 18 = .ok (.iload_n 3, 1) := by decide +kernel
theorem d1_19 : decode prog_27_method_2_code 19 = .ok (.sipush 128, 3) := by decide +kernel
theorem d1_22 : decode prog_27_method_2_code 22 = .ok (.if_icmp .ge 9, 3) := by decide +kernel
theorem d1_25 : decode prog_27_method_2_code 25 = .ok (.iconst 1, 1) := by decide +kernel
theorem d1_26 : decode prog_27_method_2_code 26 = .ok (.istore 4, 2) := by decide +kernel
theorem d1_28 : decode prog_27_method_2_code 28 = .ok (.goto 130, 3) := by decide +kernel
theorem d1_31 : decode prog_27_method_2_code 31 = .ok (.iload_n 3, 1) := by decide +kernel
theorem d1_32 : decode prog_27_method_2_code 32 = .ok (.sipush 194, 3) := by decide +kernel
theorem d1_35 : decode prog_27_method_2_code 35 = .ok (.if_icmp .ge 9, 3) := by decide +kernel
theorem d1_38 : decode prog_27_method_2_code 38 = .ok (.iconst 0, 1) := by decide +kernel
theorem d1_39 : decode prog_27_method_2_code 39 = .ok (.istore 4, 2) := by decide +kernel
theorem d1_41 : decode prog_27_method_2_code 41 = .ok (.goto 117, 3) := by decide +kernel
theorem d1_44 : decode prog_27_method_2_code 44 = .ok (.iload_n 3, 1) := by decide +kernel
theorem d1_45 : decode prog_27_method_2_code 45 = .ok (.sipush 224, 3) := by decide +kernel
theorem d1_48 : decode prog_27_method_2_code 48 = .ok (.if_icmp .ge 9, 3) := by decide +kernel
theorem d1_51 : decode prog_27_method_2_code 51 = .ok (.iconst 2, 1) := by decide +kernel
theorem d1_52 : decode prog_27_method_2_code 52 = .ok (.istore 4, 2) := by decide +kernel
theorem d1_54 : decode prog_27_method_2_code 54 = .ok (.goto 104, 3) := by decide +kernel
theorem d1_57 : decode prog_27_method_2_code 57 = .ok (.iload_n 3, 1) := by decide +kernel
theorem d1_58 : decode prog_27_method_2_code 58 = .ok (.sipush 240, 3) := by decide +kernel
theorem d1_61 : decode prog_27_method_2_code 61 = .ok (.if_icmp .ge 45, 3) := by decide +kernel
theorem d1_64 : decode prog_27_method_2_code 64 = .ok (.iconst 3, 1) := by decide +kernel
theorem d1_65 : decode prog_27_method_2_code 65 = .ok (.istore 4, 2) := by decide +kernel
theorem d1_67 : decode prog_27_method_2_code 67 = .ok (.iload_n 3, 1) := by decide +kernel
theorem d1_68 : decode prog_27_method_2_code 68 = .ok (.sipush 224, 3) := by decide +kernel
theorem d1_71 : decode prog_27_method_2_code 71 = .ok (.if_icmp .ne 9, 3) := by decide +kernel
theorem d1_74 : decode prog_27_method_2_code 74 = .ok (.sipush 160, 3) := by decide +kernel
theorem d1_77 : decode prog_27_method_2_code 77 = .ok (.goto 6, 3) := by decide +kernel
theorem d1_80 : decode prog_27_method_2_code 80 = .ok (.sipush 128, 3) := by decide +kernel
theorem d1_83 : decode prog_27_method_2_code 83 = .ok (.istore 5, 2) := by decide +kernel
theorem d1_85 : decode prog_27_method_2_code 85 = .ok (.iload_n 3, 1) := by decide +kernel
theorem d1_86 : decode prog_27_method_2_code 86 = .ok (.sipush 237, 3) := by decide +kernel
theorem d1_89 : decode prog_27_method_2_code 89 = .ok (.if_icmp .ne 9, 3) := by decide +kernel
theorem d1_92 : decode prog_27_method_2_code 92 = .ok (.sipush 159, 3) := by decide +kernel
theorem d1_95 : decode prog_27_method_2_code 95 = .ok (.goto 6, 3) := by decide +kernel
theorem d1_98 : decode prog_27_method_2_code 98 = .ok (.sipush 191, 3) := by decide +kernel
theorem d1_101 : decode prog_27_method_2_code 101 = .ok (.istore 6, 2) := by decide +kernel
theorem d1_103 : decode prog_27_method_2_code 103 = .ok (.goto 55, 3) := by decide +kernel
theorem d1_106 : decode prog_27_method_2_code 106 = .ok (.iload_n 3, 1) := by decide +kernel
theorem d1_107 : decode prog_27_method_2_code 107 = .ok (.sipush 245, 3) := by decide +kernel
theorem d1_110 : decode prog_27_method_2_code 110 = .ok (.if_icmp .ge 45, 3) := by decide +kernel
theorem d1_113 : decode prog_27_method_2_code 113 = .ok (.iconst 4, 1) := by decide +kernel
theorem d1_114 : decode prog_27_method_2_code 114 = .ok (.istore 4, 2) := by decide +kernel
theorem d1_116 : decode prog_27_method_2_code 116 = .ok (.iload_n 3, 1) := by decide +kernel
theorem d1_117 : decode prog_27_method_2_code 117 = .ok (.sipush 240, 3) := by decide +kernel
theorem d1_120 : decode prog_27_method_2_code 120 = .ok (.if_icmp .ne 9, 3) := by decide +kernel
theorem d1_123 : decode prog_27_method_2_code 123 = .ok (.sipush 144, 3) := by decide +kernel
theorem d1_126 : decode prog_27_method_2_code 126 = .ok (.goto 6, 3) := by decide +kernel
theorem d1_129 : decode prog_27_method_2_code 129 = .ok (.sipush 128, 3) := by decide +kernel
theorem d1_132 : decode prog_27_method_2_code 132 = .ok (.istore 5, 2) := by decide +kernel
theorem d1_134 : decode prog_27_method_2_code 134 = .ok (.iload_n 3, 1) := by decide +kernel
theorem d1_135 : decode prog_27_method_2_code 135 = .ok (.sipush 244, 3) := by decide +kernel
theorem d1_138 : decode prog_27_method_2_code 138 = .ok (.if_icmp .ne 9, 3) := by decide +kernel
theorem d1_141 : decode prog_27_method_2_code 141 = .ok (.sipush 143, 3) := by decide +kernel
theorem d1_144 : decode prog_27_method_2_code 144 = .ok (.goto 6, 3) := by decide +kernel
theorem d1_147 : decode prog_27_method_2_code 147 = .ok (.sipush 191, 3) := by decide +kernel
theorem d1_150 : decode prog_27_method_2_code 150 = .ok (.istore 6, 2) := by decide +kernel
theorem d1_152 : decode prog_27_method_2_code 152 = .ok (.goto 6, 3) := by decide +kernel
theorem d1_155 : decode prog_27_method_2_code 155 = .ok (.iconst 0, 1) := by decide +kernel
theorem d1_156 : decode prog_27_method_2_code 156 = .ok (.istore 4, 2) := by decide +kernel
theorem d1_158 : decode prog_27_method_2_code 158 = .ok (.iload_n 1, 1) := by decide +kernel
theorem d1_159 : decode prog_27_method_2_code 159 = .ok (.iload 4, 2) := by decide +kernel
theorem d1_161 : decode prog_27_method_2_code 161 = .ok (.iadd, 1) := by decide +kernel
theorem d1_162 : decode prog_27_method_2_code 162 = .ok (.iload_n 2, 1) := by decide +kernel
theorem d1_163 : decode prog_27_method_2_code 163 = .ok (.if_icmp .gt 7, 3) := by decide +kernel
theorem d1_166 : decode prog_27_method_2_code 166 = .ok (.iconst 1, 1) := by decide +kernel
theorem d1_167 : decode prog_27_method_2_code 167 = .ok (.goto 4, 3) := by decide +kernel
theorem d1_170 : decode prog_27_method_2_code 170 = .ok (.iconst 0, 1) := by decide +kernel
theorem d1_171 : decode prog_27_method_2_code 171 = .ok (.istore 7, 2) := by decide +kernel
theorem d1_173 : decode prog_27_method_2_code 173 = .ok (.iload_n 1, 1) := by decide +kernel
theorem d1_174 : decode prog_27_method_2_code 174 = .ok (.iconst 1, 1) := by decide +kernel
theorem d1_175 : decode prog_27_method_2_code 175 = .ok (.iadd, 1) := by decide +kernel
theorem d1_176 : decode prog_27_method_2_code 176 = .ok (.istore 8, 2) := by decide +kernel
theorem d1_178 : decode prog_27_method_2_code 178 = .ok (.iload 7, 2) := by decide +kernel
theorem d1_180 : decode prog_27_method_2_code 180 = .ok (.ifCond .eq 59, 3) := by decide +kernel
theorem d1_183 : decode prog_27_method_2_code 183 = .ok (.iload 8, 2) := by decide +kernel
theorem d1_185 : decode prog_27_method_2_code 185 = .ok (.iload_n 1, 1) := by decide +kernel
theorem d1_186 : decode prog_27_method_2_code 186 = .ok (.iload 4, 2) := by decide +kernel
theorem d1_188 : decode prog_27_method_2_code 188 = .ok (.iadd, 1) := by decide +kernel
theorem d1_189 : decode prog_27_method_2_code 189 = .ok (.if_icmp .ge 50, 3) := by decide +kernel
theorem d1_192 : decode prog_27_method_2_code 192 = .ok (.aload_n 0, 1) := by decide +kernel
theorem d1_193 : decode prog_27_method_2_code 193 = .ok (.iload 8, 2) := by decide +kernel
theorem d1_195 : decode prog_27_method_2_code 195 = .ok (.baload, 1) := by decide +kernel
theorem d1_196 : decode prog_27_method_2_code 196 = .ok (.sipush 255, 3) := by decide +kernel
theorem d1_199 : decode prog_27_method_2_code 199 = .ok (.iand, 1) := by decide +kernel
theorem d1_200 : decode prog_27_method_2_code 200 = .ok (.istore 9, 2) := by decide +kernel
theorem d1_202 : decode prog_27_method_2_code 202 = .ok (.iload 9, 2) := by decide +kernel
theorem d1_204 : decode prog_27_method_2_code 204 = .ok (.iload 5, 2) := by decide +kernel
theorem d1_206 : decode prog_27_method_2_code 206 = .ok (.if_icmp .lt 14, 3) := by decide +kernel
theorem d1_209 : decode prog_27_method_2_code 209 = .ok (.iload 9, 2) := by decide +kernel
theorem d1_211 : decode prog_27_method_2_code 211 = .ok (.iload 6, 2) := by decide +kernel
theorem d1_213 : decode prog_27_method_2_code 213 = .ok (.if_icmp .gt 7, 3) := by decide +kernel
theorem d1_216 : decode prog_27_method_2_code 216 = .ok (.iconst 1, 1) := by decide +kernel
theorem d1_217 : decode prog_27_method_2_code 217 = .ok (.goto 4, 3) := by decide +kernel
theorem d1_220 : decode prog_27_method_2_code 220 = .ok (.iconst 0, 1) := by decide +kernel
theorem d1_221 : decode prog_27_method_2_code 221 = .ok (.istore 7, 2) := by decide +kernel
theorem d1_223 : decode prog_27_method_2_code 223 = .ok (.sipush 128, 3) := by decide +kernel
theorem d1_226 : decode prog_27_method_2_code 226 = .ok (.istore 5, 2) := by decide +kernel
theorem d1_228 : decode prog_27_method_2_code 228 = .ok (.sipush 191, 3) := by decide +kernel
theorem d1_231 : decode prog_27_method_2_code 231 = .ok (.istore 6, 2) := by decide +kernel
theorem d1_233 : decode prog_27_method_2_code 233 = .ok (.iinc 8 1, 3) := by decide +kernel
theorem d1_236 : decode prog_27_method_2_code 236 = .ok (.goto (-58), 3) := by decide +kernel
theorem d1_239 : decode prog_27_method_2_code 239 = .ok (.iload 7, 2) := by decide +kernel
theorem d1_241 : decode prog_27_method_2_code 241 = .ok (.ifCond .eq 8, 3) := by decide +kernel
theorem d1_244 : decode prog_27_method_2_code 244 = .ok (.iload 4, 2) := by decide +kernel
theorem d1_246 : decode prog_27_method_2_code 246 = .ok (.goto 4, 3) := by decide +kernel
theorem d1_249 : decode prog_27_method_2_code 249 = .ok (.iconst 0, 1) := by decide +kernel
theorem d1_250 : decode prog_27_method_2_code 250 = .ok (.ireturn, 1) := by decide +kernel
theorem pn_1 : plainName "com/example/benzer/benzer/cli/Utf8" = true := by first | (simp [plainName, overriddenIn]; done) | decide +kernel
theorem ef_1 (m : MethodId) (x0 : Addr) (x1 : Int32) (x2 : Int32) : entryFrame m #[(.ref x0), (.int x1), (.int x2)] 10 = mkF m 0 #[.val (.ref x0), .val (.int x1), .val (.int x2), .unset, .unset, .unset, .unset, .unset, .unset, .unset] [] := by first | (simp [entryFrame, mkF, argsToLocals, Value.category]; done) | rfl
def own_seq (y0 : Int32) (y1 : Int32) (y2 : Int32) (y3 : Int32) (i : Int32) (en : Int32) : Int32 := (if (y0 &&& (255 : Int32)) < (128 : Int32) then (if en < (i + (1 : Int32)) then (0 : Int32) else (1 : Int32)) else (if (y0 &&& (255 : Int32)) < (194 : Int32) then (if en < (i + (0 : Int32)) then (0 : Int32) else (0 : Int32)) else (if (y0 &&& (255 : Int32)) < (224 : Int32) then (if en < (i + (2 : Int32)) then (0 : Int32) else (if (if (y1 &&& (255 : Int32)) < (128 : Int32) then (0 : Int32) else (if (191 : Int32) < (y1 &&& (255 : Int32)) then (0 : Int32) else (1 : Int32))) = (0 : Int32) then (0 : Int32) else (2 : Int32))) else (if (y0 &&& (255 : Int32)) < (240 : Int32) then (if en < (i + (3 : Int32)) then (0 : Int32) else (if (if (y1 &&& (255 : Int32)) < (if (y0 &&& (255 : Int32)) = (224 : Int32) then (160 : Int32) else (128 : Int32)) then (0 : Int32) else (if (if (y0 &&& (255 : Int32)) = (237 : Int32) then (159 : Int32) else (191 : Int32)) < (y1 &&& (255 : Int32)) then (0 : Int32) else (1 : Int32))) = (0 : Int32) then (0 : Int32) else (if (if (y2 &&& (255 : Int32)) < (128 : Int32) then (0 : Int32) else (if (191 : Int32) < (y2 &&& (255 : Int32)) then (0 : Int32) else (1 : Int32))) = (0 : Int32) then (0 : Int32) else (3 : Int32)))) else (if (y0 &&& (255 : Int32)) < (245 : Int32) then (if en < (i + (4 : Int32)) then (0 : Int32) else (if (if (y1 &&& (255 : Int32)) < (if (y0 &&& (255 : Int32)) = (240 : Int32) then (144 : Int32) else (128 : Int32)) then (0 : Int32) else (if (if (y0 &&& (255 : Int32)) = (244 : Int32) then (143 : Int32) else (191 : Int32)) < (y1 &&& (255 : Int32)) then (0 : Int32) else (1 : Int32))) = (0 : Int32) then (0 : Int32) else (if (if (y2 &&& (255 : Int32)) < (128 : Int32) then (0 : Int32) else (if (191 : Int32) < (y2 &&& (255 : Int32)) then (0 : Int32) else (1 : Int32))) = (0 : Int32) then (0 : Int32) else (if (if (y3 &&& (255 : Int32)) < (128 : Int32) then (0 : Int32) else (if (191 : Int32) < (y3 &&& (255 : Int32)) then (0 : Int32) else (1 : Int32))) = (0 : Int32) then (0 : Int32) else (4 : Int32))))) else (if en < (i + (0 : Int32)) then (0 : Int32) else (0 : Int32)))))))
theorem own_eq_own_seq (y0 : Int32) (y1 : Int32) (y2 : Int32) (y3 : Int32) (i : Int32) (en : Int32) : own_seq y0 y1 y2 y3 i en = (if (y0 &&& (255 : Int32)) < (128 : Int32) then (if en < (i + (1 : Int32)) then (0 : Int32) else (1 : Int32)) else (if (y0 &&& (255 : Int32)) < (194 : Int32) then (if en < (i + (0 : Int32)) then (0 : Int32) else (0 : Int32)) else (if (y0 &&& (255 : Int32)) < (224 : Int32) then (if en < (i + (2 : Int32)) then (0 : Int32) else (if (if (y1 &&& (255 : Int32)) < (128 : Int32) then (0 : Int32) else (if (191 : Int32) < (y1 &&& (255 : Int32)) then (0 : Int32) else (1 : Int32))) = (0 : Int32) then (0 : Int32) else (2 : Int32))) else (if (y0 &&& (255 : Int32)) < (240 : Int32) then (if en < (i + (3 : Int32)) then (0 : Int32) else (if (if (y1 &&& (255 : Int32)) < (if (y0 &&& (255 : Int32)) = (224 : Int32) then (160 : Int32) else (128 : Int32)) then (0 : Int32) else (if (if (y0 &&& (255 : Int32)) = (237 : Int32) then (159 : Int32) else (191 : Int32)) < (y1 &&& (255 : Int32)) then (0 : Int32) else (1 : Int32))) = (0 : Int32) then (0 : Int32) else (if (if (y2 &&& (255 : Int32)) < (128 : Int32) then (0 : Int32) else (if (191 : Int32) < (y2 &&& (255 : Int32)) then (0 : Int32) else (1 : Int32))) = (0 : Int32) then (0 : Int32) else (3 : Int32)))) else (if (y0 &&& (255 : Int32)) < (245 : Int32) then (if en < (i + (4 : Int32)) then (0 : Int32) else (if (if (y1 &&& (255 : Int32)) < (if (y0 &&& (255 : Int32)) = (240 : Int32) then (144 : Int32) else (128 : Int32)) then (0 : Int32) else (if (if (y0 &&& (255 : Int32)) = (244 : Int32) then (143 : Int32) else (191 : Int32)) < (y1 &&& (255 : Int32)) then (0 : Int32) else (1 : Int32))) = (0 : Int32) then (0 : Int32) else (if (if (y2 &&& (255 : Int32)) < (128 : Int32) then (0 : Int32) else (if (191 : Int32) < (y2 &&& (255 : Int32)) then (0 : Int32) else (1 : Int32))) = (0 : Int32) then (0 : Int32) else (if (if (y3 &&& (255 : Int32)) < (128 : Int32) then (0 : Int32) else (if (191 : Int32) < (y3 &&& (255 : Int32)) then (0 : Int32) else (1 : Int32))) = (0 : Int32) then (0 : Int32) else (4 : Int32))))) else (if en < (i + (0 : Int32)) then (0 : Int32) else (0 : Int32))))))) := rfl
def Q1 (Z : State) (a : Addr) (i : Int32) (en : Int32) (ii : Nat) (f : Nat → Int32) (y0 : Int32) (y1 : Int32) (y2 : Int32) (y3 : Int32) (h0 : Heap) (n0 : Nat) (rv_ : Option Value) (h : Heap) (LL_ : List Loc) : Prop := rv_ = some (.int (own_seq y0 y1 y2 y3 i en)) ∧ Fr n0 LL_ ∧ h = h0
set_option maxRecDepth 65536 in
set_option maxHeartbeats 40000000 in
theorem rm1 (l : Launch) (Z : State) (a0 : Array Value) (hw : ∀ d ∈ tables_1, d.before a0 Z = true) (ws : List Jvm.Cond) (a : Addr) (i : Int32) (en : Int32) (ii : Nat) (f : Nat → Int32) (y0 : Int32) (y1 : Int32) (y2 : Int32) (y3 : Int32) (h0 : Heap) (n0 : Nat) (V_a : own_AI Z h0 a .byte 5 f) (hi : i.toInt = (ii : Int)) (hi1 : ii ≤ 1) (hf0 : f ii = y0) (hf1 : f (ii + 1) = y1) (hf2 : f (ii + 2) = y2) (hf3 : f (ii + 3) = y3) :
    MetFree l (⟨"com/example/benzer/benzer/cli/Utf8", "sequenceSize", "([BII)I"⟩ : MethodName) (head1 (Jvm.Cond.code (⟨"com/example/benzer/benzer/cli/Utf8", "sequenceSize", "([BII)I"⟩ : MethodName) prog_27_method_2_code 10 (some .int) :: ws) ({ frames := 0, cells := 0, slots := 0, locals := 0 } : Room)) (fun aa UU => aa = #[(.ref a), (.int i), (.int en)] ∧ Z.Warmed39 UU.vm ∧ UU.heap = h0) (fun _ _ _ _ _ => True) (fun _ UU oo UV => ∃ vv LL, oo = .returned vv ∧ Q1 Z a i en ii f y0 y1 y2 y3 h0 n0 vv UV.heap LL ∧ FrameEnd UU oo UV LL ({ frames := 0, cells := 0, slots := 0, locals := 0 } : Room).cells ({ frames := 0, cells := 0, slots := 0, locals := 0 } : Room).slots) := by
  refine MetFree.of_bodySF (plainFor_of_name pn_1) hisR ?_
  intro p e s m args below meth c s₁ Bd hml0 hP hK
  obtain ⟨rfl, hZ, hh⟩ := hP
  have hx := Bd.exec
  have hby := Bd.bytes
  have hml : c.maxLocals = 10 := hml0
  have hown : s.vm.findClass "com/example/benzer/benzer/cli/Utf8" = some m.cls := findClass_of_methodNamed Bd.named
  have hnm := (name_of_methodNamed Bd.named Bd.method).1
  have X0 : Stand p l e ({ frames := 0, cells := 0, slots := 0, locals := 0 } : Room) s m #[(.ref a), (.int i), (.int en)] below meth c s₁ [] 0 0 := Stand.of_body Bd
  have e0 : s₁.heap = h0 := by rw [← hh, Bd.state]; rfl
  have N0 := Fr.nil n0
  have k0 : ∀ tg_, Steps p.tables e below (s₁.setTop (mkF m 0 #[.val (.ref a), .val (.int i), .val (.int en), .unset, .unset, .unset, .unset, .unset, .unset, .unset] [])) tg_ → Steps p.tables e below (s₁.setTop (entryFrame m #[(.ref a), (.int i), (.int en)] 10)) tg_ := fun tg_ k => castTop (ef_1 m a i en) k
  have hj72 : i.toInt = ((ii : Nat) : Int) := by
    have ar73 := rng32 i
    omega
  have k74 : ∀ tg_, Steps p.tables e below (s₁.setTop (mkF m 22 #[.val (.ref a), .val (.int i), .val (.int en), .val (.int (y0 &&& (255 : Int32))), .unset, .val (.int (128 : Int32)), .val (.int (191 : Int32)), .unset, .unset, .unset] [(.int (128 : Int32)), (.int (y0 &&& (255 : Int32)))])) tg_ → Steps p.tables e below (s₁.setTop (entryFrame m #[(.ref a), (.int i), (.int en)] 10)) tg_ := by
    intro tg_ kt
    refine k0 tg_ ?_
    refine XS.aloadN X0.here hx rfl (hb hby d1_0) rfl rfl ?_
    show Steps p.tables e below (s₁.setTop (mkF m 1 #[.val (.ref a), .val (.int i), .val (.int en), .unset, .unset, .unset, .unset, .unset, .unset, .unset] [(.ref a)])) _
    refine XS.iloadN X0.here hx rfl (hb hby d1_1) rfl ?_
    show Steps p.tables e below (s₁.setTop (mkF m 2 #[.val (.ref a), .val (.int i), .val (.int en), .unset, .unset, .unset, .unset, .unset, .unset, .unset] [(.int i), (.ref a)])) _
    refine own_ldB X0 hx hZ e0 V_a (i := ii) hj72 (by omega) hf0 (g := (mkF m 2 #[.val (.ref a), .val (.int i), .val (.int en), .unset, .unset, .unset, .unset, .unset, .unset, .unset] [(.int i), (.ref a)])) rfl rfl (hb hby d1_2) _ ?_
    show Steps p.tables e below (s₁.setTop (mkF m 3 #[.val (.ref a), .val (.int i), .val (.int en), .unset, .unset, .unset, .unset, .unset, .unset, .unset] [(.int y0)])) _
    refine XS.sipush X0.here hx rfl (hb hby d1_3) ?_
    show Steps p.tables e below (s₁.setTop (mkF m 6 #[.val (.ref a), .val (.int i), .val (.int en), .unset, .unset, .unset, .unset, .unset, .unset, .unset] [(.int (255 : Int32)), (.int y0)])) _
    refine XS.iand X0.here hx rfl (hb hby d1_6) rfl ?_
    show Steps p.tables e below (s₁.setTop (mkF m 7 #[.val (.ref a), .val (.int i), .val (.int en), .unset, .unset, .unset, .unset, .unset, .unset, .unset] [(.int (y0 &&& (255 : Int32)))])) _
    refine XS.istoreN X0.here hx rfl (hb hby d1_7) rfl (l' := #[.val (.ref a), .val (.int i), .val (.int en), .val (.int (y0 &&& (255 : Int32))), .unset, .unset, .unset, .unset, .unset, .unset]) rfl ?_
    show Steps p.tables e below (s₁.setTop (mkF m 8 #[.val (.ref a), .val (.int i), .val (.int en), .val (.int (y0 &&& (255 : Int32))), .unset, .unset, .unset, .unset, .unset, .unset] [])) _
    refine XS.sipush X0.here hx rfl (hb hby d1_8) ?_
    show Steps p.tables e below (s₁.setTop (mkF m 11 #[.val (.ref a), .val (.int i), .val (.int en), .val (.int (y0 &&& (255 : Int32))), .unset, .unset, .unset, .unset, .unset, .unset] [(.int (128 : Int32))])) _
    refine XS.istore X0.here hx rfl (hb hby d1_11) rfl (l' := #[.val (.ref a), .val (.int i), .val (.int en), .val (.int (y0 &&& (255 : Int32))), .unset, .val (.int (128 : Int32)), .unset, .unset, .unset, .unset]) rfl ?_
    show Steps p.tables e below (s₁.setTop (mkF m 13 #[.val (.ref a), .val (.int i), .val (.int en), .val (.int (y0 &&& (255 : Int32))), .unset, .val (.int (128 : Int32)), .unset, .unset, .unset, .unset] [])) _
    refine XS.sipush X0.here hx rfl (hb hby d1_13) ?_
    show Steps p.tables e below (s₁.setTop (mkF m 16 #[.val (.ref a), .val (.int i), .val (.int en), .val (.int (y0 &&& (255 : Int32))), .unset, .val (.int (128 : Int32)), .unset, .unset, .unset, .unset] [(.int (191 : Int32))])) _
    refine XS.istore X0.here hx rfl (hb hby d1_16) rfl (l' := #[.val (.ref a), .val (.int i), .val (.int en), .val (.int (y0 &&& (255 : Int32))), .unset, .val (.int (128 : Int32)), .val (.int (191 : Int32)), .unset, .unset, .unset]) rfl ?_
    show Steps p.tables e below (s₁.setTop (mkF m 18 #[.val (.ref a), .val (.int i), .val (.int en), .val (.int (y0 &&& (255 : Int32))), .unset, .val (.int (128 : Int32)), .val (.int (191 : Int32)), .unset, .unset, .unset] [])) _
    refine XS.iloadN X0.here hx rfl (hb hby d1_18) rfl ?_
    show Steps p.tables e below (s₁.setTop (mkF m 19 #[.val (.ref a), .val (.int i), .val (.int en), .val (.int (y0 &&& (255 : Int32))), .unset, .val (.int (128 : Int32)), .val (.int (191 : Int32)), .unset, .unset, .unset] [(.int (y0 &&& (255 : Int32)))])) _
    refine XS.sipush X0.here hx rfl (hb hby d1_19) ?_
    show Steps p.tables e below (s₁.setTop (mkF m 22 #[.val (.ref a), .val (.int i), .val (.int en), .val (.int (y0 &&& (255 : Int32))), .unset, .val (.int (128 : Int32)), .val (.int (191 : Int32)), .unset, .unset, .unset] [(.int (128 : Int32)), (.int (y0 &&& (255 : Int32)))])) _
    exact kt
  by_cases hc22_75 : (y0 &&& (255 : Int32)) < (128 : Int32)
  · have k76 : ∀ tg_, Steps p.tables e below (s₁.setTop (mkF m 163 #[.val (.ref a), .val (.int i), .val (.int en), .val (.int (y0 &&& (255 : Int32))), .val (.int (1 : Int32)), .val (.int (128 : Int32)), .val (.int (191 : Int32)), .unset, .unset, .unset] [(.int en), (.int (i + (1 : Int32)))])) tg_ → Steps p.tables e below (s₁.setTop (entryFrame m #[(.ref a), (.int i), (.int en)] 10)) tg_ := by
      intro tg_ kt
      refine k74 tg_ ?_
      refine XS.icmpNo X0.here hx rfl (hb hby d1_22) rfl (tlt hc22_75).2.1 ?_
      show Steps p.tables e below (s₁.setTop (mkF m 25 #[.val (.ref a), .val (.int i), .val (.int en), .val (.int (y0 &&& (255 : Int32))), .unset, .val (.int (128 : Int32)), .val (.int (191 : Int32)), .unset, .unset, .unset] [])) _
      refine XS.iconst X0.here hx rfl (hb hby d1_25) ?_
      show Steps p.tables e below (s₁.setTop (mkF m 26 #[.val (.ref a), .val (.int i), .val (.int en), .val (.int (y0 &&& (255 : Int32))), .unset, .val (.int (128 : Int32)), .val (.int (191 : Int32)), .unset, .unset, .unset] [(.int (1 : Int32))])) _
      refine XS.istore X0.here hx rfl (hb hby d1_26) rfl (l' := #[.val (.ref a), .val (.int i), .val (.int en), .val (.int (y0 &&& (255 : Int32))), .val (.int (1 : Int32)), .val (.int (128 : Int32)), .val (.int (191 : Int32)), .unset, .unset, .unset]) rfl ?_
      show Steps p.tables e below (s₁.setTop (mkF m 28 #[.val (.ref a), .val (.int i), .val (.int en), .val (.int (y0 &&& (255 : Int32))), .val (.int (1 : Int32)), .val (.int (128 : Int32)), .val (.int (191 : Int32)), .unset, .unset, .unset] [])) _
      refine XS.goto X0.here hx rfl (pc0 := 28) (pc' := 158) rfl (hb hby d1_28) (by decide) (by decide) ?_
      show Steps p.tables e below (s₁.setTop (mkF m 158 #[.val (.ref a), .val (.int i), .val (.int en), .val (.int (y0 &&& (255 : Int32))), .val (.int (1 : Int32)), .val (.int (128 : Int32)), .val (.int (191 : Int32)), .unset, .unset, .unset] [])) _
      refine XS.iloadN X0.here hx rfl (hb hby d1_158) rfl ?_
      show Steps p.tables e below (s₁.setTop (mkF m 159 #[.val (.ref a), .val (.int i), .val (.int en), .val (.int (y0 &&& (255 : Int32))), .val (.int (1 : Int32)), .val (.int (128 : Int32)), .val (.int (191 : Int32)), .unset, .unset, .unset] [(.int i)])) _
      refine XS.iload X0.here hx rfl (hb hby d1_159) rfl ?_
      show Steps p.tables e below (s₁.setTop (mkF m 161 #[.val (.ref a), .val (.int i), .val (.int en), .val (.int (y0 &&& (255 : Int32))), .val (.int (1 : Int32)), .val (.int (128 : Int32)), .val (.int (191 : Int32)), .unset, .unset, .unset] [(.int (1 : Int32)), (.int i)])) _
      refine XS.iadd X0.here hx rfl (hb hby d1_161) rfl ?_
      show Steps p.tables e below (s₁.setTop (mkF m 162 #[.val (.ref a), .val (.int i), .val (.int en), .val (.int (y0 &&& (255 : Int32))), .val (.int (1 : Int32)), .val (.int (128 : Int32)), .val (.int (191 : Int32)), .unset, .unset, .unset] [(.int (i + (1 : Int32)))])) _
      refine XS.iloadN X0.here hx rfl (hb hby d1_162) rfl ?_
      show Steps p.tables e below (s₁.setTop (mkF m 163 #[.val (.ref a), .val (.int i), .val (.int en), .val (.int (y0 &&& (255 : Int32))), .val (.int (1 : Int32)), .val (.int (128 : Int32)), .val (.int (191 : Int32)), .unset, .unset, .unset] [(.int en), (.int (i + (1 : Int32)))])) _
      exact kt
    by_cases hc163_77 : en < (i + (1 : Int32))
    · have k78 : ∀ tg_, Steps p.tables e below (s₁.setTop (mkF m 250 #[.val (.ref a), .val (.int i), .val (.int en), .val (.int (y0 &&& (255 : Int32))), .val (.int (1 : Int32)), .val (.int (128 : Int32)), .val (.int (191 : Int32)), .val (.int (0 : Int32)), .val (.int (i + (1 : Int32))), .unset] [(.int (0 : Int32))])) tg_ → Steps p.tables e below (s₁.setTop (entryFrame m #[(.ref a), (.int i), (.int en)] 10)) tg_ := by
        intro tg_ kt
        refine k76 tg_ ?_
        refine XS.icmpYes X0.here hx rfl (pc0 := 163) (pc' := 170) rfl (hb hby d1_163) rfl (tlt hc163_77).2.2.1 (by decide) (by decide) ?_
        show Steps p.tables e below (s₁.setTop (mkF m 170 #[.val (.ref a), .val (.int i), .val (.int en), .val (.int (y0 &&& (255 : Int32))), .val (.int (1 : Int32)), .val (.int (128 : Int32)), .val (.int (191 : Int32)), .unset, .unset, .unset] [])) _
        refine XS.iconst X0.here hx rfl (hb hby d1_170) ?_
        show Steps p.tables e below (s₁.setTop (mkF m 171 #[.val (.ref a), .val (.int i), .val (.int en), .val (.int (y0 &&& (255 : Int32))), .val (.int (1 : Int32)), .val (.int (128 : Int32)), .val (.int (191 : Int32)), .unset, .unset, .unset] [(.int (0 : Int32))])) _
        refine XS.istore X0.here hx rfl (hb hby d1_171) rfl (l' := #[.val (.ref a), .val (.int i), .val (.int en), .val (.int (y0 &&& (255 : Int32))), .val (.int (1 : Int32)), .val (.int (128 : Int32)), .val (.int (191 : Int32)), .val (.int (0 : Int32)), .unset, .unset]) rfl ?_
        show Steps p.tables e below (s₁.setTop (mkF m 173 #[.val (.ref a), .val (.int i), .val (.int en), .val (.int (y0 &&& (255 : Int32))), .val (.int (1 : Int32)), .val (.int (128 : Int32)), .val (.int (191 : Int32)), .val (.int (0 : Int32)), .unset, .unset] [])) _
        refine XS.iloadN X0.here hx rfl (hb hby d1_173) rfl ?_
        show Steps p.tables e below (s₁.setTop (mkF m 174 #[.val (.ref a), .val (.int i), .val (.int en), .val (.int (y0 &&& (255 : Int32))), .val (.int (1 : Int32)), .val (.int (128 : Int32)), .val (.int (191 : Int32)), .val (.int (0 : Int32)), .unset, .unset] [(.int i)])) _
        refine XS.iconst X0.here hx rfl (hb hby d1_174) ?_
        show Steps p.tables e below (s₁.setTop (mkF m 175 #[.val (.ref a), .val (.int i), .val (.int en), .val (.int (y0 &&& (255 : Int32))), .val (.int (1 : Int32)), .val (.int (128 : Int32)), .val (.int (191 : Int32)), .val (.int (0 : Int32)), .unset, .unset] [(.int (1 : Int32)), (.int i)])) _
        refine XS.iadd X0.here hx rfl (hb hby d1_175) rfl ?_
        show Steps p.tables e below (s₁.setTop (mkF m 176 #[.val (.ref a), .val (.int i), .val (.int en), .val (.int (y0 &&& (255 : Int32))), .val (.int (1 : Int32)), .val (.int (128 : Int32)), .val (.int (191 : Int32)), .val (.int (0 : Int32)), .unset, .unset] [(.int (i + (1 : Int32)))])) _
        refine XS.istore X0.here hx rfl (hb hby d1_176) rfl (l' := #[.val (.ref a), .val (.int i), .val (.int en), .val (.int (y0 &&& (255 : Int32))), .val (.int (1 : Int32)), .val (.int (128 : Int32)), .val (.int (191 : Int32)), .val (.int (0 : Int32)), .val (.int (i + (1 : Int32))), .unset]) rfl ?_
        show Steps p.tables e below (s₁.setTop (mkF m 178 #[.val (.ref a), .val (.int i), .val (.int en), .val (.int (y0 &&& (255 : Int32))), .val (.int (1 : Int32)), .val (.int (128 : Int32)), .val (.int (191 : Int32)), .val (.int (0 : Int32)), .val (.int (i + (1 : Int32))), .unset] [])) _
        refine XS.iload X0.here hx rfl (hb hby d1_178) rfl ?_
        show Steps p.tables e below (s₁.setTop (mkF m 180 #[.val (.ref a), .val (.int i), .val (.int en), .val (.int (y0 &&& (255 : Int32))), .val (.int (1 : Int32)), .val (.int (128 : Int32)), .val (.int (191 : Int32)), .val (.int (0 : Int32)), .val (.int (i + (1 : Int32))), .unset] [(.int (0 : Int32))])) _
        refine XS.ifYes X0.here hx rfl (pc0 := 180) (pc' := 239) rfl (hb hby d1_180) rfl ((if0 _ _).trans (teq (by decide : (0 : Int32) = (0 : Int32))).1) (by decide) (by decide) ?_
        show Steps p.tables e below (s₁.setTop (mkF m 239 #[.val (.ref a), .val (.int i), .val (.int en), .val (.int (y0 &&& (255 : Int32))), .val (.int (1 : Int32)), .val (.int (128 : Int32)), .val (.int (191 : Int32)), .val (.int (0 : Int32)), .val (.int (i + (1 : Int32))), .unset] [])) _
        refine XS.iload X0.here hx rfl (hb hby d1_239) rfl ?_
        show Steps p.tables e below (s₁.setTop (mkF m 241 #[.val (.ref a), .val (.int i), .val (.int en), .val (.int (y0 &&& (255 : Int32))), .val (.int (1 : Int32)), .val (.int (128 : Int32)), .val (.int (191 : Int32)), .val (.int (0 : Int32)), .val (.int (i + (1 : Int32))), .unset] [(.int (0 : Int32))])) _
        refine XS.ifYes X0.here hx rfl (pc0 := 241) (pc' := 249) rfl (hb hby d1_241) rfl ((if0 _ _).trans (teq (by decide : (0 : Int32) = (0 : Int32))).1) (by decide) (by decide) ?_
        show Steps p.tables e below (s₁.setTop (mkF m 249 #[.val (.ref a), .val (.int i), .val (.int en), .val (.int (y0 &&& (255 : Int32))), .val (.int (1 : Int32)), .val (.int (128 : Int32)), .val (.int (191 : Int32)), .val (.int (0 : Int32)), .val (.int (i + (1 : Int32))), .unset] [])) _
        refine XS.iconst X0.here hx rfl (hb hby d1_249) ?_
        show Steps p.tables e below (s₁.setTop (mkF m 250 #[.val (.ref a), .val (.int i), .val (.int en), .val (.int (y0 &&& (255 : Int32))), .val (.int (1 : Int32)), .val (.int (128 : Int32)), .val (.int (191 : Int32)), .val (.int (0 : Int32)), .val (.int (i + (1 : Int32))), .unset] [(.int (0 : Int32))])) _
        exact kt
      obtain ⟨fs, hr, hrun, hended, hW, hsame⟩ := X0.leave (v := some (.int (0 : Int32))) (fun h => by rw [Bd.returns] at h; cases h)
      refine ⟨_, _, k78 _ (retI X0 hx Bd.returns (hb hby d1_250) hr), hrun, hended, _, _, rfl, ?_, ⟨_, rfl⟩, hW, hsame.mono (by decide) (by decide)⟩
      show Q1 Z a i en ii f y0 y1 y2 y3 h0 n0 _ s₁.heap _
      rw [e0]
      exact ⟨(by rw [own_eq_own_seq]; rw [if_pos hc22_75, if_pos hc163_77]), N0, rfl⟩
    · have hc189_83 : ¬ ((i + (1 : Int32)) < (i + (1 : Int32))) := (by
          have ar79 := rng32 i
          have ar80 : (1 : Int32).toInt = 1 := by decide
          have ar81 := rng32 (i + (1 : Int32))
          first | have ar82 : (i + (1 : Int32)).toInt = i.toInt + 1 := (by have qw := c_iadd i (1 : Int32); omega) | (have ar82 := c_iadd i (1 : Int32); skip)
          exact fun qq_ => absurd (Int32.lt_iff_toInt_lt.mp qq_) (by omega))
      have k84 : ∀ tg_, Steps p.tables e below (s₁.setTop (mkF m 250 #[.val (.ref a), .val (.int i), .val (.int en), .val (.int (y0 &&& (255 : Int32))), .val (.int (1 : Int32)), .val (.int (128 : Int32)), .val (.int (191 : Int32)), .val (.int (1 : Int32)), .val (.int (i + (1 : Int32))), .unset] [(.int (1 : Int32))])) tg_ → Steps p.tables e below (s₁.setTop (entryFrame m #[(.ref a), (.int i), (.int en)] 10)) tg_ := by
        intro tg_ kt
        refine k76 tg_ ?_
        refine XS.icmpNo X0.here hx rfl (hb hby d1_163) rfl (flt hc163_77).2.2.1 ?_
        show Steps p.tables e below (s₁.setTop (mkF m 166 #[.val (.ref a), .val (.int i), .val (.int en), .val (.int (y0 &&& (255 : Int32))), .val (.int (1 : Int32)), .val (.int (128 : Int32)), .val (.int (191 : Int32)), .unset, .unset, .unset] [])) _
        refine XS.iconst X0.here hx rfl (hb hby d1_166) ?_
        show Steps p.tables e below (s₁.setTop (mkF m 167 #[.val (.ref a), .val (.int i), .val (.int en), .val (.int (y0 &&& (255 : Int32))), .val (.int (1 : Int32)), .val (.int (128 : Int32)), .val (.int (191 : Int32)), .unset, .unset, .unset] [(.int (1 : Int32))])) _
        refine XS.goto X0.here hx rfl (pc0 := 167) (pc' := 171) rfl (hb hby d1_167) (by decide) (by decide) ?_
        show Steps p.tables e below (s₁.setTop (mkF m 171 #[.val (.ref a), .val (.int i), .val (.int en), .val (.int (y0 &&& (255 : Int32))), .val (.int (1 : Int32)), .val (.int (128 : Int32)), .val (.int (191 : Int32)), .unset, .unset, .unset] [(.int (1 : Int32))])) _
        refine XS.istore X0.here hx rfl (hb hby d1_171) rfl (l' := #[.val (.ref a), .val (.int i), .val (.int en), .val (.int (y0 &&& (255 : Int32))), .val (.int (1 : Int32)), .val (.int (128 : Int32)), .val (.int (191 : Int32)), .val (.int (1 : Int32)), .unset, .unset]) rfl ?_
        show Steps p.tables e below (s₁.setTop (mkF m 173 #[.val (.ref a), .val (.int i), .val (.int en), .val (.int (y0 &&& (255 : Int32))), .val (.int (1 : Int32)), .val (.int (128 : Int32)), .val (.int (191 : Int32)), .val (.int (1 : Int32)), .unset, .unset] [])) _
        refine XS.iloadN X0.here hx rfl (hb hby d1_173) rfl ?_
        show Steps p.tables e below (s₁.setTop (mkF m 174 #[.val (.ref a), .val (.int i), .val (.int en), .val (.int (y0 &&& (255 : Int32))), .val (.int (1 : Int32)), .val (.int (128 : Int32)), .val (.int (191 : Int32)), .val (.int (1 : Int32)), .unset, .unset] [(.int i)])) _
        refine XS.iconst X0.here hx rfl (hb hby d1_174) ?_
        show Steps p.tables e below (s₁.setTop (mkF m 175 #[.val (.ref a), .val (.int i), .val (.int en), .val (.int (y0 &&& (255 : Int32))), .val (.int (1 : Int32)), .val (.int (128 : Int32)), .val (.int (191 : Int32)), .val (.int (1 : Int32)), .unset, .unset] [(.int (1 : Int32)), (.int i)])) _
        refine XS.iadd X0.here hx rfl (hb hby d1_175) rfl ?_
        show Steps p.tables e below (s₁.setTop (mkF m 176 #[.val (.ref a), .val (.int i), .val (.int en), .val (.int (y0 &&& (255 : Int32))), .val (.int (1 : Int32)), .val (.int (128 : Int32)), .val (.int (191 : Int32)), .val (.int (1 : Int32)), .unset, .unset] [(.int (i + (1 : Int32)))])) _
        refine XS.istore X0.here hx rfl (hb hby d1_176) rfl (l' := #[.val (.ref a), .val (.int i), .val (.int en), .val (.int (y0 &&& (255 : Int32))), .val (.int (1 : Int32)), .val (.int (128 : Int32)), .val (.int (191 : Int32)), .val (.int (1 : Int32)), .val (.int (i + (1 : Int32))), .unset]) rfl ?_
        show Steps p.tables e below (s₁.setTop (mkF m 178 #[.val (.ref a), .val (.int i), .val (.int en), .val (.int (y0 &&& (255 : Int32))), .val (.int (1 : Int32)), .val (.int (128 : Int32)), .val (.int (191 : Int32)), .val (.int (1 : Int32)), .val (.int (i + (1 : Int32))), .unset] [])) _
        refine XS.iload X0.here hx rfl (hb hby d1_178) rfl ?_
        show Steps p.tables e below (s₁.setTop (mkF m 180 #[.val (.ref a), .val (.int i), .val (.int en), .val (.int (y0 &&& (255 : Int32))), .val (.int (1 : Int32)), .val (.int (128 : Int32)), .val (.int (191 : Int32)), .val (.int (1 : Int32)), .val (.int (i + (1 : Int32))), .unset] [(.int (1 : Int32))])) _
        refine XS.ifNo X0.here hx rfl (hb hby d1_180) rfl ((if0 _ _).trans (feq (by decide : ¬ ((1 : Int32) = (0 : Int32)))).1) ?_
        show Steps p.tables e below (s₁.setTop (mkF m 183 #[.val (.ref a), .val (.int i), .val (.int en), .val (.int (y0 &&& (255 : Int32))), .val (.int (1 : Int32)), .val (.int (128 : Int32)), .val (.int (191 : Int32)), .val (.int (1 : Int32)), .val (.int (i + (1 : Int32))), .unset] [])) _
        refine XS.iload X0.here hx rfl (hb hby d1_183) rfl ?_
        show Steps p.tables e below (s₁.setTop (mkF m 185 #[.val (.ref a), .val (.int i), .val (.int en), .val (.int (y0 &&& (255 : Int32))), .val (.int (1 : Int32)), .val (.int (128 : Int32)), .val (.int (191 : Int32)), .val (.int (1 : Int32)), .val (.int (i + (1 : Int32))), .unset] [(.int (i + (1 : Int32)))])) _
        refine XS.iloadN X0.here hx rfl (hb hby d1_185) rfl ?_
        show Steps p.tables e below (s₁.setTop (mkF m 186 #[.val (.ref a), .val (.int i), .val (.int en), .val (.int (y0 &&& (255 : Int32))), .val (.int (1 : Int32)), .val (.int (128 : Int32)), .val (.int (191 : Int32)), .val (.int (1 : Int32)), .val (.int (i + (1 : Int32))), .unset] [(.int i), (.int (i + (1 : Int32)))])) _
        refine XS.iload X0.here hx rfl (hb hby d1_186) rfl ?_
        show Steps p.tables e below (s₁.setTop (mkF m 188 #[.val (.ref a), .val (.int i), .val (.int en), .val (.int (y0 &&& (255 : Int32))), .val (.int (1 : Int32)), .val (.int (128 : Int32)), .val (.int (191 : Int32)), .val (.int (1 : Int32)), .val (.int (i + (1 : Int32))), .unset] [(.int (1 : Int32)), (.int i), (.int (i + (1 : Int32)))])) _
        refine XS.iadd X0.here hx rfl (hb hby d1_188) rfl ?_
        show Steps p.tables e below (s₁.setTop (mkF m 189 #[.val (.ref a), .val (.int i), .val (.int en), .val (.int (y0 &&& (255 : Int32))), .val (.int (1 : Int32)), .val (.int (128 : Int32)), .val (.int (191 : Int32)), .val (.int (1 : Int32)), .val (.int (i + (1 : Int32))), .unset] [(.int (i + (1 : Int32))), (.int (i + (1 : Int32)))])) _
        refine XS.icmpYes X0.here hx rfl (pc0 := 189) (pc' := 239) rfl (hb hby d1_189) rfl (flt hc189_83).2.1 (by decide) (by decide) ?_
        show Steps p.tables e below (s₁.setTop (mkF m 239 #[.val (.ref a), .val (.int i), .val (.int en), .val (.int (y0 &&& (255 : Int32))), .val (.int (1 : Int32)), .val (.int (128 : Int32)), .val (.int (191 : Int32)), .val (.int (1 : Int32)), .val (.int (i + (1 : Int32))), .unset] [])) _
        refine XS.iload X0.here hx rfl (hb hby d1_239) rfl ?_
        show Steps p.tables e below (s₁.setTop (mkF m 241 #[.val (.ref a), .val (.int i), .val (.int en), .val (.int (y0 &&& (255 : Int32))), .val (.int (1 : Int32)), .val (.int (128 : Int32)), .val (.int (191 : Int32)), .val (.int (1 : Int32)), .val (.int (i + (1 : Int32))), .unset] [(.int (1 : Int32))])) _
        refine XS.ifNo X0.here hx rfl (hb hby d1_241) rfl ((if0 _ _).trans (feq (by decide : ¬ ((1 : Int32) = (0 : Int32)))).1) ?_
        show Steps p.tables e below (s₁.setTop (mkF m 244 #[.val (.ref a), .val (.int i), .val (.int en), .val (.int (y0 &&& (255 : Int32))), .val (.int (1 : Int32)), .val (.int (128 : Int32)), .val (.int (191 : Int32)), .val (.int (1 : Int32)), .val (.int (i + (1 : Int32))), .unset] [])) _
        refine XS.iload X0.here hx rfl (hb hby d1_244) rfl ?_
        show Steps p.tables e below (s₁.setTop (mkF m 246 #[.val (.ref a), .val (.int i), .val (.int en), .val (.int (y0 &&& (255 : Int32))), .val (.int (1 : Int32)), .val (.int (128 : Int32)), .val (.int (191 : Int32)), .val (.int (1 : Int32)), .val (.int (i + (1 : Int32))), .unset] [(.int (1 : Int32))])) _
        refine XS.goto X0.here hx rfl (pc0 := 246) (pc' := 250) rfl (hb hby d1_246) (by decide) (by decide) ?_
        show Steps p.tables e below (s₁.setTop (mkF m 250 #[.val (.ref a), .val (.int i), .val (.int en), .val (.int (y0 &&& (255 : Int32))), .val (.int (1 : Int32)), .val (.int (128 : Int32)), .val (.int (191 : Int32)), .val (.int (1 : Int32)), .val (.int (i + (1 : Int32))), .unset] [(.int (1 : Int32))])) _
        exact kt
      obtain ⟨fs, hr, hrun, hended, hW, hsame⟩ := X0.leave (v := some (.int (1 : Int32))) (fun h => by rw [Bd.returns] at h; cases h)
      refine ⟨_, _, k84 _ (retI X0 hx Bd.returns (hb hby d1_250) hr), hrun, hended, _, _, rfl, ?_, ⟨_, rfl⟩, hW, hsame.mono (by decide) (by decide)⟩
      show Q1 Z a i en ii f y0 y1 y2 y3 h0 n0 _ s₁.heap _
      rw [e0]
      exact ⟨(by rw [own_eq_own_seq]; rw [if_pos hc22_75, if_neg hc163_77]), N0, rfl⟩
  · have k85 : ∀ tg_, Steps p.tables e below (s₁.setTop (mkF m 35 #[.val (.ref a), .val (.int i), .val (.int en), .val (.int (y0 &&& (255 : Int32))), .unset, .val (.int (128 : Int32)), .val (.int (191 : Int32)), .unset, .unset, .unset] [(.int (194 : Int32)), (.int (y0 &&& (255 : Int32)))])) tg_ → Steps p.tables e below (s₁.setTop (entryFrame m #[(.ref a), (.int i), (.int en)] 10)) tg_ := by
      intro tg_ kt
      refine k74 tg_ ?_
      refine XS.icmpYes X0.here hx rfl (pc0 := 22) (pc' := 31) rfl (hb hby d1_22) rfl (flt hc22_75).2.1 (by decide) (by decide) ?_
      show Steps p.tables e below (s₁.setTop (mkF m 31 #[.val (.ref a), .val (.int i), .val (.int en), .val (.int (y0 &&& (255 : Int32))), .unset, .val (.int (128 : Int32)), .val (.int (191 : Int32)), .unset, .unset, .unset] [])) _
      refine XS.iloadN X0.here hx rfl (hb hby d1_31) rfl ?_
      show Steps p.tables e below (s₁.setTop (mkF m 32 #[.val (.ref a), .val (.int i), .val (.int en), .val (.int (y0 &&& (255 : Int32))), .unset, .val (.int (128 : Int32)), .val (.int (191 : Int32)), .unset, .unset, .unset] [(.int (y0 &&& (255 : Int32)))])) _
      refine XS.sipush X0.here hx rfl (hb hby d1_32) ?_
      show Steps p.tables e below (s₁.setTop (mkF m 35 #[.val (.ref a), .val (.int i), .val (.int en), .val (.int (y0 &&& (255 : Int32))), .unset, .val (.int (128 : Int32)), .val (.int (191 : Int32)), .unset, .unset, .unset] [(.int (194 : Int32)), (.int (y0 &&& (255 : Int32)))])) _
      exact kt
    by_cases hc35_86 : (y0 &&& (255 : Int32)) < (194 : Int32)
    · have k87 : ∀ tg_, Steps p.tables e below (s₁.setTop (mkF m 163 #[.val (.ref a), .val (.int i), .val (.int en), .val (.int (y0 &&& (255 : Int32))), .val (.int (0 : Int32)), .val (.int (128 : Int32)), .val (.int (191 : Int32)), .unset, .unset, .unset] [(.int en), (.int (i + (0 : Int32)))])) tg_ → Steps p.tables e below (s₁.setTop (entryFrame m #[(.ref a), (.int i), (.int en)] 10)) tg_ := by
        intro tg_ kt
        refine k85 tg_ ?_
        refine XS.icmpNo X0.here hx rfl (hb hby d1_35) rfl (tlt hc35_86).2.1 ?_
        show Steps p.tables e below (s₁.setTop (mkF m 38 #[.val (.ref a), .val (.int i), .val (.int en), .val (.int (y0 &&& (255 : Int32))), .unset, .val (.int (128 : Int32)), .val (.int (191 : Int32)), .unset, .unset, .unset] [])) _
        refine XS.iconst X0.here hx rfl (hb hby d1_38) ?_
        show Steps p.tables e below (s₁.setTop (mkF m 39 #[.val (.ref a), .val (.int i), .val (.int en), .val (.int (y0 &&& (255 : Int32))), .unset, .val (.int (128 : Int32)), .val (.int (191 : Int32)), .unset, .unset, .unset] [(.int (0 : Int32))])) _
        refine XS.istore X0.here hx rfl (hb hby d1_39) rfl (l' := #[.val (.ref a), .val (.int i), .val (.int en), .val (.int (y0 &&& (255 : Int32))), .val (.int (0 : Int32)), .val (.int (128 : Int32)), .val (.int (191 : Int32)), .unset, .unset, .unset]) rfl ?_
        show Steps p.tables e below (s₁.setTop (mkF m 41 #[.val (.ref a), .val (.int i), .val (.int en), .val (.int (y0 &&& (255 : Int32))), .val (.int (0 : Int32)), .val (.int (128 : Int32)), .val (.int (191 : Int32)), .unset, .unset, .unset] [])) _
        refine XS.goto X0.here hx rfl (pc0 := 41) (pc' := 158) rfl (hb hby d1_41) (by decide) (by decide) ?_
        show Steps p.tables e below (s₁.setTop (mkF m 158 #[.val (.ref a), .val (.int i), .val (.int en), .val (.int (y0 &&& (255 : Int32))), .val (.int (0 : Int32)), .val (.int (128 : Int32)), .val (.int (191 : Int32)), .unset, .unset, .unset] [])) _
        refine XS.iloadN X0.here hx rfl (hb hby d1_158) rfl ?_
        show Steps p.tables e below (s₁.setTop (mkF m 159 #[.val (.ref a), .val (.int i), .val (.int en), .val (.int (y0 &&& (255 : Int32))), .val (.int (0 : Int32)), .val (.int (128 : Int32)), .val (.int (191 : Int32)), .unset, .unset, .unset] [(.int i)])) _
        refine XS.iload X0.here hx rfl (hb hby d1_159) rfl ?_
        show Steps p.tables e below (s₁.setTop (mkF m 161 #[.val (.ref a), .val (.int i), .val (.int en), .val (.int (y0 &&& (255 : Int32))), .val (.int (0 : Int32)), .val (.int (128 : Int32)), .val (.int (191 : Int32)), .unset, .unset, .unset] [(.int (0 : Int32)), (.int i)])) _
        refine XS.iadd X0.here hx rfl (hb hby d1_161) rfl ?_
        show Steps p.tables e below (s₁.setTop (mkF m 162 #[.val (.ref a), .val (.int i), .val (.int en), .val (.int (y0 &&& (255 : Int32))), .val (.int (0 : Int32)), .val (.int (128 : Int32)), .val (.int (191 : Int32)), .unset, .unset, .unset] [(.int (i + (0 : Int32)))])) _
        refine XS.iloadN X0.here hx rfl (hb hby d1_162) rfl ?_
        show Steps p.tables e below (s₁.setTop (mkF m 163 #[.val (.ref a), .val (.int i), .val (.int en), .val (.int (y0 &&& (255 : Int32))), .val (.int (0 : Int32)), .val (.int (128 : Int32)), .val (.int (191 : Int32)), .unset, .unset, .unset] [(.int en), (.int (i + (0 : Int32)))])) _
        exact kt
      by_cases hc163_88 : en < (i + (0 : Int32))
      · have k89 : ∀ tg_, Steps p.tables e below (s₁.setTop (mkF m 250 #[.val (.ref a), .val (.int i), .val (.int en), .val (.int (y0 &&& (255 : Int32))), .val (.int (0 : Int32)), .val (.int (128 : Int32)), .val (.int (191 : Int32)), .val (.int (0 : Int32)), .val (.int (i + (1 : Int32))), .unset] [(.int (0 : Int32))])) tg_ → Steps p.tables e below (s₁.setTop (entryFrame m #[(.ref a), (.int i), (.int en)] 10)) tg_ := by
          intro tg_ kt
          refine k87 tg_ ?_
          refine XS.icmpYes X0.here hx rfl (pc0 := 163) (pc' := 170) rfl (hb hby d1_163) rfl (tlt hc163_88).2.2.1 (by decide) (by decide) ?_
          show Steps p.tables e below (s₁.setTop (mkF m 170 #[.val (.ref a), .val (.int i), .val (.int en), .val (.int (y0 &&& (255 : Int32))), .val (.int (0 : Int32)), .val (.int (128 : Int32)), .val (.int (191 : Int32)), .unset, .unset, .unset] [])) _
          refine XS.iconst X0.here hx rfl (hb hby d1_170) ?_
          show Steps p.tables e below (s₁.setTop (mkF m 171 #[.val (.ref a), .val (.int i), .val (.int en), .val (.int (y0 &&& (255 : Int32))), .val (.int (0 : Int32)), .val (.int (128 : Int32)), .val (.int (191 : Int32)), .unset, .unset, .unset] [(.int (0 : Int32))])) _
          refine XS.istore X0.here hx rfl (hb hby d1_171) rfl (l' := #[.val (.ref a), .val (.int i), .val (.int en), .val (.int (y0 &&& (255 : Int32))), .val (.int (0 : Int32)), .val (.int (128 : Int32)), .val (.int (191 : Int32)), .val (.int (0 : Int32)), .unset, .unset]) rfl ?_
          show Steps p.tables e below (s₁.setTop (mkF m 173 #[.val (.ref a), .val (.int i), .val (.int en), .val (.int (y0 &&& (255 : Int32))), .val (.int (0 : Int32)), .val (.int (128 : Int32)), .val (.int (191 : Int32)), .val (.int (0 : Int32)), .unset, .unset] [])) _
          refine XS.iloadN X0.here hx rfl (hb hby d1_173) rfl ?_
          show Steps p.tables e below (s₁.setTop (mkF m 174 #[.val (.ref a), .val (.int i), .val (.int en), .val (.int (y0 &&& (255 : Int32))), .val (.int (0 : Int32)), .val (.int (128 : Int32)), .val (.int (191 : Int32)), .val (.int (0 : Int32)), .unset, .unset] [(.int i)])) _
          refine XS.iconst X0.here hx rfl (hb hby d1_174) ?_
          show Steps p.tables e below (s₁.setTop (mkF m 175 #[.val (.ref a), .val (.int i), .val (.int en), .val (.int (y0 &&& (255 : Int32))), .val (.int (0 : Int32)), .val (.int (128 : Int32)), .val (.int (191 : Int32)), .val (.int (0 : Int32)), .unset, .unset] [(.int (1 : Int32)), (.int i)])) _
          refine XS.iadd X0.here hx rfl (hb hby d1_175) rfl ?_
          show Steps p.tables e below (s₁.setTop (mkF m 176 #[.val (.ref a), .val (.int i), .val (.int en), .val (.int (y0 &&& (255 : Int32))), .val (.int (0 : Int32)), .val (.int (128 : Int32)), .val (.int (191 : Int32)), .val (.int (0 : Int32)), .unset, .unset] [(.int (i + (1 : Int32)))])) _
          refine XS.istore X0.here hx rfl (hb hby d1_176) rfl (l' := #[.val (.ref a), .val (.int i), .val (.int en), .val (.int (y0 &&& (255 : Int32))), .val (.int (0 : Int32)), .val (.int (128 : Int32)), .val (.int (191 : Int32)), .val (.int (0 : Int32)), .val (.int (i + (1 : Int32))), .unset]) rfl ?_
          show Steps p.tables e below (s₁.setTop (mkF m 178 #[.val (.ref a), .val (.int i), .val (.int en), .val (.int (y0 &&& (255 : Int32))), .val (.int (0 : Int32)), .val (.int (128 : Int32)), .val (.int (191 : Int32)), .val (.int (0 : Int32)), .val (.int (i + (1 : Int32))), .unset] [])) _
          refine XS.iload X0.here hx rfl (hb hby d1_178) rfl ?_
          show Steps p.tables e below (s₁.setTop (mkF m 180 #[.val (.ref a), .val (.int i), .val (.int en), .val (.int (y0 &&& (255 : Int32))), .val (.int (0 : Int32)), .val (.int (128 : Int32)), .val (.int (191 : Int32)), .val (.int (0 : Int32)), .val (.int (i + (1 : Int32))), .unset] [(.int (0 : Int32))])) _
          refine XS.ifYes X0.here hx rfl (pc0 := 180) (pc' := 239) rfl (hb hby d1_180) rfl ((if0 _ _).trans (teq (by decide : (0 : Int32) = (0 : Int32))).1) (by decide) (by decide) ?_
          show Steps p.tables e below (s₁.setTop (mkF m 239 #[.val (.ref a), .val (.int i), .val (.int en), .val (.int (y0 &&& (255 : Int32))), .val (.int (0 : Int32)), .val (.int (128 : Int32)), .val (.int (191 : Int32)), .val (.int (0 : Int32)), .val (.int (i + (1 : Int32))), .unset] [])) _
          refine XS.iload X0.here hx rfl (hb hby d1_239) rfl ?_
          show Steps p.tables e below (s₁.setTop (mkF m 241 #[.val (.ref a), .val (.int i), .val (.int en), .val (.int (y0 &&& (255 : Int32))), .val (.int (0 : Int32)), .val (.int (128 : Int32)), .val (.int (191 : Int32)), .val (.int (0 : Int32)), .val (.int (i + (1 : Int32))), .unset] [(.int (0 : Int32))])) _
          refine XS.ifYes X0.here hx rfl (pc0 := 241) (pc' := 249) rfl (hb hby d1_241) rfl ((if0 _ _).trans (teq (by decide : (0 : Int32) = (0 : Int32))).1) (by decide) (by decide) ?_
          show Steps p.tables e below (s₁.setTop (mkF m 249 #[.val (.ref a), .val (.int i), .val (.int en), .val (.int (y0 &&& (255 : Int32))), .val (.int (0 : Int32)), .val (.int (128 : Int32)), .val (.int (191 : Int32)), .val (.int (0 : Int32)), .val (.int (i + (1 : Int32))), .unset] [])) _
          refine XS.iconst X0.here hx rfl (hb hby d1_249) ?_
          show Steps p.tables e below (s₁.setTop (mkF m 250 #[.val (.ref a), .val (.int i), .val (.int en), .val (.int (y0 &&& (255 : Int32))), .val (.int (0 : Int32)), .val (.int (128 : Int32)), .val (.int (191 : Int32)), .val (.int (0 : Int32)), .val (.int (i + (1 : Int32))), .unset] [(.int (0 : Int32))])) _
          exact kt
        obtain ⟨fs, hr, hrun, hended, hW, hsame⟩ := X0.leave (v := some (.int (0 : Int32))) (fun h => by rw [Bd.returns] at h; cases h)
        refine ⟨_, _, k89 _ (retI X0 hx Bd.returns (hb hby d1_250) hr), hrun, hended, _, _, rfl, ?_, ⟨_, rfl⟩, hW, hsame.mono (by decide) (by decide)⟩
        show Q1 Z a i en ii f y0 y1 y2 y3 h0 n0 _ s₁.heap _
        rw [e0]
        exact ⟨(by rw [own_eq_own_seq]; rw [if_neg hc22_75, if_pos hc35_86, if_pos hc163_88]), N0, rfl⟩
      · have hc189_97 : ¬ ((i + (1 : Int32)) < (i + (0 : Int32))) := (by
            have ar90 := rng32 i
            have ar91 : (1 : Int32).toInt = 1 := by decide
            have ar92 := rng32 (i + (1 : Int32))
            first | have ar93 : (i + (1 : Int32)).toInt = i.toInt + 1 := (by have qw := c_iadd i (1 : Int32); omega) | (have ar93 := c_iadd i (1 : Int32); skip)
            have ar94 : (0 : Int32).toInt = 0 := by decide
            have ar95 := rng32 (i + (0 : Int32))
            first | have ar96 : (i + (0 : Int32)).toInt = i.toInt + 0 := (by have qw := c_iadd i (0 : Int32); omega) | (have ar96 := c_iadd i (0 : Int32); skip)
            exact fun qq_ => absurd (Int32.lt_iff_toInt_lt.mp qq_) (by omega))
        have k98 : ∀ tg_, Steps p.tables e below (s₁.setTop (mkF m 250 #[.val (.ref a), .val (.int i), .val (.int en), .val (.int (y0 &&& (255 : Int32))), .val (.int (0 : Int32)), .val (.int (128 : Int32)), .val (.int (191 : Int32)), .val (.int (1 : Int32)), .val (.int (i + (1 : Int32))), .unset] [(.int (0 : Int32))])) tg_ → Steps p.tables e below (s₁.setTop (entryFrame m #[(.ref a), (.int i), (.int en)] 10)) tg_ := by
          intro tg_ kt
          refine k87 tg_ ?_
          refine XS.icmpNo X0.here hx rfl (hb hby d1_163) rfl (flt hc163_88).2.2.1 ?_
          show Steps p.tables e below (s₁.setTop (mkF m 166 #[.val (.ref a), .val (.int i), .val (.int en), .val (.int (y0 &&& (255 : Int32))), .val (.int (0 : Int32)), .val (.int (128 : Int32)), .val (.int (191 : Int32)), .unset, .unset, .unset] [])) _
          refine XS.iconst X0.here hx rfl (hb hby d1_166) ?_
          show Steps p.tables e below (s₁.setTop (mkF m 167 #[.val (.ref a), .val (.int i), .val (.int en), .val (.int (y0 &&& (255 : Int32))), .val (.int (0 : Int32)), .val (.int (128 : Int32)), .val (.int (191 : Int32)), .unset, .unset, .unset] [(.int (1 : Int32))])) _
          refine XS.goto X0.here hx rfl (pc0 := 167) (pc' := 171) rfl (hb hby d1_167) (by decide) (by decide) ?_
          show Steps p.tables e below (s₁.setTop (mkF m 171 #[.val (.ref a), .val (.int i), .val (.int en), .val (.int (y0 &&& (255 : Int32))), .val (.int (0 : Int32)), .val (.int (128 : Int32)), .val (.int (191 : Int32)), .unset, .unset, .unset] [(.int (1 : Int32))])) _
          refine XS.istore X0.here hx rfl (hb hby d1_171) rfl (l' := #[.val (.ref a), .val (.int i), .val (.int en), .val (.int (y0 &&& (255 : Int32))), .val (.int (0 : Int32)), .val (.int (128 : Int32)), .val (.int (191 : Int32)), .val (.int (1 : Int32)), .unset, .unset]) rfl ?_
          show Steps p.tables e below (s₁.setTop (mkF m 173 #[.val (.ref a), .val (.int i), .val (.int en), .val (.int (y0 &&& (255 : Int32))), .val (.int (0 : Int32)), .val (.int (128 : Int32)), .val (.int (191 : Int32)), .val (.int (1 : Int32)), .unset, .unset] [])) _
          refine XS.iloadN X0.here hx rfl (hb hby d1_173) rfl ?_
          show Steps p.tables e below (s₁.setTop (mkF m 174 #[.val (.ref a), .val (.int i), .val (.int en), .val (.int (y0 &&& (255 : Int32))), .val (.int (0 : Int32)), .val (.int (128 : Int32)), .val (.int (191 : Int32)), .val (.int (1 : Int32)), .unset, .unset] [(.int i)])) _
          refine XS.iconst X0.here hx rfl (hb hby d1_174) ?_
          show Steps p.tables e below (s₁.setTop (mkF m 175 #[.val (.ref a), .val (.int i), .val (.int en), .val (.int (y0 &&& (255 : Int32))), .val (.int (0 : Int32)), .val (.int (128 : Int32)), .val (.int (191 : Int32)), .val (.int (1 : Int32)), .unset, .unset] [(.int (1 : Int32)), (.int i)])) _
          refine XS.iadd X0.here hx rfl (hb hby d1_175) rfl ?_
          show Steps p.tables e below (s₁.setTop (mkF m 176 #[.val (.ref a), .val (.int i), .val (.int en), .val (.int (y0 &&& (255 : Int32))), .val (.int (0 : Int32)), .val (.int (128 : Int32)), .val (.int (191 : Int32)), .val (.int (1 : Int32)), .unset, .unset] [(.int (i + (1 : Int32)))])) _
          refine XS.istore X0.here hx rfl (hb hby d1_176) rfl (l' := #[.val (.ref a), .val (.int i), .val (.int en), .val (.int (y0 &&& (255 : Int32))), .val (.int (0 : Int32)), .val (.int (128 : Int32)), .val (.int (191 : Int32)), .val (.int (1 : Int32)), .val (.int (i + (1 : Int32))), .unset]) rfl ?_
          show Steps p.tables e below (s₁.setTop (mkF m 178 #[.val (.ref a), .val (.int i), .val (.int en), .val (.int (y0 &&& (255 : Int32))), .val (.int (0 : Int32)), .val (.int (128 : Int32)), .val (.int (191 : Int32)), .val (.int (1 : Int32)), .val (.int (i + (1 : Int32))), .unset] [])) _
          refine XS.iload X0.here hx rfl (hb hby d1_178) rfl ?_
          show Steps p.tables e below (s₁.setTop (mkF m 180 #[.val (.ref a), .val (.int i), .val (.int en), .val (.int (y0 &&& (255 : Int32))), .val (.int (0 : Int32)), .val (.int (128 : Int32)), .val (.int (191 : Int32)), .val (.int (1 : Int32)), .val (.int (i + (1 : Int32))), .unset] [(.int (1 : Int32))])) _
          refine XS.ifNo X0.here hx rfl (hb hby d1_180) rfl ((if0 _ _).trans (feq (by decide : ¬ ((1 : Int32) = (0 : Int32)))).1) ?_
          show Steps p.tables e below (s₁.setTop (mkF m 183 #[.val (.ref a), .val (.int i), .val (.int en), .val (.int (y0 &&& (255 : Int32))), .val (.int (0 : Int32)), .val (.int (128 : Int32)), .val (.int (191 : Int32)), .val (.int (1 : Int32)), .val (.int (i + (1 : Int32))), .unset] [])) _
          refine XS.iload X0.here hx rfl (hb hby d1_183) rfl ?_
          show Steps p.tables e below (s₁.setTop (mkF m 185 #[.val (.ref a), .val (.int i), .val (.int en), .val (.int (y0 &&& (255 : Int32))), .val (.int (0 : Int32)), .val (.int (128 : Int32)), .val (.int (191 : Int32)), .val (.int (1 : Int32)), .val (.int (i + (1 : Int32))), .unset] [(.int (i + (1 : Int32)))])) _
          refine XS.iloadN X0.here hx rfl (hb hby d1_185) rfl ?_
          show Steps p.tables e below (s₁.setTop (mkF m 186 #[.val (.ref a), .val (.int i), .val (.int en), .val (.int (y0 &&& (255 : Int32))), .val (.int (0 : Int32)), .val (.int (128 : Int32)), .val (.int (191 : Int32)), .val (.int (1 : Int32)), .val (.int (i + (1 : Int32))), .unset] [(.int i), (.int (i + (1 : Int32)))])) _
          refine XS.iload X0.here hx rfl (hb hby d1_186) rfl ?_
          show Steps p.tables e below (s₁.setTop (mkF m 188 #[.val (.ref a), .val (.int i), .val (.int en), .val (.int (y0 &&& (255 : Int32))), .val (.int (0 : Int32)), .val (.int (128 : Int32)), .val (.int (191 : Int32)), .val (.int (1 : Int32)), .val (.int (i + (1 : Int32))), .unset] [(.int (0 : Int32)), (.int i), (.int (i + (1 : Int32)))])) _
          refine XS.iadd X0.here hx rfl (hb hby d1_188) rfl ?_
          show Steps p.tables e below (s₁.setTop (mkF m 189 #[.val (.ref a), .val (.int i), .val (.int en), .val (.int (y0 &&& (255 : Int32))), .val (.int (0 : Int32)), .val (.int (128 : Int32)), .val (.int (191 : Int32)), .val (.int (1 : Int32)), .val (.int (i + (1 : Int32))), .unset] [(.int (i + (0 : Int32))), (.int (i + (1 : Int32)))])) _
          refine XS.icmpYes X0.here hx rfl (pc0 := 189) (pc' := 239) rfl (hb hby d1_189) rfl (flt hc189_97).2.1 (by decide) (by decide) ?_
          show Steps p.tables e below (s₁.setTop (mkF m 239 #[.val (.ref a), .val (.int i), .val (.int en), .val (.int (y0 &&& (255 : Int32))), .val (.int (0 : Int32)), .val (.int (128 : Int32)), .val (.int (191 : Int32)), .val (.int (1 : Int32)), .val (.int (i + (1 : Int32))), .unset] [])) _
          refine XS.iload X0.here hx rfl (hb hby d1_239) rfl ?_
          show Steps p.tables e below (s₁.setTop (mkF m 241 #[.val (.ref a), .val (.int i), .val (.int en), .val (.int (y0 &&& (255 : Int32))), .val (.int (0 : Int32)), .val (.int (128 : Int32)), .val (.int (191 : Int32)), .val (.int (1 : Int32)), .val (.int (i + (1 : Int32))), .unset] [(.int (1 : Int32))])) _
          refine XS.ifNo X0.here hx rfl (hb hby d1_241) rfl ((if0 _ _).trans (feq (by decide : ¬ ((1 : Int32) = (0 : Int32)))).1) ?_
          show Steps p.tables e below (s₁.setTop (mkF m 244 #[.val (.ref a), .val (.int i), .val (.int en), .val (.int (y0 &&& (255 : Int32))), .val (.int (0 : Int32)), .val (.int (128 : Int32)), .val (.int (191 : Int32)), .val (.int (1 : Int32)), .val (.int (i + (1 : Int32))), .unset] [])) _
          refine XS.iload X0.here hx rfl (hb hby d1_244) rfl ?_
          show Steps p.tables e below (s₁.setTop (mkF m 246 #[.val (.ref a), .val (.int i), .val (.int en), .val (.int (y0 &&& (255 : Int32))), .val (.int (0 : Int32)), .val (.int (128 : Int32)), .val (.int (191 : Int32)), .val (.int (1 : Int32)), .val (.int (i + (1 : Int32))), .unset] [(.int (0 : Int32))])) _
          refine XS.goto X0.here hx rfl (pc0 := 246) (pc' := 250) rfl (hb hby d1_246) (by decide) (by decide) ?_
          show Steps p.tables e below (s₁.setTop (mkF m 250 #[.val (.ref a), .val (.int i), .val (.int en), .val (.int (y0 &&& (255 : Int32))), .val (.int (0 : Int32)), .val (.int (128 : Int32)), .val (.int (191 : Int32)), .val (.int (1 : Int32)), .val (.int (i + (1 : Int32))), .unset] [(.int (0 : Int32))])) _
          exact kt
        obtain ⟨fs, hr, hrun, hended, hW, hsame⟩ := X0.leave (v := some (.int (0 : Int32))) (fun h => by rw [Bd.returns] at h; cases h)
        refine ⟨_, _, k98 _ (retI X0 hx Bd.returns (hb hby d1_250) hr), hrun, hended, _, _, rfl, ?_, ⟨_, rfl⟩, hW, hsame.mono (by decide) (by decide)⟩
        show Q1 Z a i en ii f y0 y1 y2 y3 h0 n0 _ s₁.heap _
        rw [e0]
        exact ⟨(by rw [own_eq_own_seq]; rw [if_neg hc22_75, if_pos hc35_86, if_neg hc163_88]), N0, rfl⟩
    · have k99 : ∀ tg_, Steps p.tables e below (s₁.setTop (mkF m 48 #[.val (.ref a), .val (.int i), .val (.int en), .val (.int (y0 &&& (255 : Int32))), .unset, .val (.int (128 : Int32)), .val (.int (191 : Int32)), .unset, .unset, .unset] [(.int (224 : Int32)), (.int (y0 &&& (255 : Int32)))])) tg_ → Steps p.tables e below (s₁.setTop (entryFrame m #[(.ref a), (.int i), (.int en)] 10)) tg_ := by
        intro tg_ kt
        refine k85 tg_ ?_
        refine XS.icmpYes X0.here hx rfl (pc0 := 35) (pc' := 44) rfl (hb hby d1_35) rfl (flt hc35_86).2.1 (by decide) (by decide) ?_
        show Steps p.tables e below (s₁.setTop (mkF m 44 #[.val (.ref a), .val (.int i), .val (.int en), .val (.int (y0 &&& (255 : Int32))), .unset, .val (.int (128 : Int32)), .val (.int (191 : Int32)), .unset, .unset, .unset] [])) _
        refine XS.iloadN X0.here hx rfl (hb hby d1_44) rfl ?_
        show Steps p.tables e below (s₁.setTop (mkF m 45 #[.val (.ref a), .val (.int i), .val (.int en), .val (.int (y0 &&& (255 : Int32))), .unset, .val (.int (128 : Int32)), .val (.int (191 : Int32)), .unset, .unset, .unset] [(.int (y0 &&& (255 : Int32)))])) _
        refine XS.sipush X0.here hx rfl (hb hby d1_45) ?_
        show Steps p.tables e below (s₁.setTop (mkF m 48 #[.val (.ref a), .val (.int i), .val (.int en), .val (.int (y0 &&& (255 : Int32))), .unset, .val (.int (128 : Int32)), .val (.int (191 : Int32)), .unset, .unset, .unset] [(.int (224 : Int32)), (.int (y0 &&& (255 : Int32)))])) _
        exact kt
      by_cases hc48_100 : (y0 &&& (255 : Int32)) < (224 : Int32)
      · have k101 : ∀ tg_, Steps p.tables e below (s₁.setTop (mkF m 163 #[.val (.ref a), .val (.int i), .val (.int en), .val (.int (y0 &&& (255 : Int32))), .val (.int (2 : Int32)), .val (.int (128 : Int32)), .val (.int (191 : Int32)), .unset, .unset, .unset] [(.int en), (.int (i + (2 : Int32)))])) tg_ → Steps p.tables e below (s₁.setTop (entryFrame m #[(.ref a), (.int i), (.int en)] 10)) tg_ := by
          intro tg_ kt
          refine k99 tg_ ?_
          refine XS.icmpNo X0.here hx rfl (hb hby d1_48) rfl (tlt hc48_100).2.1 ?_
          show Steps p.tables e below (s₁.setTop (mkF m 51 #[.val (.ref a), .val (.int i), .val (.int en), .val (.int (y0 &&& (255 : Int32))), .unset, .val (.int (128 : Int32)), .val (.int (191 : Int32)), .unset, .unset, .unset] [])) _
          refine XS.iconst X0.here hx rfl (hb hby d1_51) ?_
          show Steps p.tables e below (s₁.setTop (mkF m 52 #[.val (.ref a), .val (.int i), .val (.int en), .val (.int (y0 &&& (255 : Int32))), .unset, .val (.int (128 : Int32)), .val (.int (191 : Int32)), .unset, .unset, .unset] [(.int (2 : Int32))])) _
          refine XS.istore X0.here hx rfl (hb hby d1_52) rfl (l' := #[.val (.ref a), .val (.int i), .val (.int en), .val (.int (y0 &&& (255 : Int32))), .val (.int (2 : Int32)), .val (.int (128 : Int32)), .val (.int (191 : Int32)), .unset, .unset, .unset]) rfl ?_
          show Steps p.tables e below (s₁.setTop (mkF m 54 #[.val (.ref a), .val (.int i), .val (.int en), .val (.int (y0 &&& (255 : Int32))), .val (.int (2 : Int32)), .val (.int (128 : Int32)), .val (.int (191 : Int32)), .unset, .unset, .unset] [])) _
          refine XS.goto X0.here hx rfl (pc0 := 54) (pc' := 158) rfl (hb hby d1_54) (by decide) (by decide) ?_
          show Steps p.tables e below (s₁.setTop (mkF m 158 #[.val (.ref a), .val (.int i), .val (.int en), .val (.int (y0 &&& (255 : Int32))), .val (.int (2 : Int32)), .val (.int (128 : Int32)), .val (.int (191 : Int32)), .unset, .unset, .unset] [])) _
          refine XS.iloadN X0.here hx rfl (hb hby d1_158) rfl ?_
          show Steps p.tables e below (s₁.setTop (mkF m 159 #[.val (.ref a), .val (.int i), .val (.int en), .val (.int (y0 &&& (255 : Int32))), .val (.int (2 : Int32)), .val (.int (128 : Int32)), .val (.int (191 : Int32)), .unset, .unset, .unset] [(.int i)])) _
          refine XS.iload X0.here hx rfl (hb hby d1_159) rfl ?_
          show Steps p.tables e below (s₁.setTop (mkF m 161 #[.val (.ref a), .val (.int i), .val (.int en), .val (.int (y0 &&& (255 : Int32))), .val (.int (2 : Int32)), .val (.int (128 : Int32)), .val (.int (191 : Int32)), .unset, .unset, .unset] [(.int (2 : Int32)), (.int i)])) _
          refine XS.iadd X0.here hx rfl (hb hby d1_161) rfl ?_
          show Steps p.tables e below (s₁.setTop (mkF m 162 #[.val (.ref a), .val (.int i), .val (.int en), .val (.int (y0 &&& (255 : Int32))), .val (.int (2 : Int32)), .val (.int (128 : Int32)), .val (.int (191 : Int32)), .unset, .unset, .unset] [(.int (i + (2 : Int32)))])) _
          refine XS.iloadN X0.here hx rfl (hb hby d1_162) rfl ?_
          show Steps p.tables e below (s₁.setTop (mkF m 163 #[.val (.ref a), .val (.int i), .val (.int en), .val (.int (y0 &&& (255 : Int32))), .val (.int (2 : Int32)), .val (.int (128 : Int32)), .val (.int (191 : Int32)), .unset, .unset, .unset] [(.int en), (.int (i + (2 : Int32)))])) _
          exact kt
        by_cases hc163_102 : en < (i + (2 : Int32))
        · have k103 : ∀ tg_, Steps p.tables e below (s₁.setTop (mkF m 250 #[.val (.ref a), .val (.int i), .val (.int en), .val (.int (y0 &&& (255 : Int32))), .val (.int (2 : Int32)), .val (.int (128 : Int32)), .val (.int (191 : Int32)), .val (.int (0 : Int32)), .val (.int (i + (1 : Int32))), .unset] [(.int (0 : Int32))])) tg_ → Steps p.tables e below (s₁.setTop (entryFrame m #[(.ref a), (.int i), (.int en)] 10)) tg_ := by
            intro tg_ kt
            refine k101 tg_ ?_
            refine XS.icmpYes X0.here hx rfl (pc0 := 163) (pc' := 170) rfl (hb hby d1_163) rfl (tlt hc163_102).2.2.1 (by decide) (by decide) ?_
            show Steps p.tables e below (s₁.setTop (mkF m 170 #[.val (.ref a), .val (.int i), .val (.int en), .val (.int (y0 &&& (255 : Int32))), .val (.int (2 : Int32)), .val (.int (128 : Int32)), .val (.int (191 : Int32)), .unset, .unset, .unset] [])) _
            refine XS.iconst X0.here hx rfl (hb hby d1_170) ?_
            show Steps p.tables e below (s₁.setTop (mkF m 171 #[.val (.ref a), .val (.int i), .val (.int en), .val (.int (y0 &&& (255 : Int32))), .val (.int (2 : Int32)), .val (.int (128 : Int32)), .val (.int (191 : Int32)), .unset, .unset, .unset] [(.int (0 : Int32))])) _
            refine XS.istore X0.here hx rfl (hb hby d1_171) rfl (l' := #[.val (.ref a), .val (.int i), .val (.int en), .val (.int (y0 &&& (255 : Int32))), .val (.int (2 : Int32)), .val (.int (128 : Int32)), .val (.int (191 : Int32)), .val (.int (0 : Int32)), .unset, .unset]) rfl ?_
            show Steps p.tables e below (s₁.setTop (mkF m 173 #[.val (.ref a), .val (.int i), .val (.int en), .val (.int (y0 &&& (255 : Int32))), .val (.int (2 : Int32)), .val (.int (128 : Int32)), .val (.int (191 : Int32)), .val (.int (0 : Int32)), .unset, .unset] [])) _
            refine XS.iloadN X0.here hx rfl (hb hby d1_173) rfl ?_
            show Steps p.tables e below (s₁.setTop (mkF m 174 #[.val (.ref a), .val (.int i), .val (.int en), .val (.int (y0 &&& (255 : Int32))), .val (.int (2 : Int32)), .val (.int (128 : Int32)), .val (.int (191 : Int32)), .val (.int (0 : Int32)), .unset, .unset] [(.int i)])) _
            refine XS.iconst X0.here hx rfl (hb hby d1_174) ?_
            show Steps p.tables e below (s₁.setTop (mkF m 175 #[.val (.ref a), .val (.int i), .val (.int en), .val (.int (y0 &&& (255 : Int32))), .val (.int (2 : Int32)), .val (.int (128 : Int32)), .val (.int (191 : Int32)), .val (.int (0 : Int32)), .unset, .unset] [(.int (1 : Int32)), (.int i)])) _
            refine XS.iadd X0.here hx rfl (hb hby d1_175) rfl ?_
            show Steps p.tables e below (s₁.setTop (mkF m 176 #[.val (.ref a), .val (.int i), .val (.int en), .val (.int (y0 &&& (255 : Int32))), .val (.int (2 : Int32)), .val (.int (128 : Int32)), .val (.int (191 : Int32)), .val (.int (0 : Int32)), .unset, .unset] [(.int (i + (1 : Int32)))])) _
            refine XS.istore X0.here hx rfl (hb hby d1_176) rfl (l' := #[.val (.ref a), .val (.int i), .val (.int en), .val (.int (y0 &&& (255 : Int32))), .val (.int (2 : Int32)), .val (.int (128 : Int32)), .val (.int (191 : Int32)), .val (.int (0 : Int32)), .val (.int (i + (1 : Int32))), .unset]) rfl ?_
            show Steps p.tables e below (s₁.setTop (mkF m 178 #[.val (.ref a), .val (.int i), .val (.int en), .val (.int (y0 &&& (255 : Int32))), .val (.int (2 : Int32)), .val (.int (128 : Int32)), .val (.int (191 : Int32)), .val (.int (0 : Int32)), .val (.int (i + (1 : Int32))), .unset] [])) _
            refine XS.iload X0.here hx rfl (hb hby d1_178) rfl ?_
            show Steps p.tables e below (s₁.setTop (mkF m 180 #[.val (.ref a), .val (.int i), .val (.int en), .val (.int (y0 &&& (255 : Int32))), .val (.int (2 : Int32)), .val (.int (128 : Int32)), .val (.int (191 : Int32)), .val (.int (0 : Int32)), .val (.int (i + (1 : Int32))), .unset] [(.int (0 : Int32))])) _
            refine XS.ifYes X0.here hx rfl (pc0 := 180) (pc' := 239) rfl (hb hby d1_180) rfl ((if0 _ _).trans (teq (by decide : (0 : Int32) = (0 : Int32))).1) (by decide) (by decide) ?_
            show Steps p.tables e below (s₁.setTop (mkF m 239 #[.val (.ref a), .val (.int i), .val (.int en), .val (.int (y0 &&& (255 : Int32))), .val (.int (2 : Int32)), .val (.int (128 : Int32)), .val (.int (191 : Int32)), .val (.int (0 : Int32)), .val (.int (i + (1 : Int32))), .unset] [])) _
            refine XS.iload X0.here hx rfl (hb hby d1_239) rfl ?_
            show Steps p.tables e below (s₁.setTop (mkF m 241 #[.val (.ref a), .val (.int i), .val (.int en), .val (.int (y0 &&& (255 : Int32))), .val (.int (2 : Int32)), .val (.int (128 : Int32)), .val (.int (191 : Int32)), .val (.int (0 : Int32)), .val (.int (i + (1 : Int32))), .unset] [(.int (0 : Int32))])) _
            refine XS.ifYes X0.here hx rfl (pc0 := 241) (pc' := 249) rfl (hb hby d1_241) rfl ((if0 _ _).trans (teq (by decide : (0 : Int32) = (0 : Int32))).1) (by decide) (by decide) ?_
            show Steps p.tables e below (s₁.setTop (mkF m 249 #[.val (.ref a), .val (.int i), .val (.int en), .val (.int (y0 &&& (255 : Int32))), .val (.int (2 : Int32)), .val (.int (128 : Int32)), .val (.int (191 : Int32)), .val (.int (0 : Int32)), .val (.int (i + (1 : Int32))), .unset] [])) _
            refine XS.iconst X0.here hx rfl (hb hby d1_249) ?_
            show Steps p.tables e below (s₁.setTop (mkF m 250 #[.val (.ref a), .val (.int i), .val (.int en), .val (.int (y0 &&& (255 : Int32))), .val (.int (2 : Int32)), .val (.int (128 : Int32)), .val (.int (191 : Int32)), .val (.int (0 : Int32)), .val (.int (i + (1 : Int32))), .unset] [(.int (0 : Int32))])) _
            exact kt
          obtain ⟨fs, hr, hrun, hended, hW, hsame⟩ := X0.leave (v := some (.int (0 : Int32))) (fun h => by rw [Bd.returns] at h; cases h)
          refine ⟨_, _, k103 _ (retI X0 hx Bd.returns (hb hby d1_250) hr), hrun, hended, _, _, rfl, ?_, ⟨_, rfl⟩, hW, hsame.mono (by decide) (by decide)⟩
          show Q1 Z a i en ii f y0 y1 y2 y3 h0 n0 _ s₁.heap _
          rw [e0]
          exact ⟨(by rw [own_eq_own_seq]; rw [if_neg hc22_75, if_neg hc35_86, if_pos hc48_100, if_pos hc163_102]), N0, rfl⟩
        · have hc189_111 : (i + (1 : Int32)) < (i + (2 : Int32)) := (by
              have ar104 := rng32 i
              have ar105 : (1 : Int32).toInt = 1 := by decide
              have ar106 := rng32 (i + (1 : Int32))
              first | have ar107 : (i + (1 : Int32)).toInt = i.toInt + 1 := (by have qw := c_iadd i (1 : Int32); omega) | (have ar107 := c_iadd i (1 : Int32); skip)
              have ar108 : (2 : Int32).toInt = 2 := by decide
              have ar109 := rng32 (i + (2 : Int32))
              first | have ar110 : (i + (2 : Int32)).toInt = i.toInt + 2 := (by have qw := c_iadd i (2 : Int32); omega) | (have ar110 := c_iadd i (2 : Int32); skip)
              exact Int32.lt_iff_toInt_lt.mpr (by omega))
          have hj112 : (i + (1 : Int32)).toInt = (((ii + 1) : Nat) : Int) := by
            have ar113 := rng32 i
            have ar114 : (1 : Int32).toInt = 1 := by decide
            have ar115 := rng32 (i + (1 : Int32))
            first | have ar116 : (i + (1 : Int32)).toInt = i.toInt + 1 := (by have qw := c_iadd i (1 : Int32); omega) | (have ar116 := c_iadd i (1 : Int32); skip)
            omega
          have k117 : ∀ tg_, Steps p.tables e below (s₁.setTop (mkF m 206 #[.val (.ref a), .val (.int i), .val (.int en), .val (.int (y0 &&& (255 : Int32))), .val (.int (2 : Int32)), .val (.int (128 : Int32)), .val (.int (191 : Int32)), .val (.int (1 : Int32)), .val (.int (i + (1 : Int32))), .val (.int (y1 &&& (255 : Int32)))] [(.int (128 : Int32)), (.int (y1 &&& (255 : Int32)))])) tg_ → Steps p.tables e below (s₁.setTop (entryFrame m #[(.ref a), (.int i), (.int en)] 10)) tg_ := by
            intro tg_ kt
            refine k101 tg_ ?_
            refine XS.icmpNo X0.here hx rfl (hb hby d1_163) rfl (flt hc163_102).2.2.1 ?_
            show Steps p.tables e below (s₁.setTop (mkF m 166 #[.val (.ref a), .val (.int i), .val (.int en), .val (.int (y0 &&& (255 : Int32))), .val (.int (2 : Int32)), .val (.int (128 : Int32)), .val (.int (191 : Int32)), .unset, .unset, .unset] [])) _
            refine XS.iconst X0.here hx rfl (hb hby d1_166) ?_
            show Steps p.tables e below (s₁.setTop (mkF m 167 #[.val (.ref a), .val (.int i), .val (.int en), .val (.int (y0 &&& (255 : Int32))), .val (.int (2 : Int32)), .val (.int (128 : Int32)), .val (.int (191 : Int32)), .unset, .unset, .unset] [(.int (1 : Int32))])) _
            refine XS.goto X0.here hx rfl (pc0 := 167) (pc' := 171) rfl (hb hby d1_167) (by decide) (by decide) ?_
            show Steps p.tables e below (s₁.setTop (mkF m 171 #[.val (.ref a), .val (.int i), .val (.int en), .val (.int (y0 &&& (255 : Int32))), .val (.int (2 : Int32)), .val (.int (128 : Int32)), .val (.int (191 : Int32)), .unset, .unset, .unset] [(.int (1 : Int32))])) _
            refine XS.istore X0.here hx rfl (hb hby d1_171) rfl (l' := #[.val (.ref a), .val (.int i), .val (.int en), .val (.int (y0 &&& (255 : Int32))), .val (.int (2 : Int32)), .val (.int (128 : Int32)), .val (.int (191 : Int32)), .val (.int (1 : Int32)), .unset, .unset]) rfl ?_
            show Steps p.tables e below (s₁.setTop (mkF m 173 #[.val (.ref a), .val (.int i), .val (.int en), .val (.int (y0 &&& (255 : Int32))), .val (.int (2 : Int32)), .val (.int (128 : Int32)), .val (.int (191 : Int32)), .val (.int (1 : Int32)), .unset, .unset] [])) _
            refine XS.iloadN X0.here hx rfl (hb hby d1_173) rfl ?_
            show Steps p.tables e below (s₁.setTop (mkF m 174 #[.val (.ref a), .val (.int i), .val (.int en), .val (.int (y0 &&& (255 : Int32))), .val (.int (2 : Int32)), .val (.int (128 : Int32)), .val (.int (191 : Int32)), .val (.int (1 : Int32)), .unset, .unset] [(.int i)])) _
            refine XS.iconst X0.here hx rfl (hb hby d1_174) ?_
            show Steps p.tables e below (s₁.setTop (mkF m 175 #[.val (.ref a), .val (.int i), .val (.int en), .val (.int (y0 &&& (255 : Int32))), .val (.int (2 : Int32)), .val (.int (128 : Int32)), .val (.int (191 : Int32)), .val (.int (1 : Int32)), .unset, .unset] [(.int (1 : Int32)), (.int i)])) _
            refine XS.iadd X0.here hx rfl (hb hby d1_175) rfl ?_
            show Steps p.tables e below (s₁.setTop (mkF m 176 #[.val (.ref a), .val (.int i), .val (.int en), .val (.int (y0 &&& (255 : Int32))), .val (.int (2 : Int32)), .val (.int (128 : Int32)), .val (.int (191 : Int32)), .val (.int (1 : Int32)), .unset, .unset] [(.int (i + (1 : Int32)))])) _
            refine XS.istore X0.here hx rfl (hb hby d1_176) rfl (l' := #[.val (.ref a), .val (.int i), .val (.int en), .val (.int (y0 &&& (255 : Int32))), .val (.int (2 : Int32)), .val (.int (128 : Int32)), .val (.int (191 : Int32)), .val (.int (1 : Int32)), .val (.int (i + (1 : Int32))), .unset]) rfl ?_
            show Steps p.tables e below (s₁.setTop (mkF m 178 #[.val (.ref a), .val (.int i), .val (.int en), .val (.int (y0 &&& (255 : Int32))), .val (.int (2 : Int32)), .val (.int (128 : Int32)), .val (.int (191 : Int32)), .val (.int (1 : Int32)), .val (.int (i + (1 : Int32))), .unset] [])) _
            refine XS.iload X0.here hx rfl (hb hby d1_178) rfl ?_
            show Steps p.tables e below (s₁.setTop (mkF m 180 #[.val (.ref a), .val (.int i), .val (.int en), .val (.int (y0 &&& (255 : Int32))), .val (.int (2 : Int32)), .val (.int (128 : Int32)), .val (.int (191 : Int32)), .val (.int (1 : Int32)), .val (.int (i + (1 : Int32))), .unset] [(.int (1 : Int32))])) _
            refine XS.ifNo X0.here hx rfl (hb hby d1_180) rfl ((if0 _ _).trans (feq (by decide : ¬ ((1 : Int32) = (0 : Int32)))).1) ?_
            show Steps p.tables e below (s₁.setTop (mkF m 183 #[.val (.ref a), .val (.int i), .val (.int en), .val (.int (y0 &&& (255 : Int32))), .val (.int (2 : Int32)), .val (.int (128 : Int32)), .val (.int (191 : Int32)), .val (.int (1 : Int32)), .val (.int (i + (1 : Int32))), .unset] [])) _
            refine XS.iload X0.here hx rfl (hb hby d1_183) rfl ?_
            show Steps p.tables e below (s₁.setTop (mkF m 185 #[.val (.ref a), .val (.int i), .val (.int en), .val (.int (y0 &&& (255 : Int32))), .val (.int (2 : Int32)), .val (.int (128 : Int32)), .val (.int (191 : Int32)), .val (.int (1 : Int32)), .val (.int (i + (1 : Int32))), .unset] [(.int (i + (1 : Int32)))])) _
            refine XS.iloadN X0.here hx rfl (hb hby d1_185) rfl ?_
            show Steps p.tables e below (s₁.setTop (mkF m 186 #[.val (.ref a), .val (.int i), .val (.int en), .val (.int (y0 &&& (255 : Int32))), .val (.int (2 : Int32)), .val (.int (128 : Int32)), .val (.int (191 : Int32)), .val (.int (1 : Int32)), .val (.int (i + (1 : Int32))), .unset] [(.int i), (.int (i + (1 : Int32)))])) _
            refine XS.iload X0.here hx rfl (hb hby d1_186) rfl ?_
            show Steps p.tables e below (s₁.setTop (mkF m 188 #[.val (.ref a), .val (.int i), .val (.int en), .val (.int (y0 &&& (255 : Int32))), .val (.int (2 : Int32)), .val (.int (128 : Int32)), .val (.int (191 : Int32)), .val (.int (1 : Int32)), .val (.int (i + (1 : Int32))), .unset] [(.int (2 : Int32)), (.int i), (.int (i + (1 : Int32)))])) _
            refine XS.iadd X0.here hx rfl (hb hby d1_188) rfl ?_
            show Steps p.tables e below (s₁.setTop (mkF m 189 #[.val (.ref a), .val (.int i), .val (.int en), .val (.int (y0 &&& (255 : Int32))), .val (.int (2 : Int32)), .val (.int (128 : Int32)), .val (.int (191 : Int32)), .val (.int (1 : Int32)), .val (.int (i + (1 : Int32))), .unset] [(.int (i + (2 : Int32))), (.int (i + (1 : Int32)))])) _
            refine XS.icmpNo X0.here hx rfl (hb hby d1_189) rfl (tlt hc189_111).2.1 ?_
            show Steps p.tables e below (s₁.setTop (mkF m 192 #[.val (.ref a), .val (.int i), .val (.int en), .val (.int (y0 &&& (255 : Int32))), .val (.int (2 : Int32)), .val (.int (128 : Int32)), .val (.int (191 : Int32)), .val (.int (1 : Int32)), .val (.int (i + (1 : Int32))), .unset] [])) _
            refine XS.aloadN X0.here hx rfl (hb hby d1_192) rfl rfl ?_
            show Steps p.tables e below (s₁.setTop (mkF m 193 #[.val (.ref a), .val (.int i), .val (.int en), .val (.int (y0 &&& (255 : Int32))), .val (.int (2 : Int32)), .val (.int (128 : Int32)), .val (.int (191 : Int32)), .val (.int (1 : Int32)), .val (.int (i + (1 : Int32))), .unset] [(.ref a)])) _
            refine XS.iload X0.here hx rfl (hb hby d1_193) rfl ?_
            show Steps p.tables e below (s₁.setTop (mkF m 195 #[.val (.ref a), .val (.int i), .val (.int en), .val (.int (y0 &&& (255 : Int32))), .val (.int (2 : Int32)), .val (.int (128 : Int32)), .val (.int (191 : Int32)), .val (.int (1 : Int32)), .val (.int (i + (1 : Int32))), .unset] [(.int (i + (1 : Int32))), (.ref a)])) _
            refine own_ldB X0 hx hZ e0 V_a (i := (ii + 1)) hj112 (by omega) hf1 (g := (mkF m 195 #[.val (.ref a), .val (.int i), .val (.int en), .val (.int (y0 &&& (255 : Int32))), .val (.int (2 : Int32)), .val (.int (128 : Int32)), .val (.int (191 : Int32)), .val (.int (1 : Int32)), .val (.int (i + (1 : Int32))), .unset] [(.int (i + (1 : Int32))), (.ref a)])) rfl rfl (hb hby d1_195) _ ?_
            show Steps p.tables e below (s₁.setTop (mkF m 196 #[.val (.ref a), .val (.int i), .val (.int en), .val (.int (y0 &&& (255 : Int32))), .val (.int (2 : Int32)), .val (.int (128 : Int32)), .val (.int (191 : Int32)), .val (.int (1 : Int32)), .val (.int (i + (1 : Int32))), .unset] [(.int y1)])) _
            refine XS.sipush X0.here hx rfl (hb hby d1_196) ?_
            show Steps p.tables e below (s₁.setTop (mkF m 199 #[.val (.ref a), .val (.int i), .val (.int en), .val (.int (y0 &&& (255 : Int32))), .val (.int (2 : Int32)), .val (.int (128 : Int32)), .val (.int (191 : Int32)), .val (.int (1 : Int32)), .val (.int (i + (1 : Int32))), .unset] [(.int (255 : Int32)), (.int y1)])) _
            refine XS.iand X0.here hx rfl (hb hby d1_199) rfl ?_
            show Steps p.tables e below (s₁.setTop (mkF m 200 #[.val (.ref a), .val (.int i), .val (.int en), .val (.int (y0 &&& (255 : Int32))), .val (.int (2 : Int32)), .val (.int (128 : Int32)), .val (.int (191 : Int32)), .val (.int (1 : Int32)), .val (.int (i + (1 : Int32))), .unset] [(.int (y1 &&& (255 : Int32)))])) _
            refine XS.istore X0.here hx rfl (hb hby d1_200) rfl (l' := #[.val (.ref a), .val (.int i), .val (.int en), .val (.int (y0 &&& (255 : Int32))), .val (.int (2 : Int32)), .val (.int (128 : Int32)), .val (.int (191 : Int32)), .val (.int (1 : Int32)), .val (.int (i + (1 : Int32))), .val (.int (y1 &&& (255 : Int32)))]) rfl ?_
            show Steps p.tables e below (s₁.setTop (mkF m 202 #[.val (.ref a), .val (.int i), .val (.int en), .val (.int (y0 &&& (255 : Int32))), .val (.int (2 : Int32)), .val (.int (128 : Int32)), .val (.int (191 : Int32)), .val (.int (1 : Int32)), .val (.int (i + (1 : Int32))), .val (.int (y1 &&& (255 : Int32)))] [])) _
            refine XS.iload X0.here hx rfl (hb hby d1_202) rfl ?_
            show Steps p.tables e below (s₁.setTop (mkF m 204 #[.val (.ref a), .val (.int i), .val (.int en), .val (.int (y0 &&& (255 : Int32))), .val (.int (2 : Int32)), .val (.int (128 : Int32)), .val (.int (191 : Int32)), .val (.int (1 : Int32)), .val (.int (i + (1 : Int32))), .val (.int (y1 &&& (255 : Int32)))] [(.int (y1 &&& (255 : Int32)))])) _
            refine XS.iload X0.here hx rfl (hb hby d1_204) rfl ?_
            show Steps p.tables e below (s₁.setTop (mkF m 206 #[.val (.ref a), .val (.int i), .val (.int en), .val (.int (y0 &&& (255 : Int32))), .val (.int (2 : Int32)), .val (.int (128 : Int32)), .val (.int (191 : Int32)), .val (.int (1 : Int32)), .val (.int (i + (1 : Int32))), .val (.int (y1 &&& (255 : Int32)))] [(.int (128 : Int32)), (.int (y1 &&& (255 : Int32)))])) _
            exact kt
          have k120 : ∀ tg_, Steps p.tables e below (s₁.setTop (mkF m 221 #[.val (.ref a), .val (.int i), .val (.int en), .val (.int (y0 &&& (255 : Int32))), .val (.int (2 : Int32)), .val (.int (128 : Int32)), .val (.int (191 : Int32)), .val (.int (1 : Int32)), .val (.int (i + (1 : Int32))), .val (.int (y1 &&& (255 : Int32)))] [(.int (if (y1 &&& (255 : Int32)) < (128 : Int32) then (0 : Int32) else (if (191 : Int32) < (y1 &&& (255 : Int32)) then (0 : Int32) else (1 : Int32))))])) tg_ → Steps p.tables e below (s₁.setTop (entryFrame m #[(.ref a), (.int i), (.int en)] 10)) tg_ := by
            intro tg_ kt
            refine k117 tg_ ?_
            by_cases hj206_118 : (y1 &&& (255 : Int32)) < (128 : Int32)
            · refine XS.icmpYes X0.here hx rfl (pc0 := 206) (pc' := 220) rfl (hb hby d1_206) rfl (tlt hj206_118).1 (by decide) (by decide) ?_
              show Steps p.tables e below (s₁.setTop (mkF m 220 #[.val (.ref a), .val (.int i), .val (.int en), .val (.int (y0 &&& (255 : Int32))), .val (.int (2 : Int32)), .val (.int (128 : Int32)), .val (.int (191 : Int32)), .val (.int (1 : Int32)), .val (.int (i + (1 : Int32))), .val (.int (y1 &&& (255 : Int32)))] [])) _
              refine XS.iconst X0.here hx rfl (hb hby d1_220) ?_
              show Steps p.tables e below (s₁.setTop (mkF m 221 #[.val (.ref a), .val (.int i), .val (.int en), .val (.int (y0 &&& (255 : Int32))), .val (.int (2 : Int32)), .val (.int (128 : Int32)), .val (.int (191 : Int32)), .val (.int (1 : Int32)), .val (.int (i + (1 : Int32))), .val (.int (y1 &&& (255 : Int32)))] [(.int (0 : Int32))])) _
              simpa only [if_pos hj206_118] using kt
            · refine XS.icmpNo X0.here hx rfl (hb hby d1_206) rfl (flt hj206_118).1 ?_
              show Steps p.tables e below (s₁.setTop (mkF m 209 #[.val (.ref a), .val (.int i), .val (.int en), .val (.int (y0 &&& (255 : Int32))), .val (.int (2 : Int32)), .val (.int (128 : Int32)), .val (.int (191 : Int32)), .val (.int (1 : Int32)), .val (.int (i + (1 : Int32))), .val (.int (y1 &&& (255 : Int32)))] [])) _
              refine XS.iload X0.here hx rfl (hb hby d1_209) rfl ?_
              show Steps p.tables e below (s₁.setTop (mkF m 211 #[.val (.ref a), .val (.int i), .val (.int en), .val (.int (y0 &&& (255 : Int32))), .val (.int (2 : Int32)), .val (.int (128 : Int32)), .val (.int (191 : Int32)), .val (.int (1 : Int32)), .val (.int (i + (1 : Int32))), .val (.int (y1 &&& (255 : Int32)))] [(.int (y1 &&& (255 : Int32)))])) _
              refine XS.iload X0.here hx rfl (hb hby d1_211) rfl ?_
              show Steps p.tables e below (s₁.setTop (mkF m 213 #[.val (.ref a), .val (.int i), .val (.int en), .val (.int (y0 &&& (255 : Int32))), .val (.int (2 : Int32)), .val (.int (128 : Int32)), .val (.int (191 : Int32)), .val (.int (1 : Int32)), .val (.int (i + (1 : Int32))), .val (.int (y1 &&& (255 : Int32)))] [(.int (191 : Int32)), (.int (y1 &&& (255 : Int32)))])) _
              by_cases hj213_119 : (191 : Int32) < (y1 &&& (255 : Int32))
              · refine XS.icmpYes X0.here hx rfl (pc0 := 213) (pc' := 220) rfl (hb hby d1_213) rfl (tlt hj213_119).2.2.1 (by decide) (by decide) ?_
                show Steps p.tables e below (s₁.setTop (mkF m 220 #[.val (.ref a), .val (.int i), .val (.int en), .val (.int (y0 &&& (255 : Int32))), .val (.int (2 : Int32)), .val (.int (128 : Int32)), .val (.int (191 : Int32)), .val (.int (1 : Int32)), .val (.int (i + (1 : Int32))), .val (.int (y1 &&& (255 : Int32)))] [])) _
                refine XS.iconst X0.here hx rfl (hb hby d1_220) ?_
                show Steps p.tables e below (s₁.setTop (mkF m 221 #[.val (.ref a), .val (.int i), .val (.int en), .val (.int (y0 &&& (255 : Int32))), .val (.int (2 : Int32)), .val (.int (128 : Int32)), .val (.int (191 : Int32)), .val (.int (1 : Int32)), .val (.int (i + (1 : Int32))), .val (.int (y1 &&& (255 : Int32)))] [(.int (0 : Int32))])) _
                simpa only [if_neg hj206_118, if_pos hj213_119] using kt
              · refine XS.icmpNo X0.here hx rfl (hb hby d1_213) rfl (flt hj213_119).2.2.1 ?_
                show Steps p.tables e below (s₁.setTop (mkF m 216 #[.val (.ref a), .val (.int i), .val (.int en), .val (.int (y0 &&& (255 : Int32))), .val (.int (2 : Int32)), .val (.int (128 : Int32)), .val (.int (191 : Int32)), .val (.int (1 : Int32)), .val (.int (i + (1 : Int32))), .val (.int (y1 &&& (255 : Int32)))] [])) _
                refine XS.iconst X0.here hx rfl (hb hby d1_216) ?_
                show Steps p.tables e below (s₁.setTop (mkF m 217 #[.val (.ref a), .val (.int i), .val (.int en), .val (.int (y0 &&& (255 : Int32))), .val (.int (2 : Int32)), .val (.int (128 : Int32)), .val (.int (191 : Int32)), .val (.int (1 : Int32)), .val (.int (i + (1 : Int32))), .val (.int (y1 &&& (255 : Int32)))] [(.int (1 : Int32))])) _
                refine XS.goto X0.here hx rfl (pc0 := 217) (pc' := 221) rfl (hb hby d1_217) (by decide) (by decide) ?_
                show Steps p.tables e below (s₁.setTop (mkF m 221 #[.val (.ref a), .val (.int i), .val (.int en), .val (.int (y0 &&& (255 : Int32))), .val (.int (2 : Int32)), .val (.int (128 : Int32)), .val (.int (191 : Int32)), .val (.int (1 : Int32)), .val (.int (i + (1 : Int32))), .val (.int (y1 &&& (255 : Int32)))] [(.int (1 : Int32))])) _
                simpa only [if_neg hj206_118, if_neg hj213_119] using kt
          have k121 : ∀ tg_, Steps p.tables e below (s₁.setTop (mkF m 180 #[.val (.ref a), .val (.int i), .val (.int en), .val (.int (y0 &&& (255 : Int32))), .val (.int (2 : Int32)), .val (.int (128 : Int32)), .val (.int (191 : Int32)), .val (.int (if (y1 &&& (255 : Int32)) < (128 : Int32) then (0 : Int32) else (if (191 : Int32) < (y1 &&& (255 : Int32)) then (0 : Int32) else (1 : Int32)))), .val (.int ((i + (1 : Int32)) + (1 : Int32))), .val (.int (y1 &&& (255 : Int32)))] [(.int (if (y1 &&& (255 : Int32)) < (128 : Int32) then (0 : Int32) else (if (191 : Int32) < (y1 &&& (255 : Int32)) then (0 : Int32) else (1 : Int32))))])) tg_ → Steps p.tables e below (s₁.setTop (entryFrame m #[(.ref a), (.int i), (.int en)] 10)) tg_ := by
            intro tg_ kt
            refine k120 tg_ ?_
            refine XS.istore X0.here hx rfl (hb hby d1_221) rfl (l' := #[.val (.ref a), .val (.int i), .val (.int en), .val (.int (y0 &&& (255 : Int32))), .val (.int (2 : Int32)), .val (.int (128 : Int32)), .val (.int (191 : Int32)), .val (.int (if (y1 &&& (255 : Int32)) < (128 : Int32) then (0 : Int32) else (if (191 : Int32) < (y1 &&& (255 : Int32)) then (0 : Int32) else (1 : Int32)))), .val (.int (i + (1 : Int32))), .val (.int (y1 &&& (255 : Int32)))]) rfl ?_
            show Steps p.tables e below (s₁.setTop (mkF m 223 #[.val (.ref a), .val (.int i), .val (.int en), .val (.int (y0 &&& (255 : Int32))), .val (.int (2 : Int32)), .val (.int (128 : Int32)), .val (.int (191 : Int32)), .val (.int (if (y1 &&& (255 : Int32)) < (128 : Int32) then (0 : Int32) else (if (191 : Int32) < (y1 &&& (255 : Int32)) then (0 : Int32) else (1 : Int32)))), .val (.int (i + (1 : Int32))), .val (.int (y1 &&& (255 : Int32)))] [])) _
            refine XS.sipush X0.here hx rfl (hb hby d1_223) ?_
            show Steps p.tables e below (s₁.setTop (mkF m 226 #[.val (.ref a), .val (.int i), .val (.int en), .val (.int (y0 &&& (255 : Int32))), .val (.int (2 : Int32)), .val (.int (128 : Int32)), .val (.int (191 : Int32)), .val (.int (if (y1 &&& (255 : Int32)) < (128 : Int32) then (0 : Int32) else (if (191 : Int32) < (y1 &&& (255 : Int32)) then (0 : Int32) else (1 : Int32)))), .val (.int (i + (1 : Int32))), .val (.int (y1 &&& (255 : Int32)))] [(.int (128 : Int32))])) _
            refine XS.istore X0.here hx rfl (hb hby d1_226) rfl (l' := #[.val (.ref a), .val (.int i), .val (.int en), .val (.int (y0 &&& (255 : Int32))), .val (.int (2 : Int32)), .val (.int (128 : Int32)), .val (.int (191 : Int32)), .val (.int (if (y1 &&& (255 : Int32)) < (128 : Int32) then (0 : Int32) else (if (191 : Int32) < (y1 &&& (255 : Int32)) then (0 : Int32) else (1 : Int32)))), .val (.int (i + (1 : Int32))), .val (.int (y1 &&& (255 : Int32)))]) rfl ?_
            show Steps p.tables e below (s₁.setTop (mkF m 228 #[.val (.ref a), .val (.int i), .val (.int en), .val (.int (y0 &&& (255 : Int32))), .val (.int (2 : Int32)), .val (.int (128 : Int32)), .val (.int (191 : Int32)), .val (.int (if (y1 &&& (255 : Int32)) < (128 : Int32) then (0 : Int32) else (if (191 : Int32) < (y1 &&& (255 : Int32)) then (0 : Int32) else (1 : Int32)))), .val (.int (i + (1 : Int32))), .val (.int (y1 &&& (255 : Int32)))] [])) _
            refine XS.sipush X0.here hx rfl (hb hby d1_228) ?_
            show Steps p.tables e below (s₁.setTop (mkF m 231 #[.val (.ref a), .val (.int i), .val (.int en), .val (.int (y0 &&& (255 : Int32))), .val (.int (2 : Int32)), .val (.int (128 : Int32)), .val (.int (191 : Int32)), .val (.int (if (y1 &&& (255 : Int32)) < (128 : Int32) then (0 : Int32) else (if (191 : Int32) < (y1 &&& (255 : Int32)) then (0 : Int32) else (1 : Int32)))), .val (.int (i + (1 : Int32))), .val (.int (y1 &&& (255 : Int32)))] [(.int (191 : Int32))])) _
            refine XS.istore X0.here hx rfl (hb hby d1_231) rfl (l' := #[.val (.ref a), .val (.int i), .val (.int en), .val (.int (y0 &&& (255 : Int32))), .val (.int (2 : Int32)), .val (.int (128 : Int32)), .val (.int (191 : Int32)), .val (.int (if (y1 &&& (255 : Int32)) < (128 : Int32) then (0 : Int32) else (if (191 : Int32) < (y1 &&& (255 : Int32)) then (0 : Int32) else (1 : Int32)))), .val (.int (i + (1 : Int32))), .val (.int (y1 &&& (255 : Int32)))]) rfl ?_
            show Steps p.tables e below (s₁.setTop (mkF m 233 #[.val (.ref a), .val (.int i), .val (.int en), .val (.int (y0 &&& (255 : Int32))), .val (.int (2 : Int32)), .val (.int (128 : Int32)), .val (.int (191 : Int32)), .val (.int (if (y1 &&& (255 : Int32)) < (128 : Int32) then (0 : Int32) else (if (191 : Int32) < (y1 &&& (255 : Int32)) then (0 : Int32) else (1 : Int32)))), .val (.int (i + (1 : Int32))), .val (.int (y1 &&& (255 : Int32)))] [])) _
            refine XS.iinc X0.here hx rfl (hb hby d1_233) rfl (l' := #[.val (.ref a), .val (.int i), .val (.int en), .val (.int (y0 &&& (255 : Int32))), .val (.int (2 : Int32)), .val (.int (128 : Int32)), .val (.int (191 : Int32)), .val (.int (if (y1 &&& (255 : Int32)) < (128 : Int32) then (0 : Int32) else (if (191 : Int32) < (y1 &&& (255 : Int32)) then (0 : Int32) else (1 : Int32)))), .val (.int ((i + (1 : Int32)) + (1 : Int32))), .val (.int (y1 &&& (255 : Int32)))]) rfl ?_
            show Steps p.tables e below (s₁.setTop (mkF m 236 #[.val (.ref a), .val (.int i), .val (.int en), .val (.int (y0 &&& (255 : Int32))), .val (.int (2 : Int32)), .val (.int (128 : Int32)), .val (.int (191 : Int32)), .val (.int (if (y1 &&& (255 : Int32)) < (128 : Int32) then (0 : Int32) else (if (191 : Int32) < (y1 &&& (255 : Int32)) then (0 : Int32) else (1 : Int32)))), .val (.int ((i + (1 : Int32)) + (1 : Int32))), .val (.int (y1 &&& (255 : Int32)))] [])) _
            refine XS.goto X0.here hx rfl (pc0 := 236) (pc' := 178) rfl (hb hby d1_236) (by decide) (by decide) ?_
            show Steps p.tables e below (s₁.setTop (mkF m 178 #[.val (.ref a), .val (.int i), .val (.int en), .val (.int (y0 &&& (255 : Int32))), .val (.int (2 : Int32)), .val (.int (128 : Int32)), .val (.int (191 : Int32)), .val (.int (if (y1 &&& (255 : Int32)) < (128 : Int32) then (0 : Int32) else (if (191 : Int32) < (y1 &&& (255 : Int32)) then (0 : Int32) else (1 : Int32)))), .val (.int ((i + (1 : Int32)) + (1 : Int32))), .val (.int (y1 &&& (255 : Int32)))] [])) _
            refine XS.iload X0.here hx rfl (hb hby d1_178) rfl ?_
            show Steps p.tables e below (s₁.setTop (mkF m 180 #[.val (.ref a), .val (.int i), .val (.int en), .val (.int (y0 &&& (255 : Int32))), .val (.int (2 : Int32)), .val (.int (128 : Int32)), .val (.int (191 : Int32)), .val (.int (if (y1 &&& (255 : Int32)) < (128 : Int32) then (0 : Int32) else (if (191 : Int32) < (y1 &&& (255 : Int32)) then (0 : Int32) else (1 : Int32)))), .val (.int ((i + (1 : Int32)) + (1 : Int32))), .val (.int (y1 &&& (255 : Int32)))] [(.int (if (y1 &&& (255 : Int32)) < (128 : Int32) then (0 : Int32) else (if (191 : Int32) < (y1 &&& (255 : Int32)) then (0 : Int32) else (1 : Int32))))])) _
            exact kt
          by_cases hc180_122 : (if (y1 &&& (255 : Int32)) < (128 : Int32) then (0 : Int32) else (if (191 : Int32) < (y1 &&& (255 : Int32)) then (0 : Int32) else (1 : Int32))) = (0 : Int32)
          · have k123 : ∀ tg_, Steps p.tables e below (s₁.setTop (mkF m 250 #[.val (.ref a), .val (.int i), .val (.int en), .val (.int (y0 &&& (255 : Int32))), .val (.int (2 : Int32)), .val (.int (128 : Int32)), .val (.int (191 : Int32)), .val (.int (if (y1 &&& (255 : Int32)) < (128 : Int32) then (0 : Int32) else (if (191 : Int32) < (y1 &&& (255 : Int32)) then (0 : Int32) else (1 : Int32)))), .val (.int ((i + (1 : Int32)) + (1 : Int32))), .val (.int (y1 &&& (255 : Int32)))] [(.int (0 : Int32))])) tg_ → Steps p.tables e below (s₁.setTop (entryFrame m #[(.ref a), (.int i), (.int en)] 10)) tg_ := by
              intro tg_ kt
              refine k121 tg_ ?_
              refine XS.ifYes X0.here hx rfl (pc0 := 180) (pc' := 239) rfl (hb hby d1_180) rfl ((if0 _ _).trans (teq hc180_122).1) (by decide) (by decide) ?_
              show Steps p.tables e below (s₁.setTop (mkF m 239 #[.val (.ref a), .val (.int i), .val (.int en), .val (.int (y0 &&& (255 : Int32))), .val (.int (2 : Int32)), .val (.int (128 : Int32)), .val (.int (191 : Int32)), .val (.int (if (y1 &&& (255 : Int32)) < (128 : Int32) then (0 : Int32) else (if (191 : Int32) < (y1 &&& (255 : Int32)) then (0 : Int32) else (1 : Int32)))), .val (.int ((i + (1 : Int32)) + (1 : Int32))), .val (.int (y1 &&& (255 : Int32)))] [])) _
              refine XS.iload X0.here hx rfl (hb hby d1_239) rfl ?_
              show Steps p.tables e below (s₁.setTop (mkF m 241 #[.val (.ref a), .val (.int i), .val (.int en), .val (.int (y0 &&& (255 : Int32))), .val (.int (2 : Int32)), .val (.int (128 : Int32)), .val (.int (191 : Int32)), .val (.int (if (y1 &&& (255 : Int32)) < (128 : Int32) then (0 : Int32) else (if (191 : Int32) < (y1 &&& (255 : Int32)) then (0 : Int32) else (1 : Int32)))), .val (.int ((i + (1 : Int32)) + (1 : Int32))), .val (.int (y1 &&& (255 : Int32)))] [(.int (if (y1 &&& (255 : Int32)) < (128 : Int32) then (0 : Int32) else (if (191 : Int32) < (y1 &&& (255 : Int32)) then (0 : Int32) else (1 : Int32))))])) _
              refine XS.ifYes X0.here hx rfl (pc0 := 241) (pc' := 249) rfl (hb hby d1_241) rfl ((if0 _ _).trans (teq hc180_122).1) (by decide) (by decide) ?_
              show Steps p.tables e below (s₁.setTop (mkF m 249 #[.val (.ref a), .val (.int i), .val (.int en), .val (.int (y0 &&& (255 : Int32))), .val (.int (2 : Int32)), .val (.int (128 : Int32)), .val (.int (191 : Int32)), .val (.int (if (y1 &&& (255 : Int32)) < (128 : Int32) then (0 : Int32) else (if (191 : Int32) < (y1 &&& (255 : Int32)) then (0 : Int32) else (1 : Int32)))), .val (.int ((i + (1 : Int32)) + (1 : Int32))), .val (.int (y1 &&& (255 : Int32)))] [])) _
              refine XS.iconst X0.here hx rfl (hb hby d1_249) ?_
              show Steps p.tables e below (s₁.setTop (mkF m 250 #[.val (.ref a), .val (.int i), .val (.int en), .val (.int (y0 &&& (255 : Int32))), .val (.int (2 : Int32)), .val (.int (128 : Int32)), .val (.int (191 : Int32)), .val (.int (if (y1 &&& (255 : Int32)) < (128 : Int32) then (0 : Int32) else (if (191 : Int32) < (y1 &&& (255 : Int32)) then (0 : Int32) else (1 : Int32)))), .val (.int ((i + (1 : Int32)) + (1 : Int32))), .val (.int (y1 &&& (255 : Int32)))] [(.int (0 : Int32))])) _
              exact kt
            obtain ⟨fs, hr, hrun, hended, hW, hsame⟩ := X0.leave (v := some (.int (0 : Int32))) (fun h => by rw [Bd.returns] at h; cases h)
            refine ⟨_, _, k123 _ (retI X0 hx Bd.returns (hb hby d1_250) hr), hrun, hended, _, _, rfl, ?_, ⟨_, rfl⟩, hW, hsame.mono (by decide) (by decide)⟩
            show Q1 Z a i en ii f y0 y1 y2 y3 h0 n0 _ s₁.heap _
            rw [e0]
            exact ⟨(by rw [own_eq_own_seq]; rw [if_neg hc22_75, if_neg hc35_86, if_pos hc48_100, if_neg hc163_102, if_pos hc180_122]), N0, rfl⟩
          · have hc189_133 : ¬ (((i + (1 : Int32)) + (1 : Int32)) < (i + (2 : Int32))) := (by
                have ar124 := rng32 i
                have ar125 : (1 : Int32).toInt = 1 := by decide
                have ar126 := rng32 (i + (1 : Int32))
                first | have ar127 : (i + (1 : Int32)).toInt = i.toInt + 1 := (by have qw := c_iadd i (1 : Int32); omega) | (have ar127 := c_iadd i (1 : Int32); skip)
                have ar128 := rng32 ((i + (1 : Int32)) + (1 : Int32))
                first | have ar129 : ((i + (1 : Int32)) + (1 : Int32)).toInt = (i + (1 : Int32)).toInt + 1 := (by have qw := c_iadd (i + (1 : Int32)) (1 : Int32); omega) | (have ar129 := c_iadd (i + (1 : Int32)) (1 : Int32); skip)
                have ar130 : (2 : Int32).toInt = 2 := by decide
                have ar131 := rng32 (i + (2 : Int32))
                first | have ar132 : (i + (2 : Int32)).toInt = i.toInt + 2 := (by have qw := c_iadd i (2 : Int32); omega) | (have ar132 := c_iadd i (2 : Int32); skip)
                exact fun qq_ => absurd (Int32.lt_iff_toInt_lt.mp qq_) (by omega))
            have k134 : ∀ tg_, Steps p.tables e below (s₁.setTop (mkF m 250 #[.val (.ref a), .val (.int i), .val (.int en), .val (.int (y0 &&& (255 : Int32))), .val (.int (2 : Int32)), .val (.int (128 : Int32)), .val (.int (191 : Int32)), .val (.int (if (y1 &&& (255 : Int32)) < (128 : Int32) then (0 : Int32) else (if (191 : Int32) < (y1 &&& (255 : Int32)) then (0 : Int32) else (1 : Int32)))), .val (.int ((i + (1 : Int32)) + (1 : Int32))), .val (.int (y1 &&& (255 : Int32)))] [(.int (2 : Int32))])) tg_ → Steps p.tables e below (s₁.setTop (entryFrame m #[(.ref a), (.int i), (.int en)] 10)) tg_ := by
              intro tg_ kt
              refine k121 tg_ ?_
              refine XS.ifNo X0.here hx rfl (hb hby d1_180) rfl ((if0 _ _).trans (feq hc180_122).1) ?_
              show Steps p.tables e below (s₁.setTop (mkF m 183 #[.val (.ref a), .val (.int i), .val (.int en), .val (.int (y0 &&& (255 : Int32))), .val (.int (2 : Int32)), .val (.int (128 : Int32)), .val (.int (191 : Int32)), .val (.int (if (y1 &&& (255 : Int32)) < (128 : Int32) then (0 : Int32) else (if (191 : Int32) < (y1 &&& (255 : Int32)) then (0 : Int32) else (1 : Int32)))), .val (.int ((i + (1 : Int32)) + (1 : Int32))), .val (.int (y1 &&& (255 : Int32)))] [])) _
              refine XS.iload X0.here hx rfl (hb hby d1_183) rfl ?_
              show Steps p.tables e below (s₁.setTop (mkF m 185 #[.val (.ref a), .val (.int i), .val (.int en), .val (.int (y0 &&& (255 : Int32))), .val (.int (2 : Int32)), .val (.int (128 : Int32)), .val (.int (191 : Int32)), .val (.int (if (y1 &&& (255 : Int32)) < (128 : Int32) then (0 : Int32) else (if (191 : Int32) < (y1 &&& (255 : Int32)) then (0 : Int32) else (1 : Int32)))), .val (.int ((i + (1 : Int32)) + (1 : Int32))), .val (.int (y1 &&& (255 : Int32)))] [(.int ((i + (1 : Int32)) + (1 : Int32)))])) _
              refine XS.iloadN X0.here hx rfl (hb hby d1_185) rfl ?_
              show Steps p.tables e below (s₁.setTop (mkF m 186 #[.val (.ref a), .val (.int i), .val (.int en), .val (.int (y0 &&& (255 : Int32))), .val (.int (2 : Int32)), .val (.int (128 : Int32)), .val (.int (191 : Int32)), .val (.int (if (y1 &&& (255 : Int32)) < (128 : Int32) then (0 : Int32) else (if (191 : Int32) < (y1 &&& (255 : Int32)) then (0 : Int32) else (1 : Int32)))), .val (.int ((i + (1 : Int32)) + (1 : Int32))), .val (.int (y1 &&& (255 : Int32)))] [(.int i), (.int ((i + (1 : Int32)) + (1 : Int32)))])) _
              refine XS.iload X0.here hx rfl (hb hby d1_186) rfl ?_
              show Steps p.tables e below (s₁.setTop (mkF m 188 #[.val (.ref a), .val (.int i), .val (.int en), .val (.int (y0 &&& (255 : Int32))), .val (.int (2 : Int32)), .val (.int (128 : Int32)), .val (.int (191 : Int32)), .val (.int (if (y1 &&& (255 : Int32)) < (128 : Int32) then (0 : Int32) else (if (191 : Int32) < (y1 &&& (255 : Int32)) then (0 : Int32) else (1 : Int32)))), .val (.int ((i + (1 : Int32)) + (1 : Int32))), .val (.int (y1 &&& (255 : Int32)))] [(.int (2 : Int32)), (.int i), (.int ((i + (1 : Int32)) + (1 : Int32)))])) _
              refine XS.iadd X0.here hx rfl (hb hby d1_188) rfl ?_
              show Steps p.tables e below (s₁.setTop (mkF m 189 #[.val (.ref a), .val (.int i), .val (.int en), .val (.int (y0 &&& (255 : Int32))), .val (.int (2 : Int32)), .val (.int (128 : Int32)), .val (.int (191 : Int32)), .val (.int (if (y1 &&& (255 : Int32)) < (128 : Int32) then (0 : Int32) else (if (191 : Int32) < (y1 &&& (255 : Int32)) then (0 : Int32) else (1 : Int32)))), .val (.int ((i + (1 : Int32)) + (1 : Int32))), .val (.int (y1 &&& (255 : Int32)))] [(.int (i + (2 : Int32))), (.int ((i + (1 : Int32)) + (1 : Int32)))])) _
              refine XS.icmpYes X0.here hx rfl (pc0 := 189) (pc' := 239) rfl (hb hby d1_189) rfl (flt hc189_133).2.1 (by decide) (by decide) ?_
              show Steps p.tables e below (s₁.setTop (mkF m 239 #[.val (.ref a), .val (.int i), .val (.int en), .val (.int (y0 &&& (255 : Int32))), .val (.int (2 : Int32)), .val (.int (128 : Int32)), .val (.int (191 : Int32)), .val (.int (if (y1 &&& (255 : Int32)) < (128 : Int32) then (0 : Int32) else (if (191 : Int32) < (y1 &&& (255 : Int32)) then (0 : Int32) else (1 : Int32)))), .val (.int ((i + (1 : Int32)) + (1 : Int32))), .val (.int (y1 &&& (255 : Int32)))] [])) _
              refine XS.iload X0.here hx rfl (hb hby d1_239) rfl ?_
              show Steps p.tables e below (s₁.setTop (mkF m 241 #[.val (.ref a), .val (.int i), .val (.int en), .val (.int (y0 &&& (255 : Int32))), .val (.int (2 : Int32)), .val (.int (128 : Int32)), .val (.int (191 : Int32)), .val (.int (if (y1 &&& (255 : Int32)) < (128 : Int32) then (0 : Int32) else (if (191 : Int32) < (y1 &&& (255 : Int32)) then (0 : Int32) else (1 : Int32)))), .val (.int ((i + (1 : Int32)) + (1 : Int32))), .val (.int (y1 &&& (255 : Int32)))] [(.int (if (y1 &&& (255 : Int32)) < (128 : Int32) then (0 : Int32) else (if (191 : Int32) < (y1 &&& (255 : Int32)) then (0 : Int32) else (1 : Int32))))])) _
              refine XS.ifNo X0.here hx rfl (hb hby d1_241) rfl ((if0 _ _).trans (feq hc180_122).1) ?_
              show Steps p.tables e below (s₁.setTop (mkF m 244 #[.val (.ref a), .val (.int i), .val (.int en), .val (.int (y0 &&& (255 : Int32))), .val (.int (2 : Int32)), .val (.int (128 : Int32)), .val (.int (191 : Int32)), .val (.int (if (y1 &&& (255 : Int32)) < (128 : Int32) then (0 : Int32) else (if (191 : Int32) < (y1 &&& (255 : Int32)) then (0 : Int32) else (1 : Int32)))), .val (.int ((i + (1 : Int32)) + (1 : Int32))), .val (.int (y1 &&& (255 : Int32)))] [])) _
              refine XS.iload X0.here hx rfl (hb hby d1_244) rfl ?_
              show Steps p.tables e below (s₁.setTop (mkF m 246 #[.val (.ref a), .val (.int i), .val (.int en), .val (.int (y0 &&& (255 : Int32))), .val (.int (2 : Int32)), .val (.int (128 : Int32)), .val (.int (191 : Int32)), .val (.int (if (y1 &&& (255 : Int32)) < (128 : Int32) then (0 : Int32) else (if (191 : Int32) < (y1 &&& (255 : Int32)) then (0 : Int32) else (1 : Int32)))), .val (.int ((i + (1 : Int32)) + (1 : Int32))), .val (.int (y1 &&& (255 : Int32)))] [(.int (2 : Int32))])) _
              refine XS.goto X0.here hx rfl (pc0 := 246) (pc' := 250) rfl (hb hby d1_246) (by decide) (by decide) ?_
              show Steps p.tables e below (s₁.setTop (mkF m 250 #[.val (.ref a), .val (.int i), .val (.int en), .val (.int (y0 &&& (255 : Int32))), .val (.int (2 : Int32)), .val (.int (128 : Int32)), .val (.int (191 : Int32)), .val (.int (if (y1 &&& (255 : Int32)) < (128 : Int32) then (0 : Int32) else (if (191 : Int32) < (y1 &&& (255 : Int32)) then (0 : Int32) else (1 : Int32)))), .val (.int ((i + (1 : Int32)) + (1 : Int32))), .val (.int (y1 &&& (255 : Int32)))] [(.int (2 : Int32))])) _
              exact kt
            obtain ⟨fs, hr, hrun, hended, hW, hsame⟩ := X0.leave (v := some (.int (2 : Int32))) (fun h => by rw [Bd.returns] at h; cases h)
            refine ⟨_, _, k134 _ (retI X0 hx Bd.returns (hb hby d1_250) hr), hrun, hended, _, _, rfl, ?_, ⟨_, rfl⟩, hW, hsame.mono (by decide) (by decide)⟩
            show Q1 Z a i en ii f y0 y1 y2 y3 h0 n0 _ s₁.heap _
            rw [e0]
            exact ⟨(by rw [own_eq_own_seq]; rw [if_neg hc22_75, if_neg hc35_86, if_pos hc48_100, if_neg hc163_102, if_neg hc180_122]), N0, rfl⟩
      · have k135 : ∀ tg_, Steps p.tables e below (s₁.setTop (mkF m 61 #[.val (.ref a), .val (.int i), .val (.int en), .val (.int (y0 &&& (255 : Int32))), .unset, .val (.int (128 : Int32)), .val (.int (191 : Int32)), .unset, .unset, .unset] [(.int (240 : Int32)), (.int (y0 &&& (255 : Int32)))])) tg_ → Steps p.tables e below (s₁.setTop (entryFrame m #[(.ref a), (.int i), (.int en)] 10)) tg_ := by
          intro tg_ kt
          refine k99 tg_ ?_
          refine XS.icmpYes X0.here hx rfl (pc0 := 48) (pc' := 57) rfl (hb hby d1_48) rfl (flt hc48_100).2.1 (by decide) (by decide) ?_
          show Steps p.tables e below (s₁.setTop (mkF m 57 #[.val (.ref a), .val (.int i), .val (.int en), .val (.int (y0 &&& (255 : Int32))), .unset, .val (.int (128 : Int32)), .val (.int (191 : Int32)), .unset, .unset, .unset] [])) _
          refine XS.iloadN X0.here hx rfl (hb hby d1_57) rfl ?_
          show Steps p.tables e below (s₁.setTop (mkF m 58 #[.val (.ref a), .val (.int i), .val (.int en), .val (.int (y0 &&& (255 : Int32))), .unset, .val (.int (128 : Int32)), .val (.int (191 : Int32)), .unset, .unset, .unset] [(.int (y0 &&& (255 : Int32)))])) _
          refine XS.sipush X0.here hx rfl (hb hby d1_58) ?_
          show Steps p.tables e below (s₁.setTop (mkF m 61 #[.val (.ref a), .val (.int i), .val (.int en), .val (.int (y0 &&& (255 : Int32))), .unset, .val (.int (128 : Int32)), .val (.int (191 : Int32)), .unset, .unset, .unset] [(.int (240 : Int32)), (.int (y0 &&& (255 : Int32)))])) _
          exact kt
        by_cases hc61_136 : (y0 &&& (255 : Int32)) < (240 : Int32)
        · have k137 : ∀ tg_, Steps p.tables e below (s₁.setTop (mkF m 71 #[.val (.ref a), .val (.int i), .val (.int en), .val (.int (y0 &&& (255 : Int32))), .val (.int (3 : Int32)), .val (.int (128 : Int32)), .val (.int (191 : Int32)), .unset, .unset, .unset] [(.int (224 : Int32)), (.int (y0 &&& (255 : Int32)))])) tg_ → Steps p.tables e below (s₁.setTop (entryFrame m #[(.ref a), (.int i), (.int en)] 10)) tg_ := by
            intro tg_ kt
            refine k135 tg_ ?_
            refine XS.icmpNo X0.here hx rfl (hb hby d1_61) rfl (tlt hc61_136).2.1 ?_
            show Steps p.tables e below (s₁.setTop (mkF m 64 #[.val (.ref a), .val (.int i), .val (.int en), .val (.int (y0 &&& (255 : Int32))), .unset, .val (.int (128 : Int32)), .val (.int (191 : Int32)), .unset, .unset, .unset] [])) _
            refine XS.iconst X0.here hx rfl (hb hby d1_64) ?_
            show Steps p.tables e below (s₁.setTop (mkF m 65 #[.val (.ref a), .val (.int i), .val (.int en), .val (.int (y0 &&& (255 : Int32))), .unset, .val (.int (128 : Int32)), .val (.int (191 : Int32)), .unset, .unset, .unset] [(.int (3 : Int32))])) _
            refine XS.istore X0.here hx rfl (hb hby d1_65) rfl (l' := #[.val (.ref a), .val (.int i), .val (.int en), .val (.int (y0 &&& (255 : Int32))), .val (.int (3 : Int32)), .val (.int (128 : Int32)), .val (.int (191 : Int32)), .unset, .unset, .unset]) rfl ?_
            show Steps p.tables e below (s₁.setTop (mkF m 67 #[.val (.ref a), .val (.int i), .val (.int en), .val (.int (y0 &&& (255 : Int32))), .val (.int (3 : Int32)), .val (.int (128 : Int32)), .val (.int (191 : Int32)), .unset, .unset, .unset] [])) _
            refine XS.iloadN X0.here hx rfl (hb hby d1_67) rfl ?_
            show Steps p.tables e below (s₁.setTop (mkF m 68 #[.val (.ref a), .val (.int i), .val (.int en), .val (.int (y0 &&& (255 : Int32))), .val (.int (3 : Int32)), .val (.int (128 : Int32)), .val (.int (191 : Int32)), .unset, .unset, .unset] [(.int (y0 &&& (255 : Int32)))])) _
            refine XS.sipush X0.here hx rfl (hb hby d1_68) ?_
            show Steps p.tables e below (s₁.setTop (mkF m 71 #[.val (.ref a), .val (.int i), .val (.int en), .val (.int (y0 &&& (255 : Int32))), .val (.int (3 : Int32)), .val (.int (128 : Int32)), .val (.int (191 : Int32)), .unset, .unset, .unset] [(.int (224 : Int32)), (.int (y0 &&& (255 : Int32)))])) _
            exact kt
          have k139 : ∀ tg_, Steps p.tables e below (s₁.setTop (mkF m 83 #[.val (.ref a), .val (.int i), .val (.int en), .val (.int (y0 &&& (255 : Int32))), .val (.int (3 : Int32)), .val (.int (128 : Int32)), .val (.int (191 : Int32)), .unset, .unset, .unset] [(.int (if (y0 &&& (255 : Int32)) = (224 : Int32) then (160 : Int32) else (128 : Int32)))])) tg_ → Steps p.tables e below (s₁.setTop (entryFrame m #[(.ref a), (.int i), (.int en)] 10)) tg_ := by
            intro tg_ kt
            refine k137 tg_ ?_
            by_cases hj71_138 : (y0 &&& (255 : Int32)) = (224 : Int32)
            · refine XS.icmpNo X0.here hx rfl (hb hby d1_71) rfl (teq hj71_138).2 ?_
              show Steps p.tables e below (s₁.setTop (mkF m 74 #[.val (.ref a), .val (.int i), .val (.int en), .val (.int (y0 &&& (255 : Int32))), .val (.int (3 : Int32)), .val (.int (128 : Int32)), .val (.int (191 : Int32)), .unset, .unset, .unset] [])) _
              refine XS.sipush X0.here hx rfl (hb hby d1_74) ?_
              show Steps p.tables e below (s₁.setTop (mkF m 77 #[.val (.ref a), .val (.int i), .val (.int en), .val (.int (y0 &&& (255 : Int32))), .val (.int (3 : Int32)), .val (.int (128 : Int32)), .val (.int (191 : Int32)), .unset, .unset, .unset] [(.int (160 : Int32))])) _
              refine XS.goto X0.here hx rfl (pc0 := 77) (pc' := 83) rfl (hb hby d1_77) (by decide) (by decide) ?_
              show Steps p.tables e below (s₁.setTop (mkF m 83 #[.val (.ref a), .val (.int i), .val (.int en), .val (.int (y0 &&& (255 : Int32))), .val (.int (3 : Int32)), .val (.int (128 : Int32)), .val (.int (191 : Int32)), .unset, .unset, .unset] [(.int (160 : Int32))])) _
              simpa only [if_pos hj71_138] using kt
            · refine XS.icmpYes X0.here hx rfl (pc0 := 71) (pc' := 80) rfl (hb hby d1_71) rfl (feq hj71_138).2 (by decide) (by decide) ?_
              show Steps p.tables e below (s₁.setTop (mkF m 80 #[.val (.ref a), .val (.int i), .val (.int en), .val (.int (y0 &&& (255 : Int32))), .val (.int (3 : Int32)), .val (.int (128 : Int32)), .val (.int (191 : Int32)), .unset, .unset, .unset] [])) _
              refine XS.sipush X0.here hx rfl (hb hby d1_80) ?_
              show Steps p.tables e below (s₁.setTop (mkF m 83 #[.val (.ref a), .val (.int i), .val (.int en), .val (.int (y0 &&& (255 : Int32))), .val (.int (3 : Int32)), .val (.int (128 : Int32)), .val (.int (191 : Int32)), .unset, .unset, .unset] [(.int (128 : Int32))])) _
              simpa only [if_neg hj71_138] using kt
          have k140 : ∀ tg_, Steps p.tables e below (s₁.setTop (mkF m 89 #[.val (.ref a), .val (.int i), .val (.int en), .val (.int (y0 &&& (255 : Int32))), .val (.int (3 : Int32)), .val (.int (if (y0 &&& (255 : Int32)) = (224 : Int32) then (160 : Int32) else (128 : Int32))), .val (.int (191 : Int32)), .unset, .unset, .unset] [(.int (237 : Int32)), (.int (y0 &&& (255 : Int32)))])) tg_ → Steps p.tables e below (s₁.setTop (entryFrame m #[(.ref a), (.int i), (.int en)] 10)) tg_ := by
            intro tg_ kt
            refine k139 tg_ ?_
            refine XS.istore X0.here hx rfl (hb hby d1_83) rfl (l' := #[.val (.ref a), .val (.int i), .val (.int en), .val (.int (y0 &&& (255 : Int32))), .val (.int (3 : Int32)), .val (.int (if (y0 &&& (255 : Int32)) = (224 : Int32) then (160 : Int32) else (128 : Int32))), .val (.int (191 : Int32)), .unset, .unset, .unset]) rfl ?_
            show Steps p.tables e below (s₁.setTop (mkF m 85 #[.val (.ref a), .val (.int i), .val (.int en), .val (.int (y0 &&& (255 : Int32))), .val (.int (3 : Int32)), .val (.int (if (y0 &&& (255 : Int32)) = (224 : Int32) then (160 : Int32) else (128 : Int32))), .val (.int (191 : Int32)), .unset, .unset, .unset] [])) _
            refine XS.iloadN X0.here hx rfl (hb hby d1_85) rfl ?_
            show Steps p.tables e below (s₁.setTop (mkF m 86 #[.val (.ref a), .val (.int i), .val (.int en), .val (.int (y0 &&& (255 : Int32))), .val (.int (3 : Int32)), .val (.int (if (y0 &&& (255 : Int32)) = (224 : Int32) then (160 : Int32) else (128 : Int32))), .val (.int (191 : Int32)), .unset, .unset, .unset] [(.int (y0 &&& (255 : Int32)))])) _
            refine XS.sipush X0.here hx rfl (hb hby d1_86) ?_
            show Steps p.tables e below (s₁.setTop (mkF m 89 #[.val (.ref a), .val (.int i), .val (.int en), .val (.int (y0 &&& (255 : Int32))), .val (.int (3 : Int32)), .val (.int (if (y0 &&& (255 : Int32)) = (224 : Int32) then (160 : Int32) else (128 : Int32))), .val (.int (191 : Int32)), .unset, .unset, .unset] [(.int (237 : Int32)), (.int (y0 &&& (255 : Int32)))])) _
            exact kt
          have k142 : ∀ tg_, Steps p.tables e below (s₁.setTop (mkF m 101 #[.val (.ref a), .val (.int i), .val (.int en), .val (.int (y0 &&& (255 : Int32))), .val (.int (3 : Int32)), .val (.int (if (y0 &&& (255 : Int32)) = (224 : Int32) then (160 : Int32) else (128 : Int32))), .val (.int (191 : Int32)), .unset, .unset, .unset] [(.int (if (y0 &&& (255 : Int32)) = (237 : Int32) then (159 : Int32) else (191 : Int32)))])) tg_ → Steps p.tables e below (s₁.setTop (entryFrame m #[(.ref a), (.int i), (.int en)] 10)) tg_ := by
            intro tg_ kt
            refine k140 tg_ ?_
            by_cases hj89_141 : (y0 &&& (255 : Int32)) = (237 : Int32)
            · refine XS.icmpNo X0.here hx rfl (hb hby d1_89) rfl (teq hj89_141).2 ?_
              show Steps p.tables e below (s₁.setTop (mkF m 92 #[.val (.ref a), .val (.int i), .val (.int en), .val (.int (y0 &&& (255 : Int32))), .val (.int (3 : Int32)), .val (.int (if (y0 &&& (255 : Int32)) = (224 : Int32) then (160 : Int32) else (128 : Int32))), .val (.int (191 : Int32)), .unset, .unset, .unset] [])) _
              refine XS.sipush X0.here hx rfl (hb hby d1_92) ?_
              show Steps p.tables e below (s₁.setTop (mkF m 95 #[.val (.ref a), .val (.int i), .val (.int en), .val (.int (y0 &&& (255 : Int32))), .val (.int (3 : Int32)), .val (.int (if (y0 &&& (255 : Int32)) = (224 : Int32) then (160 : Int32) else (128 : Int32))), .val (.int (191 : Int32)), .unset, .unset, .unset] [(.int (159 : Int32))])) _
              refine XS.goto X0.here hx rfl (pc0 := 95) (pc' := 101) rfl (hb hby d1_95) (by decide) (by decide) ?_
              show Steps p.tables e below (s₁.setTop (mkF m 101 #[.val (.ref a), .val (.int i), .val (.int en), .val (.int (y0 &&& (255 : Int32))), .val (.int (3 : Int32)), .val (.int (if (y0 &&& (255 : Int32)) = (224 : Int32) then (160 : Int32) else (128 : Int32))), .val (.int (191 : Int32)), .unset, .unset, .unset] [(.int (159 : Int32))])) _
              simpa only [if_pos hj89_141] using kt
            · refine XS.icmpYes X0.here hx rfl (pc0 := 89) (pc' := 98) rfl (hb hby d1_89) rfl (feq hj89_141).2 (by decide) (by decide) ?_
              show Steps p.tables e below (s₁.setTop (mkF m 98 #[.val (.ref a), .val (.int i), .val (.int en), .val (.int (y0 &&& (255 : Int32))), .val (.int (3 : Int32)), .val (.int (if (y0 &&& (255 : Int32)) = (224 : Int32) then (160 : Int32) else (128 : Int32))), .val (.int (191 : Int32)), .unset, .unset, .unset] [])) _
              refine XS.sipush X0.here hx rfl (hb hby d1_98) ?_
              show Steps p.tables e below (s₁.setTop (mkF m 101 #[.val (.ref a), .val (.int i), .val (.int en), .val (.int (y0 &&& (255 : Int32))), .val (.int (3 : Int32)), .val (.int (if (y0 &&& (255 : Int32)) = (224 : Int32) then (160 : Int32) else (128 : Int32))), .val (.int (191 : Int32)), .unset, .unset, .unset] [(.int (191 : Int32))])) _
              simpa only [if_neg hj89_141] using kt
          have k143 : ∀ tg_, Steps p.tables e below (s₁.setTop (mkF m 163 #[.val (.ref a), .val (.int i), .val (.int en), .val (.int (y0 &&& (255 : Int32))), .val (.int (3 : Int32)), .val (.int (if (y0 &&& (255 : Int32)) = (224 : Int32) then (160 : Int32) else (128 : Int32))), .val (.int (if (y0 &&& (255 : Int32)) = (237 : Int32) then (159 : Int32) else (191 : Int32))), .unset, .unset, .unset] [(.int en), (.int (i + (3 : Int32)))])) tg_ → Steps p.tables e below (s₁.setTop (entryFrame m #[(.ref a), (.int i), (.int en)] 10)) tg_ := by
            intro tg_ kt
            refine k142 tg_ ?_
            refine XS.istore X0.here hx rfl (hb hby d1_101) rfl (l' := #[.val (.ref a), .val (.int i), .val (.int en), .val (.int (y0 &&& (255 : Int32))), .val (.int (3 : Int32)), .val (.int (if (y0 &&& (255 : Int32)) = (224 : Int32) then (160 : Int32) else (128 : Int32))), .val (.int (if (y0 &&& (255 : Int32)) = (237 : Int32) then (159 : Int32) else (191 : Int32))), .unset, .unset, .unset]) rfl ?_
            show Steps p.tables e below (s₁.setTop (mkF m 103 #[.val (.ref a), .val (.int i), .val (.int en), .val (.int (y0 &&& (255 : Int32))), .val (.int (3 : Int32)), .val (.int (if (y0 &&& (255 : Int32)) = (224 : Int32) then (160 : Int32) else (128 : Int32))), .val (.int (if (y0 &&& (255 : Int32)) = (237 : Int32) then (159 : Int32) else (191 : Int32))), .unset, .unset, .unset] [])) _
            refine XS.goto X0.here hx rfl (pc0 := 103) (pc' := 158) rfl (hb hby d1_103) (by decide) (by decide) ?_
            show Steps p.tables e below (s₁.setTop (mkF m 158 #[.val (.ref a), .val (.int i), .val (.int en), .val (.int (y0 &&& (255 : Int32))), .val (.int (3 : Int32)), .val (.int (if (y0 &&& (255 : Int32)) = (224 : Int32) then (160 : Int32) else (128 : Int32))), .val (.int (if (y0 &&& (255 : Int32)) = (237 : Int32) then (159 : Int32) else (191 : Int32))), .unset, .unset, .unset] [])) _
            refine XS.iloadN X0.here hx rfl (hb hby d1_158) rfl ?_
            show Steps p.tables e below (s₁.setTop (mkF m 159 #[.val (.ref a), .val (.int i), .val (.int en), .val (.int (y0 &&& (255 : Int32))), .val (.int (3 : Int32)), .val (.int (if (y0 &&& (255 : Int32)) = (224 : Int32) then (160 : Int32) else (128 : Int32))), .val (.int (if (y0 &&& (255 : Int32)) = (237 : Int32) then (159 : Int32) else (191 : Int32))), .unset, .unset, .unset] [(.int i)])) _
            refine XS.iload X0.here hx rfl (hb hby d1_159) rfl ?_
            show Steps p.tables e below (s₁.setTop (mkF m 161 #[.val (.ref a), .val (.int i), .val (.int en), .val (.int (y0 &&& (255 : Int32))), .val (.int (3 : Int32)), .val (.int (if (y0 &&& (255 : Int32)) = (224 : Int32) then (160 : Int32) else (128 : Int32))), .val (.int (if (y0 &&& (255 : Int32)) = (237 : Int32) then (159 : Int32) else (191 : Int32))), .unset, .unset, .unset] [(.int (3 : Int32)), (.int i)])) _
            refine XS.iadd X0.here hx rfl (hb hby d1_161) rfl ?_
            show Steps p.tables e below (s₁.setTop (mkF m 162 #[.val (.ref a), .val (.int i), .val (.int en), .val (.int (y0 &&& (255 : Int32))), .val (.int (3 : Int32)), .val (.int (if (y0 &&& (255 : Int32)) = (224 : Int32) then (160 : Int32) else (128 : Int32))), .val (.int (if (y0 &&& (255 : Int32)) = (237 : Int32) then (159 : Int32) else (191 : Int32))), .unset, .unset, .unset] [(.int (i + (3 : Int32)))])) _
            refine XS.iloadN X0.here hx rfl (hb hby d1_162) rfl ?_
            show Steps p.tables e below (s₁.setTop (mkF m 163 #[.val (.ref a), .val (.int i), .val (.int en), .val (.int (y0 &&& (255 : Int32))), .val (.int (3 : Int32)), .val (.int (if (y0 &&& (255 : Int32)) = (224 : Int32) then (160 : Int32) else (128 : Int32))), .val (.int (if (y0 &&& (255 : Int32)) = (237 : Int32) then (159 : Int32) else (191 : Int32))), .unset, .unset, .unset] [(.int en), (.int (i + (3 : Int32)))])) _
            exact kt
          by_cases hc163_144 : en < (i + (3 : Int32))
          · have k145 : ∀ tg_, Steps p.tables e below (s₁.setTop (mkF m 250 #[.val (.ref a), .val (.int i), .val (.int en), .val (.int (y0 &&& (255 : Int32))), .val (.int (3 : Int32)), .val (.int (if (y0 &&& (255 : Int32)) = (224 : Int32) then (160 : Int32) else (128 : Int32))), .val (.int (if (y0 &&& (255 : Int32)) = (237 : Int32) then (159 : Int32) else (191 : Int32))), .val (.int (0 : Int32)), .val (.int (i + (1 : Int32))), .unset] [(.int (0 : Int32))])) tg_ → Steps p.tables e below (s₁.setTop (entryFrame m #[(.ref a), (.int i), (.int en)] 10)) tg_ := by
              intro tg_ kt
              refine k143 tg_ ?_
              refine XS.icmpYes X0.here hx rfl (pc0 := 163) (pc' := 170) rfl (hb hby d1_163) rfl (tlt hc163_144).2.2.1 (by decide) (by decide) ?_
              show Steps p.tables e below (s₁.setTop (mkF m 170 #[.val (.ref a), .val (.int i), .val (.int en), .val (.int (y0 &&& (255 : Int32))), .val (.int (3 : Int32)), .val (.int (if (y0 &&& (255 : Int32)) = (224 : Int32) then (160 : Int32) else (128 : Int32))), .val (.int (if (y0 &&& (255 : Int32)) = (237 : Int32) then (159 : Int32) else (191 : Int32))), .unset, .unset, .unset] [])) _
              refine XS.iconst X0.here hx rfl (hb hby d1_170) ?_
              show Steps p.tables e below (s₁.setTop (mkF m 171 #[.val (.ref a), .val (.int i), .val (.int en), .val (.int (y0 &&& (255 : Int32))), .val (.int (3 : Int32)), .val (.int (if (y0 &&& (255 : Int32)) = (224 : Int32) then (160 : Int32) else (128 : Int32))), .val (.int (if (y0 &&& (255 : Int32)) = (237 : Int32) then (159 : Int32) else (191 : Int32))), .unset, .unset, .unset] [(.int (0 : Int32))])) _
              refine XS.istore X0.here hx rfl (hb hby d1_171) rfl (l' := #[.val (.ref a), .val (.int i), .val (.int en), .val (.int (y0 &&& (255 : Int32))), .val (.int (3 : Int32)), .val (.int (if (y0 &&& (255 : Int32)) = (224 : Int32) then (160 : Int32) else (128 : Int32))), .val (.int (if (y0 &&& (255 : Int32)) = (237 : Int32) then (159 : Int32) else (191 : Int32))), .val (.int (0 : Int32)), .unset, .unset]) rfl ?_
              show Steps p.tables e below (s₁.setTop (mkF m 173 #[.val (.ref a), .val (.int i), .val (.int en), .val (.int (y0 &&& (255 : Int32))), .val (.int (3 : Int32)), .val (.int (if (y0 &&& (255 : Int32)) = (224 : Int32) then (160 : Int32) else (128 : Int32))), .val (.int (if (y0 &&& (255 : Int32)) = (237 : Int32) then (159 : Int32) else (191 : Int32))), .val (.int (0 : Int32)), .unset, .unset] [])) _
              refine XS.iloadN X0.here hx rfl (hb hby d1_173) rfl ?_
              show Steps p.tables e below (s₁.setTop (mkF m 174 #[.val (.ref a), .val (.int i), .val (.int en), .val (.int (y0 &&& (255 : Int32))), .val (.int (3 : Int32)), .val (.int (if (y0 &&& (255 : Int32)) = (224 : Int32) then (160 : Int32) else (128 : Int32))), .val (.int (if (y0 &&& (255 : Int32)) = (237 : Int32) then (159 : Int32) else (191 : Int32))), .val (.int (0 : Int32)), .unset, .unset] [(.int i)])) _
              refine XS.iconst X0.here hx rfl (hb hby d1_174) ?_
              show Steps p.tables e below (s₁.setTop (mkF m 175 #[.val (.ref a), .val (.int i), .val (.int en), .val (.int (y0 &&& (255 : Int32))), .val (.int (3 : Int32)), .val (.int (if (y0 &&& (255 : Int32)) = (224 : Int32) then (160 : Int32) else (128 : Int32))), .val (.int (if (y0 &&& (255 : Int32)) = (237 : Int32) then (159 : Int32) else (191 : Int32))), .val (.int (0 : Int32)), .unset, .unset] [(.int (1 : Int32)), (.int i)])) _
              refine XS.iadd X0.here hx rfl (hb hby d1_175) rfl ?_
              show Steps p.tables e below (s₁.setTop (mkF m 176 #[.val (.ref a), .val (.int i), .val (.int en), .val (.int (y0 &&& (255 : Int32))), .val (.int (3 : Int32)), .val (.int (if (y0 &&& (255 : Int32)) = (224 : Int32) then (160 : Int32) else (128 : Int32))), .val (.int (if (y0 &&& (255 : Int32)) = (237 : Int32) then (159 : Int32) else (191 : Int32))), .val (.int (0 : Int32)), .unset, .unset] [(.int (i + (1 : Int32)))])) _
              refine XS.istore X0.here hx rfl (hb hby d1_176) rfl (l' := #[.val (.ref a), .val (.int i), .val (.int en), .val (.int (y0 &&& (255 : Int32))), .val (.int (3 : Int32)), .val (.int (if (y0 &&& (255 : Int32)) = (224 : Int32) then (160 : Int32) else (128 : Int32))), .val (.int (if (y0 &&& (255 : Int32)) = (237 : Int32) then (159 : Int32) else (191 : Int32))), .val (.int (0 : Int32)), .val (.int (i + (1 : Int32))), .unset]) rfl ?_
              show Steps p.tables e below (s₁.setTop (mkF m 178 #[.val (.ref a), .val (.int i), .val (.int en), .val (.int (y0 &&& (255 : Int32))), .val (.int (3 : Int32)), .val (.int (if (y0 &&& (255 : Int32)) = (224 : Int32) then (160 : Int32) else (128 : Int32))), .val (.int (if (y0 &&& (255 : Int32)) = (237 : Int32) then (159 : Int32) else (191 : Int32))), .val (.int (0 : Int32)), .val (.int (i + (1 : Int32))), .unset] [])) _
              refine XS.iload X0.here hx rfl (hb hby d1_178) rfl ?_
              show Steps p.tables e below (s₁.setTop (mkF m 180 #[.val (.ref a), .val (.int i), .val (.int en), .val (.int (y0 &&& (255 : Int32))), .val (.int (3 : Int32)), .val (.int (if (y0 &&& (255 : Int32)) = (224 : Int32) then (160 : Int32) else (128 : Int32))), .val (.int (if (y0 &&& (255 : Int32)) = (237 : Int32) then (159 : Int32) else (191 : Int32))), .val (.int (0 : Int32)), .val (.int (i + (1 : Int32))), .unset] [(.int (0 : Int32))])) _
              refine XS.ifYes X0.here hx rfl (pc0 := 180) (pc' := 239) rfl (hb hby d1_180) rfl ((if0 _ _).trans (teq (by decide : (0 : Int32) = (0 : Int32))).1) (by decide) (by decide) ?_
              show Steps p.tables e below (s₁.setTop (mkF m 239 #[.val (.ref a), .val (.int i), .val (.int en), .val (.int (y0 &&& (255 : Int32))), .val (.int (3 : Int32)), .val (.int (if (y0 &&& (255 : Int32)) = (224 : Int32) then (160 : Int32) else (128 : Int32))), .val (.int (if (y0 &&& (255 : Int32)) = (237 : Int32) then (159 : Int32) else (191 : Int32))), .val (.int (0 : Int32)), .val (.int (i + (1 : Int32))), .unset] [])) _
              refine XS.iload X0.here hx rfl (hb hby d1_239) rfl ?_
              show Steps p.tables e below (s₁.setTop (mkF m 241 #[.val (.ref a), .val (.int i), .val (.int en), .val (.int (y0 &&& (255 : Int32))), .val (.int (3 : Int32)), .val (.int (if (y0 &&& (255 : Int32)) = (224 : Int32) then (160 : Int32) else (128 : Int32))), .val (.int (if (y0 &&& (255 : Int32)) = (237 : Int32) then (159 : Int32) else (191 : Int32))), .val (.int (0 : Int32)), .val (.int (i + (1 : Int32))), .unset] [(.int (0 : Int32))])) _
              refine XS.ifYes X0.here hx rfl (pc0 := 241) (pc' := 249) rfl (hb hby d1_241) rfl ((if0 _ _).trans (teq (by decide : (0 : Int32) = (0 : Int32))).1) (by decide) (by decide) ?_
              show Steps p.tables e below (s₁.setTop (mkF m 249 #[.val (.ref a), .val (.int i), .val (.int en), .val (.int (y0 &&& (255 : Int32))), .val (.int (3 : Int32)), .val (.int (if (y0 &&& (255 : Int32)) = (224 : Int32) then (160 : Int32) else (128 : Int32))), .val (.int (if (y0 &&& (255 : Int32)) = (237 : Int32) then (159 : Int32) else (191 : Int32))), .val (.int (0 : Int32)), .val (.int (i + (1 : Int32))), .unset] [])) _
              refine XS.iconst X0.here hx rfl (hb hby d1_249) ?_
              show Steps p.tables e below (s₁.setTop (mkF m 250 #[.val (.ref a), .val (.int i), .val (.int en), .val (.int (y0 &&& (255 : Int32))), .val (.int (3 : Int32)), .val (.int (if (y0 &&& (255 : Int32)) = (224 : Int32) then (160 : Int32) else (128 : Int32))), .val (.int (if (y0 &&& (255 : Int32)) = (237 : Int32) then (159 : Int32) else (191 : Int32))), .val (.int (0 : Int32)), .val (.int (i + (1 : Int32))), .unset] [(.int (0 : Int32))])) _
              exact kt
            obtain ⟨fs, hr, hrun, hended, hW, hsame⟩ := X0.leave (v := some (.int (0 : Int32))) (fun h => by rw [Bd.returns] at h; cases h)
            refine ⟨_, _, k145 _ (retI X0 hx Bd.returns (hb hby d1_250) hr), hrun, hended, _, _, rfl, ?_, ⟨_, rfl⟩, hW, hsame.mono (by decide) (by decide)⟩
            show Q1 Z a i en ii f y0 y1 y2 y3 h0 n0 _ s₁.heap _
            rw [e0]
            exact ⟨(by rw [own_eq_own_seq]; rw [if_neg hc22_75, if_neg hc35_86, if_neg hc48_100, if_pos hc61_136, if_pos hc163_144]), N0, rfl⟩
          · have hc189_153 : (i + (1 : Int32)) < (i + (3 : Int32)) := (by
                have ar146 := rng32 i
                have ar147 : (1 : Int32).toInt = 1 := by decide
                have ar148 := rng32 (i + (1 : Int32))
                first | have ar149 : (i + (1 : Int32)).toInt = i.toInt + 1 := (by have qw := c_iadd i (1 : Int32); omega) | (have ar149 := c_iadd i (1 : Int32); skip)
                have ar150 : (3 : Int32).toInt = 3 := by decide
                have ar151 := rng32 (i + (3 : Int32))
                first | have ar152 : (i + (3 : Int32)).toInt = i.toInt + 3 := (by have qw := c_iadd i (3 : Int32); omega) | (have ar152 := c_iadd i (3 : Int32); skip)
                exact Int32.lt_iff_toInt_lt.mpr (by omega))
            have hj154 : (i + (1 : Int32)).toInt = (((ii + 1) : Nat) : Int) := by
              have ar155 := rng32 i
              have ar156 : (1 : Int32).toInt = 1 := by decide
              have ar157 := rng32 (i + (1 : Int32))
              first | have ar158 : (i + (1 : Int32)).toInt = i.toInt + 1 := (by have qw := c_iadd i (1 : Int32); omega) | (have ar158 := c_iadd i (1 : Int32); skip)
              omega
            have k159 : ∀ tg_, Steps p.tables e below (s₁.setTop (mkF m 206 #[.val (.ref a), .val (.int i), .val (.int en), .val (.int (y0 &&& (255 : Int32))), .val (.int (3 : Int32)), .val (.int (if (y0 &&& (255 : Int32)) = (224 : Int32) then (160 : Int32) else (128 : Int32))), .val (.int (if (y0 &&& (255 : Int32)) = (237 : Int32) then (159 : Int32) else (191 : Int32))), .val (.int (1 : Int32)), .val (.int (i + (1 : Int32))), .val (.int (y1 &&& (255 : Int32)))] [(.int (if (y0 &&& (255 : Int32)) = (224 : Int32) then (160 : Int32) else (128 : Int32))), (.int (y1 &&& (255 : Int32)))])) tg_ → Steps p.tables e below (s₁.setTop (entryFrame m #[(.ref a), (.int i), (.int en)] 10)) tg_ := by
              intro tg_ kt
              refine k143 tg_ ?_
              refine XS.icmpNo X0.here hx rfl (hb hby d1_163) rfl (flt hc163_144).2.2.1 ?_
              show Steps p.tables e below (s₁.setTop (mkF m 166 #[.val (.ref a), .val (.int i), .val (.int en), .val (.int (y0 &&& (255 : Int32))), .val (.int (3 : Int32)), .val (.int (if (y0 &&& (255 : Int32)) = (224 : Int32) then (160 : Int32) else (128 : Int32))), .val (.int (if (y0 &&& (255 : Int32)) = (237 : Int32) then (159 : Int32) else (191 : Int32))), .unset, .unset, .unset] [])) _
              refine XS.iconst X0.here hx rfl (hb hby d1_166) ?_
              show Steps p.tables e below (s₁.setTop (mkF m 167 #[.val (.ref a), .val (.int i), .val (.int en), .val (.int (y0 &&& (255 : Int32))), .val (.int (3 : Int32)), .val (.int (if (y0 &&& (255 : Int32)) = (224 : Int32) then (160 : Int32) else (128 : Int32))), .val (.int (if (y0 &&& (255 : Int32)) = (237 : Int32) then (159 : Int32) else (191 : Int32))), .unset, .unset, .unset] [(.int (1 : Int32))])) _
              refine XS.goto X0.here hx rfl (pc0 := 167) (pc' := 171) rfl (hb hby d1_167) (by decide) (by decide) ?_
              show Steps p.tables e below (s₁.setTop (mkF m 171 #[.val (.ref a), .val (.int i), .val (.int en), .val (.int (y0 &&& (255 : Int32))), .val (.int (3 : Int32)), .val (.int (if (y0 &&& (255 : Int32)) = (224 : Int32) then (160 : Int32) else (128 : Int32))), .val (.int (if (y0 &&& (255 : Int32)) = (237 : Int32) then (159 : Int32) else (191 : Int32))), .unset, .unset, .unset] [(.int (1 : Int32))])) _
              refine XS.istore X0.here hx rfl (hb hby d1_171) rfl (l' := #[.val (.ref a), .val (.int i), .val (.int en), .val (.int (y0 &&& (255 : Int32))), .val (.int (3 : Int32)), .val (.int (if (y0 &&& (255 : Int32)) = (224 : Int32) then (160 : Int32) else (128 : Int32))), .val (.int (if (y0 &&& (255 : Int32)) = (237 : Int32) then (159 : Int32) else (191 : Int32))), .val (.int (1 : Int32)), .unset, .unset]) rfl ?_
              show Steps p.tables e below (s₁.setTop (mkF m 173 #[.val (.ref a), .val (.int i), .val (.int en), .val (.int (y0 &&& (255 : Int32))), .val (.int (3 : Int32)), .val (.int (if (y0 &&& (255 : Int32)) = (224 : Int32) then (160 : Int32) else (128 : Int32))), .val (.int (if (y0 &&& (255 : Int32)) = (237 : Int32) then (159 : Int32) else (191 : Int32))), .val (.int (1 : Int32)), .unset, .unset] [])) _
              refine XS.iloadN X0.here hx rfl (hb hby d1_173) rfl ?_
              show Steps p.tables e below (s₁.setTop (mkF m 174 #[.val (.ref a), .val (.int i), .val (.int en), .val (.int (y0 &&& (255 : Int32))), .val (.int (3 : Int32)), .val (.int (if (y0 &&& (255 : Int32)) = (224 : Int32) then (160 : Int32) else (128 : Int32))), .val (.int (if (y0 &&& (255 : Int32)) = (237 : Int32) then (159 : Int32) else (191 : Int32))), .val (.int (1 : Int32)), .unset, .unset] [(.int i)])) _
              refine XS.iconst X0.here hx rfl (hb hby d1_174) ?_
              show Steps p.tables e below (s₁.setTop (mkF m 175 #[.val (.ref a), .val (.int i), .val (.int en), .val (.int (y0 &&& (255 : Int32))), .val (.int (3 : Int32)), .val (.int (if (y0 &&& (255 : Int32)) = (224 : Int32) then (160 : Int32) else (128 : Int32))), .val (.int (if (y0 &&& (255 : Int32)) = (237 : Int32) then (159 : Int32) else (191 : Int32))), .val (.int (1 : Int32)), .unset, .unset] [(.int (1 : Int32)), (.int i)])) _
              refine XS.iadd X0.here hx rfl (hb hby d1_175) rfl ?_
              show Steps p.tables e below (s₁.setTop (mkF m 176 #[.val (.ref a), .val (.int i), .val (.int en), .val (.int (y0 &&& (255 : Int32))), .val (.int (3 : Int32)), .val (.int (if (y0 &&& (255 : Int32)) = (224 : Int32) then (160 : Int32) else (128 : Int32))), .val (.int (if (y0 &&& (255 : Int32)) = (237 : Int32) then (159 : Int32) else (191 : Int32))), .val (.int (1 : Int32)), .unset, .unset] [(.int (i + (1 : Int32)))])) _
              refine XS.istore X0.here hx rfl (hb hby d1_176) rfl (l' := #[.val (.ref a), .val (.int i), .val (.int en), .val (.int (y0 &&& (255 : Int32))), .val (.int (3 : Int32)), .val (.int (if (y0 &&& (255 : Int32)) = (224 : Int32) then (160 : Int32) else (128 : Int32))), .val (.int (if (y0 &&& (255 : Int32)) = (237 : Int32) then (159 : Int32) else (191 : Int32))), .val (.int (1 : Int32)), .val (.int (i + (1 : Int32))), .unset]) rfl ?_
              show Steps p.tables e below (s₁.setTop (mkF m 178 #[.val (.ref a), .val (.int i), .val (.int en), .val (.int (y0 &&& (255 : Int32))), .val (.int (3 : Int32)), .val (.int (if (y0 &&& (255 : Int32)) = (224 : Int32) then (160 : Int32) else (128 : Int32))), .val (.int (if (y0 &&& (255 : Int32)) = (237 : Int32) then (159 : Int32) else (191 : Int32))), .val (.int (1 : Int32)), .val (.int (i + (1 : Int32))), .unset] [])) _
              refine XS.iload X0.here hx rfl (hb hby d1_178) rfl ?_
              show Steps p.tables e below (s₁.setTop (mkF m 180 #[.val (.ref a), .val (.int i), .val (.int en), .val (.int (y0 &&& (255 : Int32))), .val (.int (3 : Int32)), .val (.int (if (y0 &&& (255 : Int32)) = (224 : Int32) then (160 : Int32) else (128 : Int32))), .val (.int (if (y0 &&& (255 : Int32)) = (237 : Int32) then (159 : Int32) else (191 : Int32))), .val (.int (1 : Int32)), .val (.int (i + (1 : Int32))), .unset] [(.int (1 : Int32))])) _
              refine XS.ifNo X0.here hx rfl (hb hby d1_180) rfl ((if0 _ _).trans (feq (by decide : ¬ ((1 : Int32) = (0 : Int32)))).1) ?_
              show Steps p.tables e below (s₁.setTop (mkF m 183 #[.val (.ref a), .val (.int i), .val (.int en), .val (.int (y0 &&& (255 : Int32))), .val (.int (3 : Int32)), .val (.int (if (y0 &&& (255 : Int32)) = (224 : Int32) then (160 : Int32) else (128 : Int32))), .val (.int (if (y0 &&& (255 : Int32)) = (237 : Int32) then (159 : Int32) else (191 : Int32))), .val (.int (1 : Int32)), .val (.int (i + (1 : Int32))), .unset] [])) _
              refine XS.iload X0.here hx rfl (hb hby d1_183) rfl ?_
              show Steps p.tables e below (s₁.setTop (mkF m 185 #[.val (.ref a), .val (.int i), .val (.int en), .val (.int (y0 &&& (255 : Int32))), .val (.int (3 : Int32)), .val (.int (if (y0 &&& (255 : Int32)) = (224 : Int32) then (160 : Int32) else (128 : Int32))), .val (.int (if (y0 &&& (255 : Int32)) = (237 : Int32) then (159 : Int32) else (191 : Int32))), .val (.int (1 : Int32)), .val (.int (i + (1 : Int32))), .unset] [(.int (i + (1 : Int32)))])) _
              refine XS.iloadN X0.here hx rfl (hb hby d1_185) rfl ?_
              show Steps p.tables e below (s₁.setTop (mkF m 186 #[.val (.ref a), .val (.int i), .val (.int en), .val (.int (y0 &&& (255 : Int32))), .val (.int (3 : Int32)), .val (.int (if (y0 &&& (255 : Int32)) = (224 : Int32) then (160 : Int32) else (128 : Int32))), .val (.int (if (y0 &&& (255 : Int32)) = (237 : Int32) then (159 : Int32) else (191 : Int32))), .val (.int (1 : Int32)), .val (.int (i + (1 : Int32))), .unset] [(.int i), (.int (i + (1 : Int32)))])) _
              refine XS.iload X0.here hx rfl (hb hby d1_186) rfl ?_
              show Steps p.tables e below (s₁.setTop (mkF m 188 #[.val (.ref a), .val (.int i), .val (.int en), .val (.int (y0 &&& (255 : Int32))), .val (.int (3 : Int32)), .val (.int (if (y0 &&& (255 : Int32)) = (224 : Int32) then (160 : Int32) else (128 : Int32))), .val (.int (if (y0 &&& (255 : Int32)) = (237 : Int32) then (159 : Int32) else (191 : Int32))), .val (.int (1 : Int32)), .val (.int (i + (1 : Int32))), .unset] [(.int (3 : Int32)), (.int i), (.int (i + (1 : Int32)))])) _
              refine XS.iadd X0.here hx rfl (hb hby d1_188) rfl ?_
              show Steps p.tables e below (s₁.setTop (mkF m 189 #[.val (.ref a), .val (.int i), .val (.int en), .val (.int (y0 &&& (255 : Int32))), .val (.int (3 : Int32)), .val (.int (if (y0 &&& (255 : Int32)) = (224 : Int32) then (160 : Int32) else (128 : Int32))), .val (.int (if (y0 &&& (255 : Int32)) = (237 : Int32) then (159 : Int32) else (191 : Int32))), .val (.int (1 : Int32)), .val (.int (i + (1 : Int32))), .unset] [(.int (i + (3 : Int32))), (.int (i + (1 : Int32)))])) _
              refine XS.icmpNo X0.here hx rfl (hb hby d1_189) rfl (tlt hc189_153).2.1 ?_
              show Steps p.tables e below (s₁.setTop (mkF m 192 #[.val (.ref a), .val (.int i), .val (.int en), .val (.int (y0 &&& (255 : Int32))), .val (.int (3 : Int32)), .val (.int (if (y0 &&& (255 : Int32)) = (224 : Int32) then (160 : Int32) else (128 : Int32))), .val (.int (if (y0 &&& (255 : Int32)) = (237 : Int32) then (159 : Int32) else (191 : Int32))), .val (.int (1 : Int32)), .val (.int (i + (1 : Int32))), .unset] [])) _
              refine XS.aloadN X0.here hx rfl (hb hby d1_192) rfl rfl ?_
              show Steps p.tables e below (s₁.setTop (mkF m 193 #[.val (.ref a), .val (.int i), .val (.int en), .val (.int (y0 &&& (255 : Int32))), .val (.int (3 : Int32)), .val (.int (if (y0 &&& (255 : Int32)) = (224 : Int32) then (160 : Int32) else (128 : Int32))), .val (.int (if (y0 &&& (255 : Int32)) = (237 : Int32) then (159 : Int32) else (191 : Int32))), .val (.int (1 : Int32)), .val (.int (i + (1 : Int32))), .unset] [(.ref a)])) _
              refine XS.iload X0.here hx rfl (hb hby d1_193) rfl ?_
              show Steps p.tables e below (s₁.setTop (mkF m 195 #[.val (.ref a), .val (.int i), .val (.int en), .val (.int (y0 &&& (255 : Int32))), .val (.int (3 : Int32)), .val (.int (if (y0 &&& (255 : Int32)) = (224 : Int32) then (160 : Int32) else (128 : Int32))), .val (.int (if (y0 &&& (255 : Int32)) = (237 : Int32) then (159 : Int32) else (191 : Int32))), .val (.int (1 : Int32)), .val (.int (i + (1 : Int32))), .unset] [(.int (i + (1 : Int32))), (.ref a)])) _
              refine own_ldB X0 hx hZ e0 V_a (i := (ii + 1)) hj154 (by omega) hf1 (g := (mkF m 195 #[.val (.ref a), .val (.int i), .val (.int en), .val (.int (y0 &&& (255 : Int32))), .val (.int (3 : Int32)), .val (.int (if (y0 &&& (255 : Int32)) = (224 : Int32) then (160 : Int32) else (128 : Int32))), .val (.int (if (y0 &&& (255 : Int32)) = (237 : Int32) then (159 : Int32) else (191 : Int32))), .val (.int (1 : Int32)), .val (.int (i + (1 : Int32))), .unset] [(.int (i + (1 : Int32))), (.ref a)])) rfl rfl (hb hby d1_195) _ ?_
              show Steps p.tables e below (s₁.setTop (mkF m 196 #[.val (.ref a), .val (.int i), .val (.int en), .val (.int (y0 &&& (255 : Int32))), .val (.int (3 : Int32)), .val (.int (if (y0 &&& (255 : Int32)) = (224 : Int32) then (160 : Int32) else (128 : Int32))), .val (.int (if (y0 &&& (255 : Int32)) = (237 : Int32) then (159 : Int32) else (191 : Int32))), .val (.int (1 : Int32)), .val (.int (i + (1 : Int32))), .unset] [(.int y1)])) _
              refine XS.sipush X0.here hx rfl (hb hby d1_196) ?_
              show Steps p.tables e below (s₁.setTop (mkF m 199 #[.val (.ref a), .val (.int i), .val (.int en), .val (.int (y0 &&& (255 : Int32))), .val (.int (3 : Int32)), .val (.int (if (y0 &&& (255 : Int32)) = (224 : Int32) then (160 : Int32) else (128 : Int32))), .val (.int (if (y0 &&& (255 : Int32)) = (237 : Int32) then (159 : Int32) else (191 : Int32))), .val (.int (1 : Int32)), .val (.int (i + (1 : Int32))), .unset] [(.int (255 : Int32)), (.int y1)])) _
              refine XS.iand X0.here hx rfl (hb hby d1_199) rfl ?_
              show Steps p.tables e below (s₁.setTop (mkF m 200 #[.val (.ref a), .val (.int i), .val (.int en), .val (.int (y0 &&& (255 : Int32))), .val (.int (3 : Int32)), .val (.int (if (y0 &&& (255 : Int32)) = (224 : Int32) then (160 : Int32) else (128 : Int32))), .val (.int (if (y0 &&& (255 : Int32)) = (237 : Int32) then (159 : Int32) else (191 : Int32))), .val (.int (1 : Int32)), .val (.int (i + (1 : Int32))), .unset] [(.int (y1 &&& (255 : Int32)))])) _
              refine XS.istore X0.here hx rfl (hb hby d1_200) rfl (l' := #[.val (.ref a), .val (.int i), .val (.int en), .val (.int (y0 &&& (255 : Int32))), .val (.int (3 : Int32)), .val (.int (if (y0 &&& (255 : Int32)) = (224 : Int32) then (160 : Int32) else (128 : Int32))), .val (.int (if (y0 &&& (255 : Int32)) = (237 : Int32) then (159 : Int32) else (191 : Int32))), .val (.int (1 : Int32)), .val (.int (i + (1 : Int32))), .val (.int (y1 &&& (255 : Int32)))]) rfl ?_
              show Steps p.tables e below (s₁.setTop (mkF m 202 #[.val (.ref a), .val (.int i), .val (.int en), .val (.int (y0 &&& (255 : Int32))), .val (.int (3 : Int32)), .val (.int (if (y0 &&& (255 : Int32)) = (224 : Int32) then (160 : Int32) else (128 : Int32))), .val (.int (if (y0 &&& (255 : Int32)) = (237 : Int32) then (159 : Int32) else (191 : Int32))), .val (.int (1 : Int32)), .val (.int (i + (1 : Int32))), .val (.int (y1 &&& (255 : Int32)))] [])) _
              refine XS.iload X0.here hx rfl (hb hby d1_202) rfl ?_
              show Steps p.tables e below (s₁.setTop (mkF m 204 #[.val (.ref a), .val (.int i), .val (.int en), .val (.int (y0 &&& (255 : Int32))), .val (.int (3 : Int32)), .val (.int (if (y0 &&& (255 : Int32)) = (224 : Int32) then (160 : Int32) else (128 : Int32))), .val (.int (if (y0 &&& (255 : Int32)) = (237 : Int32) then (159 : Int32) else (191 : Int32))), .val (.int (1 : Int32)), .val (.int (i + (1 : Int32))), .val (.int (y1 &&& (255 : Int32)))] [(.int (y1 &&& (255 : Int32)))])) _
              refine XS.iload X0.here hx rfl (hb hby d1_204) rfl ?_
              show Steps p.tables e below (s₁.setTop (mkF m 206 #[.val (.ref a), .val (.int i), .val (.int en), .val (.int (y0 &&& (255 : Int32))), .val (.int (3 : Int32)), .val (.int (if (y0 &&& (255 : Int32)) = (224 : Int32) then (160 : Int32) else (128 : Int32))), .val (.int (if (y0 &&& (255 : Int32)) = (237 : Int32) then (159 : Int32) else (191 : Int32))), .val (.int (1 : Int32)), .val (.int (i + (1 : Int32))), .val (.int (y1 &&& (255 : Int32)))] [(.int (if (y0 &&& (255 : Int32)) = (224 : Int32) then (160 : Int32) else (128 : Int32))), (.int (y1 &&& (255 : Int32)))])) _
              exact kt
            have k162 : ∀ tg_, Steps p.tables e below (s₁.setTop (mkF m 221 #[.val (.ref a), .val (.int i), .val (.int en), .val (.int (y0 &&& (255 : Int32))), .val (.int (3 : Int32)), .val (.int (if (y0 &&& (255 : Int32)) = (224 : Int32) then (160 : Int32) else (128 : Int32))), .val (.int (if (y0 &&& (255 : Int32)) = (237 : Int32) then (159 : Int32) else (191 : Int32))), .val (.int (1 : Int32)), .val (.int (i + (1 : Int32))), .val (.int (y1 &&& (255 : Int32)))] [(.int (if (y1 &&& (255 : Int32)) < (if (y0 &&& (255 : Int32)) = (224 : Int32) then (160 : Int32) else (128 : Int32)) then (0 : Int32) else (if (if (y0 &&& (255 : Int32)) = (237 : Int32) then (159 : Int32) else (191 : Int32)) < (y1 &&& (255 : Int32)) then (0 : Int32) else (1 : Int32))))])) tg_ → Steps p.tables e below (s₁.setTop (entryFrame m #[(.ref a), (.int i), (.int en)] 10)) tg_ := by
              intro tg_ kt
              refine k159 tg_ ?_
              by_cases hj206_160 : (y1 &&& (255 : Int32)) < (if (y0 &&& (255 : Int32)) = (224 : Int32) then (160 : Int32) else (128 : Int32))
              · refine XS.icmpYes X0.here hx rfl (pc0 := 206) (pc' := 220) rfl (hb hby d1_206) rfl (tlt hj206_160).1 (by decide) (by decide) ?_
                show Steps p.tables e below (s₁.setTop (mkF m 220 #[.val (.ref a), .val (.int i), .val (.int en), .val (.int (y0 &&& (255 : Int32))), .val (.int (3 : Int32)), .val (.int (if (y0 &&& (255 : Int32)) = (224 : Int32) then (160 : Int32) else (128 : Int32))), .val (.int (if (y0 &&& (255 : Int32)) = (237 : Int32) then (159 : Int32) else (191 : Int32))), .val (.int (1 : Int32)), .val (.int (i + (1 : Int32))), .val (.int (y1 &&& (255 : Int32)))] [])) _
                refine XS.iconst X0.here hx rfl (hb hby d1_220) ?_
                show Steps p.tables e below (s₁.setTop (mkF m 221 #[.val (.ref a), .val (.int i), .val (.int en), .val (.int (y0 &&& (255 : Int32))), .val (.int (3 : Int32)), .val (.int (if (y0 &&& (255 : Int32)) = (224 : Int32) then (160 : Int32) else (128 : Int32))), .val (.int (if (y0 &&& (255 : Int32)) = (237 : Int32) then (159 : Int32) else (191 : Int32))), .val (.int (1 : Int32)), .val (.int (i + (1 : Int32))), .val (.int (y1 &&& (255 : Int32)))] [(.int (0 : Int32))])) _
                simpa only [if_pos hj206_160] using kt
              · refine XS.icmpNo X0.here hx rfl (hb hby d1_206) rfl (flt hj206_160).1 ?_
                show Steps p.tables e below (s₁.setTop (mkF m 209 #[.val (.ref a), .val (.int i), .val (.int en), .val (.int (y0 &&& (255 : Int32))), .val (.int (3 : Int32)), .val (.int (if (y0 &&& (255 : Int32)) = (224 : Int32) then (160 : Int32) else (128 : Int32))), .val (.int (if (y0 &&& (255 : Int32)) = (237 : Int32) then (159 : Int32) else (191 : Int32))), .val (.int (1 : Int32)), .val (.int (i + (1 : Int32))), .val (.int (y1 &&& (255 : Int32)))] [])) _
                refine XS.iload X0.here hx rfl (hb hby d1_209) rfl ?_
                show Steps p.tables e below (s₁.setTop (mkF m 211 #[.val (.ref a), .val (.int i), .val (.int en), .val (.int (y0 &&& (255 : Int32))), .val (.int (3 : Int32)), .val (.int (if (y0 &&& (255 : Int32)) = (224 : Int32) then (160 : Int32) else (128 : Int32))), .val (.int (if (y0 &&& (255 : Int32)) = (237 : Int32) then (159 : Int32) else (191 : Int32))), .val (.int (1 : Int32)), .val (.int (i + (1 : Int32))), .val (.int (y1 &&& (255 : Int32)))] [(.int (y1 &&& (255 : Int32)))])) _
                refine XS.iload X0.here hx rfl (hb hby d1_211) rfl ?_
                show Steps p.tables e below (s₁.setTop (mkF m 213 #[.val (.ref a), .val (.int i), .val (.int en), .val (.int (y0 &&& (255 : Int32))), .val (.int (3 : Int32)), .val (.int (if (y0 &&& (255 : Int32)) = (224 : Int32) then (160 : Int32) else (128 : Int32))), .val (.int (if (y0 &&& (255 : Int32)) = (237 : Int32) then (159 : Int32) else (191 : Int32))), .val (.int (1 : Int32)), .val (.int (i + (1 : Int32))), .val (.int (y1 &&& (255 : Int32)))] [(.int (if (y0 &&& (255 : Int32)) = (237 : Int32) then (159 : Int32) else (191 : Int32))), (.int (y1 &&& (255 : Int32)))])) _
                by_cases hj213_161 : (if (y0 &&& (255 : Int32)) = (237 : Int32) then (159 : Int32) else (191 : Int32)) < (y1 &&& (255 : Int32))
                · refine XS.icmpYes X0.here hx rfl (pc0 := 213) (pc' := 220) rfl (hb hby d1_213) rfl (tlt hj213_161).2.2.1 (by decide) (by decide) ?_
                  show Steps p.tables e below (s₁.setTop (mkF m 220 #[.val (.ref a), .val (.int i), .val (.int en), .val (.int (y0 &&& (255 : Int32))), .val (.int (3 : Int32)), .val (.int (if (y0 &&& (255 : Int32)) = (224 : Int32) then (160 : Int32) else (128 : Int32))), .val (.int (if (y0 &&& (255 : Int32)) = (237 : Int32) then (159 : Int32) else (191 : Int32))), .val (.int (1 : Int32)), .val (.int (i + (1 : Int32))), .val (.int (y1 &&& (255 : Int32)))] [])) _
                  refine XS.iconst X0.here hx rfl (hb hby d1_220) ?_
                  show Steps p.tables e below (s₁.setTop (mkF m 221 #[.val (.ref a), .val (.int i), .val (.int en), .val (.int (y0 &&& (255 : Int32))), .val (.int (3 : Int32)), .val (.int (if (y0 &&& (255 : Int32)) = (224 : Int32) then (160 : Int32) else (128 : Int32))), .val (.int (if (y0 &&& (255 : Int32)) = (237 : Int32) then (159 : Int32) else (191 : Int32))), .val (.int (1 : Int32)), .val (.int (i + (1 : Int32))), .val (.int (y1 &&& (255 : Int32)))] [(.int (0 : Int32))])) _
                  simpa only [if_neg hj206_160, if_pos hj213_161] using kt
                · refine XS.icmpNo X0.here hx rfl (hb hby d1_213) rfl (flt hj213_161).2.2.1 ?_
                  show Steps p.tables e below (s₁.setTop (mkF m 216 #[.val (.ref a), .val (.int i), .val (.int en), .val (.int (y0 &&& (255 : Int32))), .val (.int (3 : Int32)), .val (.int (if (y0 &&& (255 : Int32)) = (224 : Int32) then (160 : Int32) else (128 : Int32))), .val (.int (if (y0 &&& (255 : Int32)) = (237 : Int32) then (159 : Int32) else (191 : Int32))), .val (.int (1 : Int32)), .val (.int (i + (1 : Int32))), .val (.int (y1 &&& (255 : Int32)))] [])) _
                  refine XS.iconst X0.here hx rfl (hb hby d1_216) ?_
                  show Steps p.tables e below (s₁.setTop (mkF m 217 #[.val (.ref a), .val (.int i), .val (.int en), .val (.int (y0 &&& (255 : Int32))), .val (.int (3 : Int32)), .val (.int (if (y0 &&& (255 : Int32)) = (224 : Int32) then (160 : Int32) else (128 : Int32))), .val (.int (if (y0 &&& (255 : Int32)) = (237 : Int32) then (159 : Int32) else (191 : Int32))), .val (.int (1 : Int32)), .val (.int (i + (1 : Int32))), .val (.int (y1 &&& (255 : Int32)))] [(.int (1 : Int32))])) _
                  refine XS.goto X0.here hx rfl (pc0 := 217) (pc' := 221) rfl (hb hby d1_217) (by decide) (by decide) ?_
                  show Steps p.tables e below (s₁.setTop (mkF m 221 #[.val (.ref a), .val (.int i), .val (.int en), .val (.int (y0 &&& (255 : Int32))), .val (.int (3 : Int32)), .val (.int (if (y0 &&& (255 : Int32)) = (224 : Int32) then (160 : Int32) else (128 : Int32))), .val (.int (if (y0 &&& (255 : Int32)) = (237 : Int32) then (159 : Int32) else (191 : Int32))), .val (.int (1 : Int32)), .val (.int (i + (1 : Int32))), .val (.int (y1 &&& (255 : Int32)))] [(.int (1 : Int32))])) _
                  simpa only [if_neg hj206_160, if_neg hj213_161] using kt
            have k163 : ∀ tg_, Steps p.tables e below (s₁.setTop (mkF m 180 #[.val (.ref a), .val (.int i), .val (.int en), .val (.int (y0 &&& (255 : Int32))), .val (.int (3 : Int32)), .val (.int (128 : Int32)), .val (.int (191 : Int32)), .val (.int (if (y1 &&& (255 : Int32)) < (if (y0 &&& (255 : Int32)) = (224 : Int32) then (160 : Int32) else (128 : Int32)) then (0 : Int32) else (if (if (y0 &&& (255 : Int32)) = (237 : Int32) then (159 : Int32) else (191 : Int32)) < (y1 &&& (255 : Int32)) then (0 : Int32) else (1 : Int32)))), .val (.int ((i + (1 : Int32)) + (1 : Int32))), .val (.int (y1 &&& (255 : Int32)))] [(.int (if (y1 &&& (255 : Int32)) < (if (y0 &&& (255 : Int32)) = (224 : Int32) then (160 : Int32) else (128 : Int32)) then (0 : Int32) else (if (if (y0 &&& (255 : Int32)) = (237 : Int32) then (159 : Int32) else (191 : Int32)) < (y1 &&& (255 : Int32)) then (0 : Int32) else (1 : Int32))))])) tg_ → Steps p.tables e below (s₁.setTop (entryFrame m #[(.ref a), (.int i), (.int en)] 10)) tg_ := by
              intro tg_ kt
              refine k162 tg_ ?_
              refine XS.istore X0.here hx rfl (hb hby d1_221) rfl (l' := #[.val (.ref a), .val (.int i), .val (.int en), .val (.int (y0 &&& (255 : Int32))), .val (.int (3 : Int32)), .val (.int (if (y0 &&& (255 : Int32)) = (224 : Int32) then (160 : Int32) else (128 : Int32))), .val (.int (if (y0 &&& (255 : Int32)) = (237 : Int32) then (159 : Int32) else (191 : Int32))), .val (.int (if (y1 &&& (255 : Int32)) < (if (y0 &&& (255 : Int32)) = (224 : Int32) then (160 : Int32) else (128 : Int32)) then (0 : Int32) else (if (if (y0 &&& (255 : Int32)) = (237 : Int32) then (159 : Int32) else (191 : Int32)) < (y1 &&& (255 : Int32)) then (0 : Int32) else (1 : Int32)))), .val (.int (i + (1 : Int32))), .val (.int (y1 &&& (255 : Int32)))]) rfl ?_
              show Steps p.tables e below (s₁.setTop (mkF m 223 #[.val (.ref a), .val (.int i), .val (.int en), .val (.int (y0 &&& (255 : Int32))), .val (.int (3 : Int32)), .val (.int (if (y0 &&& (255 : Int32)) = (224 : Int32) then (160 : Int32) else (128 : Int32))), .val (.int (if (y0 &&& (255 : Int32)) = (237 : Int32) then (159 : Int32) else (191 : Int32))), .val (.int (if (y1 &&& (255 : Int32)) < (if (y0 &&& (255 : Int32)) = (224 : Int32) then (160 : Int32) else (128 : Int32)) then (0 : Int32) else (if (if (y0 &&& (255 : Int32)) = (237 : Int32) then (159 : Int32) else (191 : Int32)) < (y1 &&& (255 : Int32)) then (0 : Int32) else (1 : Int32)))), .val (.int (i + (1 : Int32))), .val (.int (y1 &&& (255 : Int32)))] [])) _
              refine XS.sipush X0.here hx rfl (hb hby d1_223) ?_
              show Steps p.tables e below (s₁.setTop (mkF m 226 #[.val (.ref a), .val (.int i), .val (.int en), .val (.int (y0 &&& (255 : Int32))), .val (.int (3 : Int32)), .val (.int (if (y0 &&& (255 : Int32)) = (224 : Int32) then (160 : Int32) else (128 : Int32))), .val (.int (if (y0 &&& (255 : Int32)) = (237 : Int32) then (159 : Int32) else (191 : Int32))), .val (.int (if (y1 &&& (255 : Int32)) < (if (y0 &&& (255 : Int32)) = (224 : Int32) then (160 : Int32) else (128 : Int32)) then (0 : Int32) else (if (if (y0 &&& (255 : Int32)) = (237 : Int32) then (159 : Int32) else (191 : Int32)) < (y1 &&& (255 : Int32)) then (0 : Int32) else (1 : Int32)))), .val (.int (i + (1 : Int32))), .val (.int (y1 &&& (255 : Int32)))] [(.int (128 : Int32))])) _
              refine XS.istore X0.here hx rfl (hb hby d1_226) rfl (l' := #[.val (.ref a), .val (.int i), .val (.int en), .val (.int (y0 &&& (255 : Int32))), .val (.int (3 : Int32)), .val (.int (128 : Int32)), .val (.int (if (y0 &&& (255 : Int32)) = (237 : Int32) then (159 : Int32) else (191 : Int32))), .val (.int (if (y1 &&& (255 : Int32)) < (if (y0 &&& (255 : Int32)) = (224 : Int32) then (160 : Int32) else (128 : Int32)) then (0 : Int32) else (if (if (y0 &&& (255 : Int32)) = (237 : Int32) then (159 : Int32) else (191 : Int32)) < (y1 &&& (255 : Int32)) then (0 : Int32) else (1 : Int32)))), .val (.int (i + (1 : Int32))), .val (.int (y1 &&& (255 : Int32)))]) rfl ?_
              show Steps p.tables e below (s₁.setTop (mkF m 228 #[.val (.ref a), .val (.int i), .val (.int en), .val (.int (y0 &&& (255 : Int32))), .val (.int (3 : Int32)), .val (.int (128 : Int32)), .val (.int (if (y0 &&& (255 : Int32)) = (237 : Int32) then (159 : Int32) else (191 : Int32))), .val (.int (if (y1 &&& (255 : Int32)) < (if (y0 &&& (255 : Int32)) = (224 : Int32) then (160 : Int32) else (128 : Int32)) then (0 : Int32) else (if (if (y0 &&& (255 : Int32)) = (237 : Int32) then (159 : Int32) else (191 : Int32)) < (y1 &&& (255 : Int32)) then (0 : Int32) else (1 : Int32)))), .val (.int (i + (1 : Int32))), .val (.int (y1 &&& (255 : Int32)))] [])) _
              refine XS.sipush X0.here hx rfl (hb hby d1_228) ?_
              show Steps p.tables e below (s₁.setTop (mkF m 231 #[.val (.ref a), .val (.int i), .val (.int en), .val (.int (y0 &&& (255 : Int32))), .val (.int (3 : Int32)), .val (.int (128 : Int32)), .val (.int (if (y0 &&& (255 : Int32)) = (237 : Int32) then (159 : Int32) else (191 : Int32))), .val (.int (if (y1 &&& (255 : Int32)) < (if (y0 &&& (255 : Int32)) = (224 : Int32) then (160 : Int32) else (128 : Int32)) then (0 : Int32) else (if (if (y0 &&& (255 : Int32)) = (237 : Int32) then (159 : Int32) else (191 : Int32)) < (y1 &&& (255 : Int32)) then (0 : Int32) else (1 : Int32)))), .val (.int (i + (1 : Int32))), .val (.int (y1 &&& (255 : Int32)))] [(.int (191 : Int32))])) _
              refine XS.istore X0.here hx rfl (hb hby d1_231) rfl (l' := #[.val (.ref a), .val (.int i), .val (.int en), .val (.int (y0 &&& (255 : Int32))), .val (.int (3 : Int32)), .val (.int (128 : Int32)), .val (.int (191 : Int32)), .val (.int (if (y1 &&& (255 : Int32)) < (if (y0 &&& (255 : Int32)) = (224 : Int32) then (160 : Int32) else (128 : Int32)) then (0 : Int32) else (if (if (y0 &&& (255 : Int32)) = (237 : Int32) then (159 : Int32) else (191 : Int32)) < (y1 &&& (255 : Int32)) then (0 : Int32) else (1 : Int32)))), .val (.int (i + (1 : Int32))), .val (.int (y1 &&& (255 : Int32)))]) rfl ?_
              show Steps p.tables e below (s₁.setTop (mkF m 233 #[.val (.ref a), .val (.int i), .val (.int en), .val (.int (y0 &&& (255 : Int32))), .val (.int (3 : Int32)), .val (.int (128 : Int32)), .val (.int (191 : Int32)), .val (.int (if (y1 &&& (255 : Int32)) < (if (y0 &&& (255 : Int32)) = (224 : Int32) then (160 : Int32) else (128 : Int32)) then (0 : Int32) else (if (if (y0 &&& (255 : Int32)) = (237 : Int32) then (159 : Int32) else (191 : Int32)) < (y1 &&& (255 : Int32)) then (0 : Int32) else (1 : Int32)))), .val (.int (i + (1 : Int32))), .val (.int (y1 &&& (255 : Int32)))] [])) _
              refine XS.iinc X0.here hx rfl (hb hby d1_233) rfl (l' := #[.val (.ref a), .val (.int i), .val (.int en), .val (.int (y0 &&& (255 : Int32))), .val (.int (3 : Int32)), .val (.int (128 : Int32)), .val (.int (191 : Int32)), .val (.int (if (y1 &&& (255 : Int32)) < (if (y0 &&& (255 : Int32)) = (224 : Int32) then (160 : Int32) else (128 : Int32)) then (0 : Int32) else (if (if (y0 &&& (255 : Int32)) = (237 : Int32) then (159 : Int32) else (191 : Int32)) < (y1 &&& (255 : Int32)) then (0 : Int32) else (1 : Int32)))), .val (.int ((i + (1 : Int32)) + (1 : Int32))), .val (.int (y1 &&& (255 : Int32)))]) rfl ?_
              show Steps p.tables e below (s₁.setTop (mkF m 236 #[.val (.ref a), .val (.int i), .val (.int en), .val (.int (y0 &&& (255 : Int32))), .val (.int (3 : Int32)), .val (.int (128 : Int32)), .val (.int (191 : Int32)), .val (.int (if (y1 &&& (255 : Int32)) < (if (y0 &&& (255 : Int32)) = (224 : Int32) then (160 : Int32) else (128 : Int32)) then (0 : Int32) else (if (if (y0 &&& (255 : Int32)) = (237 : Int32) then (159 : Int32) else (191 : Int32)) < (y1 &&& (255 : Int32)) then (0 : Int32) else (1 : Int32)))), .val (.int ((i + (1 : Int32)) + (1 : Int32))), .val (.int (y1 &&& (255 : Int32)))] [])) _
              refine XS.goto X0.here hx rfl (pc0 := 236) (pc' := 178) rfl (hb hby d1_236) (by decide) (by decide) ?_
              show Steps p.tables e below (s₁.setTop (mkF m 178 #[.val (.ref a), .val (.int i), .val (.int en), .val (.int (y0 &&& (255 : Int32))), .val (.int (3 : Int32)), .val (.int (128 : Int32)), .val (.int (191 : Int32)), .val (.int (if (y1 &&& (255 : Int32)) < (if (y0 &&& (255 : Int32)) = (224 : Int32) then (160 : Int32) else (128 : Int32)) then (0 : Int32) else (if (if (y0 &&& (255 : Int32)) = (237 : Int32) then (159 : Int32) else (191 : Int32)) < (y1 &&& (255 : Int32)) then (0 : Int32) else (1 : Int32)))), .val (.int ((i + (1 : Int32)) + (1 : Int32))), .val (.int (y1 &&& (255 : Int32)))] [])) _
              refine XS.iload X0.here hx rfl (hb hby d1_178) rfl ?_
              show Steps p.tables e below (s₁.setTop (mkF m 180 #[.val (.ref a), .val (.int i), .val (.int en), .val (.int (y0 &&& (255 : Int32))), .val (.int (3 : Int32)), .val (.int (128 : Int32)), .val (.int (191 : Int32)), .val (.int (if (y1 &&& (255 : Int32)) < (if (y0 &&& (255 : Int32)) = (224 : Int32) then (160 : Int32) else (128 : Int32)) then (0 : Int32) else (if (if (y0 &&& (255 : Int32)) = (237 : Int32) then (159 : Int32) else (191 : Int32)) < (y1 &&& (255 : Int32)) then (0 : Int32) else (1 : Int32)))), .val (.int ((i + (1 : Int32)) + (1 : Int32))), .val (.int (y1 &&& (255 : Int32)))] [(.int (if (y1 &&& (255 : Int32)) < (if (y0 &&& (255 : Int32)) = (224 : Int32) then (160 : Int32) else (128 : Int32)) then (0 : Int32) else (if (if (y0 &&& (255 : Int32)) = (237 : Int32) then (159 : Int32) else (191 : Int32)) < (y1 &&& (255 : Int32)) then (0 : Int32) else (1 : Int32))))])) _
              exact kt
            by_cases hc180_164 : (if (y1 &&& (255 : Int32)) < (if (y0 &&& (255 : Int32)) = (224 : Int32) then (160 : Int32) else (128 : Int32)) then (0 : Int32) else (if (if (y0 &&& (255 : Int32)) = (237 : Int32) then (159 : Int32) else (191 : Int32)) < (y1 &&& (255 : Int32)) then (0 : Int32) else (1 : Int32))) = (0 : Int32)
            · have k165 : ∀ tg_, Steps p.tables e below (s₁.setTop (mkF m 250 #[.val (.ref a), .val (.int i), .val (.int en), .val (.int (y0 &&& (255 : Int32))), .val (.int (3 : Int32)), .val (.int (128 : Int32)), .val (.int (191 : Int32)), .val (.int (if (y1 &&& (255 : Int32)) < (if (y0 &&& (255 : Int32)) = (224 : Int32) then (160 : Int32) else (128 : Int32)) then (0 : Int32) else (if (if (y0 &&& (255 : Int32)) = (237 : Int32) then (159 : Int32) else (191 : Int32)) < (y1 &&& (255 : Int32)) then (0 : Int32) else (1 : Int32)))), .val (.int ((i + (1 : Int32)) + (1 : Int32))), .val (.int (y1 &&& (255 : Int32)))] [(.int (0 : Int32))])) tg_ → Steps p.tables e below (s₁.setTop (entryFrame m #[(.ref a), (.int i), (.int en)] 10)) tg_ := by
                intro tg_ kt
                refine k163 tg_ ?_
                refine XS.ifYes X0.here hx rfl (pc0 := 180) (pc' := 239) rfl (hb hby d1_180) rfl ((if0 _ _).trans (teq hc180_164).1) (by decide) (by decide) ?_
                show Steps p.tables e below (s₁.setTop (mkF m 239 #[.val (.ref a), .val (.int i), .val (.int en), .val (.int (y0 &&& (255 : Int32))), .val (.int (3 : Int32)), .val (.int (128 : Int32)), .val (.int (191 : Int32)), .val (.int (if (y1 &&& (255 : Int32)) < (if (y0 &&& (255 : Int32)) = (224 : Int32) then (160 : Int32) else (128 : Int32)) then (0 : Int32) else (if (if (y0 &&& (255 : Int32)) = (237 : Int32) then (159 : Int32) else (191 : Int32)) < (y1 &&& (255 : Int32)) then (0 : Int32) else (1 : Int32)))), .val (.int ((i + (1 : Int32)) + (1 : Int32))), .val (.int (y1 &&& (255 : Int32)))] [])) _
                refine XS.iload X0.here hx rfl (hb hby d1_239) rfl ?_
                show Steps p.tables e below (s₁.setTop (mkF m 241 #[.val (.ref a), .val (.int i), .val (.int en), .val (.int (y0 &&& (255 : Int32))), .val (.int (3 : Int32)), .val (.int (128 : Int32)), .val (.int (191 : Int32)), .val (.int (if (y1 &&& (255 : Int32)) < (if (y0 &&& (255 : Int32)) = (224 : Int32) then (160 : Int32) else (128 : Int32)) then (0 : Int32) else (if (if (y0 &&& (255 : Int32)) = (237 : Int32) then (159 : Int32) else (191 : Int32)) < (y1 &&& (255 : Int32)) then (0 : Int32) else (1 : Int32)))), .val (.int ((i + (1 : Int32)) + (1 : Int32))), .val (.int (y1 &&& (255 : Int32)))] [(.int (if (y1 &&& (255 : Int32)) < (if (y0 &&& (255 : Int32)) = (224 : Int32) then (160 : Int32) else (128 : Int32)) then (0 : Int32) else (if (if (y0 &&& (255 : Int32)) = (237 : Int32) then (159 : Int32) else (191 : Int32)) < (y1 &&& (255 : Int32)) then (0 : Int32) else (1 : Int32))))])) _
                refine XS.ifYes X0.here hx rfl (pc0 := 241) (pc' := 249) rfl (hb hby d1_241) rfl ((if0 _ _).trans (teq hc180_164).1) (by decide) (by decide) ?_
                show Steps p.tables e below (s₁.setTop (mkF m 249 #[.val (.ref a), .val (.int i), .val (.int en), .val (.int (y0 &&& (255 : Int32))), .val (.int (3 : Int32)), .val (.int (128 : Int32)), .val (.int (191 : Int32)), .val (.int (if (y1 &&& (255 : Int32)) < (if (y0 &&& (255 : Int32)) = (224 : Int32) then (160 : Int32) else (128 : Int32)) then (0 : Int32) else (if (if (y0 &&& (255 : Int32)) = (237 : Int32) then (159 : Int32) else (191 : Int32)) < (y1 &&& (255 : Int32)) then (0 : Int32) else (1 : Int32)))), .val (.int ((i + (1 : Int32)) + (1 : Int32))), .val (.int (y1 &&& (255 : Int32)))] [])) _
                refine XS.iconst X0.here hx rfl (hb hby d1_249) ?_
                show Steps p.tables e below (s₁.setTop (mkF m 250 #[.val (.ref a), .val (.int i), .val (.int en), .val (.int (y0 &&& (255 : Int32))), .val (.int (3 : Int32)), .val (.int (128 : Int32)), .val (.int (191 : Int32)), .val (.int (if (y1 &&& (255 : Int32)) < (if (y0 &&& (255 : Int32)) = (224 : Int32) then (160 : Int32) else (128 : Int32)) then (0 : Int32) else (if (if (y0 &&& (255 : Int32)) = (237 : Int32) then (159 : Int32) else (191 : Int32)) < (y1 &&& (255 : Int32)) then (0 : Int32) else (1 : Int32)))), .val (.int ((i + (1 : Int32)) + (1 : Int32))), .val (.int (y1 &&& (255 : Int32)))] [(.int (0 : Int32))])) _
                exact kt
              obtain ⟨fs, hr, hrun, hended, hW, hsame⟩ := X0.leave (v := some (.int (0 : Int32))) (fun h => by rw [Bd.returns] at h; cases h)
              refine ⟨_, _, k165 _ (retI X0 hx Bd.returns (hb hby d1_250) hr), hrun, hended, _, _, rfl, ?_, ⟨_, rfl⟩, hW, hsame.mono (by decide) (by decide)⟩
              show Q1 Z a i en ii f y0 y1 y2 y3 h0 n0 _ s₁.heap _
              rw [e0]
              exact ⟨(by rw [own_eq_own_seq]; rw [if_neg hc22_75, if_neg hc35_86, if_neg hc48_100, if_pos hc61_136, if_neg hc163_144, if_pos hc180_164]), N0, rfl⟩
            · have hc189_175 : ((i + (1 : Int32)) + (1 : Int32)) < (i + (3 : Int32)) := (by
                  have ar166 := rng32 i
                  have ar167 : (1 : Int32).toInt = 1 := by decide
                  have ar168 := rng32 (i + (1 : Int32))
                  first | have ar169 : (i + (1 : Int32)).toInt = i.toInt + 1 := (by have qw := c_iadd i (1 : Int32); omega) | (have ar169 := c_iadd i (1 : Int32); skip)
                  have ar170 := rng32 ((i + (1 : Int32)) + (1 : Int32))
                  first | have ar171 : ((i + (1 : Int32)) + (1 : Int32)).toInt = (i + (1 : Int32)).toInt + 1 := (by have qw := c_iadd (i + (1 : Int32)) (1 : Int32); omega) | (have ar171 := c_iadd (i + (1 : Int32)) (1 : Int32); skip)
                  have ar172 : (3 : Int32).toInt = 3 := by decide
                  have ar173 := rng32 (i + (3 : Int32))
                  first | have ar174 : (i + (3 : Int32)).toInt = i.toInt + 3 := (by have qw := c_iadd i (3 : Int32); omega) | (have ar174 := c_iadd i (3 : Int32); skip)
                  exact Int32.lt_iff_toInt_lt.mpr (by omega))
              have hj176 : ((i + (1 : Int32)) + (1 : Int32)).toInt = (((ii + 2) : Nat) : Int) := by
                have ar177 := rng32 i
                have ar178 : (1 : Int32).toInt = 1 := by decide
                have ar179 := rng32 (i + (1 : Int32))
                first | have ar180 : (i + (1 : Int32)).toInt = i.toInt + 1 := (by have qw := c_iadd i (1 : Int32); omega) | (have ar180 := c_iadd i (1 : Int32); skip)
                have ar181 := rng32 ((i + (1 : Int32)) + (1 : Int32))
                first | have ar182 : ((i + (1 : Int32)) + (1 : Int32)).toInt = (i + (1 : Int32)).toInt + 1 := (by have qw := c_iadd (i + (1 : Int32)) (1 : Int32); omega) | (have ar182 := c_iadd (i + (1 : Int32)) (1 : Int32); skip)
                omega
              have k183 : ∀ tg_, Steps p.tables e below (s₁.setTop (mkF m 206 #[.val (.ref a), .val (.int i), .val (.int en), .val (.int (y0 &&& (255 : Int32))), .val (.int (3 : Int32)), .val (.int (128 : Int32)), .val (.int (191 : Int32)), .val (.int (if (y1 &&& (255 : Int32)) < (if (y0 &&& (255 : Int32)) = (224 : Int32) then (160 : Int32) else (128 : Int32)) then (0 : Int32) else (if (if (y0 &&& (255 : Int32)) = (237 : Int32) then (159 : Int32) else (191 : Int32)) < (y1 &&& (255 : Int32)) then (0 : Int32) else (1 : Int32)))), .val (.int ((i + (1 : Int32)) + (1 : Int32))), .val (.int (y2 &&& (255 : Int32)))] [(.int (128 : Int32)), (.int (y2 &&& (255 : Int32)))])) tg_ → Steps p.tables e below (s₁.setTop (entryFrame m #[(.ref a), (.int i), (.int en)] 10)) tg_ := by
                intro tg_ kt
                refine k163 tg_ ?_
                refine XS.ifNo X0.here hx rfl (hb hby d1_180) rfl ((if0 _ _).trans (feq hc180_164).1) ?_
                show Steps p.tables e below (s₁.setTop (mkF m 183 #[.val (.ref a), .val (.int i), .val (.int en), .val (.int (y0 &&& (255 : Int32))), .val (.int (3 : Int32)), .val (.int (128 : Int32)), .val (.int (191 : Int32)), .val (.int (if (y1 &&& (255 : Int32)) < (if (y0 &&& (255 : Int32)) = (224 : Int32) then (160 : Int32) else (128 : Int32)) then (0 : Int32) else (if (if (y0 &&& (255 : Int32)) = (237 : Int32) then (159 : Int32) else (191 : Int32)) < (y1 &&& (255 : Int32)) then (0 : Int32) else (1 : Int32)))), .val (.int ((i + (1 : Int32)) + (1 : Int32))), .val (.int (y1 &&& (255 : Int32)))] [])) _
                refine XS.iload X0.here hx rfl (hb hby d1_183) rfl ?_
                show Steps p.tables e below (s₁.setTop (mkF m 185 #[.val (.ref a), .val (.int i), .val (.int en), .val (.int (y0 &&& (255 : Int32))), .val (.int (3 : Int32)), .val (.int (128 : Int32)), .val (.int (191 : Int32)), .val (.int (if (y1 &&& (255 : Int32)) < (if (y0 &&& (255 : Int32)) = (224 : Int32) then (160 : Int32) else (128 : Int32)) then (0 : Int32) else (if (if (y0 &&& (255 : Int32)) = (237 : Int32) then (159 : Int32) else (191 : Int32)) < (y1 &&& (255 : Int32)) then (0 : Int32) else (1 : Int32)))), .val (.int ((i + (1 : Int32)) + (1 : Int32))), .val (.int (y1 &&& (255 : Int32)))] [(.int ((i + (1 : Int32)) + (1 : Int32)))])) _
                refine XS.iloadN X0.here hx rfl (hb hby d1_185) rfl ?_
                show Steps p.tables e below (s₁.setTop (mkF m 186 #[.val (.ref a), .val (.int i), .val (.int en), .val (.int (y0 &&& (255 : Int32))), .val (.int (3 : Int32)), .val (.int (128 : Int32)), .val (.int (191 : Int32)), .val (.int (if (y1 &&& (255 : Int32)) < (if (y0 &&& (255 : Int32)) = (224 : Int32) then (160 : Int32) else (128 : Int32)) then (0 : Int32) else (if (if (y0 &&& (255 : Int32)) = (237 : Int32) then (159 : Int32) else (191 : Int32)) < (y1 &&& (255 : Int32)) then (0 : Int32) else (1 : Int32)))), .val (.int ((i + (1 : Int32)) + (1 : Int32))), .val (.int (y1 &&& (255 : Int32)))] [(.int i), (.int ((i + (1 : Int32)) + (1 : Int32)))])) _
                refine XS.iload X0.here hx rfl (hb hby d1_186) rfl ?_
                show Steps p.tables e below (s₁.setTop (mkF m 188 #[.val (.ref a), .val (.int i), .val (.int en), .val (.int (y0 &&& (255 : Int32))), .val (.int (3 : Int32)), .val (.int (128 : Int32)), .val (.int (191 : Int32)), .val (.int (if (y1 &&& (255 : Int32)) < (if (y0 &&& (255 : Int32)) = (224 : Int32) then (160 : Int32) else (128 : Int32)) then (0 : Int32) else (if (if (y0 &&& (255 : Int32)) = (237 : Int32) then (159 : Int32) else (191 : Int32)) < (y1 &&& (255 : Int32)) then (0 : Int32) else (1 : Int32)))), .val (.int ((i + (1 : Int32)) + (1 : Int32))), .val (.int (y1 &&& (255 : Int32)))] [(.int (3 : Int32)), (.int i), (.int ((i + (1 : Int32)) + (1 : Int32)))])) _
                refine XS.iadd X0.here hx rfl (hb hby d1_188) rfl ?_
                show Steps p.tables e below (s₁.setTop (mkF m 189 #[.val (.ref a), .val (.int i), .val (.int en), .val (.int (y0 &&& (255 : Int32))), .val (.int (3 : Int32)), .val (.int (128 : Int32)), .val (.int (191 : Int32)), .val (.int (if (y1 &&& (255 : Int32)) < (if (y0 &&& (255 : Int32)) = (224 : Int32) then (160 : Int32) else (128 : Int32)) then (0 : Int32) else (if (if (y0 &&& (255 : Int32)) = (237 : Int32) then (159 : Int32) else (191 : Int32)) < (y1 &&& (255 : Int32)) then (0 : Int32) else (1 : Int32)))), .val (.int ((i + (1 : Int32)) + (1 : Int32))), .val (.int (y1 &&& (255 : Int32)))] [(.int (i + (3 : Int32))), (.int ((i + (1 : Int32)) + (1 : Int32)))])) _
                refine XS.icmpNo X0.here hx rfl (hb hby d1_189) rfl (tlt hc189_175).2.1 ?_
                show Steps p.tables e below (s₁.setTop (mkF m 192 #[.val (.ref a), .val (.int i), .val (.int en), .val (.int (y0 &&& (255 : Int32))), .val (.int (3 : Int32)), .val (.int (128 : Int32)), .val (.int (191 : Int32)), .val (.int (if (y1 &&& (255 : Int32)) < (if (y0 &&& (255 : Int32)) = (224 : Int32) then (160 : Int32) else (128 : Int32)) then (0 : Int32) else (if (if (y0 &&& (255 : Int32)) = (237 : Int32) then (159 : Int32) else (191 : Int32)) < (y1 &&& (255 : Int32)) then (0 : Int32) else (1 : Int32)))), .val (.int ((i + (1 : Int32)) + (1 : Int32))), .val (.int (y1 &&& (255 : Int32)))] [])) _
                refine XS.aloadN X0.here hx rfl (hb hby d1_192) rfl rfl ?_
                show Steps p.tables e below (s₁.setTop (mkF m 193 #[.val (.ref a), .val (.int i), .val (.int en), .val (.int (y0 &&& (255 : Int32))), .val (.int (3 : Int32)), .val (.int (128 : Int32)), .val (.int (191 : Int32)), .val (.int (if (y1 &&& (255 : Int32)) < (if (y0 &&& (255 : Int32)) = (224 : Int32) then (160 : Int32) else (128 : Int32)) then (0 : Int32) else (if (if (y0 &&& (255 : Int32)) = (237 : Int32) then (159 : Int32) else (191 : Int32)) < (y1 &&& (255 : Int32)) then (0 : Int32) else (1 : Int32)))), .val (.int ((i + (1 : Int32)) + (1 : Int32))), .val (.int (y1 &&& (255 : Int32)))] [(.ref a)])) _
                refine XS.iload X0.here hx rfl (hb hby d1_193) rfl ?_
                show Steps p.tables e below (s₁.setTop (mkF m 195 #[.val (.ref a), .val (.int i), .val (.int en), .val (.int (y0 &&& (255 : Int32))), .val (.int (3 : Int32)), .val (.int (128 : Int32)), .val (.int (191 : Int32)), .val (.int (if (y1 &&& (255 : Int32)) < (if (y0 &&& (255 : Int32)) = (224 : Int32) then (160 : Int32) else (128 : Int32)) then (0 : Int32) else (if (if (y0 &&& (255 : Int32)) = (237 : Int32) then (159 : Int32) else (191 : Int32)) < (y1 &&& (255 : Int32)) then (0 : Int32) else (1 : Int32)))), .val (.int ((i + (1 : Int32)) + (1 : Int32))), .val (.int (y1 &&& (255 : Int32)))] [(.int ((i + (1 : Int32)) + (1 : Int32))), (.ref a)])) _
                refine own_ldB X0 hx hZ e0 V_a (i := (ii + 2)) hj176 (by omega) hf2 (g := (mkF m 195 #[.val (.ref a), .val (.int i), .val (.int en), .val (.int (y0 &&& (255 : Int32))), .val (.int (3 : Int32)), .val (.int (128 : Int32)), .val (.int (191 : Int32)), .val (.int (if (y1 &&& (255 : Int32)) < (if (y0 &&& (255 : Int32)) = (224 : Int32) then (160 : Int32) else (128 : Int32)) then (0 : Int32) else (if (if (y0 &&& (255 : Int32)) = (237 : Int32) then (159 : Int32) else (191 : Int32)) < (y1 &&& (255 : Int32)) then (0 : Int32) else (1 : Int32)))), .val (.int ((i + (1 : Int32)) + (1 : Int32))), .val (.int (y1 &&& (255 : Int32)))] [(.int ((i + (1 : Int32)) + (1 : Int32))), (.ref a)])) rfl rfl (hb hby d1_195) _ ?_
                show Steps p.tables e below (s₁.setTop (mkF m 196 #[.val (.ref a), .val (.int i), .val (.int en), .val (.int (y0 &&& (255 : Int32))), .val (.int (3 : Int32)), .val (.int (128 : Int32)), .val (.int (191 : Int32)), .val (.int (if (y1 &&& (255 : Int32)) < (if (y0 &&& (255 : Int32)) = (224 : Int32) then (160 : Int32) else (128 : Int32)) then (0 : Int32) else (if (if (y0 &&& (255 : Int32)) = (237 : Int32) then (159 : Int32) else (191 : Int32)) < (y1 &&& (255 : Int32)) then (0 : Int32) else (1 : Int32)))), .val (.int ((i + (1 : Int32)) + (1 : Int32))), .val (.int (y1 &&& (255 : Int32)))] [(.int y2)])) _
                refine XS.sipush X0.here hx rfl (hb hby d1_196) ?_
                show Steps p.tables e below (s₁.setTop (mkF m 199 #[.val (.ref a), .val (.int i), .val (.int en), .val (.int (y0 &&& (255 : Int32))), .val (.int (3 : Int32)), .val (.int (128 : Int32)), .val (.int (191 : Int32)), .val (.int (if (y1 &&& (255 : Int32)) < (if (y0 &&& (255 : Int32)) = (224 : Int32) then (160 : Int32) else (128 : Int32)) then (0 : Int32) else (if (if (y0 &&& (255 : Int32)) = (237 : Int32) then (159 : Int32) else (191 : Int32)) < (y1 &&& (255 : Int32)) then (0 : Int32) else (1 : Int32)))), .val (.int ((i + (1 : Int32)) + (1 : Int32))), .val (.int (y1 &&& (255 : Int32)))] [(.int (255 : Int32)), (.int y2)])) _
                refine XS.iand X0.here hx rfl (hb hby d1_199) rfl ?_
                show Steps p.tables e below (s₁.setTop (mkF m 200 #[.val (.ref a), .val (.int i), .val (.int en), .val (.int (y0 &&& (255 : Int32))), .val (.int (3 : Int32)), .val (.int (128 : Int32)), .val (.int (191 : Int32)), .val (.int (if (y1 &&& (255 : Int32)) < (if (y0 &&& (255 : Int32)) = (224 : Int32) then (160 : Int32) else (128 : Int32)) then (0 : Int32) else (if (if (y0 &&& (255 : Int32)) = (237 : Int32) then (159 : Int32) else (191 : Int32)) < (y1 &&& (255 : Int32)) then (0 : Int32) else (1 : Int32)))), .val (.int ((i + (1 : Int32)) + (1 : Int32))), .val (.int (y1 &&& (255 : Int32)))] [(.int (y2 &&& (255 : Int32)))])) _
                refine XS.istore X0.here hx rfl (hb hby d1_200) rfl (l' := #[.val (.ref a), .val (.int i), .val (.int en), .val (.int (y0 &&& (255 : Int32))), .val (.int (3 : Int32)), .val (.int (128 : Int32)), .val (.int (191 : Int32)), .val (.int (if (y1 &&& (255 : Int32)) < (if (y0 &&& (255 : Int32)) = (224 : Int32) then (160 : Int32) else (128 : Int32)) then (0 : Int32) else (if (if (y0 &&& (255 : Int32)) = (237 : Int32) then (159 : Int32) else (191 : Int32)) < (y1 &&& (255 : Int32)) then (0 : Int32) else (1 : Int32)))), .val (.int ((i + (1 : Int32)) + (1 : Int32))), .val (.int (y2 &&& (255 : Int32)))]) rfl ?_
                show Steps p.tables e below (s₁.setTop (mkF m 202 #[.val (.ref a), .val (.int i), .val (.int en), .val (.int (y0 &&& (255 : Int32))), .val (.int (3 : Int32)), .val (.int (128 : Int32)), .val (.int (191 : Int32)), .val (.int (if (y1 &&& (255 : Int32)) < (if (y0 &&& (255 : Int32)) = (224 : Int32) then (160 : Int32) else (128 : Int32)) then (0 : Int32) else (if (if (y0 &&& (255 : Int32)) = (237 : Int32) then (159 : Int32) else (191 : Int32)) < (y1 &&& (255 : Int32)) then (0 : Int32) else (1 : Int32)))), .val (.int ((i + (1 : Int32)) + (1 : Int32))), .val (.int (y2 &&& (255 : Int32)))] [])) _
                refine XS.iload X0.here hx rfl (hb hby d1_202) rfl ?_
                show Steps p.tables e below (s₁.setTop (mkF m 204 #[.val (.ref a), .val (.int i), .val (.int en), .val (.int (y0 &&& (255 : Int32))), .val (.int (3 : Int32)), .val (.int (128 : Int32)), .val (.int (191 : Int32)), .val (.int (if (y1 &&& (255 : Int32)) < (if (y0 &&& (255 : Int32)) = (224 : Int32) then (160 : Int32) else (128 : Int32)) then (0 : Int32) else (if (if (y0 &&& (255 : Int32)) = (237 : Int32) then (159 : Int32) else (191 : Int32)) < (y1 &&& (255 : Int32)) then (0 : Int32) else (1 : Int32)))), .val (.int ((i + (1 : Int32)) + (1 : Int32))), .val (.int (y2 &&& (255 : Int32)))] [(.int (y2 &&& (255 : Int32)))])) _
                refine XS.iload X0.here hx rfl (hb hby d1_204) rfl ?_
                show Steps p.tables e below (s₁.setTop (mkF m 206 #[.val (.ref a), .val (.int i), .val (.int en), .val (.int (y0 &&& (255 : Int32))), .val (.int (3 : Int32)), .val (.int (128 : Int32)), .val (.int (191 : Int32)), .val (.int (if (y1 &&& (255 : Int32)) < (if (y0 &&& (255 : Int32)) = (224 : Int32) then (160 : Int32) else (128 : Int32)) then (0 : Int32) else (if (if (y0 &&& (255 : Int32)) = (237 : Int32) then (159 : Int32) else (191 : Int32)) < (y1 &&& (255 : Int32)) then (0 : Int32) else (1 : Int32)))), .val (.int ((i + (1 : Int32)) + (1 : Int32))), .val (.int (y2 &&& (255 : Int32)))] [(.int (128 : Int32)), (.int (y2 &&& (255 : Int32)))])) _
                exact kt
              have k186 : ∀ tg_, Steps p.tables e below (s₁.setTop (mkF m 221 #[.val (.ref a), .val (.int i), .val (.int en), .val (.int (y0 &&& (255 : Int32))), .val (.int (3 : Int32)), .val (.int (128 : Int32)), .val (.int (191 : Int32)), .val (.int (if (y1 &&& (255 : Int32)) < (if (y0 &&& (255 : Int32)) = (224 : Int32) then (160 : Int32) else (128 : Int32)) then (0 : Int32) else (if (if (y0 &&& (255 : Int32)) = (237 : Int32) then (159 : Int32) else (191 : Int32)) < (y1 &&& (255 : Int32)) then (0 : Int32) else (1 : Int32)))), .val (.int ((i + (1 : Int32)) + (1 : Int32))), .val (.int (y2 &&& (255 : Int32)))] [(.int (if (y2 &&& (255 : Int32)) < (128 : Int32) then (0 : Int32) else (if (191 : Int32) < (y2 &&& (255 : Int32)) then (0 : Int32) else (1 : Int32))))])) tg_ → Steps p.tables e below (s₁.setTop (entryFrame m #[(.ref a), (.int i), (.int en)] 10)) tg_ := by
                intro tg_ kt
                refine k183 tg_ ?_
                by_cases hj206_184 : (y2 &&& (255 : Int32)) < (128 : Int32)
                · refine XS.icmpYes X0.here hx rfl (pc0 := 206) (pc' := 220) rfl (hb hby d1_206) rfl (tlt hj206_184).1 (by decide) (by decide) ?_
                  show Steps p.tables e below (s₁.setTop (mkF m 220 #[.val (.ref a), .val (.int i), .val (.int en), .val (.int (y0 &&& (255 : Int32))), .val (.int (3 : Int32)), .val (.int (128 : Int32)), .val (.int (191 : Int32)), .val (.int (if (y1 &&& (255 : Int32)) < (if (y0 &&& (255 : Int32)) = (224 : Int32) then (160 : Int32) else (128 : Int32)) then (0 : Int32) else (if (if (y0 &&& (255 : Int32)) = (237 : Int32) then (159 : Int32) else (191 : Int32)) < (y1 &&& (255 : Int32)) then (0 : Int32) else (1 : Int32)))), .val (.int ((i + (1 : Int32)) + (1 : Int32))), .val (.int (y2 &&& (255 : Int32)))] [])) _
                  refine XS.iconst X0.here hx rfl (hb hby d1_220) ?_
                  show Steps p.tables e below (s₁.setTop (mkF m 221 #[.val (.ref a), .val (.int i), .val (.int en), .val (.int (y0 &&& (255 : Int32))), .val (.int (3 : Int32)), .val (.int (128 : Int32)), .val (.int (191 : Int32)), .val (.int (if (y1 &&& (255 : Int32)) < (if (y0 &&& (255 : Int32)) = (224 : Int32) then (160 : Int32) else (128 : Int32)) then (0 : Int32) else (if (if (y0 &&& (255 : Int32)) = (237 : Int32) then (159 : Int32) else (191 : Int32)) < (y1 &&& (255 : Int32)) then (0 : Int32) else (1 : Int32)))), .val (.int ((i + (1 : Int32)) + (1 : Int32))), .val (.int (y2 &&& (255 : Int32)))] [(.int (0 : Int32))])) _
                  simpa only [if_pos hj206_184] using kt
                · refine XS.icmpNo X0.here hx rfl (hb hby d1_206) rfl (flt hj206_184).1 ?_
                  show Steps p.tables e below (s₁.setTop (mkF m 209 #[.val (.ref a), .val (.int i), .val (.int en), .val (.int (y0 &&& (255 : Int32))), .val (.int (3 : Int32)), .val (.int (128 : Int32)), .val (.int (191 : Int32)), .val (.int (if (y1 &&& (255 : Int32)) < (if (y0 &&& (255 : Int32)) = (224 : Int32) then (160 : Int32) else (128 : Int32)) then (0 : Int32) else (if (if (y0 &&& (255 : Int32)) = (237 : Int32) then (159 : Int32) else (191 : Int32)) < (y1 &&& (255 : Int32)) then (0 : Int32) else (1 : Int32)))), .val (.int ((i + (1 : Int32)) + (1 : Int32))), .val (.int (y2 &&& (255 : Int32)))] [])) _
                  refine XS.iload X0.here hx rfl (hb hby d1_209) rfl ?_
                  show Steps p.tables e below (s₁.setTop (mkF m 211 #[.val (.ref a), .val (.int i), .val (.int en), .val (.int (y0 &&& (255 : Int32))), .val (.int (3 : Int32)), .val (.int (128 : Int32)), .val (.int (191 : Int32)), .val (.int (if (y1 &&& (255 : Int32)) < (if (y0 &&& (255 : Int32)) = (224 : Int32) then (160 : Int32) else (128 : Int32)) then (0 : Int32) else (if (if (y0 &&& (255 : Int32)) = (237 : Int32) then (159 : Int32) else (191 : Int32)) < (y1 &&& (255 : Int32)) then (0 : Int32) else (1 : Int32)))), .val (.int ((i + (1 : Int32)) + (1 : Int32))), .val (.int (y2 &&& (255 : Int32)))] [(.int (y2 &&& (255 : Int32)))])) _
                  refine XS.iload X0.here hx rfl (hb hby d1_211) rfl ?_
                  show Steps p.tables e below (s₁.setTop (mkF m 213 #[.val (.ref a), .val (.int i), .val (.int en), .val (.int (y0 &&& (255 : Int32))), .val (.int (3 : Int32)), .val (.int (128 : Int32)), .val (.int (191 : Int32)), .val (.int (if (y1 &&& (255 : Int32)) < (if (y0 &&& (255 : Int32)) = (224 : Int32) then (160 : Int32) else (128 : Int32)) then (0 : Int32) else (if (if (y0 &&& (255 : Int32)) = (237 : Int32) then (159 : Int32) else (191 : Int32)) < (y1 &&& (255 : Int32)) then (0 : Int32) else (1 : Int32)))), .val (.int ((i + (1 : Int32)) + (1 : Int32))), .val (.int (y2 &&& (255 : Int32)))] [(.int (191 : Int32)), (.int (y2 &&& (255 : Int32)))])) _
                  by_cases hj213_185 : (191 : Int32) < (y2 &&& (255 : Int32))
                  · refine XS.icmpYes X0.here hx rfl (pc0 := 213) (pc' := 220) rfl (hb hby d1_213) rfl (tlt hj213_185).2.2.1 (by decide) (by decide) ?_
                    show Steps p.tables e below (s₁.setTop (mkF m 220 #[.val (.ref a), .val (.int i), .val (.int en), .val (.int (y0 &&& (255 : Int32))), .val (.int (3 : Int32)), .val (.int (128 : Int32)), .val (.int (191 : Int32)), .val (.int (if (y1 &&& (255 : Int32)) < (if (y0 &&& (255 : Int32)) = (224 : Int32) then (160 : Int32) else (128 : Int32)) then (0 : Int32) else (if (if (y0 &&& (255 : Int32)) = (237 : Int32) then (159 : Int32) else (191 : Int32)) < (y1 &&& (255 : Int32)) then (0 : Int32) else (1 : Int32)))), .val (.int ((i + (1 : Int32)) + (1 : Int32))), .val (.int (y2 &&& (255 : Int32)))] [])) _
                    refine XS.iconst X0.here hx rfl (hb hby d1_220) ?_
                    show Steps p.tables e below (s₁.setTop (mkF m 221 #[.val (.ref a), .val (.int i), .val (.int en), .val (.int (y0 &&& (255 : Int32))), .val (.int (3 : Int32)), .val (.int (128 : Int32)), .val (.int (191 : Int32)), .val (.int (if (y1 &&& (255 : Int32)) < (if (y0 &&& (255 : Int32)) = (224 : Int32) then (160 : Int32) else (128 : Int32)) then (0 : Int32) else (if (if (y0 &&& (255 : Int32)) = (237 : Int32) then (159 : Int32) else (191 : Int32)) < (y1 &&& (255 : Int32)) then (0 : Int32) else (1 : Int32)))), .val (.int ((i + (1 : Int32)) + (1 : Int32))), .val (.int (y2 &&& (255 : Int32)))] [(.int (0 : Int32))])) _
                    simpa only [if_neg hj206_184, if_pos hj213_185] using kt
                  · refine XS.icmpNo X0.here hx rfl (hb hby d1_213) rfl (flt hj213_185).2.2.1 ?_
                    show Steps p.tables e below (s₁.setTop (mkF m 216 #[.val (.ref a), .val (.int i), .val (.int en), .val (.int (y0 &&& (255 : Int32))), .val (.int (3 : Int32)), .val (.int (128 : Int32)), .val (.int (191 : Int32)), .val (.int (if (y1 &&& (255 : Int32)) < (if (y0 &&& (255 : Int32)) = (224 : Int32) then (160 : Int32) else (128 : Int32)) then (0 : Int32) else (if (if (y0 &&& (255 : Int32)) = (237 : Int32) then (159 : Int32) else (191 : Int32)) < (y1 &&& (255 : Int32)) then (0 : Int32) else (1 : Int32)))), .val (.int ((i + (1 : Int32)) + (1 : Int32))), .val (.int (y2 &&& (255 : Int32)))] [])) _
                    refine XS.iconst X0.here hx rfl (hb hby d1_216) ?_
                    show Steps p.tables e below (s₁.setTop (mkF m 217 #[.val (.ref a), .val (.int i), .val (.int en), .val (.int (y0 &&& (255 : Int32))), .val (.int (3 : Int32)), .val (.int (128 : Int32)), .val (.int (191 : Int32)), .val (.int (if (y1 &&& (255 : Int32)) < (if (y0 &&& (255 : Int32)) = (224 : Int32) then (160 : Int32) else (128 : Int32)) then (0 : Int32) else (if (if (y0 &&& (255 : Int32)) = (237 : Int32) then (159 : Int32) else (191 : Int32)) < (y1 &&& (255 : Int32)) then (0 : Int32) else (1 : Int32)))), .val (.int ((i + (1 : Int32)) + (1 : Int32))), .val (.int (y2 &&& (255 : Int32)))] [(.int (1 : Int32))])) _
                    refine XS.goto X0.here hx rfl (pc0 := 217) (pc' := 221) rfl (hb hby d1_217) (by decide) (by decide) ?_
                    show Steps p.tables e below (s₁.setTop (mkF m 221 #[.val (.ref a), .val (.int i), .val (.int en), .val (.int (y0 &&& (255 : Int32))), .val (.int (3 : Int32)), .val (.int (128 : Int32)), .val (.int (191 : Int32)), .val (.int (if (y1 &&& (255 : Int32)) < (if (y0 &&& (255 : Int32)) = (224 : Int32) then (160 : Int32) else (128 : Int32)) then (0 : Int32) else (if (if (y0 &&& (255 : Int32)) = (237 : Int32) then (159 : Int32) else (191 : Int32)) < (y1 &&& (255 : Int32)) then (0 : Int32) else (1 : Int32)))), .val (.int ((i + (1 : Int32)) + (1 : Int32))), .val (.int (y2 &&& (255 : Int32)))] [(.int (1 : Int32))])) _
                    simpa only [if_neg hj206_184, if_neg hj213_185] using kt
              have k187 : ∀ tg_, Steps p.tables e below (s₁.setTop (mkF m 180 #[.val (.ref a), .val (.int i), .val (.int en), .val (.int (y0 &&& (255 : Int32))), .val (.int (3 : Int32)), .val (.int (128 : Int32)), .val (.int (191 : Int32)), .val (.int (if (y2 &&& (255 : Int32)) < (128 : Int32) then (0 : Int32) else (if (191 : Int32) < (y2 &&& (255 : Int32)) then (0 : Int32) else (1 : Int32)))), .val (.int (((i + (1 : Int32)) + (1 : Int32)) + (1 : Int32))), .val (.int (y2 &&& (255 : Int32)))] [(.int (if (y2 &&& (255 : Int32)) < (128 : Int32) then (0 : Int32) else (if (191 : Int32) < (y2 &&& (255 : Int32)) then (0 : Int32) else (1 : Int32))))])) tg_ → Steps p.tables e below (s₁.setTop (entryFrame m #[(.ref a), (.int i), (.int en)] 10)) tg_ := by
                intro tg_ kt
                refine k186 tg_ ?_
                refine XS.istore X0.here hx rfl (hb hby d1_221) rfl (l' := #[.val (.ref a), .val (.int i), .val (.int en), .val (.int (y0 &&& (255 : Int32))), .val (.int (3 : Int32)), .val (.int (128 : Int32)), .val (.int (191 : Int32)), .val (.int (if (y2 &&& (255 : Int32)) < (128 : Int32) then (0 : Int32) else (if (191 : Int32) < (y2 &&& (255 : Int32)) then (0 : Int32) else (1 : Int32)))), .val (.int ((i + (1 : Int32)) + (1 : Int32))), .val (.int (y2 &&& (255 : Int32)))]) rfl ?_
                show Steps p.tables e below (s₁.setTop (mkF m 223 #[.val (.ref a), .val (.int i), .val (.int en), .val (.int (y0 &&& (255 : Int32))), .val (.int (3 : Int32)), .val (.int (128 : Int32)), .val (.int (191 : Int32)), .val (.int (if (y2 &&& (255 : Int32)) < (128 : Int32) then (0 : Int32) else (if (191 : Int32) < (y2 &&& (255 : Int32)) then (0 : Int32) else (1 : Int32)))), .val (.int ((i + (1 : Int32)) + (1 : Int32))), .val (.int (y2 &&& (255 : Int32)))] [])) _
                refine XS.sipush X0.here hx rfl (hb hby d1_223) ?_
                show Steps p.tables e below (s₁.setTop (mkF m 226 #[.val (.ref a), .val (.int i), .val (.int en), .val (.int (y0 &&& (255 : Int32))), .val (.int (3 : Int32)), .val (.int (128 : Int32)), .val (.int (191 : Int32)), .val (.int (if (y2 &&& (255 : Int32)) < (128 : Int32) then (0 : Int32) else (if (191 : Int32) < (y2 &&& (255 : Int32)) then (0 : Int32) else (1 : Int32)))), .val (.int ((i + (1 : Int32)) + (1 : Int32))), .val (.int (y2 &&& (255 : Int32)))] [(.int (128 : Int32))])) _
                refine XS.istore X0.here hx rfl (hb hby d1_226) rfl (l' := #[.val (.ref a), .val (.int i), .val (.int en), .val (.int (y0 &&& (255 : Int32))), .val (.int (3 : Int32)), .val (.int (128 : Int32)), .val (.int (191 : Int32)), .val (.int (if (y2 &&& (255 : Int32)) < (128 : Int32) then (0 : Int32) else (if (191 : Int32) < (y2 &&& (255 : Int32)) then (0 : Int32) else (1 : Int32)))), .val (.int ((i + (1 : Int32)) + (1 : Int32))), .val (.int (y2 &&& (255 : Int32)))]) rfl ?_
                show Steps p.tables e below (s₁.setTop (mkF m 228 #[.val (.ref a), .val (.int i), .val (.int en), .val (.int (y0 &&& (255 : Int32))), .val (.int (3 : Int32)), .val (.int (128 : Int32)), .val (.int (191 : Int32)), .val (.int (if (y2 &&& (255 : Int32)) < (128 : Int32) then (0 : Int32) else (if (191 : Int32) < (y2 &&& (255 : Int32)) then (0 : Int32) else (1 : Int32)))), .val (.int ((i + (1 : Int32)) + (1 : Int32))), .val (.int (y2 &&& (255 : Int32)))] [])) _
                refine XS.sipush X0.here hx rfl (hb hby d1_228) ?_
                show Steps p.tables e below (s₁.setTop (mkF m 231 #[.val (.ref a), .val (.int i), .val (.int en), .val (.int (y0 &&& (255 : Int32))), .val (.int (3 : Int32)), .val (.int (128 : Int32)), .val (.int (191 : Int32)), .val (.int (if (y2 &&& (255 : Int32)) < (128 : Int32) then (0 : Int32) else (if (191 : Int32) < (y2 &&& (255 : Int32)) then (0 : Int32) else (1 : Int32)))), .val (.int ((i + (1 : Int32)) + (1 : Int32))), .val (.int (y2 &&& (255 : Int32)))] [(.int (191 : Int32))])) _
                refine XS.istore X0.here hx rfl (hb hby d1_231) rfl (l' := #[.val (.ref a), .val (.int i), .val (.int en), .val (.int (y0 &&& (255 : Int32))), .val (.int (3 : Int32)), .val (.int (128 : Int32)), .val (.int (191 : Int32)), .val (.int (if (y2 &&& (255 : Int32)) < (128 : Int32) then (0 : Int32) else (if (191 : Int32) < (y2 &&& (255 : Int32)) then (0 : Int32) else (1 : Int32)))), .val (.int ((i + (1 : Int32)) + (1 : Int32))), .val (.int (y2 &&& (255 : Int32)))]) rfl ?_
                show Steps p.tables e below (s₁.setTop (mkF m 233 #[.val (.ref a), .val (.int i), .val (.int en), .val (.int (y0 &&& (255 : Int32))), .val (.int (3 : Int32)), .val (.int (128 : Int32)), .val (.int (191 : Int32)), .val (.int (if (y2 &&& (255 : Int32)) < (128 : Int32) then (0 : Int32) else (if (191 : Int32) < (y2 &&& (255 : Int32)) then (0 : Int32) else (1 : Int32)))), .val (.int ((i + (1 : Int32)) + (1 : Int32))), .val (.int (y2 &&& (255 : Int32)))] [])) _
                refine XS.iinc X0.here hx rfl (hb hby d1_233) rfl (l' := #[.val (.ref a), .val (.int i), .val (.int en), .val (.int (y0 &&& (255 : Int32))), .val (.int (3 : Int32)), .val (.int (128 : Int32)), .val (.int (191 : Int32)), .val (.int (if (y2 &&& (255 : Int32)) < (128 : Int32) then (0 : Int32) else (if (191 : Int32) < (y2 &&& (255 : Int32)) then (0 : Int32) else (1 : Int32)))), .val (.int (((i + (1 : Int32)) + (1 : Int32)) + (1 : Int32))), .val (.int (y2 &&& (255 : Int32)))]) rfl ?_
                show Steps p.tables e below (s₁.setTop (mkF m 236 #[.val (.ref a), .val (.int i), .val (.int en), .val (.int (y0 &&& (255 : Int32))), .val (.int (3 : Int32)), .val (.int (128 : Int32)), .val (.int (191 : Int32)), .val (.int (if (y2 &&& (255 : Int32)) < (128 : Int32) then (0 : Int32) else (if (191 : Int32) < (y2 &&& (255 : Int32)) then (0 : Int32) else (1 : Int32)))), .val (.int (((i + (1 : Int32)) + (1 : Int32)) + (1 : Int32))), .val (.int (y2 &&& (255 : Int32)))] [])) _
                refine XS.goto X0.here hx rfl (pc0 := 236) (pc' := 178) rfl (hb hby d1_236) (by decide) (by decide) ?_
                show Steps p.tables e below (s₁.setTop (mkF m 178 #[.val (.ref a), .val (.int i), .val (.int en), .val (.int (y0 &&& (255 : Int32))), .val (.int (3 : Int32)), .val (.int (128 : Int32)), .val (.int (191 : Int32)), .val (.int (if (y2 &&& (255 : Int32)) < (128 : Int32) then (0 : Int32) else (if (191 : Int32) < (y2 &&& (255 : Int32)) then (0 : Int32) else (1 : Int32)))), .val (.int (((i + (1 : Int32)) + (1 : Int32)) + (1 : Int32))), .val (.int (y2 &&& (255 : Int32)))] [])) _
                refine XS.iload X0.here hx rfl (hb hby d1_178) rfl ?_
                show Steps p.tables e below (s₁.setTop (mkF m 180 #[.val (.ref a), .val (.int i), .val (.int en), .val (.int (y0 &&& (255 : Int32))), .val (.int (3 : Int32)), .val (.int (128 : Int32)), .val (.int (191 : Int32)), .val (.int (if (y2 &&& (255 : Int32)) < (128 : Int32) then (0 : Int32) else (if (191 : Int32) < (y2 &&& (255 : Int32)) then (0 : Int32) else (1 : Int32)))), .val (.int (((i + (1 : Int32)) + (1 : Int32)) + (1 : Int32))), .val (.int (y2 &&& (255 : Int32)))] [(.int (if (y2 &&& (255 : Int32)) < (128 : Int32) then (0 : Int32) else (if (191 : Int32) < (y2 &&& (255 : Int32)) then (0 : Int32) else (1 : Int32))))])) _
                exact kt
              by_cases hc180_188 : (if (y2 &&& (255 : Int32)) < (128 : Int32) then (0 : Int32) else (if (191 : Int32) < (y2 &&& (255 : Int32)) then (0 : Int32) else (1 : Int32))) = (0 : Int32)
              · have k189 : ∀ tg_, Steps p.tables e below (s₁.setTop (mkF m 250 #[.val (.ref a), .val (.int i), .val (.int en), .val (.int (y0 &&& (255 : Int32))), .val (.int (3 : Int32)), .val (.int (128 : Int32)), .val (.int (191 : Int32)), .val (.int (if (y2 &&& (255 : Int32)) < (128 : Int32) then (0 : Int32) else (if (191 : Int32) < (y2 &&& (255 : Int32)) then (0 : Int32) else (1 : Int32)))), .val (.int (((i + (1 : Int32)) + (1 : Int32)) + (1 : Int32))), .val (.int (y2 &&& (255 : Int32)))] [(.int (0 : Int32))])) tg_ → Steps p.tables e below (s₁.setTop (entryFrame m #[(.ref a), (.int i), (.int en)] 10)) tg_ := by
                  intro tg_ kt
                  refine k187 tg_ ?_
                  refine XS.ifYes X0.here hx rfl (pc0 := 180) (pc' := 239) rfl (hb hby d1_180) rfl ((if0 _ _).trans (teq hc180_188).1) (by decide) (by decide) ?_
                  show Steps p.tables e below (s₁.setTop (mkF m 239 #[.val (.ref a), .val (.int i), .val (.int en), .val (.int (y0 &&& (255 : Int32))), .val (.int (3 : Int32)), .val (.int (128 : Int32)), .val (.int (191 : Int32)), .val (.int (if (y2 &&& (255 : Int32)) < (128 : Int32) then (0 : Int32) else (if (191 : Int32) < (y2 &&& (255 : Int32)) then (0 : Int32) else (1 : Int32)))), .val (.int (((i + (1 : Int32)) + (1 : Int32)) + (1 : Int32))), .val (.int (y2 &&& (255 : Int32)))] [])) _
                  refine XS.iload X0.here hx rfl (hb hby d1_239) rfl ?_
                  show Steps p.tables e below (s₁.setTop (mkF m 241 #[.val (.ref a), .val (.int i), .val (.int en), .val (.int (y0 &&& (255 : Int32))), .val (.int (3 : Int32)), .val (.int (128 : Int32)), .val (.int (191 : Int32)), .val (.int (if (y2 &&& (255 : Int32)) < (128 : Int32) then (0 : Int32) else (if (191 : Int32) < (y2 &&& (255 : Int32)) then (0 : Int32) else (1 : Int32)))), .val (.int (((i + (1 : Int32)) + (1 : Int32)) + (1 : Int32))), .val (.int (y2 &&& (255 : Int32)))] [(.int (if (y2 &&& (255 : Int32)) < (128 : Int32) then (0 : Int32) else (if (191 : Int32) < (y2 &&& (255 : Int32)) then (0 : Int32) else (1 : Int32))))])) _
                  refine XS.ifYes X0.here hx rfl (pc0 := 241) (pc' := 249) rfl (hb hby d1_241) rfl ((if0 _ _).trans (teq hc180_188).1) (by decide) (by decide) ?_
                  show Steps p.tables e below (s₁.setTop (mkF m 249 #[.val (.ref a), .val (.int i), .val (.int en), .val (.int (y0 &&& (255 : Int32))), .val (.int (3 : Int32)), .val (.int (128 : Int32)), .val (.int (191 : Int32)), .val (.int (if (y2 &&& (255 : Int32)) < (128 : Int32) then (0 : Int32) else (if (191 : Int32) < (y2 &&& (255 : Int32)) then (0 : Int32) else (1 : Int32)))), .val (.int (((i + (1 : Int32)) + (1 : Int32)) + (1 : Int32))), .val (.int (y2 &&& (255 : Int32)))] [])) _
                  refine XS.iconst X0.here hx rfl (hb hby d1_249) ?_
                  show Steps p.tables e below (s₁.setTop (mkF m 250 #[.val (.ref a), .val (.int i), .val (.int en), .val (.int (y0 &&& (255 : Int32))), .val (.int (3 : Int32)), .val (.int (128 : Int32)), .val (.int (191 : Int32)), .val (.int (if (y2 &&& (255 : Int32)) < (128 : Int32) then (0 : Int32) else (if (191 : Int32) < (y2 &&& (255 : Int32)) then (0 : Int32) else (1 : Int32)))), .val (.int (((i + (1 : Int32)) + (1 : Int32)) + (1 : Int32))), .val (.int (y2 &&& (255 : Int32)))] [(.int (0 : Int32))])) _
                  exact kt
                obtain ⟨fs, hr, hrun, hended, hW, hsame⟩ := X0.leave (v := some (.int (0 : Int32))) (fun h => by rw [Bd.returns] at h; cases h)
                refine ⟨_, _, k189 _ (retI X0 hx Bd.returns (hb hby d1_250) hr), hrun, hended, _, _, rfl, ?_, ⟨_, rfl⟩, hW, hsame.mono (by decide) (by decide)⟩
                show Q1 Z a i en ii f y0 y1 y2 y3 h0 n0 _ s₁.heap _
                rw [e0]
                exact ⟨(by rw [own_eq_own_seq]; rw [if_neg hc22_75, if_neg hc35_86, if_neg hc48_100, if_pos hc61_136, if_neg hc163_144, if_neg hc180_164, if_pos hc180_188]), N0, rfl⟩
              · have hc189_201 : ¬ ((((i + (1 : Int32)) + (1 : Int32)) + (1 : Int32)) < (i + (3 : Int32))) := (by
                    have ar190 := rng32 i
                    have ar191 : (1 : Int32).toInt = 1 := by decide
                    have ar192 := rng32 (i + (1 : Int32))
                    first | have ar193 : (i + (1 : Int32)).toInt = i.toInt + 1 := (by have qw := c_iadd i (1 : Int32); omega) | (have ar193 := c_iadd i (1 : Int32); skip)
                    have ar194 := rng32 ((i + (1 : Int32)) + (1 : Int32))
                    first | have ar195 : ((i + (1 : Int32)) + (1 : Int32)).toInt = (i + (1 : Int32)).toInt + 1 := (by have qw := c_iadd (i + (1 : Int32)) (1 : Int32); omega) | (have ar195 := c_iadd (i + (1 : Int32)) (1 : Int32); skip)
                    have ar196 := rng32 (((i + (1 : Int32)) + (1 : Int32)) + (1 : Int32))
                    first | have ar197 : (((i + (1 : Int32)) + (1 : Int32)) + (1 : Int32)).toInt = ((i + (1 : Int32)) + (1 : Int32)).toInt + 1 := (by have qw := c_iadd ((i + (1 : Int32)) + (1 : Int32)) (1 : Int32); omega) | (have ar197 := c_iadd ((i + (1 : Int32)) + (1 : Int32)) (1 : Int32); skip)
                    have ar198 : (3 : Int32).toInt = 3 := by decide
                    have ar199 := rng32 (i + (3 : Int32))
                    first | have ar200 : (i + (3 : Int32)).toInt = i.toInt + 3 := (by have qw := c_iadd i (3 : Int32); omega) | (have ar200 := c_iadd i (3 : Int32); skip)
                    exact fun qq_ => absurd (Int32.lt_iff_toInt_lt.mp qq_) (by omega))
                have k202 : ∀ tg_, Steps p.tables e below (s₁.setTop (mkF m 250 #[.val (.ref a), .val (.int i), .val (.int en), .val (.int (y0 &&& (255 : Int32))), .val (.int (3 : Int32)), .val (.int (128 : Int32)), .val (.int (191 : Int32)), .val (.int (if (y2 &&& (255 : Int32)) < (128 : Int32) then (0 : Int32) else (if (191 : Int32) < (y2 &&& (255 : Int32)) then (0 : Int32) else (1 : Int32)))), .val (.int (((i + (1 : Int32)) + (1 : Int32)) + (1 : Int32))), .val (.int (y2 &&& (255 : Int32)))] [(.int (3 : Int32))])) tg_ → Steps p.tables e below (s₁.setTop (entryFrame m #[(.ref a), (.int i), (.int en)] 10)) tg_ := by
                  intro tg_ kt
                  refine k187 tg_ ?_
                  refine XS.ifNo X0.here hx rfl (hb hby d1_180) rfl ((if0 _ _).trans (feq hc180_188).1) ?_
                  show Steps p.tables e below (s₁.setTop (mkF m 183 #[.val (.ref a), .val (.int i), .val (.int en), .val (.int (y0 &&& (255 : Int32))), .val (.int (3 : Int32)), .val (.int (128 : Int32)), .val (.int (191 : Int32)), .val (.int (if (y2 &&& (255 : Int32)) < (128 : Int32) then (0 : Int32) else (if (191 : Int32) < (y2 &&& (255 : Int32)) then (0 : Int32) else (1 : Int32)))), .val (.int (((i + (1 : Int32)) + (1 : Int32)) + (1 : Int32))), .val (.int (y2 &&& (255 : Int32)))] [])) _
                  refine XS.iload X0.here hx rfl (hb hby d1_183) rfl ?_
                  show Steps p.tables e below (s₁.setTop (mkF m 185 #[.val (.ref a), .val (.int i), .val (.int en), .val (.int (y0 &&& (255 : Int32))), .val (.int (3 : Int32)), .val (.int (128 : Int32)), .val (.int (191 : Int32)), .val (.int (if (y2 &&& (255 : Int32)) < (128 : Int32) then (0 : Int32) else (if (191 : Int32) < (y2 &&& (255 : Int32)) then (0 : Int32) else (1 : Int32)))), .val (.int (((i + (1 : Int32)) + (1 : Int32)) + (1 : Int32))), .val (.int (y2 &&& (255 : Int32)))] [(.int (((i + (1 : Int32)) + (1 : Int32)) + (1 : Int32)))])) _
                  refine XS.iloadN X0.here hx rfl (hb hby d1_185) rfl ?_
                  show Steps p.tables e below (s₁.setTop (mkF m 186 #[.val (.ref a), .val (.int i), .val (.int en), .val (.int (y0 &&& (255 : Int32))), .val (.int (3 : Int32)), .val (.int (128 : Int32)), .val (.int (191 : Int32)), .val (.int (if (y2 &&& (255 : Int32)) < (128 : Int32) then (0 : Int32) else (if (191 : Int32) < (y2 &&& (255 : Int32)) then (0 : Int32) else (1 : Int32)))), .val (.int (((i + (1 : Int32)) + (1 : Int32)) + (1 : Int32))), .val (.int (y2 &&& (255 : Int32)))] [(.int i), (.int (((i + (1 : Int32)) + (1 : Int32)) + (1 : Int32)))])) _
                  refine XS.iload X0.here hx rfl (hb hby d1_186) rfl ?_
                  show Steps p.tables e below (s₁.setTop (mkF m 188 #[.val (.ref a), .val (.int i), .val (.int en), .val (.int (y0 &&& (255 : Int32))), .val (.int (3 : Int32)), .val (.int (128 : Int32)), .val (.int (191 : Int32)), .val (.int (if (y2 &&& (255 : Int32)) < (128 : Int32) then (0 : Int32) else (if (191 : Int32) < (y2 &&& (255 : Int32)) then (0 : Int32) else (1 : Int32)))), .val (.int (((i + (1 : Int32)) + (1 : Int32)) + (1 : Int32))), .val (.int (y2 &&& (255 : Int32)))] [(.int (3 : Int32)), (.int i), (.int (((i + (1 : Int32)) + (1 : Int32)) + (1 : Int32)))])) _
                  refine XS.iadd X0.here hx rfl (hb hby d1_188) rfl ?_
                  show Steps p.tables e below (s₁.setTop (mkF m 189 #[.val (.ref a), .val (.int i), .val (.int en), .val (.int (y0 &&& (255 : Int32))), .val (.int (3 : Int32)), .val (.int (128 : Int32)), .val (.int (191 : Int32)), .val (.int (if (y2 &&& (255 : Int32)) < (128 : Int32) then (0 : Int32) else (if (191 : Int32) < (y2 &&& (255 : Int32)) then (0 : Int32) else (1 : Int32)))), .val (.int (((i + (1 : Int32)) + (1 : Int32)) + (1 : Int32))), .val (.int (y2 &&& (255 : Int32)))] [(.int (i + (3 : Int32))), (.int (((i + (1 : Int32)) + (1 : Int32)) + (1 : Int32)))])) _
                  refine XS.icmpYes X0.here hx rfl (pc0 := 189) (pc' := 239) rfl (hb hby d1_189) rfl (flt hc189_201).2.1 (by decide) (by decide) ?_
                  show Steps p.tables e below (s₁.setTop (mkF m 239 #[.val (.ref a), .val (.int i), .val (.int en), .val (.int (y0 &&& (255 : Int32))), .val (.int (3 : Int32)), .val (.int (128 : Int32)), .val (.int (191 : Int32)), .val (.int (if (y2 &&& (255 : Int32)) < (128 : Int32) then (0 : Int32) else (if (191 : Int32) < (y2 &&& (255 : Int32)) then (0 : Int32) else (1 : Int32)))), .val (.int (((i + (1 : Int32)) + (1 : Int32)) + (1 : Int32))), .val (.int (y2 &&& (255 : Int32)))] [])) _
                  refine XS.iload X0.here hx rfl (hb hby d1_239) rfl ?_
                  show Steps p.tables e below (s₁.setTop (mkF m 241 #[.val (.ref a), .val (.int i), .val (.int en), .val (.int (y0 &&& (255 : Int32))), .val (.int (3 : Int32)), .val (.int (128 : Int32)), .val (.int (191 : Int32)), .val (.int (if (y2 &&& (255 : Int32)) < (128 : Int32) then (0 : Int32) else (if (191 : Int32) < (y2 &&& (255 : Int32)) then (0 : Int32) else (1 : Int32)))), .val (.int (((i + (1 : Int32)) + (1 : Int32)) + (1 : Int32))), .val (.int (y2 &&& (255 : Int32)))] [(.int (if (y2 &&& (255 : Int32)) < (128 : Int32) then (0 : Int32) else (if (191 : Int32) < (y2 &&& (255 : Int32)) then (0 : Int32) else (1 : Int32))))])) _
                  refine XS.ifNo X0.here hx rfl (hb hby d1_241) rfl ((if0 _ _).trans (feq hc180_188).1) ?_
                  show Steps p.tables e below (s₁.setTop (mkF m 244 #[.val (.ref a), .val (.int i), .val (.int en), .val (.int (y0 &&& (255 : Int32))), .val (.int (3 : Int32)), .val (.int (128 : Int32)), .val (.int (191 : Int32)), .val (.int (if (y2 &&& (255 : Int32)) < (128 : Int32) then (0 : Int32) else (if (191 : Int32) < (y2 &&& (255 : Int32)) then (0 : Int32) else (1 : Int32)))), .val (.int (((i + (1 : Int32)) + (1 : Int32)) + (1 : Int32))), .val (.int (y2 &&& (255 : Int32)))] [])) _
                  refine XS.iload X0.here hx rfl (hb hby d1_244) rfl ?_
                  show Steps p.tables e below (s₁.setTop (mkF m 246 #[.val (.ref a), .val (.int i), .val (.int en), .val (.int (y0 &&& (255 : Int32))), .val (.int (3 : Int32)), .val (.int (128 : Int32)), .val (.int (191 : Int32)), .val (.int (if (y2 &&& (255 : Int32)) < (128 : Int32) then (0 : Int32) else (if (191 : Int32) < (y2 &&& (255 : Int32)) then (0 : Int32) else (1 : Int32)))), .val (.int (((i + (1 : Int32)) + (1 : Int32)) + (1 : Int32))), .val (.int (y2 &&& (255 : Int32)))] [(.int (3 : Int32))])) _
                  refine XS.goto X0.here hx rfl (pc0 := 246) (pc' := 250) rfl (hb hby d1_246) (by decide) (by decide) ?_
                  show Steps p.tables e below (s₁.setTop (mkF m 250 #[.val (.ref a), .val (.int i), .val (.int en), .val (.int (y0 &&& (255 : Int32))), .val (.int (3 : Int32)), .val (.int (128 : Int32)), .val (.int (191 : Int32)), .val (.int (if (y2 &&& (255 : Int32)) < (128 : Int32) then (0 : Int32) else (if (191 : Int32) < (y2 &&& (255 : Int32)) then (0 : Int32) else (1 : Int32)))), .val (.int (((i + (1 : Int32)) + (1 : Int32)) + (1 : Int32))), .val (.int (y2 &&& (255 : Int32)))] [(.int (3 : Int32))])) _
                  exact kt
                obtain ⟨fs, hr, hrun, hended, hW, hsame⟩ := X0.leave (v := some (.int (3 : Int32))) (fun h => by rw [Bd.returns] at h; cases h)
                refine ⟨_, _, k202 _ (retI X0 hx Bd.returns (hb hby d1_250) hr), hrun, hended, _, _, rfl, ?_, ⟨_, rfl⟩, hW, hsame.mono (by decide) (by decide)⟩
                show Q1 Z a i en ii f y0 y1 y2 y3 h0 n0 _ s₁.heap _
                rw [e0]
                exact ⟨(by rw [own_eq_own_seq]; rw [if_neg hc22_75, if_neg hc35_86, if_neg hc48_100, if_pos hc61_136, if_neg hc163_144, if_neg hc180_164, if_neg hc180_188]), N0, rfl⟩
        · have k203 : ∀ tg_, Steps p.tables e below (s₁.setTop (mkF m 110 #[.val (.ref a), .val (.int i), .val (.int en), .val (.int (y0 &&& (255 : Int32))), .unset, .val (.int (128 : Int32)), .val (.int (191 : Int32)), .unset, .unset, .unset] [(.int (245 : Int32)), (.int (y0 &&& (255 : Int32)))])) tg_ → Steps p.tables e below (s₁.setTop (entryFrame m #[(.ref a), (.int i), (.int en)] 10)) tg_ := by
            intro tg_ kt
            refine k135 tg_ ?_
            refine XS.icmpYes X0.here hx rfl (pc0 := 61) (pc' := 106) rfl (hb hby d1_61) rfl (flt hc61_136).2.1 (by decide) (by decide) ?_
            show Steps p.tables e below (s₁.setTop (mkF m 106 #[.val (.ref a), .val (.int i), .val (.int en), .val (.int (y0 &&& (255 : Int32))), .unset, .val (.int (128 : Int32)), .val (.int (191 : Int32)), .unset, .unset, .unset] [])) _
            refine XS.iloadN X0.here hx rfl (hb hby d1_106) rfl ?_
            show Steps p.tables e below (s₁.setTop (mkF m 107 #[.val (.ref a), .val (.int i), .val (.int en), .val (.int (y0 &&& (255 : Int32))), .unset, .val (.int (128 : Int32)), .val (.int (191 : Int32)), .unset, .unset, .unset] [(.int (y0 &&& (255 : Int32)))])) _
            refine XS.sipush X0.here hx rfl (hb hby d1_107) ?_
            show Steps p.tables e below (s₁.setTop (mkF m 110 #[.val (.ref a), .val (.int i), .val (.int en), .val (.int (y0 &&& (255 : Int32))), .unset, .val (.int (128 : Int32)), .val (.int (191 : Int32)), .unset, .unset, .unset] [(.int (245 : Int32)), (.int (y0 &&& (255 : Int32)))])) _
            exact kt
          by_cases hc110_204 : (y0 &&& (255 : Int32)) < (245 : Int32)
          · have k205 : ∀ tg_, Steps p.tables e below (s₁.setTop (mkF m 120 #[.val (.ref a), .val (.int i), .val (.int en), .val (.int (y0 &&& (255 : Int32))), .val (.int (4 : Int32)), .val (.int (128 : Int32)), .val (.int (191 : Int32)), .unset, .unset, .unset] [(.int (240 : Int32)), (.int (y0 &&& (255 : Int32)))])) tg_ → Steps p.tables e below (s₁.setTop (entryFrame m #[(.ref a), (.int i), (.int en)] 10)) tg_ := by
              intro tg_ kt
              refine k203 tg_ ?_
              refine XS.icmpNo X0.here hx rfl (hb hby d1_110) rfl (tlt hc110_204).2.1 ?_
              show Steps p.tables e below (s₁.setTop (mkF m 113 #[.val (.ref a), .val (.int i), .val (.int en), .val (.int (y0 &&& (255 : Int32))), .unset, .val (.int (128 : Int32)), .val (.int (191 : Int32)), .unset, .unset, .unset] [])) _
              refine XS.iconst X0.here hx rfl (hb hby d1_113) ?_
              show Steps p.tables e below (s₁.setTop (mkF m 114 #[.val (.ref a), .val (.int i), .val (.int en), .val (.int (y0 &&& (255 : Int32))), .unset, .val (.int (128 : Int32)), .val (.int (191 : Int32)), .unset, .unset, .unset] [(.int (4 : Int32))])) _
              refine XS.istore X0.here hx rfl (hb hby d1_114) rfl (l' := #[.val (.ref a), .val (.int i), .val (.int en), .val (.int (y0 &&& (255 : Int32))), .val (.int (4 : Int32)), .val (.int (128 : Int32)), .val (.int (191 : Int32)), .unset, .unset, .unset]) rfl ?_
              show Steps p.tables e below (s₁.setTop (mkF m 116 #[.val (.ref a), .val (.int i), .val (.int en), .val (.int (y0 &&& (255 : Int32))), .val (.int (4 : Int32)), .val (.int (128 : Int32)), .val (.int (191 : Int32)), .unset, .unset, .unset] [])) _
              refine XS.iloadN X0.here hx rfl (hb hby d1_116) rfl ?_
              show Steps p.tables e below (s₁.setTop (mkF m 117 #[.val (.ref a), .val (.int i), .val (.int en), .val (.int (y0 &&& (255 : Int32))), .val (.int (4 : Int32)), .val (.int (128 : Int32)), .val (.int (191 : Int32)), .unset, .unset, .unset] [(.int (y0 &&& (255 : Int32)))])) _
              refine XS.sipush X0.here hx rfl (hb hby d1_117) ?_
              show Steps p.tables e below (s₁.setTop (mkF m 120 #[.val (.ref a), .val (.int i), .val (.int en), .val (.int (y0 &&& (255 : Int32))), .val (.int (4 : Int32)), .val (.int (128 : Int32)), .val (.int (191 : Int32)), .unset, .unset, .unset] [(.int (240 : Int32)), (.int (y0 &&& (255 : Int32)))])) _
              exact kt
            have k207 : ∀ tg_, Steps p.tables e below (s₁.setTop (mkF m 132 #[.val (.ref a), .val (.int i), .val (.int en), .val (.int (y0 &&& (255 : Int32))), .val (.int (4 : Int32)), .val (.int (128 : Int32)), .val (.int (191 : Int32)), .unset, .unset, .unset] [(.int (if (y0 &&& (255 : Int32)) = (240 : Int32) then (144 : Int32) else (128 : Int32)))])) tg_ → Steps p.tables e below (s₁.setTop (entryFrame m #[(.ref a), (.int i), (.int en)] 10)) tg_ := by
              intro tg_ kt
              refine k205 tg_ ?_
              by_cases hj120_206 : (y0 &&& (255 : Int32)) = (240 : Int32)
              · refine XS.icmpNo X0.here hx rfl (hb hby d1_120) rfl (teq hj120_206).2 ?_
                show Steps p.tables e below (s₁.setTop (mkF m 123 #[.val (.ref a), .val (.int i), .val (.int en), .val (.int (y0 &&& (255 : Int32))), .val (.int (4 : Int32)), .val (.int (128 : Int32)), .val (.int (191 : Int32)), .unset, .unset, .unset] [])) _
                refine XS.sipush X0.here hx rfl (hb hby d1_123) ?_
                show Steps p.tables e below (s₁.setTop (mkF m 126 #[.val (.ref a), .val (.int i), .val (.int en), .val (.int (y0 &&& (255 : Int32))), .val (.int (4 : Int32)), .val (.int (128 : Int32)), .val (.int (191 : Int32)), .unset, .unset, .unset] [(.int (144 : Int32))])) _
                refine XS.goto X0.here hx rfl (pc0 := 126) (pc' := 132) rfl (hb hby d1_126) (by decide) (by decide) ?_
                show Steps p.tables e below (s₁.setTop (mkF m 132 #[.val (.ref a), .val (.int i), .val (.int en), .val (.int (y0 &&& (255 : Int32))), .val (.int (4 : Int32)), .val (.int (128 : Int32)), .val (.int (191 : Int32)), .unset, .unset, .unset] [(.int (144 : Int32))])) _
                simpa only [if_pos hj120_206] using kt
              · refine XS.icmpYes X0.here hx rfl (pc0 := 120) (pc' := 129) rfl (hb hby d1_120) rfl (feq hj120_206).2 (by decide) (by decide) ?_
                show Steps p.tables e below (s₁.setTop (mkF m 129 #[.val (.ref a), .val (.int i), .val (.int en), .val (.int (y0 &&& (255 : Int32))), .val (.int (4 : Int32)), .val (.int (128 : Int32)), .val (.int (191 : Int32)), .unset, .unset, .unset] [])) _
                refine XS.sipush X0.here hx rfl (hb hby d1_129) ?_
                show Steps p.tables e below (s₁.setTop (mkF m 132 #[.val (.ref a), .val (.int i), .val (.int en), .val (.int (y0 &&& (255 : Int32))), .val (.int (4 : Int32)), .val (.int (128 : Int32)), .val (.int (191 : Int32)), .unset, .unset, .unset] [(.int (128 : Int32))])) _
                simpa only [if_neg hj120_206] using kt
            have k208 : ∀ tg_, Steps p.tables e below (s₁.setTop (mkF m 138 #[.val (.ref a), .val (.int i), .val (.int en), .val (.int (y0 &&& (255 : Int32))), .val (.int (4 : Int32)), .val (.int (if (y0 &&& (255 : Int32)) = (240 : Int32) then (144 : Int32) else (128 : Int32))), .val (.int (191 : Int32)), .unset, .unset, .unset] [(.int (244 : Int32)), (.int (y0 &&& (255 : Int32)))])) tg_ → Steps p.tables e below (s₁.setTop (entryFrame m #[(.ref a), (.int i), (.int en)] 10)) tg_ := by
              intro tg_ kt
              refine k207 tg_ ?_
              refine XS.istore X0.here hx rfl (hb hby d1_132) rfl (l' := #[.val (.ref a), .val (.int i), .val (.int en), .val (.int (y0 &&& (255 : Int32))), .val (.int (4 : Int32)), .val (.int (if (y0 &&& (255 : Int32)) = (240 : Int32) then (144 : Int32) else (128 : Int32))), .val (.int (191 : Int32)), .unset, .unset, .unset]) rfl ?_
              show Steps p.tables e below (s₁.setTop (mkF m 134 #[.val (.ref a), .val (.int i), .val (.int en), .val (.int (y0 &&& (255 : Int32))), .val (.int (4 : Int32)), .val (.int (if (y0 &&& (255 : Int32)) = (240 : Int32) then (144 : Int32) else (128 : Int32))), .val (.int (191 : Int32)), .unset, .unset, .unset] [])) _
              refine XS.iloadN X0.here hx rfl (hb hby d1_134) rfl ?_
              show Steps p.tables e below (s₁.setTop (mkF m 135 #[.val (.ref a), .val (.int i), .val (.int en), .val (.int (y0 &&& (255 : Int32))), .val (.int (4 : Int32)), .val (.int (if (y0 &&& (255 : Int32)) = (240 : Int32) then (144 : Int32) else (128 : Int32))), .val (.int (191 : Int32)), .unset, .unset, .unset] [(.int (y0 &&& (255 : Int32)))])) _
              refine XS.sipush X0.here hx rfl (hb hby d1_135) ?_
              show Steps p.tables e below (s₁.setTop (mkF m 138 #[.val (.ref a), .val (.int i), .val (.int en), .val (.int (y0 &&& (255 : Int32))), .val (.int (4 : Int32)), .val (.int (if (y0 &&& (255 : Int32)) = (240 : Int32) then (144 : Int32) else (128 : Int32))), .val (.int (191 : Int32)), .unset, .unset, .unset] [(.int (244 : Int32)), (.int (y0 &&& (255 : Int32)))])) _
              exact kt
            have k210 : ∀ tg_, Steps p.tables e below (s₁.setTop (mkF m 150 #[.val (.ref a), .val (.int i), .val (.int en), .val (.int (y0 &&& (255 : Int32))), .val (.int (4 : Int32)), .val (.int (if (y0 &&& (255 : Int32)) = (240 : Int32) then (144 : Int32) else (128 : Int32))), .val (.int (191 : Int32)), .unset, .unset, .unset] [(.int (if (y0 &&& (255 : Int32)) = (244 : Int32) then (143 : Int32) else (191 : Int32)))])) tg_ → Steps p.tables e below (s₁.setTop (entryFrame m #[(.ref a), (.int i), (.int en)] 10)) tg_ := by
              intro tg_ kt
              refine k208 tg_ ?_
              by_cases hj138_209 : (y0 &&& (255 : Int32)) = (244 : Int32)
              · refine XS.icmpNo X0.here hx rfl (hb hby d1_138) rfl (teq hj138_209).2 ?_
                show Steps p.tables e below (s₁.setTop (mkF m 141 #[.val (.ref a), .val (.int i), .val (.int en), .val (.int (y0 &&& (255 : Int32))), .val (.int (4 : Int32)), .val (.int (if (y0 &&& (255 : Int32)) = (240 : Int32) then (144 : Int32) else (128 : Int32))), .val (.int (191 : Int32)), .unset, .unset, .unset] [])) _
                refine XS.sipush X0.here hx rfl (hb hby d1_141) ?_
                show Steps p.tables e below (s₁.setTop (mkF m 144 #[.val (.ref a), .val (.int i), .val (.int en), .val (.int (y0 &&& (255 : Int32))), .val (.int (4 : Int32)), .val (.int (if (y0 &&& (255 : Int32)) = (240 : Int32) then (144 : Int32) else (128 : Int32))), .val (.int (191 : Int32)), .unset, .unset, .unset] [(.int (143 : Int32))])) _
                refine XS.goto X0.here hx rfl (pc0 := 144) (pc' := 150) rfl (hb hby d1_144) (by decide) (by decide) ?_
                show Steps p.tables e below (s₁.setTop (mkF m 150 #[.val (.ref a), .val (.int i), .val (.int en), .val (.int (y0 &&& (255 : Int32))), .val (.int (4 : Int32)), .val (.int (if (y0 &&& (255 : Int32)) = (240 : Int32) then (144 : Int32) else (128 : Int32))), .val (.int (191 : Int32)), .unset, .unset, .unset] [(.int (143 : Int32))])) _
                simpa only [if_pos hj138_209] using kt
              · refine XS.icmpYes X0.here hx rfl (pc0 := 138) (pc' := 147) rfl (hb hby d1_138) rfl (feq hj138_209).2 (by decide) (by decide) ?_
                show Steps p.tables e below (s₁.setTop (mkF m 147 #[.val (.ref a), .val (.int i), .val (.int en), .val (.int (y0 &&& (255 : Int32))), .val (.int (4 : Int32)), .val (.int (if (y0 &&& (255 : Int32)) = (240 : Int32) then (144 : Int32) else (128 : Int32))), .val (.int (191 : Int32)), .unset, .unset, .unset] [])) _
                refine XS.sipush X0.here hx rfl (hb hby d1_147) ?_
                show Steps p.tables e below (s₁.setTop (mkF m 150 #[.val (.ref a), .val (.int i), .val (.int en), .val (.int (y0 &&& (255 : Int32))), .val (.int (4 : Int32)), .val (.int (if (y0 &&& (255 : Int32)) = (240 : Int32) then (144 : Int32) else (128 : Int32))), .val (.int (191 : Int32)), .unset, .unset, .unset] [(.int (191 : Int32))])) _
                simpa only [if_neg hj138_209] using kt
            have k211 : ∀ tg_, Steps p.tables e below (s₁.setTop (mkF m 163 #[.val (.ref a), .val (.int i), .val (.int en), .val (.int (y0 &&& (255 : Int32))), .val (.int (4 : Int32)), .val (.int (if (y0 &&& (255 : Int32)) = (240 : Int32) then (144 : Int32) else (128 : Int32))), .val (.int (if (y0 &&& (255 : Int32)) = (244 : Int32) then (143 : Int32) else (191 : Int32))), .unset, .unset, .unset] [(.int en), (.int (i + (4 : Int32)))])) tg_ → Steps p.tables e below (s₁.setTop (entryFrame m #[(.ref a), (.int i), (.int en)] 10)) tg_ := by
              intro tg_ kt
              refine k210 tg_ ?_
              refine XS.istore X0.here hx rfl (hb hby d1_150) rfl (l' := #[.val (.ref a), .val (.int i), .val (.int en), .val (.int (y0 &&& (255 : Int32))), .val (.int (4 : Int32)), .val (.int (if (y0 &&& (255 : Int32)) = (240 : Int32) then (144 : Int32) else (128 : Int32))), .val (.int (if (y0 &&& (255 : Int32)) = (244 : Int32) then (143 : Int32) else (191 : Int32))), .unset, .unset, .unset]) rfl ?_
              show Steps p.tables e below (s₁.setTop (mkF m 152 #[.val (.ref a), .val (.int i), .val (.int en), .val (.int (y0 &&& (255 : Int32))), .val (.int (4 : Int32)), .val (.int (if (y0 &&& (255 : Int32)) = (240 : Int32) then (144 : Int32) else (128 : Int32))), .val (.int (if (y0 &&& (255 : Int32)) = (244 : Int32) then (143 : Int32) else (191 : Int32))), .unset, .unset, .unset] [])) _
              refine XS.goto X0.here hx rfl (pc0 := 152) (pc' := 158) rfl (hb hby d1_152) (by decide) (by decide) ?_
              show Steps p.tables e below (s₁.setTop (mkF m 158 #[.val (.ref a), .val (.int i), .val (.int en), .val (.int (y0 &&& (255 : Int32))), .val (.int (4 : Int32)), .val (.int (if (y0 &&& (255 : Int32)) = (240 : Int32) then (144 : Int32) else (128 : Int32))), .val (.int (if (y0 &&& (255 : Int32)) = (244 : Int32) then (143 : Int32) else (191 : Int32))), .unset, .unset, .unset] [])) _
              refine XS.iloadN X0.here hx rfl (hb hby d1_158) rfl ?_
              show Steps p.tables e below (s₁.setTop (mkF m 159 #[.val (.ref a), .val (.int i), .val (.int en), .val (.int (y0 &&& (255 : Int32))), .val (.int (4 : Int32)), .val (.int (if (y0 &&& (255 : Int32)) = (240 : Int32) then (144 : Int32) else (128 : Int32))), .val (.int (if (y0 &&& (255 : Int32)) = (244 : Int32) then (143 : Int32) else (191 : Int32))), .unset, .unset, .unset] [(.int i)])) _
              refine XS.iload X0.here hx rfl (hb hby d1_159) rfl ?_
              show Steps p.tables e below (s₁.setTop (mkF m 161 #[.val (.ref a), .val (.int i), .val (.int en), .val (.int (y0 &&& (255 : Int32))), .val (.int (4 : Int32)), .val (.int (if (y0 &&& (255 : Int32)) = (240 : Int32) then (144 : Int32) else (128 : Int32))), .val (.int (if (y0 &&& (255 : Int32)) = (244 : Int32) then (143 : Int32) else (191 : Int32))), .unset, .unset, .unset] [(.int (4 : Int32)), (.int i)])) _
              refine XS.iadd X0.here hx rfl (hb hby d1_161) rfl ?_
              show Steps p.tables e below (s₁.setTop (mkF m 162 #[.val (.ref a), .val (.int i), .val (.int en), .val (.int (y0 &&& (255 : Int32))), .val (.int (4 : Int32)), .val (.int (if (y0 &&& (255 : Int32)) = (240 : Int32) then (144 : Int32) else (128 : Int32))), .val (.int (if (y0 &&& (255 : Int32)) = (244 : Int32) then (143 : Int32) else (191 : Int32))), .unset, .unset, .unset] [(.int (i + (4 : Int32)))])) _
              refine XS.iloadN X0.here hx rfl (hb hby d1_162) rfl ?_
              show Steps p.tables e below (s₁.setTop (mkF m 163 #[.val (.ref a), .val (.int i), .val (.int en), .val (.int (y0 &&& (255 : Int32))), .val (.int (4 : Int32)), .val (.int (if (y0 &&& (255 : Int32)) = (240 : Int32) then (144 : Int32) else (128 : Int32))), .val (.int (if (y0 &&& (255 : Int32)) = (244 : Int32) then (143 : Int32) else (191 : Int32))), .unset, .unset, .unset] [(.int en), (.int (i + (4 : Int32)))])) _
              exact kt
            by_cases hc163_212 : en < (i + (4 : Int32))
            · have k213 : ∀ tg_, Steps p.tables e below (s₁.setTop (mkF m 250 #[.val (.ref a), .val (.int i), .val (.int en), .val (.int (y0 &&& (255 : Int32))), .val (.int (4 : Int32)), .val (.int (if (y0 &&& (255 : Int32)) = (240 : Int32) then (144 : Int32) else (128 : Int32))), .val (.int (if (y0 &&& (255 : Int32)) = (244 : Int32) then (143 : Int32) else (191 : Int32))), .val (.int (0 : Int32)), .val (.int (i + (1 : Int32))), .unset] [(.int (0 : Int32))])) tg_ → Steps p.tables e below (s₁.setTop (entryFrame m #[(.ref a), (.int i), (.int en)] 10)) tg_ := by
                intro tg_ kt
                refine k211 tg_ ?_
                refine XS.icmpYes X0.here hx rfl (pc0 := 163) (pc' := 170) rfl (hb hby d1_163) rfl (tlt hc163_212).2.2.1 (by decide) (by decide) ?_
                show Steps p.tables e below (s₁.setTop (mkF m 170 #[.val (.ref a), .val (.int i), .val (.int en), .val (.int (y0 &&& (255 : Int32))), .val (.int (4 : Int32)), .val (.int (if (y0 &&& (255 : Int32)) = (240 : Int32) then (144 : Int32) else (128 : Int32))), .val (.int (if (y0 &&& (255 : Int32)) = (244 : Int32) then (143 : Int32) else (191 : Int32))), .unset, .unset, .unset] [])) _
                refine XS.iconst X0.here hx rfl (hb hby d1_170) ?_
                show Steps p.tables e below (s₁.setTop (mkF m 171 #[.val (.ref a), .val (.int i), .val (.int en), .val (.int (y0 &&& (255 : Int32))), .val (.int (4 : Int32)), .val (.int (if (y0 &&& (255 : Int32)) = (240 : Int32) then (144 : Int32) else (128 : Int32))), .val (.int (if (y0 &&& (255 : Int32)) = (244 : Int32) then (143 : Int32) else (191 : Int32))), .unset, .unset, .unset] [(.int (0 : Int32))])) _
                refine XS.istore X0.here hx rfl (hb hby d1_171) rfl (l' := #[.val (.ref a), .val (.int i), .val (.int en), .val (.int (y0 &&& (255 : Int32))), .val (.int (4 : Int32)), .val (.int (if (y0 &&& (255 : Int32)) = (240 : Int32) then (144 : Int32) else (128 : Int32))), .val (.int (if (y0 &&& (255 : Int32)) = (244 : Int32) then (143 : Int32) else (191 : Int32))), .val (.int (0 : Int32)), .unset, .unset]) rfl ?_
                show Steps p.tables e below (s₁.setTop (mkF m 173 #[.val (.ref a), .val (.int i), .val (.int en), .val (.int (y0 &&& (255 : Int32))), .val (.int (4 : Int32)), .val (.int (if (y0 &&& (255 : Int32)) = (240 : Int32) then (144 : Int32) else (128 : Int32))), .val (.int (if (y0 &&& (255 : Int32)) = (244 : Int32) then (143 : Int32) else (191 : Int32))), .val (.int (0 : Int32)), .unset, .unset] [])) _
                refine XS.iloadN X0.here hx rfl (hb hby d1_173) rfl ?_
                show Steps p.tables e below (s₁.setTop (mkF m 174 #[.val (.ref a), .val (.int i), .val (.int en), .val (.int (y0 &&& (255 : Int32))), .val (.int (4 : Int32)), .val (.int (if (y0 &&& (255 : Int32)) = (240 : Int32) then (144 : Int32) else (128 : Int32))), .val (.int (if (y0 &&& (255 : Int32)) = (244 : Int32) then (143 : Int32) else (191 : Int32))), .val (.int (0 : Int32)), .unset, .unset] [(.int i)])) _
                refine XS.iconst X0.here hx rfl (hb hby d1_174) ?_
                show Steps p.tables e below (s₁.setTop (mkF m 175 #[.val (.ref a), .val (.int i), .val (.int en), .val (.int (y0 &&& (255 : Int32))), .val (.int (4 : Int32)), .val (.int (if (y0 &&& (255 : Int32)) = (240 : Int32) then (144 : Int32) else (128 : Int32))), .val (.int (if (y0 &&& (255 : Int32)) = (244 : Int32) then (143 : Int32) else (191 : Int32))), .val (.int (0 : Int32)), .unset, .unset] [(.int (1 : Int32)), (.int i)])) _
                refine XS.iadd X0.here hx rfl (hb hby d1_175) rfl ?_
                show Steps p.tables e below (s₁.setTop (mkF m 176 #[.val (.ref a), .val (.int i), .val (.int en), .val (.int (y0 &&& (255 : Int32))), .val (.int (4 : Int32)), .val (.int (if (y0 &&& (255 : Int32)) = (240 : Int32) then (144 : Int32) else (128 : Int32))), .val (.int (if (y0 &&& (255 : Int32)) = (244 : Int32) then (143 : Int32) else (191 : Int32))), .val (.int (0 : Int32)), .unset, .unset] [(.int (i + (1 : Int32)))])) _
                refine XS.istore X0.here hx rfl (hb hby d1_176) rfl (l' := #[.val (.ref a), .val (.int i), .val (.int en), .val (.int (y0 &&& (255 : Int32))), .val (.int (4 : Int32)), .val (.int (if (y0 &&& (255 : Int32)) = (240 : Int32) then (144 : Int32) else (128 : Int32))), .val (.int (if (y0 &&& (255 : Int32)) = (244 : Int32) then (143 : Int32) else (191 : Int32))), .val (.int (0 : Int32)), .val (.int (i + (1 : Int32))), .unset]) rfl ?_
                show Steps p.tables e below (s₁.setTop (mkF m 178 #[.val (.ref a), .val (.int i), .val (.int en), .val (.int (y0 &&& (255 : Int32))), .val (.int (4 : Int32)), .val (.int (if (y0 &&& (255 : Int32)) = (240 : Int32) then (144 : Int32) else (128 : Int32))), .val (.int (if (y0 &&& (255 : Int32)) = (244 : Int32) then (143 : Int32) else (191 : Int32))), .val (.int (0 : Int32)), .val (.int (i + (1 : Int32))), .unset] [])) _
                refine XS.iload X0.here hx rfl (hb hby d1_178) rfl ?_
                show Steps p.tables e below (s₁.setTop (mkF m 180 #[.val (.ref a), .val (.int i), .val (.int en), .val (.int (y0 &&& (255 : Int32))), .val (.int (4 : Int32)), .val (.int (if (y0 &&& (255 : Int32)) = (240 : Int32) then (144 : Int32) else (128 : Int32))), .val (.int (if (y0 &&& (255 : Int32)) = (244 : Int32) then (143 : Int32) else (191 : Int32))), .val (.int (0 : Int32)), .val (.int (i + (1 : Int32))), .unset] [(.int (0 : Int32))])) _
                refine XS.ifYes X0.here hx rfl (pc0 := 180) (pc' := 239) rfl (hb hby d1_180) rfl ((if0 _ _).trans (teq (by decide : (0 : Int32) = (0 : Int32))).1) (by decide) (by decide) ?_
                show Steps p.tables e below (s₁.setTop (mkF m 239 #[.val (.ref a), .val (.int i), .val (.int en), .val (.int (y0 &&& (255 : Int32))), .val (.int (4 : Int32)), .val (.int (if (y0 &&& (255 : Int32)) = (240 : Int32) then (144 : Int32) else (128 : Int32))), .val (.int (if (y0 &&& (255 : Int32)) = (244 : Int32) then (143 : Int32) else (191 : Int32))), .val (.int (0 : Int32)), .val (.int (i + (1 : Int32))), .unset] [])) _
                refine XS.iload X0.here hx rfl (hb hby d1_239) rfl ?_
                show Steps p.tables e below (s₁.setTop (mkF m 241 #[.val (.ref a), .val (.int i), .val (.int en), .val (.int (y0 &&& (255 : Int32))), .val (.int (4 : Int32)), .val (.int (if (y0 &&& (255 : Int32)) = (240 : Int32) then (144 : Int32) else (128 : Int32))), .val (.int (if (y0 &&& (255 : Int32)) = (244 : Int32) then (143 : Int32) else (191 : Int32))), .val (.int (0 : Int32)), .val (.int (i + (1 : Int32))), .unset] [(.int (0 : Int32))])) _
                refine XS.ifYes X0.here hx rfl (pc0 := 241) (pc' := 249) rfl (hb hby d1_241) rfl ((if0 _ _).trans (teq (by decide : (0 : Int32) = (0 : Int32))).1) (by decide) (by decide) ?_
                show Steps p.tables e below (s₁.setTop (mkF m 249 #[.val (.ref a), .val (.int i), .val (.int en), .val (.int (y0 &&& (255 : Int32))), .val (.int (4 : Int32)), .val (.int (if (y0 &&& (255 : Int32)) = (240 : Int32) then (144 : Int32) else (128 : Int32))), .val (.int (if (y0 &&& (255 : Int32)) = (244 : Int32) then (143 : Int32) else (191 : Int32))), .val (.int (0 : Int32)), .val (.int (i + (1 : Int32))), .unset] [])) _
                refine XS.iconst X0.here hx rfl (hb hby d1_249) ?_
                show Steps p.tables e below (s₁.setTop (mkF m 250 #[.val (.ref a), .val (.int i), .val (.int en), .val (.int (y0 &&& (255 : Int32))), .val (.int (4 : Int32)), .val (.int (if (y0 &&& (255 : Int32)) = (240 : Int32) then (144 : Int32) else (128 : Int32))), .val (.int (if (y0 &&& (255 : Int32)) = (244 : Int32) then (143 : Int32) else (191 : Int32))), .val (.int (0 : Int32)), .val (.int (i + (1 : Int32))), .unset] [(.int (0 : Int32))])) _
                exact kt
              obtain ⟨fs, hr, hrun, hended, hW, hsame⟩ := X0.leave (v := some (.int (0 : Int32))) (fun h => by rw [Bd.returns] at h; cases h)
              refine ⟨_, _, k213 _ (retI X0 hx Bd.returns (hb hby d1_250) hr), hrun, hended, _, _, rfl, ?_, ⟨_, rfl⟩, hW, hsame.mono (by decide) (by decide)⟩
              show Q1 Z a i en ii f y0 y1 y2 y3 h0 n0 _ s₁.heap _
              rw [e0]
              exact ⟨(by rw [own_eq_own_seq]; rw [if_neg hc22_75, if_neg hc35_86, if_neg hc48_100, if_neg hc61_136, if_pos hc110_204, if_pos hc163_212]), N0, rfl⟩
            · have hc189_221 : (i + (1 : Int32)) < (i + (4 : Int32)) := (by
                  have ar214 := rng32 i
                  have ar215 : (1 : Int32).toInt = 1 := by decide
                  have ar216 := rng32 (i + (1 : Int32))
                  first | have ar217 : (i + (1 : Int32)).toInt = i.toInt + 1 := (by have qw := c_iadd i (1 : Int32); omega) | (have ar217 := c_iadd i (1 : Int32); skip)
                  have ar218 : (4 : Int32).toInt = 4 := by decide
                  have ar219 := rng32 (i + (4 : Int32))
                  first | have ar220 : (i + (4 : Int32)).toInt = i.toInt + 4 := (by have qw := c_iadd i (4 : Int32); omega) | (have ar220 := c_iadd i (4 : Int32); skip)
                  exact Int32.lt_iff_toInt_lt.mpr (by omega))
              have hj222 : (i + (1 : Int32)).toInt = (((ii + 1) : Nat) : Int) := by
                have ar223 := rng32 i
                have ar224 : (1 : Int32).toInt = 1 := by decide
                have ar225 := rng32 (i + (1 : Int32))
                first | have ar226 : (i + (1 : Int32)).toInt = i.toInt + 1 := (by have qw := c_iadd i (1 : Int32); omega) | (have ar226 := c_iadd i (1 : Int32); skip)
                omega
              have k227 : ∀ tg_, Steps p.tables e below (s₁.setTop (mkF m 206 #[.val (.ref a), .val (.int i), .val (.int en), .val (.int (y0 &&& (255 : Int32))), .val (.int (4 : Int32)), .val (.int (if (y0 &&& (255 : Int32)) = (240 : Int32) then (144 : Int32) else (128 : Int32))), .val (.int (if (y0 &&& (255 : Int32)) = (244 : Int32) then (143 : Int32) else (191 : Int32))), .val (.int (1 : Int32)), .val (.int (i + (1 : Int32))), .val (.int (y1 &&& (255 : Int32)))] [(.int (if (y0 &&& (255 : Int32)) = (240 : Int32) then (144 : Int32) else (128 : Int32))), (.int (y1 &&& (255 : Int32)))])) tg_ → Steps p.tables e below (s₁.setTop (entryFrame m #[(.ref a), (.int i), (.int en)] 10)) tg_ := by
                intro tg_ kt
                refine k211 tg_ ?_
                refine XS.icmpNo X0.here hx rfl (hb hby d1_163) rfl (flt hc163_212).2.2.1 ?_
                show Steps p.tables e below (s₁.setTop (mkF m 166 #[.val (.ref a), .val (.int i), .val (.int en), .val (.int (y0 &&& (255 : Int32))), .val (.int (4 : Int32)), .val (.int (if (y0 &&& (255 : Int32)) = (240 : Int32) then (144 : Int32) else (128 : Int32))), .val (.int (if (y0 &&& (255 : Int32)) = (244 : Int32) then (143 : Int32) else (191 : Int32))), .unset, .unset, .unset] [])) _
                refine XS.iconst X0.here hx rfl (hb hby d1_166) ?_
                show Steps p.tables e below (s₁.setTop (mkF m 167 #[.val (.ref a), .val (.int i), .val (.int en), .val (.int (y0 &&& (255 : Int32))), .val (.int (4 : Int32)), .val (.int (if (y0 &&& (255 : Int32)) = (240 : Int32) then (144 : Int32) else (128 : Int32))), .val (.int (if (y0 &&& (255 : Int32)) = (244 : Int32) then (143 : Int32) else (191 : Int32))), .unset, .unset, .unset] [(.int (1 : Int32))])) _
                refine XS.goto X0.here hx rfl (pc0 := 167) (pc' := 171) rfl (hb hby d1_167) (by decide) (by decide) ?_
                show Steps p.tables e below (s₁.setTop (mkF m 171 #[.val (.ref a), .val (.int i), .val (.int en), .val (.int (y0 &&& (255 : Int32))), .val (.int (4 : Int32)), .val (.int (if (y0 &&& (255 : Int32)) = (240 : Int32) then (144 : Int32) else (128 : Int32))), .val (.int (if (y0 &&& (255 : Int32)) = (244 : Int32) then (143 : Int32) else (191 : Int32))), .unset, .unset, .unset] [(.int (1 : Int32))])) _
                refine XS.istore X0.here hx rfl (hb hby d1_171) rfl (l' := #[.val (.ref a), .val (.int i), .val (.int en), .val (.int (y0 &&& (255 : Int32))), .val (.int (4 : Int32)), .val (.int (if (y0 &&& (255 : Int32)) = (240 : Int32) then (144 : Int32) else (128 : Int32))), .val (.int (if (y0 &&& (255 : Int32)) = (244 : Int32) then (143 : Int32) else (191 : Int32))), .val (.int (1 : Int32)), .unset, .unset]) rfl ?_
                show Steps p.tables e below (s₁.setTop (mkF m 173 #[.val (.ref a), .val (.int i), .val (.int en), .val (.int (y0 &&& (255 : Int32))), .val (.int (4 : Int32)), .val (.int (if (y0 &&& (255 : Int32)) = (240 : Int32) then (144 : Int32) else (128 : Int32))), .val (.int (if (y0 &&& (255 : Int32)) = (244 : Int32) then (143 : Int32) else (191 : Int32))), .val (.int (1 : Int32)), .unset, .unset] [])) _
                refine XS.iloadN X0.here hx rfl (hb hby d1_173) rfl ?_
                show Steps p.tables e below (s₁.setTop (mkF m 174 #[.val (.ref a), .val (.int i), .val (.int en), .val (.int (y0 &&& (255 : Int32))), .val (.int (4 : Int32)), .val (.int (if (y0 &&& (255 : Int32)) = (240 : Int32) then (144 : Int32) else (128 : Int32))), .val (.int (if (y0 &&& (255 : Int32)) = (244 : Int32) then (143 : Int32) else (191 : Int32))), .val (.int (1 : Int32)), .unset, .unset] [(.int i)])) _
                refine XS.iconst X0.here hx rfl (hb hby d1_174) ?_
                show Steps p.tables e below (s₁.setTop (mkF m 175 #[.val (.ref a), .val (.int i), .val (.int en), .val (.int (y0 &&& (255 : Int32))), .val (.int (4 : Int32)), .val (.int (if (y0 &&& (255 : Int32)) = (240 : Int32) then (144 : Int32) else (128 : Int32))), .val (.int (if (y0 &&& (255 : Int32)) = (244 : Int32) then (143 : Int32) else (191 : Int32))), .val (.int (1 : Int32)), .unset, .unset] [(.int (1 : Int32)), (.int i)])) _
                refine XS.iadd X0.here hx rfl (hb hby d1_175) rfl ?_
                show Steps p.tables e below (s₁.setTop (mkF m 176 #[.val (.ref a), .val (.int i), .val (.int en), .val (.int (y0 &&& (255 : Int32))), .val (.int (4 : Int32)), .val (.int (if (y0 &&& (255 : Int32)) = (240 : Int32) then (144 : Int32) else (128 : Int32))), .val (.int (if (y0 &&& (255 : Int32)) = (244 : Int32) then (143 : Int32) else (191 : Int32))), .val (.int (1 : Int32)), .unset, .unset] [(.int (i + (1 : Int32)))])) _
                refine XS.istore X0.here hx rfl (hb hby d1_176) rfl (l' := #[.val (.ref a), .val (.int i), .val (.int en), .val (.int (y0 &&& (255 : Int32))), .val (.int (4 : Int32)), .val (.int (if (y0 &&& (255 : Int32)) = (240 : Int32) then (144 : Int32) else (128 : Int32))), .val (.int (if (y0 &&& (255 : Int32)) = (244 : Int32) then (143 : Int32) else (191 : Int32))), .val (.int (1 : Int32)), .val (.int (i + (1 : Int32))), .unset]) rfl ?_
                show Steps p.tables e below (s₁.setTop (mkF m 178 #[.val (.ref a), .val (.int i), .val (.int en), .val (.int (y0 &&& (255 : Int32))), .val (.int (4 : Int32)), .val (.int (if (y0 &&& (255 : Int32)) = (240 : Int32) then (144 : Int32) else (128 : Int32))), .val (.int (if (y0 &&& (255 : Int32)) = (244 : Int32) then (143 : Int32) else (191 : Int32))), .val (.int (1 : Int32)), .val (.int (i + (1 : Int32))), .unset] [])) _
                refine XS.iload X0.here hx rfl (hb hby d1_178) rfl ?_
                show Steps p.tables e below (s₁.setTop (mkF m 180 #[.val (.ref a), .val (.int i), .val (.int en), .val (.int (y0 &&& (255 : Int32))), .val (.int (4 : Int32)), .val (.int (if (y0 &&& (255 : Int32)) = (240 : Int32) then (144 : Int32) else (128 : Int32))), .val (.int (if (y0 &&& (255 : Int32)) = (244 : Int32) then (143 : Int32) else (191 : Int32))), .val (.int (1 : Int32)), .val (.int (i + (1 : Int32))), .unset] [(.int (1 : Int32))])) _
                refine XS.ifNo X0.here hx rfl (hb hby d1_180) rfl ((if0 _ _).trans (feq (by decide : ¬ ((1 : Int32) = (0 : Int32)))).1) ?_
                show Steps p.tables e below (s₁.setTop (mkF m 183 #[.val (.ref a), .val (.int i), .val (.int en), .val (.int (y0 &&& (255 : Int32))), .val (.int (4 : Int32)), .val (.int (if (y0 &&& (255 : Int32)) = (240 : Int32) then (144 : Int32) else (128 : Int32))), .val (.int (if (y0 &&& (255 : Int32)) = (244 : Int32) then (143 : Int32) else (191 : Int32))), .val (.int (1 : Int32)), .val (.int (i + (1 : Int32))), .unset] [])) _
                refine XS.iload X0.here hx rfl (hb hby d1_183) rfl ?_
                show Steps p.tables e below (s₁.setTop (mkF m 185 #[.val (.ref a), .val (.int i), .val (.int en), .val (.int (y0 &&& (255 : Int32))), .val (.int (4 : Int32)), .val (.int (if (y0 &&& (255 : Int32)) = (240 : Int32) then (144 : Int32) else (128 : Int32))), .val (.int (if (y0 &&& (255 : Int32)) = (244 : Int32) then (143 : Int32) else (191 : Int32))), .val (.int (1 : Int32)), .val (.int (i + (1 : Int32))), .unset] [(.int (i + (1 : Int32)))])) _
                refine XS.iloadN X0.here hx rfl (hb hby d1_185) rfl ?_
                show Steps p.tables e below (s₁.setTop (mkF m 186 #[.val (.ref a), .val (.int i), .val (.int en), .val (.int (y0 &&& (255 : Int32))), .val (.int (4 : Int32)), .val (.int (if (y0 &&& (255 : Int32)) = (240 : Int32) then (144 : Int32) else (128 : Int32))), .val (.int (if (y0 &&& (255 : Int32)) = (244 : Int32) then (143 : Int32) else (191 : Int32))), .val (.int (1 : Int32)), .val (.int (i + (1 : Int32))), .unset] [(.int i), (.int (i + (1 : Int32)))])) _
                refine XS.iload X0.here hx rfl (hb hby d1_186) rfl ?_
                show Steps p.tables e below (s₁.setTop (mkF m 188 #[.val (.ref a), .val (.int i), .val (.int en), .val (.int (y0 &&& (255 : Int32))), .val (.int (4 : Int32)), .val (.int (if (y0 &&& (255 : Int32)) = (240 : Int32) then (144 : Int32) else (128 : Int32))), .val (.int (if (y0 &&& (255 : Int32)) = (244 : Int32) then (143 : Int32) else (191 : Int32))), .val (.int (1 : Int32)), .val (.int (i + (1 : Int32))), .unset] [(.int (4 : Int32)), (.int i), (.int (i + (1 : Int32)))])) _
                refine XS.iadd X0.here hx rfl (hb hby d1_188) rfl ?_
                show Steps p.tables e below (s₁.setTop (mkF m 189 #[.val (.ref a), .val (.int i), .val (.int en), .val (.int (y0 &&& (255 : Int32))), .val (.int (4 : Int32)), .val (.int (if (y0 &&& (255 : Int32)) = (240 : Int32) then (144 : Int32) else (128 : Int32))), .val (.int (if (y0 &&& (255 : Int32)) = (244 : Int32) then (143 : Int32) else (191 : Int32))), .val (.int (1 : Int32)), .val (.int (i + (1 : Int32))), .unset] [(.int (i + (4 : Int32))), (.int (i + (1 : Int32)))])) _
                refine XS.icmpNo X0.here hx rfl (hb hby d1_189) rfl (tlt hc189_221).2.1 ?_
                show Steps p.tables e below (s₁.setTop (mkF m 192 #[.val (.ref a), .val (.int i), .val (.int en), .val (.int (y0 &&& (255 : Int32))), .val (.int (4 : Int32)), .val (.int (if (y0 &&& (255 : Int32)) = (240 : Int32) then (144 : Int32) else (128 : Int32))), .val (.int (if (y0 &&& (255 : Int32)) = (244 : Int32) then (143 : Int32) else (191 : Int32))), .val (.int (1 : Int32)), .val (.int (i + (1 : Int32))), .unset] [])) _
                refine XS.aloadN X0.here hx rfl (hb hby d1_192) rfl rfl ?_
                show Steps p.tables e below (s₁.setTop (mkF m 193 #[.val (.ref a), .val (.int i), .val (.int en), .val (.int (y0 &&& (255 : Int32))), .val (.int (4 : Int32)), .val (.int (if (y0 &&& (255 : Int32)) = (240 : Int32) then (144 : Int32) else (128 : Int32))), .val (.int (if (y0 &&& (255 : Int32)) = (244 : Int32) then (143 : Int32) else (191 : Int32))), .val (.int (1 : Int32)), .val (.int (i + (1 : Int32))), .unset] [(.ref a)])) _
                refine XS.iload X0.here hx rfl (hb hby d1_193) rfl ?_
                show Steps p.tables e below (s₁.setTop (mkF m 195 #[.val (.ref a), .val (.int i), .val (.int en), .val (.int (y0 &&& (255 : Int32))), .val (.int (4 : Int32)), .val (.int (if (y0 &&& (255 : Int32)) = (240 : Int32) then (144 : Int32) else (128 : Int32))), .val (.int (if (y0 &&& (255 : Int32)) = (244 : Int32) then (143 : Int32) else (191 : Int32))), .val (.int (1 : Int32)), .val (.int (i + (1 : Int32))), .unset] [(.int (i + (1 : Int32))), (.ref a)])) _
                refine own_ldB X0 hx hZ e0 V_a (i := (ii + 1)) hj222 (by omega) hf1 (g := (mkF m 195 #[.val (.ref a), .val (.int i), .val (.int en), .val (.int (y0 &&& (255 : Int32))), .val (.int (4 : Int32)), .val (.int (if (y0 &&& (255 : Int32)) = (240 : Int32) then (144 : Int32) else (128 : Int32))), .val (.int (if (y0 &&& (255 : Int32)) = (244 : Int32) then (143 : Int32) else (191 : Int32))), .val (.int (1 : Int32)), .val (.int (i + (1 : Int32))), .unset] [(.int (i + (1 : Int32))), (.ref a)])) rfl rfl (hb hby d1_195) _ ?_
                show Steps p.tables e below (s₁.setTop (mkF m 196 #[.val (.ref a), .val (.int i), .val (.int en), .val (.int (y0 &&& (255 : Int32))), .val (.int (4 : Int32)), .val (.int (if (y0 &&& (255 : Int32)) = (240 : Int32) then (144 : Int32) else (128 : Int32))), .val (.int (if (y0 &&& (255 : Int32)) = (244 : Int32) then (143 : Int32) else (191 : Int32))), .val (.int (1 : Int32)), .val (.int (i + (1 : Int32))), .unset] [(.int y1)])) _
                refine XS.sipush X0.here hx rfl (hb hby d1_196) ?_
                show Steps p.tables e below (s₁.setTop (mkF m 199 #[.val (.ref a), .val (.int i), .val (.int en), .val (.int (y0 &&& (255 : Int32))), .val (.int (4 : Int32)), .val (.int (if (y0 &&& (255 : Int32)) = (240 : Int32) then (144 : Int32) else (128 : Int32))), .val (.int (if (y0 &&& (255 : Int32)) = (244 : Int32) then (143 : Int32) else (191 : Int32))), .val (.int (1 : Int32)), .val (.int (i + (1 : Int32))), .unset] [(.int (255 : Int32)), (.int y1)])) _
                refine XS.iand X0.here hx rfl (hb hby d1_199) rfl ?_
                show Steps p.tables e below (s₁.setTop (mkF m 200 #[.val (.ref a), .val (.int i), .val (.int en), .val (.int (y0 &&& (255 : Int32))), .val (.int (4 : Int32)), .val (.int (if (y0 &&& (255 : Int32)) = (240 : Int32) then (144 : Int32) else (128 : Int32))), .val (.int (if (y0 &&& (255 : Int32)) = (244 : Int32) then (143 : Int32) else (191 : Int32))), .val (.int (1 : Int32)), .val (.int (i + (1 : Int32))), .unset] [(.int (y1 &&& (255 : Int32)))])) _
                refine XS.istore X0.here hx rfl (hb hby d1_200) rfl (l' := #[.val (.ref a), .val (.int i), .val (.int en), .val (.int (y0 &&& (255 : Int32))), .val (.int (4 : Int32)), .val (.int (if (y0 &&& (255 : Int32)) = (240 : Int32) then (144 : Int32) else (128 : Int32))), .val (.int (if (y0 &&& (255 : Int32)) = (244 : Int32) then (143 : Int32) else (191 : Int32))), .val (.int (1 : Int32)), .val (.int (i + (1 : Int32))), .val (.int (y1 &&& (255 : Int32)))]) rfl ?_
                show Steps p.tables e below (s₁.setTop (mkF m 202 #[.val (.ref a), .val (.int i), .val (.int en), .val (.int (y0 &&& (255 : Int32))), .val (.int (4 : Int32)), .val (.int (if (y0 &&& (255 : Int32)) = (240 : Int32) then (144 : Int32) else (128 : Int32))), .val (.int (if (y0 &&& (255 : Int32)) = (244 : Int32) then (143 : Int32) else (191 : Int32))), .val (.int (1 : Int32)), .val (.int (i + (1 : Int32))), .val (.int (y1 &&& (255 : Int32)))] [])) _
                refine XS.iload X0.here hx rfl (hb hby d1_202) rfl ?_
                show Steps p.tables e below (s₁.setTop (mkF m 204 #[.val (.ref a), .val (.int i), .val (.int en), .val (.int (y0 &&& (255 : Int32))), .val (.int (4 : Int32)), .val (.int (if (y0 &&& (255 : Int32)) = (240 : Int32) then (144 : Int32) else (128 : Int32))), .val (.int (if (y0 &&& (255 : Int32)) = (244 : Int32) then (143 : Int32) else (191 : Int32))), .val (.int (1 : Int32)), .val (.int (i + (1 : Int32))), .val (.int (y1 &&& (255 : Int32)))] [(.int (y1 &&& (255 : Int32)))])) _
                refine XS.iload X0.here hx rfl (hb hby d1_204) rfl ?_
                show Steps p.tables e below (s₁.setTop (mkF m 206 #[.val (.ref a), .val (.int i), .val (.int en), .val (.int (y0 &&& (255 : Int32))), .val (.int (4 : Int32)), .val (.int (if (y0 &&& (255 : Int32)) = (240 : Int32) then (144 : Int32) else (128 : Int32))), .val (.int (if (y0 &&& (255 : Int32)) = (244 : Int32) then (143 : Int32) else (191 : Int32))), .val (.int (1 : Int32)), .val (.int (i + (1 : Int32))), .val (.int (y1 &&& (255 : Int32)))] [(.int (if (y0 &&& (255 : Int32)) = (240 : Int32) then (144 : Int32) else (128 : Int32))), (.int (y1 &&& (255 : Int32)))])) _
                exact kt
              have k230 : ∀ tg_, Steps p.tables e below (s₁.setTop (mkF m 221 #[.val (.ref a), .val (.int i), .val (.int en), .val (.int (y0 &&& (255 : Int32))), .val (.int (4 : Int32)), .val (.int (if (y0 &&& (255 : Int32)) = (240 : Int32) then (144 : Int32) else (128 : Int32))), .val (.int (if (y0 &&& (255 : Int32)) = (244 : Int32) then (143 : Int32) else (191 : Int32))), .val (.int (1 : Int32)), .val (.int (i + (1 : Int32))), .val (.int (y1 &&& (255 : Int32)))] [(.int (if (y1 &&& (255 : Int32)) < (if (y0 &&& (255 : Int32)) = (240 : Int32) then (144 : Int32) else (128 : Int32)) then (0 : Int32) else (if (if (y0 &&& (255 : Int32)) = (244 : Int32) then (143 : Int32) else (191 : Int32)) < (y1 &&& (255 : Int32)) then (0 : Int32) else (1 : Int32))))])) tg_ → Steps p.tables e below (s₁.setTop (entryFrame m #[(.ref a), (.int i), (.int en)] 10)) tg_ := by
                intro tg_ kt
                refine k227 tg_ ?_
                by_cases hj206_228 : (y1 &&& (255 : Int32)) < (if (y0 &&& (255 : Int32)) = (240 : Int32) then (144 : Int32) else (128 : Int32))
                · refine XS.icmpYes X0.here hx rfl (pc0 := 206) (pc' := 220) rfl (hb hby d1_206) rfl (tlt hj206_228).1 (by decide) (by decide) ?_
                  show Steps p.tables e below (s₁.setTop (mkF m 220 #[.val (.ref a), .val (.int i), .val (.int en), .val (.int (y0 &&& (255 : Int32))), .val (.int (4 : Int32)), .val (.int (if (y0 &&& (255 : Int32)) = (240 : Int32) then (144 : Int32) else (128 : Int32))), .val (.int (if (y0 &&& (255 : Int32)) = (244 : Int32) then (143 : Int32) else (191 : Int32))), .val (.int (1 : Int32)), .val (.int (i + (1 : Int32))), .val (.int (y1 &&& (255 : Int32)))] [])) _
                  refine XS.iconst X0.here hx rfl (hb hby d1_220) ?_
                  show Steps p.tables e below (s₁.setTop (mkF m 221 #[.val (.ref a), .val (.int i), .val (.int en), .val (.int (y0 &&& (255 : Int32))), .val (.int (4 : Int32)), .val (.int (if (y0 &&& (255 : Int32)) = (240 : Int32) then (144 : Int32) else (128 : Int32))), .val (.int (if (y0 &&& (255 : Int32)) = (244 : Int32) then (143 : Int32) else (191 : Int32))), .val (.int (1 : Int32)), .val (.int (i + (1 : Int32))), .val (.int (y1 &&& (255 : Int32)))] [(.int (0 : Int32))])) _
                  simpa only [if_pos hj206_228] using kt
                · refine XS.icmpNo X0.here hx rfl (hb hby d1_206) rfl (flt hj206_228).1 ?_
                  show Steps p.tables e below (s₁.setTop (mkF m 209 #[.val (.ref a), .val (.int i), .val (.int en), .val (.int (y0 &&& (255 : Int32))), .val (.int (4 : Int32)), .val (.int (if (y0 &&& (255 : Int32)) = (240 : Int32) then (144 : Int32) else (128 : Int32))), .val (.int (if (y0 &&& (255 : Int32)) = (244 : Int32) then (143 : Int32) else (191 : Int32))), .val (.int (1 : Int32)), .val (.int (i + (1 : Int32))), .val (.int (y1 &&& (255 : Int32)))] [])) _
                  refine XS.iload X0.here hx rfl (hb hby d1_209) rfl ?_
                  show Steps p.tables e below (s₁.setTop (mkF m 211 #[.val (.ref a), .val (.int i), .val (.int en), .val (.int (y0 &&& (255 : Int32))), .val (.int (4 : Int32)), .val (.int (if (y0 &&& (255 : Int32)) = (240 : Int32) then (144 : Int32) else (128 : Int32))), .val (.int (if (y0 &&& (255 : Int32)) = (244 : Int32) then (143 : Int32) else (191 : Int32))), .val (.int (1 : Int32)), .val (.int (i + (1 : Int32))), .val (.int (y1 &&& (255 : Int32)))] [(.int (y1 &&& (255 : Int32)))])) _
                  refine XS.iload X0.here hx rfl (hb hby d1_211) rfl ?_
                  show Steps p.tables e below (s₁.setTop (mkF m 213 #[.val (.ref a), .val (.int i), .val (.int en), .val (.int (y0 &&& (255 : Int32))), .val (.int (4 : Int32)), .val (.int (if (y0 &&& (255 : Int32)) = (240 : Int32) then (144 : Int32) else (128 : Int32))), .val (.int (if (y0 &&& (255 : Int32)) = (244 : Int32) then (143 : Int32) else (191 : Int32))), .val (.int (1 : Int32)), .val (.int (i + (1 : Int32))), .val (.int (y1 &&& (255 : Int32)))] [(.int (if (y0 &&& (255 : Int32)) = (244 : Int32) then (143 : Int32) else (191 : Int32))), (.int (y1 &&& (255 : Int32)))])) _
                  by_cases hj213_229 : (if (y0 &&& (255 : Int32)) = (244 : Int32) then (143 : Int32) else (191 : Int32)) < (y1 &&& (255 : Int32))
                  · refine XS.icmpYes X0.here hx rfl (pc0 := 213) (pc' := 220) rfl (hb hby d1_213) rfl (tlt hj213_229).2.2.1 (by decide) (by decide) ?_
                    show Steps p.tables e below (s₁.setTop (mkF m 220 #[.val (.ref a), .val (.int i), .val (.int en), .val (.int (y0 &&& (255 : Int32))), .val (.int (4 : Int32)), .val (.int (if (y0 &&& (255 : Int32)) = (240 : Int32) then (144 : Int32) else (128 : Int32))), .val (.int (if (y0 &&& (255 : Int32)) = (244 : Int32) then (143 : Int32) else (191 : Int32))), .val (.int (1 : Int32)), .val (.int (i + (1 : Int32))), .val (.int (y1 &&& (255 : Int32)))] [])) _
                    refine XS.iconst X0.here hx rfl (hb hby d1_220) ?_
                    show Steps p.tables e below (s₁.setTop (mkF m 221 #[.val (.ref a), .val (.int i), .val (.int en), .val (.int (y0 &&& (255 : Int32))), .val (.int (4 : Int32)), .val (.int (if (y0 &&& (255 : Int32)) = (240 : Int32) then (144 : Int32) else (128 : Int32))), .val (.int (if (y0 &&& (255 : Int32)) = (244 : Int32) then (143 : Int32) else (191 : Int32))), .val (.int (1 : Int32)), .val (.int (i + (1 : Int32))), .val (.int (y1 &&& (255 : Int32)))] [(.int (0 : Int32))])) _
                    simpa only [if_neg hj206_228, if_pos hj213_229] using kt
                  · refine XS.icmpNo X0.here hx rfl (hb hby d1_213) rfl (flt hj213_229).2.2.1 ?_
                    show Steps p.tables e below (s₁.setTop (mkF m 216 #[.val (.ref a), .val (.int i), .val (.int en), .val (.int (y0 &&& (255 : Int32))), .val (.int (4 : Int32)), .val (.int (if (y0 &&& (255 : Int32)) = (240 : Int32) then (144 : Int32) else (128 : Int32))), .val (.int (if (y0 &&& (255 : Int32)) = (244 : Int32) then (143 : Int32) else (191 : Int32))), .val (.int (1 : Int32)), .val (.int (i + (1 : Int32))), .val (.int (y1 &&& (255 : Int32)))] [])) _
                    refine XS.iconst X0.here hx rfl (hb hby d1_216) ?_
                    show Steps p.tables e below (s₁.setTop (mkF m 217 #[.val (.ref a), .val (.int i), .val (.int en), .val (.int (y0 &&& (255 : Int32))), .val (.int (4 : Int32)), .val (.int (if (y0 &&& (255 : Int32)) = (240 : Int32) then (144 : Int32) else (128 : Int32))), .val (.int (if (y0 &&& (255 : Int32)) = (244 : Int32) then (143 : Int32) else (191 : Int32))), .val (.int (1 : Int32)), .val (.int (i + (1 : Int32))), .val (.int (y1 &&& (255 : Int32)))] [(.int (1 : Int32))])) _
                    refine XS.goto X0.here hx rfl (pc0 := 217) (pc' := 221) rfl (hb hby d1_217) (by decide) (by decide) ?_
                    show Steps p.tables e below (s₁.setTop (mkF m 221 #[.val (.ref a), .val (.int i), .val (.int en), .val (.int (y0 &&& (255 : Int32))), .val (.int (4 : Int32)), .val (.int (if (y0 &&& (255 : Int32)) = (240 : Int32) then (144 : Int32) else (128 : Int32))), .val (.int (if (y0 &&& (255 : Int32)) = (244 : Int32) then (143 : Int32) else (191 : Int32))), .val (.int (1 : Int32)), .val (.int (i + (1 : Int32))), .val (.int (y1 &&& (255 : Int32)))] [(.int (1 : Int32))])) _
                    simpa only [if_neg hj206_228, if_neg hj213_229] using kt
              have k231 : ∀ tg_, Steps p.tables e below (s₁.setTop (mkF m 180 #[.val (.ref a), .val (.int i), .val (.int en), .val (.int (y0 &&& (255 : Int32))), .val (.int (4 : Int32)), .val (.int (128 : Int32)), .val (.int (191 : Int32)), .val (.int (if (y1 &&& (255 : Int32)) < (if (y0 &&& (255 : Int32)) = (240 : Int32) then (144 : Int32) else (128 : Int32)) then (0 : Int32) else (if (if (y0 &&& (255 : Int32)) = (244 : Int32) then (143 : Int32) else (191 : Int32)) < (y1 &&& (255 : Int32)) then (0 : Int32) else (1 : Int32)))), .val (.int ((i + (1 : Int32)) + (1 : Int32))), .val (.int (y1 &&& (255 : Int32)))] [(.int (if (y1 &&& (255 : Int32)) < (if (y0 &&& (255 : Int32)) = (240 : Int32) then (144 : Int32) else (128 : Int32)) then (0 : Int32) else (if (if (y0 &&& (255 : Int32)) = (244 : Int32) then (143 : Int32) else (191 : Int32)) < (y1 &&& (255 : Int32)) then (0 : Int32) else (1 : Int32))))])) tg_ → Steps p.tables e below (s₁.setTop (entryFrame m #[(.ref a), (.int i), (.int en)] 10)) tg_ := by
                intro tg_ kt
                refine k230 tg_ ?_
                refine XS.istore X0.here hx rfl (hb hby d1_221) rfl (l' := #[.val (.ref a), .val (.int i), .val (.int en), .val (.int (y0 &&& (255 : Int32))), .val (.int (4 : Int32)), .val (.int (if (y0 &&& (255 : Int32)) = (240 : Int32) then (144 : Int32) else (128 : Int32))), .val (.int (if (y0 &&& (255 : Int32)) = (244 : Int32) then (143 : Int32) else (191 : Int32))), .val (.int (if (y1 &&& (255 : Int32)) < (if (y0 &&& (255 : Int32)) = (240 : Int32) then (144 : Int32) else (128 : Int32)) then (0 : Int32) else (if (if (y0 &&& (255 : Int32)) = (244 : Int32) then (143 : Int32) else (191 : Int32)) < (y1 &&& (255 : Int32)) then (0 : Int32) else (1 : Int32)))), .val (.int (i + (1 : Int32))), .val (.int (y1 &&& (255 : Int32)))]) rfl ?_
                show Steps p.tables e below (s₁.setTop (mkF m 223 #[.val (.ref a), .val (.int i), .val (.int en), .val (.int (y0 &&& (255 : Int32))), .val (.int (4 : Int32)), .val (.int (if (y0 &&& (255 : Int32)) = (240 : Int32) then (144 : Int32) else (128 : Int32))), .val (.int (if (y0 &&& (255 : Int32)) = (244 : Int32) then (143 : Int32) else (191 : Int32))), .val (.int (if (y1 &&& (255 : Int32)) < (if (y0 &&& (255 : Int32)) = (240 : Int32) then (144 : Int32) else (128 : Int32)) then (0 : Int32) else (if (if (y0 &&& (255 : Int32)) = (244 : Int32) then (143 : Int32) else (191 : Int32)) < (y1 &&& (255 : Int32)) then (0 : Int32) else (1 : Int32)))), .val (.int (i + (1 : Int32))), .val (.int (y1 &&& (255 : Int32)))] [])) _
                refine XS.sipush X0.here hx rfl (hb hby d1_223) ?_
                show Steps p.tables e below (s₁.setTop (mkF m 226 #[.val (.ref a), .val (.int i), .val (.int en), .val (.int (y0 &&& (255 : Int32))), .val (.int (4 : Int32)), .val (.int (if (y0 &&& (255 : Int32)) = (240 : Int32) then (144 : Int32) else (128 : Int32))), .val (.int (if (y0 &&& (255 : Int32)) = (244 : Int32) then (143 : Int32) else (191 : Int32))), .val (.int (if (y1 &&& (255 : Int32)) < (if (y0 &&& (255 : Int32)) = (240 : Int32) then (144 : Int32) else (128 : Int32)) then (0 : Int32) else (if (if (y0 &&& (255 : Int32)) = (244 : Int32) then (143 : Int32) else (191 : Int32)) < (y1 &&& (255 : Int32)) then (0 : Int32) else (1 : Int32)))), .val (.int (i + (1 : Int32))), .val (.int (y1 &&& (255 : Int32)))] [(.int (128 : Int32))])) _
                refine XS.istore X0.here hx rfl (hb hby d1_226) rfl (l' := #[.val (.ref a), .val (.int i), .val (.int en), .val (.int (y0 &&& (255 : Int32))), .val (.int (4 : Int32)), .val (.int (128 : Int32)), .val (.int (if (y0 &&& (255 : Int32)) = (244 : Int32) then (143 : Int32) else (191 : Int32))), .val (.int (if (y1 &&& (255 : Int32)) < (if (y0 &&& (255 : Int32)) = (240 : Int32) then (144 : Int32) else (128 : Int32)) then (0 : Int32) else (if (if (y0 &&& (255 : Int32)) = (244 : Int32) then (143 : Int32) else (191 : Int32)) < (y1 &&& (255 : Int32)) then (0 : Int32) else (1 : Int32)))), .val (.int (i + (1 : Int32))), .val (.int (y1 &&& (255 : Int32)))]) rfl ?_
                show Steps p.tables e below (s₁.setTop (mkF m 228 #[.val (.ref a), .val (.int i), .val (.int en), .val (.int (y0 &&& (255 : Int32))), .val (.int (4 : Int32)), .val (.int (128 : Int32)), .val (.int (if (y0 &&& (255 : Int32)) = (244 : Int32) then (143 : Int32) else (191 : Int32))), .val (.int (if (y1 &&& (255 : Int32)) < (if (y0 &&& (255 : Int32)) = (240 : Int32) then (144 : Int32) else (128 : Int32)) then (0 : Int32) else (if (if (y0 &&& (255 : Int32)) = (244 : Int32) then (143 : Int32) else (191 : Int32)) < (y1 &&& (255 : Int32)) then (0 : Int32) else (1 : Int32)))), .val (.int (i + (1 : Int32))), .val (.int (y1 &&& (255 : Int32)))] [])) _
                refine XS.sipush X0.here hx rfl (hb hby d1_228) ?_
                show Steps p.tables e below (s₁.setTop (mkF m 231 #[.val (.ref a), .val (.int i), .val (.int en), .val (.int (y0 &&& (255 : Int32))), .val (.int (4 : Int32)), .val (.int (128 : Int32)), .val (.int (if (y0 &&& (255 : Int32)) = (244 : Int32) then (143 : Int32) else (191 : Int32))), .val (.int (if (y1 &&& (255 : Int32)) < (if (y0 &&& (255 : Int32)) = (240 : Int32) then (144 : Int32) else (128 : Int32)) then (0 : Int32) else (if (if (y0 &&& (255 : Int32)) = (244 : Int32) then (143 : Int32) else (191 : Int32)) < (y1 &&& (255 : Int32)) then (0 : Int32) else (1 : Int32)))), .val (.int (i + (1 : Int32))), .val (.int (y1 &&& (255 : Int32)))] [(.int (191 : Int32))])) _
                refine XS.istore X0.here hx rfl (hb hby d1_231) rfl (l' := #[.val (.ref a), .val (.int i), .val (.int en), .val (.int (y0 &&& (255 : Int32))), .val (.int (4 : Int32)), .val (.int (128 : Int32)), .val (.int (191 : Int32)), .val (.int (if (y1 &&& (255 : Int32)) < (if (y0 &&& (255 : Int32)) = (240 : Int32) then (144 : Int32) else (128 : Int32)) then (0 : Int32) else (if (if (y0 &&& (255 : Int32)) = (244 : Int32) then (143 : Int32) else (191 : Int32)) < (y1 &&& (255 : Int32)) then (0 : Int32) else (1 : Int32)))), .val (.int (i + (1 : Int32))), .val (.int (y1 &&& (255 : Int32)))]) rfl ?_
                show Steps p.tables e below (s₁.setTop (mkF m 233 #[.val (.ref a), .val (.int i), .val (.int en), .val (.int (y0 &&& (255 : Int32))), .val (.int (4 : Int32)), .val (.int (128 : Int32)), .val (.int (191 : Int32)), .val (.int (if (y1 &&& (255 : Int32)) < (if (y0 &&& (255 : Int32)) = (240 : Int32) then (144 : Int32) else (128 : Int32)) then (0 : Int32) else (if (if (y0 &&& (255 : Int32)) = (244 : Int32) then (143 : Int32) else (191 : Int32)) < (y1 &&& (255 : Int32)) then (0 : Int32) else (1 : Int32)))), .val (.int (i + (1 : Int32))), .val (.int (y1 &&& (255 : Int32)))] [])) _
                refine XS.iinc X0.here hx rfl (hb hby d1_233) rfl (l' := #[.val (.ref a), .val (.int i), .val (.int en), .val (.int (y0 &&& (255 : Int32))), .val (.int (4 : Int32)), .val (.int (128 : Int32)), .val (.int (191 : Int32)), .val (.int (if (y1 &&& (255 : Int32)) < (if (y0 &&& (255 : Int32)) = (240 : Int32) then (144 : Int32) else (128 : Int32)) then (0 : Int32) else (if (if (y0 &&& (255 : Int32)) = (244 : Int32) then (143 : Int32) else (191 : Int32)) < (y1 &&& (255 : Int32)) then (0 : Int32) else (1 : Int32)))), .val (.int ((i + (1 : Int32)) + (1 : Int32))), .val (.int (y1 &&& (255 : Int32)))]) rfl ?_
                show Steps p.tables e below (s₁.setTop (mkF m 236 #[.val (.ref a), .val (.int i), .val (.int en), .val (.int (y0 &&& (255 : Int32))), .val (.int (4 : Int32)), .val (.int (128 : Int32)), .val (.int (191 : Int32)), .val (.int (if (y1 &&& (255 : Int32)) < (if (y0 &&& (255 : Int32)) = (240 : Int32) then (144 : Int32) else (128 : Int32)) then (0 : Int32) else (if (if (y0 &&& (255 : Int32)) = (244 : Int32) then (143 : Int32) else (191 : Int32)) < (y1 &&& (255 : Int32)) then (0 : Int32) else (1 : Int32)))), .val (.int ((i + (1 : Int32)) + (1 : Int32))), .val (.int (y1 &&& (255 : Int32)))] [])) _
                refine XS.goto X0.here hx rfl (pc0 := 236) (pc' := 178) rfl (hb hby d1_236) (by decide) (by decide) ?_
                show Steps p.tables e below (s₁.setTop (mkF m 178 #[.val (.ref a), .val (.int i), .val (.int en), .val (.int (y0 &&& (255 : Int32))), .val (.int (4 : Int32)), .val (.int (128 : Int32)), .val (.int (191 : Int32)), .val (.int (if (y1 &&& (255 : Int32)) < (if (y0 &&& (255 : Int32)) = (240 : Int32) then (144 : Int32) else (128 : Int32)) then (0 : Int32) else (if (if (y0 &&& (255 : Int32)) = (244 : Int32) then (143 : Int32) else (191 : Int32)) < (y1 &&& (255 : Int32)) then (0 : Int32) else (1 : Int32)))), .val (.int ((i + (1 : Int32)) + (1 : Int32))), .val (.int (y1 &&& (255 : Int32)))] [])) _
                refine XS.iload X0.here hx rfl (hb hby d1_178) rfl ?_
                show Steps p.tables e below (s₁.setTop (mkF m 180 #[.val (.ref a), .val (.int i), .val (.int en), .val (.int (y0 &&& (255 : Int32))), .val (.int (4 : Int32)), .val (.int (128 : Int32)), .val (.int (191 : Int32)), .val (.int (if (y1 &&& (255 : Int32)) < (if (y0 &&& (255 : Int32)) = (240 : Int32) then (144 : Int32) else (128 : Int32)) then (0 : Int32) else (if (if (y0 &&& (255 : Int32)) = (244 : Int32) then (143 : Int32) else (191 : Int32)) < (y1 &&& (255 : Int32)) then (0 : Int32) else (1 : Int32)))), .val (.int ((i + (1 : Int32)) + (1 : Int32))), .val (.int (y1 &&& (255 : Int32)))] [(.int (if (y1 &&& (255 : Int32)) < (if (y0 &&& (255 : Int32)) = (240 : Int32) then (144 : Int32) else (128 : Int32)) then (0 : Int32) else (if (if (y0 &&& (255 : Int32)) = (244 : Int32) then (143 : Int32) else (191 : Int32)) < (y1 &&& (255 : Int32)) then (0 : Int32) else (1 : Int32))))])) _
                exact kt
              by_cases hc180_232 : (if (y1 &&& (255 : Int32)) < (if (y0 &&& (255 : Int32)) = (240 : Int32) then (144 : Int32) else (128 : Int32)) then (0 : Int32) else (if (if (y0 &&& (255 : Int32)) = (244 : Int32) then (143 : Int32) else (191 : Int32)) < (y1 &&& (255 : Int32)) then (0 : Int32) else (1 : Int32))) = (0 : Int32)
              · have k233 : ∀ tg_, Steps p.tables e below (s₁.setTop (mkF m 250 #[.val (.ref a), .val (.int i), .val (.int en), .val (.int (y0 &&& (255 : Int32))), .val (.int (4 : Int32)), .val (.int (128 : Int32)), .val (.int (191 : Int32)), .val (.int (if (y1 &&& (255 : Int32)) < (if (y0 &&& (255 : Int32)) = (240 : Int32) then (144 : Int32) else (128 : Int32)) then (0 : Int32) else (if (if (y0 &&& (255 : Int32)) = (244 : Int32) then (143 : Int32) else (191 : Int32)) < (y1 &&& (255 : Int32)) then (0 : Int32) else (1 : Int32)))), .val (.int ((i + (1 : Int32)) + (1 : Int32))), .val (.int (y1 &&& (255 : Int32)))] [(.int (0 : Int32))])) tg_ → Steps p.tables e below (s₁.setTop (entryFrame m #[(.ref a), (.int i), (.int en)] 10)) tg_ := by
                  intro tg_ kt
                  refine k231 tg_ ?_
                  refine XS.ifYes X0.here hx rfl (pc0 := 180) (pc' := 239) rfl (hb hby d1_180) rfl ((if0 _ _).trans (teq hc180_232).1) (by decide) (by decide) ?_
                  show Steps p.tables e below (s₁.setTop (mkF m 239 #[.val (.ref a), .val (.int i), .val (.int en), .val (.int (y0 &&& (255 : Int32))), .val (.int (4 : Int32)), .val (.int (128 : Int32)), .val (.int (191 : Int32)), .val (.int (if (y1 &&& (255 : Int32)) < (if (y0 &&& (255 : Int32)) = (240 : Int32) then (144 : Int32) else (128 : Int32)) then (0 : Int32) else (if (if (y0 &&& (255 : Int32)) = (244 : Int32) then (143 : Int32) else (191 : Int32)) < (y1 &&& (255 : Int32)) then (0 : Int32) else (1 : Int32)))), .val (.int ((i + (1 : Int32)) + (1 : Int32))), .val (.int (y1 &&& (255 : Int32)))] [])) _
                  refine XS.iload X0.here hx rfl (hb hby d1_239) rfl ?_
                  show Steps p.tables e below (s₁.setTop (mkF m 241 #[.val (.ref a), .val (.int i), .val (.int en), .val (.int (y0 &&& (255 : Int32))), .val (.int (4 : Int32)), .val (.int (128 : Int32)), .val (.int (191 : Int32)), .val (.int (if (y1 &&& (255 : Int32)) < (if (y0 &&& (255 : Int32)) = (240 : Int32) then (144 : Int32) else (128 : Int32)) then (0 : Int32) else (if (if (y0 &&& (255 : Int32)) = (244 : Int32) then (143 : Int32) else (191 : Int32)) < (y1 &&& (255 : Int32)) then (0 : Int32) else (1 : Int32)))), .val (.int ((i + (1 : Int32)) + (1 : Int32))), .val (.int (y1 &&& (255 : Int32)))] [(.int (if (y1 &&& (255 : Int32)) < (if (y0 &&& (255 : Int32)) = (240 : Int32) then (144 : Int32) else (128 : Int32)) then (0 : Int32) else (if (if (y0 &&& (255 : Int32)) = (244 : Int32) then (143 : Int32) else (191 : Int32)) < (y1 &&& (255 : Int32)) then (0 : Int32) else (1 : Int32))))])) _
                  refine XS.ifYes X0.here hx rfl (pc0 := 241) (pc' := 249) rfl (hb hby d1_241) rfl ((if0 _ _).trans (teq hc180_232).1) (by decide) (by decide) ?_
                  show Steps p.tables e below (s₁.setTop (mkF m 249 #[.val (.ref a), .val (.int i), .val (.int en), .val (.int (y0 &&& (255 : Int32))), .val (.int (4 : Int32)), .val (.int (128 : Int32)), .val (.int (191 : Int32)), .val (.int (if (y1 &&& (255 : Int32)) < (if (y0 &&& (255 : Int32)) = (240 : Int32) then (144 : Int32) else (128 : Int32)) then (0 : Int32) else (if (if (y0 &&& (255 : Int32)) = (244 : Int32) then (143 : Int32) else (191 : Int32)) < (y1 &&& (255 : Int32)) then (0 : Int32) else (1 : Int32)))), .val (.int ((i + (1 : Int32)) + (1 : Int32))), .val (.int (y1 &&& (255 : Int32)))] [])) _
                  refine XS.iconst X0.here hx rfl (hb hby d1_249) ?_
                  show Steps p.tables e below (s₁.setTop (mkF m 250 #[.val (.ref a), .val (.int i), .val (.int en), .val (.int (y0 &&& (255 : Int32))), .val (.int (4 : Int32)), .val (.int (128 : Int32)), .val (.int (191 : Int32)), .val (.int (if (y1 &&& (255 : Int32)) < (if (y0 &&& (255 : Int32)) = (240 : Int32) then (144 : Int32) else (128 : Int32)) then (0 : Int32) else (if (if (y0 &&& (255 : Int32)) = (244 : Int32) then (143 : Int32) else (191 : Int32)) < (y1 &&& (255 : Int32)) then (0 : Int32) else (1 : Int32)))), .val (.int ((i + (1 : Int32)) + (1 : Int32))), .val (.int (y1 &&& (255 : Int32)))] [(.int (0 : Int32))])) _
                  exact kt
                obtain ⟨fs, hr, hrun, hended, hW, hsame⟩ := X0.leave (v := some (.int (0 : Int32))) (fun h => by rw [Bd.returns] at h; cases h)
                refine ⟨_, _, k233 _ (retI X0 hx Bd.returns (hb hby d1_250) hr), hrun, hended, _, _, rfl, ?_, ⟨_, rfl⟩, hW, hsame.mono (by decide) (by decide)⟩
                show Q1 Z a i en ii f y0 y1 y2 y3 h0 n0 _ s₁.heap _
                rw [e0]
                exact ⟨(by rw [own_eq_own_seq]; rw [if_neg hc22_75, if_neg hc35_86, if_neg hc48_100, if_neg hc61_136, if_pos hc110_204, if_neg hc163_212, if_pos hc180_232]), N0, rfl⟩
              · have hc189_243 : ((i + (1 : Int32)) + (1 : Int32)) < (i + (4 : Int32)) := (by
                    have ar234 := rng32 i
                    have ar235 : (1 : Int32).toInt = 1 := by decide
                    have ar236 := rng32 (i + (1 : Int32))
                    first | have ar237 : (i + (1 : Int32)).toInt = i.toInt + 1 := (by have qw := c_iadd i (1 : Int32); omega) | (have ar237 := c_iadd i (1 : Int32); skip)
                    have ar238 := rng32 ((i + (1 : Int32)) + (1 : Int32))
                    first | have ar239 : ((i + (1 : Int32)) + (1 : Int32)).toInt = (i + (1 : Int32)).toInt + 1 := (by have qw := c_iadd (i + (1 : Int32)) (1 : Int32); omega) | (have ar239 := c_iadd (i + (1 : Int32)) (1 : Int32); skip)
                    have ar240 : (4 : Int32).toInt = 4 := by decide
                    have ar241 := rng32 (i + (4 : Int32))
                    first | have ar242 : (i + (4 : Int32)).toInt = i.toInt + 4 := (by have qw := c_iadd i (4 : Int32); omega) | (have ar242 := c_iadd i (4 : Int32); skip)
                    exact Int32.lt_iff_toInt_lt.mpr (by omega))
                have hj244 : ((i + (1 : Int32)) + (1 : Int32)).toInt = (((ii + 2) : Nat) : Int) := by
                  have ar245 := rng32 i
                  have ar246 : (1 : Int32).toInt = 1 := by decide
                  have ar247 := rng32 (i + (1 : Int32))
                  first | have ar248 : (i + (1 : Int32)).toInt = i.toInt + 1 := (by have qw := c_iadd i (1 : Int32); omega) | (have ar248 := c_iadd i (1 : Int32); skip)
                  have ar249 := rng32 ((i + (1 : Int32)) + (1 : Int32))
                  first | have ar250 : ((i + (1 : Int32)) + (1 : Int32)).toInt = (i + (1 : Int32)).toInt + 1 := (by have qw := c_iadd (i + (1 : Int32)) (1 : Int32); omega) | (have ar250 := c_iadd (i + (1 : Int32)) (1 : Int32); skip)
                  omega
                have k251 : ∀ tg_, Steps p.tables e below (s₁.setTop (mkF m 206 #[.val (.ref a), .val (.int i), .val (.int en), .val (.int (y0 &&& (255 : Int32))), .val (.int (4 : Int32)), .val (.int (128 : Int32)), .val (.int (191 : Int32)), .val (.int (if (y1 &&& (255 : Int32)) < (if (y0 &&& (255 : Int32)) = (240 : Int32) then (144 : Int32) else (128 : Int32)) then (0 : Int32) else (if (if (y0 &&& (255 : Int32)) = (244 : Int32) then (143 : Int32) else (191 : Int32)) < (y1 &&& (255 : Int32)) then (0 : Int32) else (1 : Int32)))), .val (.int ((i + (1 : Int32)) + (1 : Int32))), .val (.int (y2 &&& (255 : Int32)))] [(.int (128 : Int32)), (.int (y2 &&& (255 : Int32)))])) tg_ → Steps p.tables e below (s₁.setTop (entryFrame m #[(.ref a), (.int i), (.int en)] 10)) tg_ := by
                  intro tg_ kt
                  refine k231 tg_ ?_
                  refine XS.ifNo X0.here hx rfl (hb hby d1_180) rfl ((if0 _ _).trans (feq hc180_232).1) ?_
                  show Steps p.tables e below (s₁.setTop (mkF m 183 #[.val (.ref a), .val (.int i), .val (.int en), .val (.int (y0 &&& (255 : Int32))), .val (.int (4 : Int32)), .val (.int (128 : Int32)), .val (.int (191 : Int32)), .val (.int (if (y1 &&& (255 : Int32)) < (if (y0 &&& (255 : Int32)) = (240 : Int32) then (144 : Int32) else (128 : Int32)) then (0 : Int32) else (if (if (y0 &&& (255 : Int32)) = (244 : Int32) then (143 : Int32) else (191 : Int32)) < (y1 &&& (255 : Int32)) then (0 : Int32) else (1 : Int32)))), .val (.int ((i + (1 : Int32)) + (1 : Int32))), .val (.int (y1 &&& (255 : Int32)))] [])) _
                  refine XS.iload X0.here hx rfl (hb hby d1_183) rfl ?_
                  show Steps p.tables e below (s₁.setTop (mkF m 185 #[.val (.ref a), .val (.int i), .val (.int en), .val (.int (y0 &&& (255 : Int32))), .val (.int (4 : Int32)), .val (.int (128 : Int32)), .val (.int (191 : Int32)), .val (.int (if (y1 &&& (255 : Int32)) < (if (y0 &&& (255 : Int32)) = (240 : Int32) then (144 : Int32) else (128 : Int32)) then (0 : Int32) else (if (if (y0 &&& (255 : Int32)) = (244 : Int32) then (143 : Int32) else (191 : Int32)) < (y1 &&& (255 : Int32)) then (0 : Int32) else (1 : Int32)))), .val (.int ((i + (1 : Int32)) + (1 : Int32))), .val (.int (y1 &&& (255 : Int32)))] [(.int ((i + (1 : Int32)) + (1 : Int32)))])) _
                  refine XS.iloadN X0.here hx rfl (hb hby d1_185) rfl ?_
                  show Steps p.tables e below (s₁.setTop (mkF m 186 #[.val (.ref a), .val (.int i), .val (.int en), .val (.int (y0 &&& (255 : Int32))), .val (.int (4 : Int32)), .val (.int (128 : Int32)), .val (.int (191 : Int32)), .val (.int (if (y1 &&& (255 : Int32)) < (if (y0 &&& (255 : Int32)) = (240 : Int32) then (144 : Int32) else (128 : Int32)) then (0 : Int32) else (if (if (y0 &&& (255 : Int32)) = (244 : Int32) then (143 : Int32) else (191 : Int32)) < (y1 &&& (255 : Int32)) then (0 : Int32) else (1 : Int32)))), .val (.int ((i + (1 : Int32)) + (1 : Int32))), .val (.int (y1 &&& (255 : Int32)))] [(.int i), (.int ((i + (1 : Int32)) + (1 : Int32)))])) _
                  refine XS.iload X0.here hx rfl (hb hby d1_186) rfl ?_
                  show Steps p.tables e below (s₁.setTop (mkF m 188 #[.val (.ref a), .val (.int i), .val (.int en), .val (.int (y0 &&& (255 : Int32))), .val (.int (4 : Int32)), .val (.int (128 : Int32)), .val (.int (191 : Int32)), .val (.int (if (y1 &&& (255 : Int32)) < (if (y0 &&& (255 : Int32)) = (240 : Int32) then (144 : Int32) else (128 : Int32)) then (0 : Int32) else (if (if (y0 &&& (255 : Int32)) = (244 : Int32) then (143 : Int32) else (191 : Int32)) < (y1 &&& (255 : Int32)) then (0 : Int32) else (1 : Int32)))), .val (.int ((i + (1 : Int32)) + (1 : Int32))), .val (.int (y1 &&& (255 : Int32)))] [(.int (4 : Int32)), (.int i), (.int ((i + (1 : Int32)) + (1 : Int32)))])) _
                  refine XS.iadd X0.here hx rfl (hb hby d1_188) rfl ?_
                  show Steps p.tables e below (s₁.setTop (mkF m 189 #[.val (.ref a), .val (.int i), .val (.int en), .val (.int (y0 &&& (255 : Int32))), .val (.int (4 : Int32)), .val (.int (128 : Int32)), .val (.int (191 : Int32)), .val (.int (if (y1 &&& (255 : Int32)) < (if (y0 &&& (255 : Int32)) = (240 : Int32) then (144 : Int32) else (128 : Int32)) then (0 : Int32) else (if (if (y0 &&& (255 : Int32)) = (244 : Int32) then (143 : Int32) else (191 : Int32)) < (y1 &&& (255 : Int32)) then (0 : Int32) else (1 : Int32)))), .val (.int ((i + (1 : Int32)) + (1 : Int32))), .val (.int (y1 &&& (255 : Int32)))] [(.int (i + (4 : Int32))), (.int ((i + (1 : Int32)) + (1 : Int32)))])) _
                  refine XS.icmpNo X0.here hx rfl (hb hby d1_189) rfl (tlt hc189_243).2.1 ?_
                  show Steps p.tables e below (s₁.setTop (mkF m 192 #[.val (.ref a), .val (.int i), .val (.int en), .val (.int (y0 &&& (255 : Int32))), .val (.int (4 : Int32)), .val (.int (128 : Int32)), .val (.int (191 : Int32)), .val (.int (if (y1 &&& (255 : Int32)) < (if (y0 &&& (255 : Int32)) = (240 : Int32) then (144 : Int32) else (128 : Int32)) then (0 : Int32) else (if (if (y0 &&& (255 : Int32)) = (244 : Int32) then (143 : Int32) else (191 : Int32)) < (y1 &&& (255 : Int32)) then (0 : Int32) else (1 : Int32)))), .val (.int ((i + (1 : Int32)) + (1 : Int32))), .val (.int (y1 &&& (255 : Int32)))] [])) _
                  refine XS.aloadN X0.here hx rfl (hb hby d1_192) rfl rfl ?_
                  show Steps p.tables e below (s₁.setTop (mkF m 193 #[.val (.ref a), .val (.int i), .val (.int en), .val (.int (y0 &&& (255 : Int32))), .val (.int (4 : Int32)), .val (.int (128 : Int32)), .val (.int (191 : Int32)), .val (.int (if (y1 &&& (255 : Int32)) < (if (y0 &&& (255 : Int32)) = (240 : Int32) then (144 : Int32) else (128 : Int32)) then (0 : Int32) else (if (if (y0 &&& (255 : Int32)) = (244 : Int32) then (143 : Int32) else (191 : Int32)) < (y1 &&& (255 : Int32)) then (0 : Int32) else (1 : Int32)))), .val (.int ((i + (1 : Int32)) + (1 : Int32))), .val (.int (y1 &&& (255 : Int32)))] [(.ref a)])) _
                  refine XS.iload X0.here hx rfl (hb hby d1_193) rfl ?_
                  show Steps p.tables e below (s₁.setTop (mkF m 195 #[.val (.ref a), .val (.int i), .val (.int en), .val (.int (y0 &&& (255 : Int32))), .val (.int (4 : Int32)), .val (.int (128 : Int32)), .val (.int (191 : Int32)), .val (.int (if (y1 &&& (255 : Int32)) < (if (y0 &&& (255 : Int32)) = (240 : Int32) then (144 : Int32) else (128 : Int32)) then (0 : Int32) else (if (if (y0 &&& (255 : Int32)) = (244 : Int32) then (143 : Int32) else (191 : Int32)) < (y1 &&& (255 : Int32)) then (0 : Int32) else (1 : Int32)))), .val (.int ((i + (1 : Int32)) + (1 : Int32))), .val (.int (y1 &&& (255 : Int32)))] [(.int ((i + (1 : Int32)) + (1 : Int32))), (.ref a)])) _
                  refine own_ldB X0 hx hZ e0 V_a (i := (ii + 2)) hj244 (by omega) hf2 (g := (mkF m 195 #[.val (.ref a), .val (.int i), .val (.int en), .val (.int (y0 &&& (255 : Int32))), .val (.int (4 : Int32)), .val (.int (128 : Int32)), .val (.int (191 : Int32)), .val (.int (if (y1 &&& (255 : Int32)) < (if (y0 &&& (255 : Int32)) = (240 : Int32) then (144 : Int32) else (128 : Int32)) then (0 : Int32) else (if (if (y0 &&& (255 : Int32)) = (244 : Int32) then (143 : Int32) else (191 : Int32)) < (y1 &&& (255 : Int32)) then (0 : Int32) else (1 : Int32)))), .val (.int ((i + (1 : Int32)) + (1 : Int32))), .val (.int (y1 &&& (255 : Int32)))] [(.int ((i + (1 : Int32)) + (1 : Int32))), (.ref a)])) rfl rfl (hb hby d1_195) _ ?_
                  show Steps p.tables e below (s₁.setTop (mkF m 196 #[.val (.ref a), .val (.int i), .val (.int en), .val (.int (y0 &&& (255 : Int32))), .val (.int (4 : Int32)), .val (.int (128 : Int32)), .val (.int (191 : Int32)), .val (.int (if (y1 &&& (255 : Int32)) < (if (y0 &&& (255 : Int32)) = (240 : Int32) then (144 : Int32) else (128 : Int32)) then (0 : Int32) else (if (if (y0 &&& (255 : Int32)) = (244 : Int32) then (143 : Int32) else (191 : Int32)) < (y1 &&& (255 : Int32)) then (0 : Int32) else (1 : Int32)))), .val (.int ((i + (1 : Int32)) + (1 : Int32))), .val (.int (y1 &&& (255 : Int32)))] [(.int y2)])) _
                  refine XS.sipush X0.here hx rfl (hb hby d1_196) ?_
                  show Steps p.tables e below (s₁.setTop (mkF m 199 #[.val (.ref a), .val (.int i), .val (.int en), .val (.int (y0 &&& (255 : Int32))), .val (.int (4 : Int32)), .val (.int (128 : Int32)), .val (.int (191 : Int32)), .val (.int (if (y1 &&& (255 : Int32)) < (if (y0 &&& (255 : Int32)) = (240 : Int32) then (144 : Int32) else (128 : Int32)) then (0 : Int32) else (if (if (y0 &&& (255 : Int32)) = (244 : Int32) then (143 : Int32) else (191 : Int32)) < (y1 &&& (255 : Int32)) then (0 : Int32) else (1 : Int32)))), .val (.int ((i + (1 : Int32)) + (1 : Int32))), .val (.int (y1 &&& (255 : Int32)))] [(.int (255 : Int32)), (.int y2)])) _
                  refine XS.iand X0.here hx rfl (hb hby d1_199) rfl ?_
                  show Steps p.tables e below (s₁.setTop (mkF m 200 #[.val (.ref a), .val (.int i), .val (.int en), .val (.int (y0 &&& (255 : Int32))), .val (.int (4 : Int32)), .val (.int (128 : Int32)), .val (.int (191 : Int32)), .val (.int (if (y1 &&& (255 : Int32)) < (if (y0 &&& (255 : Int32)) = (240 : Int32) then (144 : Int32) else (128 : Int32)) then (0 : Int32) else (if (if (y0 &&& (255 : Int32)) = (244 : Int32) then (143 : Int32) else (191 : Int32)) < (y1 &&& (255 : Int32)) then (0 : Int32) else (1 : Int32)))), .val (.int ((i + (1 : Int32)) + (1 : Int32))), .val (.int (y1 &&& (255 : Int32)))] [(.int (y2 &&& (255 : Int32)))])) _
                  refine XS.istore X0.here hx rfl (hb hby d1_200) rfl (l' := #[.val (.ref a), .val (.int i), .val (.int en), .val (.int (y0 &&& (255 : Int32))), .val (.int (4 : Int32)), .val (.int (128 : Int32)), .val (.int (191 : Int32)), .val (.int (if (y1 &&& (255 : Int32)) < (if (y0 &&& (255 : Int32)) = (240 : Int32) then (144 : Int32) else (128 : Int32)) then (0 : Int32) else (if (if (y0 &&& (255 : Int32)) = (244 : Int32) then (143 : Int32) else (191 : Int32)) < (y1 &&& (255 : Int32)) then (0 : Int32) else (1 : Int32)))), .val (.int ((i + (1 : Int32)) + (1 : Int32))), .val (.int (y2 &&& (255 : Int32)))]) rfl ?_
                  show Steps p.tables e below (s₁.setTop (mkF m 202 #[.val (.ref a), .val (.int i), .val (.int en), .val (.int (y0 &&& (255 : Int32))), .val (.int (4 : Int32)), .val (.int (128 : Int32)), .val (.int (191 : Int32)), .val (.int (if (y1 &&& (255 : Int32)) < (if (y0 &&& (255 : Int32)) = (240 : Int32) then (144 : Int32) else (128 : Int32)) then (0 : Int32) else (if (if (y0 &&& (255 : Int32)) = (244 : Int32) then (143 : Int32) else (191 : Int32)) < (y1 &&& (255 : Int32)) then (0 : Int32) else (1 : Int32)))), .val (.int ((i + (1 : Int32)) + (1 : Int32))), .val (.int (y2 &&& (255 : Int32)))] [])) _
                  refine XS.iload X0.here hx rfl (hb hby d1_202) rfl ?_
                  show Steps p.tables e below (s₁.setTop (mkF m 204 #[.val (.ref a), .val (.int i), .val (.int en), .val (.int (y0 &&& (255 : Int32))), .val (.int (4 : Int32)), .val (.int (128 : Int32)), .val (.int (191 : Int32)), .val (.int (if (y1 &&& (255 : Int32)) < (if (y0 &&& (255 : Int32)) = (240 : Int32) then (144 : Int32) else (128 : Int32)) then (0 : Int32) else (if (if (y0 &&& (255 : Int32)) = (244 : Int32) then (143 : Int32) else (191 : Int32)) < (y1 &&& (255 : Int32)) then (0 : Int32) else (1 : Int32)))), .val (.int ((i + (1 : Int32)) + (1 : Int32))), .val (.int (y2 &&& (255 : Int32)))] [(.int (y2 &&& (255 : Int32)))])) _
                  refine XS.iload X0.here hx rfl (hb hby d1_204) rfl ?_
                  show Steps p.tables e below (s₁.setTop (mkF m 206 #[.val (.ref a), .val (.int i), .val (.int en), .val (.int (y0 &&& (255 : Int32))), .val (.int (4 : Int32)), .val (.int (128 : Int32)), .val (.int (191 : Int32)), .val (.int (if (y1 &&& (255 : Int32)) < (if (y0 &&& (255 : Int32)) = (240 : Int32) then (144 : Int32) else (128 : Int32)) then (0 : Int32) else (if (if (y0 &&& (255 : Int32)) = (244 : Int32) then (143 : Int32) else (191 : Int32)) < (y1 &&& (255 : Int32)) then (0 : Int32) else (1 : Int32)))), .val (.int ((i + (1 : Int32)) + (1 : Int32))), .val (.int (y2 &&& (255 : Int32)))] [(.int (128 : Int32)), (.int (y2 &&& (255 : Int32)))])) _
                  exact kt
                have k254 : ∀ tg_, Steps p.tables e below (s₁.setTop (mkF m 221 #[.val (.ref a), .val (.int i), .val (.int en), .val (.int (y0 &&& (255 : Int32))), .val (.int (4 : Int32)), .val (.int (128 : Int32)), .val (.int (191 : Int32)), .val (.int (if (y1 &&& (255 : Int32)) < (if (y0 &&& (255 : Int32)) = (240 : Int32) then (144 : Int32) else (128 : Int32)) then (0 : Int32) else (if (if (y0 &&& (255 : Int32)) = (244 : Int32) then (143 : Int32) else (191 : Int32)) < (y1 &&& (255 : Int32)) then (0 : Int32) else (1 : Int32)))), .val (.int ((i + (1 : Int32)) + (1 : Int32))), .val (.int (y2 &&& (255 : Int32)))] [(.int (if (y2 &&& (255 : Int32)) < (128 : Int32) then (0 : Int32) else (if (191 : Int32) < (y2 &&& (255 : Int32)) then (0 : Int32) else (1 : Int32))))])) tg_ → Steps p.tables e below (s₁.setTop (entryFrame m #[(.ref a), (.int i), (.int en)] 10)) tg_ := by
                  intro tg_ kt
                  refine k251 tg_ ?_
                  by_cases hj206_252 : (y2 &&& (255 : Int32)) < (128 : Int32)
                  · refine XS.icmpYes X0.here hx rfl (pc0 := 206) (pc' := 220) rfl (hb hby d1_206) rfl (tlt hj206_252).1 (by decide) (by decide) ?_
                    show Steps p.tables e below (s₁.setTop (mkF m 220 #[.val (.ref a), .val (.int i), .val (.int en), .val (.int (y0 &&& (255 : Int32))), .val (.int (4 : Int32)), .val (.int (128 : Int32)), .val (.int (191 : Int32)), .val (.int (if (y1 &&& (255 : Int32)) < (if (y0 &&& (255 : Int32)) = (240 : Int32) then (144 : Int32) else (128 : Int32)) then (0 : Int32) else (if (if (y0 &&& (255 : Int32)) = (244 : Int32) then (143 : Int32) else (191 : Int32)) < (y1 &&& (255 : Int32)) then (0 : Int32) else (1 : Int32)))), .val (.int ((i + (1 : Int32)) + (1 : Int32))), .val (.int (y2 &&& (255 : Int32)))] [])) _
                    refine XS.iconst X0.here hx rfl (hb hby d1_220) ?_
                    show Steps p.tables e below (s₁.setTop (mkF m 221 #[.val (.ref a), .val (.int i), .val (.int en), .val (.int (y0 &&& (255 : Int32))), .val (.int (4 : Int32)), .val (.int (128 : Int32)), .val (.int (191 : Int32)), .val (.int (if (y1 &&& (255 : Int32)) < (if (y0 &&& (255 : Int32)) = (240 : Int32) then (144 : Int32) else (128 : Int32)) then (0 : Int32) else (if (if (y0 &&& (255 : Int32)) = (244 : Int32) then (143 : Int32) else (191 : Int32)) < (y1 &&& (255 : Int32)) then (0 : Int32) else (1 : Int32)))), .val (.int ((i + (1 : Int32)) + (1 : Int32))), .val (.int (y2 &&& (255 : Int32)))] [(.int (0 : Int32))])) _
                    simpa only [if_pos hj206_252] using kt
                  · refine XS.icmpNo X0.here hx rfl (hb hby d1_206) rfl (flt hj206_252).1 ?_
                    show Steps p.tables e below (s₁.setTop (mkF m 209 #[.val (.ref a), .val (.int i), .val (.int en), .val (.int (y0 &&& (255 : Int32))), .val (.int (4 : Int32)), .val (.int (128 : Int32)), .val (.int (191 : Int32)), .val (.int (if (y1 &&& (255 : Int32)) < (if (y0 &&& (255 : Int32)) = (240 : Int32) then (144 : Int32) else (128 : Int32)) then (0 : Int32) else (if (if (y0 &&& (255 : Int32)) = (244 : Int32) then (143 : Int32) else (191 : Int32)) < (y1 &&& (255 : Int32)) then (0 : Int32) else (1 : Int32)))), .val (.int ((i + (1 : Int32)) + (1 : Int32))), .val (.int (y2 &&& (255 : Int32)))] [])) _
                    refine XS.iload X0.here hx rfl (hb hby d1_209) rfl ?_
                    show Steps p.tables e below (s₁.setTop (mkF m 211 #[.val (.ref a), .val (.int i), .val (.int en), .val (.int (y0 &&& (255 : Int32))), .val (.int (4 : Int32)), .val (.int (128 : Int32)), .val (.int (191 : Int32)), .val (.int (if (y1 &&& (255 : Int32)) < (if (y0 &&& (255 : Int32)) = (240 : Int32) then (144 : Int32) else (128 : Int32)) then (0 : Int32) else (if (if (y0 &&& (255 : Int32)) = (244 : Int32) then (143 : Int32) else (191 : Int32)) < (y1 &&& (255 : Int32)) then (0 : Int32) else (1 : Int32)))), .val (.int ((i + (1 : Int32)) + (1 : Int32))), .val (.int (y2 &&& (255 : Int32)))] [(.int (y2 &&& (255 : Int32)))])) _
                    refine XS.iload X0.here hx rfl (hb hby d1_211) rfl ?_
                    show Steps p.tables e below (s₁.setTop (mkF m 213 #[.val (.ref a), .val (.int i), .val (.int en), .val (.int (y0 &&& (255 : Int32))), .val (.int (4 : Int32)), .val (.int (128 : Int32)), .val (.int (191 : Int32)), .val (.int (if (y1 &&& (255 : Int32)) < (if (y0 &&& (255 : Int32)) = (240 : Int32) then (144 : Int32) else (128 : Int32)) then (0 : Int32) else (if (if (y0 &&& (255 : Int32)) = (244 : Int32) then (143 : Int32) else (191 : Int32)) < (y1 &&& (255 : Int32)) then (0 : Int32) else (1 : Int32)))), .val (.int ((i + (1 : Int32)) + (1 : Int32))), .val (.int (y2 &&& (255 : Int32)))] [(.int (191 : Int32)), (.int (y2 &&& (255 : Int32)))])) _
                    by_cases hj213_253 : (191 : Int32) < (y2 &&& (255 : Int32))
                    · refine XS.icmpYes X0.here hx rfl (pc0 := 213) (pc' := 220) rfl (hb hby d1_213) rfl (tlt hj213_253).2.2.1 (by decide) (by decide) ?_
                      show Steps p.tables e below (s₁.setTop (mkF m 220 #[.val (.ref a), .val (.int i), .val (.int en), .val (.int (y0 &&& (255 : Int32))), .val (.int (4 : Int32)), .val (.int (128 : Int32)), .val (.int (191 : Int32)), .val (.int (if (y1 &&& (255 : Int32)) < (if (y0 &&& (255 : Int32)) = (240 : Int32) then (144 : Int32) else (128 : Int32)) then (0 : Int32) else (if (if (y0 &&& (255 : Int32)) = (244 : Int32) then (143 : Int32) else (191 : Int32)) < (y1 &&& (255 : Int32)) then (0 : Int32) else (1 : Int32)))), .val (.int ((i + (1 : Int32)) + (1 : Int32))), .val (.int (y2 &&& (255 : Int32)))] [])) _
                      refine XS.iconst X0.here hx rfl (hb hby d1_220) ?_
                      show Steps p.tables e below (s₁.setTop (mkF m 221 #[.val (.ref a), .val (.int i), .val (.int en), .val (.int (y0 &&& (255 : Int32))), .val (.int (4 : Int32)), .val (.int (128 : Int32)), .val (.int (191 : Int32)), .val (.int (if (y1 &&& (255 : Int32)) < (if (y0 &&& (255 : Int32)) = (240 : Int32) then (144 : Int32) else (128 : Int32)) then (0 : Int32) else (if (if (y0 &&& (255 : Int32)) = (244 : Int32) then (143 : Int32) else (191 : Int32)) < (y1 &&& (255 : Int32)) then (0 : Int32) else (1 : Int32)))), .val (.int ((i + (1 : Int32)) + (1 : Int32))), .val (.int (y2 &&& (255 : Int32)))] [(.int (0 : Int32))])) _
                      simpa only [if_neg hj206_252, if_pos hj213_253] using kt
                    · refine XS.icmpNo X0.here hx rfl (hb hby d1_213) rfl (flt hj213_253).2.2.1 ?_
                      show Steps p.tables e below (s₁.setTop (mkF m 216 #[.val (.ref a), .val (.int i), .val (.int en), .val (.int (y0 &&& (255 : Int32))), .val (.int (4 : Int32)), .val (.int (128 : Int32)), .val (.int (191 : Int32)), .val (.int (if (y1 &&& (255 : Int32)) < (if (y0 &&& (255 : Int32)) = (240 : Int32) then (144 : Int32) else (128 : Int32)) then (0 : Int32) else (if (if (y0 &&& (255 : Int32)) = (244 : Int32) then (143 : Int32) else (191 : Int32)) < (y1 &&& (255 : Int32)) then (0 : Int32) else (1 : Int32)))), .val (.int ((i + (1 : Int32)) + (1 : Int32))), .val (.int (y2 &&& (255 : Int32)))] [])) _
                      refine XS.iconst X0.here hx rfl (hb hby d1_216) ?_
                      show Steps p.tables e below (s₁.setTop (mkF m 217 #[.val (.ref a), .val (.int i), .val (.int en), .val (.int (y0 &&& (255 : Int32))), .val (.int (4 : Int32)), .val (.int (128 : Int32)), .val (.int (191 : Int32)), .val (.int (if (y1 &&& (255 : Int32)) < (if (y0 &&& (255 : Int32)) = (240 : Int32) then (144 : Int32) else (128 : Int32)) then (0 : Int32) else (if (if (y0 &&& (255 : Int32)) = (244 : Int32) then (143 : Int32) else (191 : Int32)) < (y1 &&& (255 : Int32)) then (0 : Int32) else (1 : Int32)))), .val (.int ((i + (1 : Int32)) + (1 : Int32))), .val (.int (y2 &&& (255 : Int32)))] [(.int (1 : Int32))])) _
                      refine XS.goto X0.here hx rfl (pc0 := 217) (pc' := 221) rfl (hb hby d1_217) (by decide) (by decide) ?_
                      show Steps p.tables e below (s₁.setTop (mkF m 221 #[.val (.ref a), .val (.int i), .val (.int en), .val (.int (y0 &&& (255 : Int32))), .val (.int (4 : Int32)), .val (.int (128 : Int32)), .val (.int (191 : Int32)), .val (.int (if (y1 &&& (255 : Int32)) < (if (y0 &&& (255 : Int32)) = (240 : Int32) then (144 : Int32) else (128 : Int32)) then (0 : Int32) else (if (if (y0 &&& (255 : Int32)) = (244 : Int32) then (143 : Int32) else (191 : Int32)) < (y1 &&& (255 : Int32)) then (0 : Int32) else (1 : Int32)))), .val (.int ((i + (1 : Int32)) + (1 : Int32))), .val (.int (y2 &&& (255 : Int32)))] [(.int (1 : Int32))])) _
                      simpa only [if_neg hj206_252, if_neg hj213_253] using kt
                have k255 : ∀ tg_, Steps p.tables e below (s₁.setTop (mkF m 180 #[.val (.ref a), .val (.int i), .val (.int en), .val (.int (y0 &&& (255 : Int32))), .val (.int (4 : Int32)), .val (.int (128 : Int32)), .val (.int (191 : Int32)), .val (.int (if (y2 &&& (255 : Int32)) < (128 : Int32) then (0 : Int32) else (if (191 : Int32) < (y2 &&& (255 : Int32)) then (0 : Int32) else (1 : Int32)))), .val (.int (((i + (1 : Int32)) + (1 : Int32)) + (1 : Int32))), .val (.int (y2 &&& (255 : Int32)))] [(.int (if (y2 &&& (255 : Int32)) < (128 : Int32) then (0 : Int32) else (if (191 : Int32) < (y2 &&& (255 : Int32)) then (0 : Int32) else (1 : Int32))))])) tg_ → Steps p.tables e below (s₁.setTop (entryFrame m #[(.ref a), (.int i), (.int en)] 10)) tg_ := by
                  intro tg_ kt
                  refine k254 tg_ ?_
                  refine XS.istore X0.here hx rfl (hb hby d1_221) rfl (l' := #[.val (.ref a), .val (.int i), .val (.int en), .val (.int (y0 &&& (255 : Int32))), .val (.int (4 : Int32)), .val (.int (128 : Int32)), .val (.int (191 : Int32)), .val (.int (if (y2 &&& (255 : Int32)) < (128 : Int32) then (0 : Int32) else (if (191 : Int32) < (y2 &&& (255 : Int32)) then (0 : Int32) else (1 : Int32)))), .val (.int ((i + (1 : Int32)) + (1 : Int32))), .val (.int (y2 &&& (255 : Int32)))]) rfl ?_
                  show Steps p.tables e below (s₁.setTop (mkF m 223 #[.val (.ref a), .val (.int i), .val (.int en), .val (.int (y0 &&& (255 : Int32))), .val (.int (4 : Int32)), .val (.int (128 : Int32)), .val (.int (191 : Int32)), .val (.int (if (y2 &&& (255 : Int32)) < (128 : Int32) then (0 : Int32) else (if (191 : Int32) < (y2 &&& (255 : Int32)) then (0 : Int32) else (1 : Int32)))), .val (.int ((i + (1 : Int32)) + (1 : Int32))), .val (.int (y2 &&& (255 : Int32)))] [])) _
                  refine XS.sipush X0.here hx rfl (hb hby d1_223) ?_
                  show Steps p.tables e below (s₁.setTop (mkF m 226 #[.val (.ref a), .val (.int i), .val (.int en), .val (.int (y0 &&& (255 : Int32))), .val (.int (4 : Int32)), .val (.int (128 : Int32)), .val (.int (191 : Int32)), .val (.int (if (y2 &&& (255 : Int32)) < (128 : Int32) then (0 : Int32) else (if (191 : Int32) < (y2 &&& (255 : Int32)) then (0 : Int32) else (1 : Int32)))), .val (.int ((i + (1 : Int32)) + (1 : Int32))), .val (.int (y2 &&& (255 : Int32)))] [(.int (128 : Int32))])) _
                  refine XS.istore X0.here hx rfl (hb hby d1_226) rfl (l' := #[.val (.ref a), .val (.int i), .val (.int en), .val (.int (y0 &&& (255 : Int32))), .val (.int (4 : Int32)), .val (.int (128 : Int32)), .val (.int (191 : Int32)), .val (.int (if (y2 &&& (255 : Int32)) < (128 : Int32) then (0 : Int32) else (if (191 : Int32) < (y2 &&& (255 : Int32)) then (0 : Int32) else (1 : Int32)))), .val (.int ((i + (1 : Int32)) + (1 : Int32))), .val (.int (y2 &&& (255 : Int32)))]) rfl ?_
                  show Steps p.tables e below (s₁.setTop (mkF m 228 #[.val (.ref a), .val (.int i), .val (.int en), .val (.int (y0 &&& (255 : Int32))), .val (.int (4 : Int32)), .val (.int (128 : Int32)), .val (.int (191 : Int32)), .val (.int (if (y2 &&& (255 : Int32)) < (128 : Int32) then (0 : Int32) else (if (191 : Int32) < (y2 &&& (255 : Int32)) then (0 : Int32) else (1 : Int32)))), .val (.int ((i + (1 : Int32)) + (1 : Int32))), .val (.int (y2 &&& (255 : Int32)))] [])) _
                  refine XS.sipush X0.here hx rfl (hb hby d1_228) ?_
                  show Steps p.tables e below (s₁.setTop (mkF m 231 #[.val (.ref a), .val (.int i), .val (.int en), .val (.int (y0 &&& (255 : Int32))), .val (.int (4 : Int32)), .val (.int (128 : Int32)), .val (.int (191 : Int32)), .val (.int (if (y2 &&& (255 : Int32)) < (128 : Int32) then (0 : Int32) else (if (191 : Int32) < (y2 &&& (255 : Int32)) then (0 : Int32) else (1 : Int32)))), .val (.int ((i + (1 : Int32)) + (1 : Int32))), .val (.int (y2 &&& (255 : Int32)))] [(.int (191 : Int32))])) _
                  refine XS.istore X0.here hx rfl (hb hby d1_231) rfl (l' := #[.val (.ref a), .val (.int i), .val (.int en), .val (.int (y0 &&& (255 : Int32))), .val (.int (4 : Int32)), .val (.int (128 : Int32)), .val (.int (191 : Int32)), .val (.int (if (y2 &&& (255 : Int32)) < (128 : Int32) then (0 : Int32) else (if (191 : Int32) < (y2 &&& (255 : Int32)) then (0 : Int32) else (1 : Int32)))), .val (.int ((i + (1 : Int32)) + (1 : Int32))), .val (.int (y2 &&& (255 : Int32)))]) rfl ?_
                  show Steps p.tables e below (s₁.setTop (mkF m 233 #[.val (.ref a), .val (.int i), .val (.int en), .val (.int (y0 &&& (255 : Int32))), .val (.int (4 : Int32)), .val (.int (128 : Int32)), .val (.int (191 : Int32)), .val (.int (if (y2 &&& (255 : Int32)) < (128 : Int32) then (0 : Int32) else (if (191 : Int32) < (y2 &&& (255 : Int32)) then (0 : Int32) else (1 : Int32)))), .val (.int ((i + (1 : Int32)) + (1 : Int32))), .val (.int (y2 &&& (255 : Int32)))] [])) _
                  refine XS.iinc X0.here hx rfl (hb hby d1_233) rfl (l' := #[.val (.ref a), .val (.int i), .val (.int en), .val (.int (y0 &&& (255 : Int32))), .val (.int (4 : Int32)), .val (.int (128 : Int32)), .val (.int (191 : Int32)), .val (.int (if (y2 &&& (255 : Int32)) < (128 : Int32) then (0 : Int32) else (if (191 : Int32) < (y2 &&& (255 : Int32)) then (0 : Int32) else (1 : Int32)))), .val (.int (((i + (1 : Int32)) + (1 : Int32)) + (1 : Int32))), .val (.int (y2 &&& (255 : Int32)))]) rfl ?_
                  show Steps p.tables e below (s₁.setTop (mkF m 236 #[.val (.ref a), .val (.int i), .val (.int en), .val (.int (y0 &&& (255 : Int32))), .val (.int (4 : Int32)), .val (.int (128 : Int32)), .val (.int (191 : Int32)), .val (.int (if (y2 &&& (255 : Int32)) < (128 : Int32) then (0 : Int32) else (if (191 : Int32) < (y2 &&& (255 : Int32)) then (0 : Int32) else (1 : Int32)))), .val (.int (((i + (1 : Int32)) + (1 : Int32)) + (1 : Int32))), .val (.int (y2 &&& (255 : Int32)))] [])) _
                  refine XS.goto X0.here hx rfl (pc0 := 236) (pc' := 178) rfl (hb hby d1_236) (by decide) (by decide) ?_
                  show Steps p.tables e below (s₁.setTop (mkF m 178 #[.val (.ref a), .val (.int i), .val (.int en), .val (.int (y0 &&& (255 : Int32))), .val (.int (4 : Int32)), .val (.int (128 : Int32)), .val (.int (191 : Int32)), .val (.int (if (y2 &&& (255 : Int32)) < (128 : Int32) then (0 : Int32) else (if (191 : Int32) < (y2 &&& (255 : Int32)) then (0 : Int32) else (1 : Int32)))), .val (.int (((i + (1 : Int32)) + (1 : Int32)) + (1 : Int32))), .val (.int (y2 &&& (255 : Int32)))] [])) _
                  refine XS.iload X0.here hx rfl (hb hby d1_178) rfl ?_
                  show Steps p.tables e below (s₁.setTop (mkF m 180 #[.val (.ref a), .val (.int i), .val (.int en), .val (.int (y0 &&& (255 : Int32))), .val (.int (4 : Int32)), .val (.int (128 : Int32)), .val (.int (191 : Int32)), .val (.int (if (y2 &&& (255 : Int32)) < (128 : Int32) then (0 : Int32) else (if (191 : Int32) < (y2 &&& (255 : Int32)) then (0 : Int32) else (1 : Int32)))), .val (.int (((i + (1 : Int32)) + (1 : Int32)) + (1 : Int32))), .val (.int (y2 &&& (255 : Int32)))] [(.int (if (y2 &&& (255 : Int32)) < (128 : Int32) then (0 : Int32) else (if (191 : Int32) < (y2 &&& (255 : Int32)) then (0 : Int32) else (1 : Int32))))])) _
                  exact kt
                by_cases hc180_256 : (if (y2 &&& (255 : Int32)) < (128 : Int32) then (0 : Int32) else (if (191 : Int32) < (y2 &&& (255 : Int32)) then (0 : Int32) else (1 : Int32))) = (0 : Int32)
                · have k257 : ∀ tg_, Steps p.tables e below (s₁.setTop (mkF m 250 #[.val (.ref a), .val (.int i), .val (.int en), .val (.int (y0 &&& (255 : Int32))), .val (.int (4 : Int32)), .val (.int (128 : Int32)), .val (.int (191 : Int32)), .val (.int (if (y2 &&& (255 : Int32)) < (128 : Int32) then (0 : Int32) else (if (191 : Int32) < (y2 &&& (255 : Int32)) then (0 : Int32) else (1 : Int32)))), .val (.int (((i + (1 : Int32)) + (1 : Int32)) + (1 : Int32))), .val (.int (y2 &&& (255 : Int32)))] [(.int (0 : Int32))])) tg_ → Steps p.tables e below (s₁.setTop (entryFrame m #[(.ref a), (.int i), (.int en)] 10)) tg_ := by
                    intro tg_ kt
                    refine k255 tg_ ?_
                    refine XS.ifYes X0.here hx rfl (pc0 := 180) (pc' := 239) rfl (hb hby d1_180) rfl ((if0 _ _).trans (teq hc180_256).1) (by decide) (by decide) ?_
                    show Steps p.tables e below (s₁.setTop (mkF m 239 #[.val (.ref a), .val (.int i), .val (.int en), .val (.int (y0 &&& (255 : Int32))), .val (.int (4 : Int32)), .val (.int (128 : Int32)), .val (.int (191 : Int32)), .val (.int (if (y2 &&& (255 : Int32)) < (128 : Int32) then (0 : Int32) else (if (191 : Int32) < (y2 &&& (255 : Int32)) then (0 : Int32) else (1 : Int32)))), .val (.int (((i + (1 : Int32)) + (1 : Int32)) + (1 : Int32))), .val (.int (y2 &&& (255 : Int32)))] [])) _
                    refine XS.iload X0.here hx rfl (hb hby d1_239) rfl ?_
                    show Steps p.tables e below (s₁.setTop (mkF m 241 #[.val (.ref a), .val (.int i), .val (.int en), .val (.int (y0 &&& (255 : Int32))), .val (.int (4 : Int32)), .val (.int (128 : Int32)), .val (.int (191 : Int32)), .val (.int (if (y2 &&& (255 : Int32)) < (128 : Int32) then (0 : Int32) else (if (191 : Int32) < (y2 &&& (255 : Int32)) then (0 : Int32) else (1 : Int32)))), .val (.int (((i + (1 : Int32)) + (1 : Int32)) + (1 : Int32))), .val (.int (y2 &&& (255 : Int32)))] [(.int (if (y2 &&& (255 : Int32)) < (128 : Int32) then (0 : Int32) else (if (191 : Int32) < (y2 &&& (255 : Int32)) then (0 : Int32) else (1 : Int32))))])) _
                    refine XS.ifYes X0.here hx rfl (pc0 := 241) (pc' := 249) rfl (hb hby d1_241) rfl ((if0 _ _).trans (teq hc180_256).1) (by decide) (by decide) ?_
                    show Steps p.tables e below (s₁.setTop (mkF m 249 #[.val (.ref a), .val (.int i), .val (.int en), .val (.int (y0 &&& (255 : Int32))), .val (.int (4 : Int32)), .val (.int (128 : Int32)), .val (.int (191 : Int32)), .val (.int (if (y2 &&& (255 : Int32)) < (128 : Int32) then (0 : Int32) else (if (191 : Int32) < (y2 &&& (255 : Int32)) then (0 : Int32) else (1 : Int32)))), .val (.int (((i + (1 : Int32)) + (1 : Int32)) + (1 : Int32))), .val (.int (y2 &&& (255 : Int32)))] [])) _
                    refine XS.iconst X0.here hx rfl (hb hby d1_249) ?_
                    show Steps p.tables e below (s₁.setTop (mkF m 250 #[.val (.ref a), .val (.int i), .val (.int en), .val (.int (y0 &&& (255 : Int32))), .val (.int (4 : Int32)), .val (.int (128 : Int32)), .val (.int (191 : Int32)), .val (.int (if (y2 &&& (255 : Int32)) < (128 : Int32) then (0 : Int32) else (if (191 : Int32) < (y2 &&& (255 : Int32)) then (0 : Int32) else (1 : Int32)))), .val (.int (((i + (1 : Int32)) + (1 : Int32)) + (1 : Int32))), .val (.int (y2 &&& (255 : Int32)))] [(.int (0 : Int32))])) _
                    exact kt
                  obtain ⟨fs, hr, hrun, hended, hW, hsame⟩ := X0.leave (v := some (.int (0 : Int32))) (fun h => by rw [Bd.returns] at h; cases h)
                  refine ⟨_, _, k257 _ (retI X0 hx Bd.returns (hb hby d1_250) hr), hrun, hended, _, _, rfl, ?_, ⟨_, rfl⟩, hW, hsame.mono (by decide) (by decide)⟩
                  show Q1 Z a i en ii f y0 y1 y2 y3 h0 n0 _ s₁.heap _
                  rw [e0]
                  exact ⟨(by rw [own_eq_own_seq]; rw [if_neg hc22_75, if_neg hc35_86, if_neg hc48_100, if_neg hc61_136, if_pos hc110_204, if_neg hc163_212, if_neg hc180_232, if_pos hc180_256]), N0, rfl⟩
                · have hc189_269 : (((i + (1 : Int32)) + (1 : Int32)) + (1 : Int32)) < (i + (4 : Int32)) := (by
                      have ar258 := rng32 i
                      have ar259 : (1 : Int32).toInt = 1 := by decide
                      have ar260 := rng32 (i + (1 : Int32))
                      first | have ar261 : (i + (1 : Int32)).toInt = i.toInt + 1 := (by have qw := c_iadd i (1 : Int32); omega) | (have ar261 := c_iadd i (1 : Int32); skip)
                      have ar262 := rng32 ((i + (1 : Int32)) + (1 : Int32))
                      first | have ar263 : ((i + (1 : Int32)) + (1 : Int32)).toInt = (i + (1 : Int32)).toInt + 1 := (by have qw := c_iadd (i + (1 : Int32)) (1 : Int32); omega) | (have ar263 := c_iadd (i + (1 : Int32)) (1 : Int32); skip)
                      have ar264 := rng32 (((i + (1 : Int32)) + (1 : Int32)) + (1 : Int32))
                      first | have ar265 : (((i + (1 : Int32)) + (1 : Int32)) + (1 : Int32)).toInt = ((i + (1 : Int32)) + (1 : Int32)).toInt + 1 := (by have qw := c_iadd ((i + (1 : Int32)) + (1 : Int32)) (1 : Int32); omega) | (have ar265 := c_iadd ((i + (1 : Int32)) + (1 : Int32)) (1 : Int32); skip)
                      have ar266 : (4 : Int32).toInt = 4 := by decide
                      have ar267 := rng32 (i + (4 : Int32))
                      first | have ar268 : (i + (4 : Int32)).toInt = i.toInt + 4 := (by have qw := c_iadd i (4 : Int32); omega) | (have ar268 := c_iadd i (4 : Int32); skip)
                      exact Int32.lt_iff_toInt_lt.mpr (by omega))
                  have hj270 : (((i + (1 : Int32)) + (1 : Int32)) + (1 : Int32)).toInt = (((ii + 3) : Nat) : Int) := by
                    have ar271 := rng32 i
                    have ar272 : (1 : Int32).toInt = 1 := by decide
                    have ar273 := rng32 (i + (1 : Int32))
                    first | have ar274 : (i + (1 : Int32)).toInt = i.toInt + 1 := (by have qw := c_iadd i (1 : Int32); omega) | (have ar274 := c_iadd i (1 : Int32); skip)
                    have ar275 := rng32 ((i + (1 : Int32)) + (1 : Int32))
                    first | have ar276 : ((i + (1 : Int32)) + (1 : Int32)).toInt = (i + (1 : Int32)).toInt + 1 := (by have qw := c_iadd (i + (1 : Int32)) (1 : Int32); omega) | (have ar276 := c_iadd (i + (1 : Int32)) (1 : Int32); skip)
                    have ar277 := rng32 (((i + (1 : Int32)) + (1 : Int32)) + (1 : Int32))
                    first | have ar278 : (((i + (1 : Int32)) + (1 : Int32)) + (1 : Int32)).toInt = ((i + (1 : Int32)) + (1 : Int32)).toInt + 1 := (by have qw := c_iadd ((i + (1 : Int32)) + (1 : Int32)) (1 : Int32); omega) | (have ar278 := c_iadd ((i + (1 : Int32)) + (1 : Int32)) (1 : Int32); skip)
                    omega
                  have k279 : ∀ tg_, Steps p.tables e below (s₁.setTop (mkF m 206 #[.val (.ref a), .val (.int i), .val (.int en), .val (.int (y0 &&& (255 : Int32))), .val (.int (4 : Int32)), .val (.int (128 : Int32)), .val (.int (191 : Int32)), .val (.int (if (y2 &&& (255 : Int32)) < (128 : Int32) then (0 : Int32) else (if (191 : Int32) < (y2 &&& (255 : Int32)) then (0 : Int32) else (1 : Int32)))), .val (.int (((i + (1 : Int32)) + (1 : Int32)) + (1 : Int32))), .val (.int (y3 &&& (255 : Int32)))] [(.int (128 : Int32)), (.int (y3 &&& (255 : Int32)))])) tg_ → Steps p.tables e below (s₁.setTop (entryFrame m #[(.ref a), (.int i), (.int en)] 10)) tg_ := by
                    intro tg_ kt
                    refine k255 tg_ ?_
                    refine XS.ifNo X0.here hx rfl (hb hby d1_180) rfl ((if0 _ _).trans (feq hc180_256).1) ?_
                    show Steps p.tables e below (s₁.setTop (mkF m 183 #[.val (.ref a), .val (.int i), .val (.int en), .val (.int (y0 &&& (255 : Int32))), .val (.int (4 : Int32)), .val (.int (128 : Int32)), .val (.int (191 : Int32)), .val (.int (if (y2 &&& (255 : Int32)) < (128 : Int32) then (0 : Int32) else (if (191 : Int32) < (y2 &&& (255 : Int32)) then (0 : Int32) else (1 : Int32)))), .val (.int (((i + (1 : Int32)) + (1 : Int32)) + (1 : Int32))), .val (.int (y2 &&& (255 : Int32)))] [])) _
                    refine XS.iload X0.here hx rfl (hb hby d1_183) rfl ?_
                    show Steps p.tables e below (s₁.setTop (mkF m 185 #[.val (.ref a), .val (.int i), .val (.int en), .val (.int (y0 &&& (255 : Int32))), .val (.int (4 : Int32)), .val (.int (128 : Int32)), .val (.int (191 : Int32)), .val (.int (if (y2 &&& (255 : Int32)) < (128 : Int32) then (0 : Int32) else (if (191 : Int32) < (y2 &&& (255 : Int32)) then (0 : Int32) else (1 : Int32)))), .val (.int (((i + (1 : Int32)) + (1 : Int32)) + (1 : Int32))), .val (.int (y2 &&& (255 : Int32)))] [(.int (((i + (1 : Int32)) + (1 : Int32)) + (1 : Int32)))])) _
                    refine XS.iloadN X0.here hx rfl (hb hby d1_185) rfl ?_
                    show Steps p.tables e below (s₁.setTop (mkF m 186 #[.val (.ref a), .val (.int i), .val (.int en), .val (.int (y0 &&& (255 : Int32))), .val (.int (4 : Int32)), .val (.int (128 : Int32)), .val (.int (191 : Int32)), .val (.int (if (y2 &&& (255 : Int32)) < (128 : Int32) then (0 : Int32) else (if (191 : Int32) < (y2 &&& (255 : Int32)) then (0 : Int32) else (1 : Int32)))), .val (.int (((i + (1 : Int32)) + (1 : Int32)) + (1 : Int32))), .val (.int (y2 &&& (255 : Int32)))] [(.int i), (.int (((i + (1 : Int32)) + (1 : Int32)) + (1 : Int32)))])) _
                    refine XS.iload X0.here hx rfl (hb hby d1_186) rfl ?_
                    show Steps p.tables e below (s₁.setTop (mkF m 188 #[.val (.ref a), .val (.int i), .val (.int en), .val (.int (y0 &&& (255 : Int32))), .val (.int (4 : Int32)), .val (.int (128 : Int32)), .val (.int (191 : Int32)), .val (.int (if (y2 &&& (255 : Int32)) < (128 : Int32) then (0 : Int32) else (if (191 : Int32) < (y2 &&& (255 : Int32)) then (0 : Int32) else (1 : Int32)))), .val (.int (((i + (1 : Int32)) + (1 : Int32)) + (1 : Int32))), .val (.int (y2 &&& (255 : Int32)))] [(.int (4 : Int32)), (.int i), (.int (((i + (1 : Int32)) + (1 : Int32)) + (1 : Int32)))])) _
                    refine XS.iadd X0.here hx rfl (hb hby d1_188) rfl ?_
                    show Steps p.tables e below (s₁.setTop (mkF m 189 #[.val (.ref a), .val (.int i), .val (.int en), .val (.int (y0 &&& (255 : Int32))), .val (.int (4 : Int32)), .val (.int (128 : Int32)), .val (.int (191 : Int32)), .val (.int (if (y2 &&& (255 : Int32)) < (128 : Int32) then (0 : Int32) else (if (191 : Int32) < (y2 &&& (255 : Int32)) then (0 : Int32) else (1 : Int32)))), .val (.int (((i + (1 : Int32)) + (1 : Int32)) + (1 : Int32))), .val (.int (y2 &&& (255 : Int32)))] [(.int (i + (4 : Int32))), (.int (((i + (1 : Int32)) + (1 : Int32)) + (1 : Int32)))])) _
                    refine XS.icmpNo X0.here hx rfl (hb hby d1_189) rfl (tlt hc189_269).2.1 ?_
                    show Steps p.tables e below (s₁.setTop (mkF m 192 #[.val (.ref a), .val (.int i), .val (.int en), .val (.int (y0 &&& (255 : Int32))), .val (.int (4 : Int32)), .val (.int (128 : Int32)), .val (.int (191 : Int32)), .val (.int (if (y2 &&& (255 : Int32)) < (128 : Int32) then (0 : Int32) else (if (191 : Int32) < (y2 &&& (255 : Int32)) then (0 : Int32) else (1 : Int32)))), .val (.int (((i + (1 : Int32)) + (1 : Int32)) + (1 : Int32))), .val (.int (y2 &&& (255 : Int32)))] [])) _
                    refine XS.aloadN X0.here hx rfl (hb hby d1_192) rfl rfl ?_
                    show Steps p.tables e below (s₁.setTop (mkF m 193 #[.val (.ref a), .val (.int i), .val (.int en), .val (.int (y0 &&& (255 : Int32))), .val (.int (4 : Int32)), .val (.int (128 : Int32)), .val (.int (191 : Int32)), .val (.int (if (y2 &&& (255 : Int32)) < (128 : Int32) then (0 : Int32) else (if (191 : Int32) < (y2 &&& (255 : Int32)) then (0 : Int32) else (1 : Int32)))), .val (.int (((i + (1 : Int32)) + (1 : Int32)) + (1 : Int32))), .val (.int (y2 &&& (255 : Int32)))] [(.ref a)])) _
                    refine XS.iload X0.here hx rfl (hb hby d1_193) rfl ?_
                    show Steps p.tables e below (s₁.setTop (mkF m 195 #[.val (.ref a), .val (.int i), .val (.int en), .val (.int (y0 &&& (255 : Int32))), .val (.int (4 : Int32)), .val (.int (128 : Int32)), .val (.int (191 : Int32)), .val (.int (if (y2 &&& (255 : Int32)) < (128 : Int32) then (0 : Int32) else (if (191 : Int32) < (y2 &&& (255 : Int32)) then (0 : Int32) else (1 : Int32)))), .val (.int (((i + (1 : Int32)) + (1 : Int32)) + (1 : Int32))), .val (.int (y2 &&& (255 : Int32)))] [(.int (((i + (1 : Int32)) + (1 : Int32)) + (1 : Int32))), (.ref a)])) _
                    refine own_ldB X0 hx hZ e0 V_a (i := (ii + 3)) hj270 (by omega) hf3 (g := (mkF m 195 #[.val (.ref a), .val (.int i), .val (.int en), .val (.int (y0 &&& (255 : Int32))), .val (.int (4 : Int32)), .val (.int (128 : Int32)), .val (.int (191 : Int32)), .val (.int (if (y2 &&& (255 : Int32)) < (128 : Int32) then (0 : Int32) else (if (191 : Int32) < (y2 &&& (255 : Int32)) then (0 : Int32) else (1 : Int32)))), .val (.int (((i + (1 : Int32)) + (1 : Int32)) + (1 : Int32))), .val (.int (y2 &&& (255 : Int32)))] [(.int (((i + (1 : Int32)) + (1 : Int32)) + (1 : Int32))), (.ref a)])) rfl rfl (hb hby d1_195) _ ?_
                    show Steps p.tables e below (s₁.setTop (mkF m 196 #[.val (.ref a), .val (.int i), .val (.int en), .val (.int (y0 &&& (255 : Int32))), .val (.int (4 : Int32)), .val (.int (128 : Int32)), .val (.int (191 : Int32)), .val (.int (if (y2 &&& (255 : Int32)) < (128 : Int32) then (0 : Int32) else (if (191 : Int32) < (y2 &&& (255 : Int32)) then (0 : Int32) else (1 : Int32)))), .val (.int (((i + (1 : Int32)) + (1 : Int32)) + (1 : Int32))), .val (.int (y2 &&& (255 : Int32)))] [(.int y3)])) _
                    refine XS.sipush X0.here hx rfl (hb hby d1_196) ?_
                    show Steps p.tables e below (s₁.setTop (mkF m 199 #[.val (.ref a), .val (.int i), .val (.int en), .val (.int (y0 &&& (255 : Int32))), .val (.int (4 : Int32)), .val (.int (128 : Int32)), .val (.int (191 : Int32)), .val (.int (if (y2 &&& (255 : Int32)) < (128 : Int32) then (0 : Int32) else (if (191 : Int32) < (y2 &&& (255 : Int32)) then (0 : Int32) else (1 : Int32)))), .val (.int (((i + (1 : Int32)) + (1 : Int32)) + (1 : Int32))), .val (.int (y2 &&& (255 : Int32)))] [(.int (255 : Int32)), (.int y3)])) _
                    refine XS.iand X0.here hx rfl (hb hby d1_199) rfl ?_
                    show Steps p.tables e below (s₁.setTop (mkF m 200 #[.val (.ref a), .val (.int i), .val (.int en), .val (.int (y0 &&& (255 : Int32))), .val (.int (4 : Int32)), .val (.int (128 : Int32)), .val (.int (191 : Int32)), .val (.int (if (y2 &&& (255 : Int32)) < (128 : Int32) then (0 : Int32) else (if (191 : Int32) < (y2 &&& (255 : Int32)) then (0 : Int32) else (1 : Int32)))), .val (.int (((i + (1 : Int32)) + (1 : Int32)) + (1 : Int32))), .val (.int (y2 &&& (255 : Int32)))] [(.int (y3 &&& (255 : Int32)))])) _
                    refine XS.istore X0.here hx rfl (hb hby d1_200) rfl (l' := #[.val (.ref a), .val (.int i), .val (.int en), .val (.int (y0 &&& (255 : Int32))), .val (.int (4 : Int32)), .val (.int (128 : Int32)), .val (.int (191 : Int32)), .val (.int (if (y2 &&& (255 : Int32)) < (128 : Int32) then (0 : Int32) else (if (191 : Int32) < (y2 &&& (255 : Int32)) then (0 : Int32) else (1 : Int32)))), .val (.int (((i + (1 : Int32)) + (1 : Int32)) + (1 : Int32))), .val (.int (y3 &&& (255 : Int32)))]) rfl ?_
                    show Steps p.tables e below (s₁.setTop (mkF m 202 #[.val (.ref a), .val (.int i), .val (.int en), .val (.int (y0 &&& (255 : Int32))), .val (.int (4 : Int32)), .val (.int (128 : Int32)), .val (.int (191 : Int32)), .val (.int (if (y2 &&& (255 : Int32)) < (128 : Int32) then (0 : Int32) else (if (191 : Int32) < (y2 &&& (255 : Int32)) then (0 : Int32) else (1 : Int32)))), .val (.int (((i + (1 : Int32)) + (1 : Int32)) + (1 : Int32))), .val (.int (y3 &&& (255 : Int32)))] [])) _
                    refine XS.iload X0.here hx rfl (hb hby d1_202) rfl ?_
                    show Steps p.tables e below (s₁.setTop (mkF m 204 #[.val (.ref a), .val (.int i), .val (.int en), .val (.int (y0 &&& (255 : Int32))), .val (.int (4 : Int32)), .val (.int (128 : Int32)), .val (.int (191 : Int32)), .val (.int (if (y2 &&& (255 : Int32)) < (128 : Int32) then (0 : Int32) else (if (191 : Int32) < (y2 &&& (255 : Int32)) then (0 : Int32) else (1 : Int32)))), .val (.int (((i + (1 : Int32)) + (1 : Int32)) + (1 : Int32))), .val (.int (y3 &&& (255 : Int32)))] [(.int (y3 &&& (255 : Int32)))])) _
                    refine XS.iload X0.here hx rfl (hb hby d1_204) rfl ?_
                    show Steps p.tables e below (s₁.setTop (mkF m 206 #[.val (.ref a), .val (.int i), .val (.int en), .val (.int (y0 &&& (255 : Int32))), .val (.int (4 : Int32)), .val (.int (128 : Int32)), .val (.int (191 : Int32)), .val (.int (if (y2 &&& (255 : Int32)) < (128 : Int32) then (0 : Int32) else (if (191 : Int32) < (y2 &&& (255 : Int32)) then (0 : Int32) else (1 : Int32)))), .val (.int (((i + (1 : Int32)) + (1 : Int32)) + (1 : Int32))), .val (.int (y3 &&& (255 : Int32)))] [(.int (128 : Int32)), (.int (y3 &&& (255 : Int32)))])) _
                    exact kt
                  have k282 : ∀ tg_, Steps p.tables e below (s₁.setTop (mkF m 221 #[.val (.ref a), .val (.int i), .val (.int en), .val (.int (y0 &&& (255 : Int32))), .val (.int (4 : Int32)), .val (.int (128 : Int32)), .val (.int (191 : Int32)), .val (.int (if (y2 &&& (255 : Int32)) < (128 : Int32) then (0 : Int32) else (if (191 : Int32) < (y2 &&& (255 : Int32)) then (0 : Int32) else (1 : Int32)))), .val (.int (((i + (1 : Int32)) + (1 : Int32)) + (1 : Int32))), .val (.int (y3 &&& (255 : Int32)))] [(.int (if (y3 &&& (255 : Int32)) < (128 : Int32) then (0 : Int32) else (if (191 : Int32) < (y3 &&& (255 : Int32)) then (0 : Int32) else (1 : Int32))))])) tg_ → Steps p.tables e below (s₁.setTop (entryFrame m #[(.ref a), (.int i), (.int en)] 10)) tg_ := by
                    intro tg_ kt
                    refine k279 tg_ ?_
                    by_cases hj206_280 : (y3 &&& (255 : Int32)) < (128 : Int32)
                    · refine XS.icmpYes X0.here hx rfl (pc0 := 206) (pc' := 220) rfl (hb hby d1_206) rfl (tlt hj206_280).1 (by decide) (by decide) ?_
                      show Steps p.tables e below (s₁.setTop (mkF m 220 #[.val (.ref a), .val (.int i), .val (.int en), .val (.int (y0 &&& (255 : Int32))), .val (.int (4 : Int32)), .val (.int (128 : Int32)), .val (.int (191 : Int32)), .val (.int (if (y2 &&& (255 : Int32)) < (128 : Int32) then (0 : Int32) else (if (191 : Int32) < (y2 &&& (255 : Int32)) then (0 : Int32) else (1 : Int32)))), .val (.int (((i + (1 : Int32)) + (1 : Int32)) + (1 : Int32))), .val (.int (y3 &&& (255 : Int32)))] [])) _
                      refine XS.iconst X0.here hx rfl (hb hby d1_220) ?_
                      show Steps p.tables e below (s₁.setTop (mkF m 221 #[.val (.ref a), .val (.int i), .val (.int en), .val (.int (y0 &&& (255 : Int32))), .val (.int (4 : Int32)), .val (.int (128 : Int32)), .val (.int (191 : Int32)), .val (.int (if (y2 &&& (255 : Int32)) < (128 : Int32) then (0 : Int32) else (if (191 : Int32) < (y2 &&& (255 : Int32)) then (0 : Int32) else (1 : Int32)))), .val (.int (((i + (1 : Int32)) + (1 : Int32)) + (1 : Int32))), .val (.int (y3 &&& (255 : Int32)))] [(.int (0 : Int32))])) _
                      simpa only [if_pos hj206_280] using kt
                    · refine XS.icmpNo X0.here hx rfl (hb hby d1_206) rfl (flt hj206_280).1 ?_
                      show Steps p.tables e below (s₁.setTop (mkF m 209 #[.val (.ref a), .val (.int i), .val (.int en), .val (.int (y0 &&& (255 : Int32))), .val (.int (4 : Int32)), .val (.int (128 : Int32)), .val (.int (191 : Int32)), .val (.int (if (y2 &&& (255 : Int32)) < (128 : Int32) then (0 : Int32) else (if (191 : Int32) < (y2 &&& (255 : Int32)) then (0 : Int32) else (1 : Int32)))), .val (.int (((i + (1 : Int32)) + (1 : Int32)) + (1 : Int32))), .val (.int (y3 &&& (255 : Int32)))] [])) _
                      refine XS.iload X0.here hx rfl (hb hby d1_209) rfl ?_
                      show Steps p.tables e below (s₁.setTop (mkF m 211 #[.val (.ref a), .val (.int i), .val (.int en), .val (.int (y0 &&& (255 : Int32))), .val (.int (4 : Int32)), .val (.int (128 : Int32)), .val (.int (191 : Int32)), .val (.int (if (y2 &&& (255 : Int32)) < (128 : Int32) then (0 : Int32) else (if (191 : Int32) < (y2 &&& (255 : Int32)) then (0 : Int32) else (1 : Int32)))), .val (.int (((i + (1 : Int32)) + (1 : Int32)) + (1 : Int32))), .val (.int (y3 &&& (255 : Int32)))] [(.int (y3 &&& (255 : Int32)))])) _
                      refine XS.iload X0.here hx rfl (hb hby d1_211) rfl ?_
                      show Steps p.tables e below (s₁.setTop (mkF m 213 #[.val (.ref a), .val (.int i), .val (.int en), .val (.int (y0 &&& (255 : Int32))), .val (.int (4 : Int32)), .val (.int (128 : Int32)), .val (.int (191 : Int32)), .val (.int (if (y2 &&& (255 : Int32)) < (128 : Int32) then (0 : Int32) else (if (191 : Int32) < (y2 &&& (255 : Int32)) then (0 : Int32) else (1 : Int32)))), .val (.int (((i + (1 : Int32)) + (1 : Int32)) + (1 : Int32))), .val (.int (y3 &&& (255 : Int32)))] [(.int (191 : Int32)), (.int (y3 &&& (255 : Int32)))])) _
                      by_cases hj213_281 : (191 : Int32) < (y3 &&& (255 : Int32))
                      · refine XS.icmpYes X0.here hx rfl (pc0 := 213) (pc' := 220) rfl (hb hby d1_213) rfl (tlt hj213_281).2.2.1 (by decide) (by decide) ?_
                        show Steps p.tables e below (s₁.setTop (mkF m 220 #[.val (.ref a), .val (.int i), .val (.int en), .val (.int (y0 &&& (255 : Int32))), .val (.int (4 : Int32)), .val (.int (128 : Int32)), .val (.int (191 : Int32)), .val (.int (if (y2 &&& (255 : Int32)) < (128 : Int32) then (0 : Int32) else (if (191 : Int32) < (y2 &&& (255 : Int32)) then (0 : Int32) else (1 : Int32)))), .val (.int (((i + (1 : Int32)) + (1 : Int32)) + (1 : Int32))), .val (.int (y3 &&& (255 : Int32)))] [])) _
                        refine XS.iconst X0.here hx rfl (hb hby d1_220) ?_
                        show Steps p.tables e below (s₁.setTop (mkF m 221 #[.val (.ref a), .val (.int i), .val (.int en), .val (.int (y0 &&& (255 : Int32))), .val (.int (4 : Int32)), .val (.int (128 : Int32)), .val (.int (191 : Int32)), .val (.int (if (y2 &&& (255 : Int32)) < (128 : Int32) then (0 : Int32) else (if (191 : Int32) < (y2 &&& (255 : Int32)) then (0 : Int32) else (1 : Int32)))), .val (.int (((i + (1 : Int32)) + (1 : Int32)) + (1 : Int32))), .val (.int (y3 &&& (255 : Int32)))] [(.int (0 : Int32))])) _
                        simpa only [if_neg hj206_280, if_pos hj213_281] using kt
                      · refine XS.icmpNo X0.here hx rfl (hb hby d1_213) rfl (flt hj213_281).2.2.1 ?_
                        show Steps p.tables e below (s₁.setTop (mkF m 216 #[.val (.ref a), .val (.int i), .val (.int en), .val (.int (y0 &&& (255 : Int32))), .val (.int (4 : Int32)), .val (.int (128 : Int32)), .val (.int (191 : Int32)), .val (.int (if (y2 &&& (255 : Int32)) < (128 : Int32) then (0 : Int32) else (if (191 : Int32) < (y2 &&& (255 : Int32)) then (0 : Int32) else (1 : Int32)))), .val (.int (((i + (1 : Int32)) + (1 : Int32)) + (1 : Int32))), .val (.int (y3 &&& (255 : Int32)))] [])) _
                        refine XS.iconst X0.here hx rfl (hb hby d1_216) ?_
                        show Steps p.tables e below (s₁.setTop (mkF m 217 #[.val (.ref a), .val (.int i), .val (.int en), .val (.int (y0 &&& (255 : Int32))), .val (.int (4 : Int32)), .val (.int (128 : Int32)), .val (.int (191 : Int32)), .val (.int (if (y2 &&& (255 : Int32)) < (128 : Int32) then (0 : Int32) else (if (191 : Int32) < (y2 &&& (255 : Int32)) then (0 : Int32) else (1 : Int32)))), .val (.int (((i + (1 : Int32)) + (1 : Int32)) + (1 : Int32))), .val (.int (y3 &&& (255 : Int32)))] [(.int (1 : Int32))])) _
                        refine XS.goto X0.here hx rfl (pc0 := 217) (pc' := 221) rfl (hb hby d1_217) (by decide) (by decide) ?_
                        show Steps p.tables e below (s₁.setTop (mkF m 221 #[.val (.ref a), .val (.int i), .val (.int en), .val (.int (y0 &&& (255 : Int32))), .val (.int (4 : Int32)), .val (.int (128 : Int32)), .val (.int (191 : Int32)), .val (.int (if (y2 &&& (255 : Int32)) < (128 : Int32) then (0 : Int32) else (if (191 : Int32) < (y2 &&& (255 : Int32)) then (0 : Int32) else (1 : Int32)))), .val (.int (((i + (1 : Int32)) + (1 : Int32)) + (1 : Int32))), .val (.int (y3 &&& (255 : Int32)))] [(.int (1 : Int32))])) _
                        simpa only [if_neg hj206_280, if_neg hj213_281] using kt
                  have k283 : ∀ tg_, Steps p.tables e below (s₁.setTop (mkF m 180 #[.val (.ref a), .val (.int i), .val (.int en), .val (.int (y0 &&& (255 : Int32))), .val (.int (4 : Int32)), .val (.int (128 : Int32)), .val (.int (191 : Int32)), .val (.int (if (y3 &&& (255 : Int32)) < (128 : Int32) then (0 : Int32) else (if (191 : Int32) < (y3 &&& (255 : Int32)) then (0 : Int32) else (1 : Int32)))), .val (.int ((((i + (1 : Int32)) + (1 : Int32)) + (1 : Int32)) + (1 : Int32))), .val (.int (y3 &&& (255 : Int32)))] [(.int (if (y3 &&& (255 : Int32)) < (128 : Int32) then (0 : Int32) else (if (191 : Int32) < (y3 &&& (255 : Int32)) then (0 : Int32) else (1 : Int32))))])) tg_ → Steps p.tables e below (s₁.setTop (entryFrame m #[(.ref a), (.int i), (.int en)] 10)) tg_ := by
                    intro tg_ kt
                    refine k282 tg_ ?_
                    refine XS.istore X0.here hx rfl (hb hby d1_221) rfl (l' := #[.val (.ref a), .val (.int i), .val (.int en), .val (.int (y0 &&& (255 : Int32))), .val (.int (4 : Int32)), .val (.int (128 : Int32)), .val (.int (191 : Int32)), .val (.int (if (y3 &&& (255 : Int32)) < (128 : Int32) then (0 : Int32) else (if (191 : Int32) < (y3 &&& (255 : Int32)) then (0 : Int32) else (1 : Int32)))), .val (.int (((i + (1 : Int32)) + (1 : Int32)) + (1 : Int32))), .val (.int (y3 &&& (255 : Int32)))]) rfl ?_
                    show Steps p.tables e below (s₁.setTop (mkF m 223 #[.val (.ref a), .val (.int i), .val (.int en), .val (.int (y0 &&& (255 : Int32))), .val (.int (4 : Int32)), .val (.int (128 : Int32)), .val (.int (191 : Int32)), .val (.int (if (y3 &&& (255 : Int32)) < (128 : Int32) then (0 : Int32) else (if (191 : Int32) < (y3 &&& (255 : Int32)) then (0 : Int32) else (1 : Int32)))), .val (.int (((i + (1 : Int32)) + (1 : Int32)) + (1 : Int32))), .val (.int (y3 &&& (255 : Int32)))] [])) _
                    refine XS.sipush X0.here hx rfl (hb hby d1_223) ?_
                    show Steps p.tables e below (s₁.setTop (mkF m 226 #[.val (.ref a), .val (.int i), .val (.int en), .val (.int (y0 &&& (255 : Int32))), .val (.int (4 : Int32)), .val (.int (128 : Int32)), .val (.int (191 : Int32)), .val (.int (if (y3 &&& (255 : Int32)) < (128 : Int32) then (0 : Int32) else (if (191 : Int32) < (y3 &&& (255 : Int32)) then (0 : Int32) else (1 : Int32)))), .val (.int (((i + (1 : Int32)) + (1 : Int32)) + (1 : Int32))), .val (.int (y3 &&& (255 : Int32)))] [(.int (128 : Int32))])) _
                    refine XS.istore X0.here hx rfl (hb hby d1_226) rfl (l' := #[.val (.ref a), .val (.int i), .val (.int en), .val (.int (y0 &&& (255 : Int32))), .val (.int (4 : Int32)), .val (.int (128 : Int32)), .val (.int (191 : Int32)), .val (.int (if (y3 &&& (255 : Int32)) < (128 : Int32) then (0 : Int32) else (if (191 : Int32) < (y3 &&& (255 : Int32)) then (0 : Int32) else (1 : Int32)))), .val (.int (((i + (1 : Int32)) + (1 : Int32)) + (1 : Int32))), .val (.int (y3 &&& (255 : Int32)))]) rfl ?_
                    show Steps p.tables e below (s₁.setTop (mkF m 228 #[.val (.ref a), .val (.int i), .val (.int en), .val (.int (y0 &&& (255 : Int32))), .val (.int (4 : Int32)), .val (.int (128 : Int32)), .val (.int (191 : Int32)), .val (.int (if (y3 &&& (255 : Int32)) < (128 : Int32) then (0 : Int32) else (if (191 : Int32) < (y3 &&& (255 : Int32)) then (0 : Int32) else (1 : Int32)))), .val (.int (((i + (1 : Int32)) + (1 : Int32)) + (1 : Int32))), .val (.int (y3 &&& (255 : Int32)))] [])) _
                    refine XS.sipush X0.here hx rfl (hb hby d1_228) ?_
                    show Steps p.tables e below (s₁.setTop (mkF m 231 #[.val (.ref a), .val (.int i), .val (.int en), .val (.int (y0 &&& (255 : Int32))), .val (.int (4 : Int32)), .val (.int (128 : Int32)), .val (.int (191 : Int32)), .val (.int (if (y3 &&& (255 : Int32)) < (128 : Int32) then (0 : Int32) else (if (191 : Int32) < (y3 &&& (255 : Int32)) then (0 : Int32) else (1 : Int32)))), .val (.int (((i + (1 : Int32)) + (1 : Int32)) + (1 : Int32))), .val (.int (y3 &&& (255 : Int32)))] [(.int (191 : Int32))])) _
                    refine XS.istore X0.here hx rfl (hb hby d1_231) rfl (l' := #[.val (.ref a), .val (.int i), .val (.int en), .val (.int (y0 &&& (255 : Int32))), .val (.int (4 : Int32)), .val (.int (128 : Int32)), .val (.int (191 : Int32)), .val (.int (if (y3 &&& (255 : Int32)) < (128 : Int32) then (0 : Int32) else (if (191 : Int32) < (y3 &&& (255 : Int32)) then (0 : Int32) else (1 : Int32)))), .val (.int (((i + (1 : Int32)) + (1 : Int32)) + (1 : Int32))), .val (.int (y3 &&& (255 : Int32)))]) rfl ?_
                    show Steps p.tables e below (s₁.setTop (mkF m 233 #[.val (.ref a), .val (.int i), .val (.int en), .val (.int (y0 &&& (255 : Int32))), .val (.int (4 : Int32)), .val (.int (128 : Int32)), .val (.int (191 : Int32)), .val (.int (if (y3 &&& (255 : Int32)) < (128 : Int32) then (0 : Int32) else (if (191 : Int32) < (y3 &&& (255 : Int32)) then (0 : Int32) else (1 : Int32)))), .val (.int (((i + (1 : Int32)) + (1 : Int32)) + (1 : Int32))), .val (.int (y3 &&& (255 : Int32)))] [])) _
                    refine XS.iinc X0.here hx rfl (hb hby d1_233) rfl (l' := #[.val (.ref a), .val (.int i), .val (.int en), .val (.int (y0 &&& (255 : Int32))), .val (.int (4 : Int32)), .val (.int (128 : Int32)), .val (.int (191 : Int32)), .val (.int (if (y3 &&& (255 : Int32)) < (128 : Int32) then (0 : Int32) else (if (191 : Int32) < (y3 &&& (255 : Int32)) then (0 : Int32) else (1 : Int32)))), .val (.int ((((i + (1 : Int32)) + (1 : Int32)) + (1 : Int32)) + (1 : Int32))), .val (.int (y3 &&& (255 : Int32)))]) rfl ?_
                    show Steps p.tables e below (s₁.setTop (mkF m 236 #[.val (.ref a), .val (.int i), .val (.int en), .val (.int (y0 &&& (255 : Int32))), .val (.int (4 : Int32)), .val (.int (128 : Int32)), .val (.int (191 : Int32)), .val (.int (if (y3 &&& (255 : Int32)) < (128 : Int32) then (0 : Int32) else (if (191 : Int32) < (y3 &&& (255 : Int32)) then (0 : Int32) else (1 : Int32)))), .val (.int ((((i + (1 : Int32)) + (1 : Int32)) + (1 : Int32)) + (1 : Int32))), .val (.int (y3 &&& (255 : Int32)))] [])) _
                    refine XS.goto X0.here hx rfl (pc0 := 236) (pc' := 178) rfl (hb hby d1_236) (by decide) (by decide) ?_
                    show Steps p.tables e below (s₁.setTop (mkF m 178 #[.val (.ref a), .val (.int i), .val (.int en), .val (.int (y0 &&& (255 : Int32))), .val (.int (4 : Int32)), .val (.int (128 : Int32)), .val (.int (191 : Int32)), .val (.int (if (y3 &&& (255 : Int32)) < (128 : Int32) then (0 : Int32) else (if (191 : Int32) < (y3 &&& (255 : Int32)) then (0 : Int32) else (1 : Int32)))), .val (.int ((((i + (1 : Int32)) + (1 : Int32)) + (1 : Int32)) + (1 : Int32))), .val (.int (y3 &&& (255 : Int32)))] [])) _
                    refine XS.iload X0.here hx rfl (hb hby d1_178) rfl ?_
                    show Steps p.tables e below (s₁.setTop (mkF m 180 #[.val (.ref a), .val (.int i), .val (.int en), .val (.int (y0 &&& (255 : Int32))), .val (.int (4 : Int32)), .val (.int (128 : Int32)), .val (.int (191 : Int32)), .val (.int (if (y3 &&& (255 : Int32)) < (128 : Int32) then (0 : Int32) else (if (191 : Int32) < (y3 &&& (255 : Int32)) then (0 : Int32) else (1 : Int32)))), .val (.int ((((i + (1 : Int32)) + (1 : Int32)) + (1 : Int32)) + (1 : Int32))), .val (.int (y3 &&& (255 : Int32)))] [(.int (if (y3 &&& (255 : Int32)) < (128 : Int32) then (0 : Int32) else (if (191 : Int32) < (y3 &&& (255 : Int32)) then (0 : Int32) else (1 : Int32))))])) _
                    exact kt
                  by_cases hc180_284 : (if (y3 &&& (255 : Int32)) < (128 : Int32) then (0 : Int32) else (if (191 : Int32) < (y3 &&& (255 : Int32)) then (0 : Int32) else (1 : Int32))) = (0 : Int32)
                  · have k285 : ∀ tg_, Steps p.tables e below (s₁.setTop (mkF m 250 #[.val (.ref a), .val (.int i), .val (.int en), .val (.int (y0 &&& (255 : Int32))), .val (.int (4 : Int32)), .val (.int (128 : Int32)), .val (.int (191 : Int32)), .val (.int (if (y3 &&& (255 : Int32)) < (128 : Int32) then (0 : Int32) else (if (191 : Int32) < (y3 &&& (255 : Int32)) then (0 : Int32) else (1 : Int32)))), .val (.int ((((i + (1 : Int32)) + (1 : Int32)) + (1 : Int32)) + (1 : Int32))), .val (.int (y3 &&& (255 : Int32)))] [(.int (0 : Int32))])) tg_ → Steps p.tables e below (s₁.setTop (entryFrame m #[(.ref a), (.int i), (.int en)] 10)) tg_ := by
                      intro tg_ kt
                      refine k283 tg_ ?_
                      refine XS.ifYes X0.here hx rfl (pc0 := 180) (pc' := 239) rfl (hb hby d1_180) rfl ((if0 _ _).trans (teq hc180_284).1) (by decide) (by decide) ?_
                      show Steps p.tables e below (s₁.setTop (mkF m 239 #[.val (.ref a), .val (.int i), .val (.int en), .val (.int (y0 &&& (255 : Int32))), .val (.int (4 : Int32)), .val (.int (128 : Int32)), .val (.int (191 : Int32)), .val (.int (if (y3 &&& (255 : Int32)) < (128 : Int32) then (0 : Int32) else (if (191 : Int32) < (y3 &&& (255 : Int32)) then (0 : Int32) else (1 : Int32)))), .val (.int ((((i + (1 : Int32)) + (1 : Int32)) + (1 : Int32)) + (1 : Int32))), .val (.int (y3 &&& (255 : Int32)))] [])) _
                      refine XS.iload X0.here hx rfl (hb hby d1_239) rfl ?_
                      show Steps p.tables e below (s₁.setTop (mkF m 241 #[.val (.ref a), .val (.int i), .val (.int en), .val (.int (y0 &&& (255 : Int32))), .val (.int (4 : Int32)), .val (.int (128 : Int32)), .val (.int (191 : Int32)), .val (.int (if (y3 &&& (255 : Int32)) < (128 : Int32) then (0 : Int32) else (if (191 : Int32) < (y3 &&& (255 : Int32)) then (0 : Int32) else (1 : Int32)))), .val (.int ((((i + (1 : Int32)) + (1 : Int32)) + (1 : Int32)) + (1 : Int32))), .val (.int (y3 &&& (255 : Int32)))] [(.int (if (y3 &&& (255 : Int32)) < (128 : Int32) then (0 : Int32) else (if (191 : Int32) < (y3 &&& (255 : Int32)) then (0 : Int32) else (1 : Int32))))])) _
                      refine XS.ifYes X0.here hx rfl (pc0 := 241) (pc' := 249) rfl (hb hby d1_241) rfl ((if0 _ _).trans (teq hc180_284).1) (by decide) (by decide) ?_
                      show Steps p.tables e below (s₁.setTop (mkF m 249 #[.val (.ref a), .val (.int i), .val (.int en), .val (.int (y0 &&& (255 : Int32))), .val (.int (4 : Int32)), .val (.int (128 : Int32)), .val (.int (191 : Int32)), .val (.int (if (y3 &&& (255 : Int32)) < (128 : Int32) then (0 : Int32) else (if (191 : Int32) < (y3 &&& (255 : Int32)) then (0 : Int32) else (1 : Int32)))), .val (.int ((((i + (1 : Int32)) + (1 : Int32)) + (1 : Int32)) + (1 : Int32))), .val (.int (y3 &&& (255 : Int32)))] [])) _
                      refine XS.iconst X0.here hx rfl (hb hby d1_249) ?_
                      show Steps p.tables e below (s₁.setTop (mkF m 250 #[.val (.ref a), .val (.int i), .val (.int en), .val (.int (y0 &&& (255 : Int32))), .val (.int (4 : Int32)), .val (.int (128 : Int32)), .val (.int (191 : Int32)), .val (.int (if (y3 &&& (255 : Int32)) < (128 : Int32) then (0 : Int32) else (if (191 : Int32) < (y3 &&& (255 : Int32)) then (0 : Int32) else (1 : Int32)))), .val (.int ((((i + (1 : Int32)) + (1 : Int32)) + (1 : Int32)) + (1 : Int32))), .val (.int (y3 &&& (255 : Int32)))] [(.int (0 : Int32))])) _
                      exact kt
                    obtain ⟨fs, hr, hrun, hended, hW, hsame⟩ := X0.leave (v := some (.int (0 : Int32))) (fun h => by rw [Bd.returns] at h; cases h)
                    refine ⟨_, _, k285 _ (retI X0 hx Bd.returns (hb hby d1_250) hr), hrun, hended, _, _, rfl, ?_, ⟨_, rfl⟩, hW, hsame.mono (by decide) (by decide)⟩
                    show Q1 Z a i en ii f y0 y1 y2 y3 h0 n0 _ s₁.heap _
                    rw [e0]
                    exact ⟨(by rw [own_eq_own_seq]; rw [if_neg hc22_75, if_neg hc35_86, if_neg hc48_100, if_neg hc61_136, if_pos hc110_204, if_neg hc163_212, if_neg hc180_232, if_neg hc180_256, if_pos hc180_284]), N0, rfl⟩
                  · have hc189_299 : ¬ (((((i + (1 : Int32)) + (1 : Int32)) + (1 : Int32)) + (1 : Int32)) < (i + (4 : Int32))) := (by
                        have ar286 := rng32 i
                        have ar287 : (1 : Int32).toInt = 1 := by decide
                        have ar288 := rng32 (i + (1 : Int32))
                        first | have ar289 : (i + (1 : Int32)).toInt = i.toInt + 1 := (by have qw := c_iadd i (1 : Int32); omega) | (have ar289 := c_iadd i (1 : Int32); skip)
                        have ar290 := rng32 ((i + (1 : Int32)) + (1 : Int32))
                        first | have ar291 : ((i + (1 : Int32)) + (1 : Int32)).toInt = (i + (1 : Int32)).toInt + 1 := (by have qw := c_iadd (i + (1 : Int32)) (1 : Int32); omega) | (have ar291 := c_iadd (i + (1 : Int32)) (1 : Int32); skip)
                        have ar292 := rng32 (((i + (1 : Int32)) + (1 : Int32)) + (1 : Int32))
                        first | have ar293 : (((i + (1 : Int32)) + (1 : Int32)) + (1 : Int32)).toInt = ((i + (1 : Int32)) + (1 : Int32)).toInt + 1 := (by have qw := c_iadd ((i + (1 : Int32)) + (1 : Int32)) (1 : Int32); omega) | (have ar293 := c_iadd ((i + (1 : Int32)) + (1 : Int32)) (1 : Int32); skip)
                        have ar294 := rng32 ((((i + (1 : Int32)) + (1 : Int32)) + (1 : Int32)) + (1 : Int32))
                        first | have ar295 : ((((i + (1 : Int32)) + (1 : Int32)) + (1 : Int32)) + (1 : Int32)).toInt = (((i + (1 : Int32)) + (1 : Int32)) + (1 : Int32)).toInt + 1 := (by have qw := c_iadd (((i + (1 : Int32)) + (1 : Int32)) + (1 : Int32)) (1 : Int32); omega) | (have ar295 := c_iadd (((i + (1 : Int32)) + (1 : Int32)) + (1 : Int32)) (1 : Int32); skip)
                        have ar296 : (4 : Int32).toInt = 4 := by decide
                        have ar297 := rng32 (i + (4 : Int32))
                        first | have ar298 : (i + (4 : Int32)).toInt = i.toInt + 4 := (by have qw := c_iadd i (4 : Int32); omega) | (have ar298 := c_iadd i (4 : Int32); skip)
                        exact fun qq_ => absurd (Int32.lt_iff_toInt_lt.mp qq_) (by omega))
                    have k300 : ∀ tg_, Steps p.tables e below (s₁.setTop (mkF m 250 #[.val (.ref a), .val (.int i), .val (.int en), .val (.int (y0 &&& (255 : Int32))), .val (.int (4 : Int32)), .val (.int (128 : Int32)), .val (.int (191 : Int32)), .val (.int (if (y3 &&& (255 : Int32)) < (128 : Int32) then (0 : Int32) else (if (191 : Int32) < (y3 &&& (255 : Int32)) then (0 : Int32) else (1 : Int32)))), .val (.int ((((i + (1 : Int32)) + (1 : Int32)) + (1 : Int32)) + (1 : Int32))), .val (.int (y3 &&& (255 : Int32)))] [(.int (4 : Int32))])) tg_ → Steps p.tables e below (s₁.setTop (entryFrame m #[(.ref a), (.int i), (.int en)] 10)) tg_ := by
                      intro tg_ kt
                      refine k283 tg_ ?_
                      refine XS.ifNo X0.here hx rfl (hb hby d1_180) rfl ((if0 _ _).trans (feq hc180_284).1) ?_
                      show Steps p.tables e below (s₁.setTop (mkF m 183 #[.val (.ref a), .val (.int i), .val (.int en), .val (.int (y0 &&& (255 : Int32))), .val (.int (4 : Int32)), .val (.int (128 : Int32)), .val (.int (191 : Int32)), .val (.int (if (y3 &&& (255 : Int32)) < (128 : Int32) then (0 : Int32) else (if (191 : Int32) < (y3 &&& (255 : Int32)) then (0 : Int32) else (1 : Int32)))), .val (.int ((((i + (1 : Int32)) + (1 : Int32)) + (1 : Int32)) + (1 : Int32))), .val (.int (y3 &&& (255 : Int32)))] [])) _
                      refine XS.iload X0.here hx rfl (hb hby d1_183) rfl ?_
                      show Steps p.tables e below (s₁.setTop (mkF m 185 #[.val (.ref a), .val (.int i), .val (.int en), .val (.int (y0 &&& (255 : Int32))), .val (.int (4 : Int32)), .val (.int (128 : Int32)), .val (.int (191 : Int32)), .val (.int (if (y3 &&& (255 : Int32)) < (128 : Int32) then (0 : Int32) else (if (191 : Int32) < (y3 &&& (255 : Int32)) then (0 : Int32) else (1 : Int32)))), .val (.int ((((i + (1 : Int32)) + (1 : Int32)) + (1 : Int32)) + (1 : Int32))), .val (.int (y3 &&& (255 : Int32)))] [(.int ((((i + (1 : Int32)) + (1 : Int32)) + (1 : Int32)) + (1 : Int32)))])) _
                      refine XS.iloadN X0.here hx rfl (hb hby d1_185) rfl ?_
                      show Steps p.tables e below (s₁.setTop (mkF m 186 #[.val (.ref a), .val (.int i), .val (.int en), .val (.int (y0 &&& (255 : Int32))), .val (.int (4 : Int32)), .val (.int (128 : Int32)), .val (.int (191 : Int32)), .val (.int (if (y3 &&& (255 : Int32)) < (128 : Int32) then (0 : Int32) else (if (191 : Int32) < (y3 &&& (255 : Int32)) then (0 : Int32) else (1 : Int32)))), .val (.int ((((i + (1 : Int32)) + (1 : Int32)) + (1 : Int32)) + (1 : Int32))), .val (.int (y3 &&& (255 : Int32)))] [(.int i), (.int ((((i + (1 : Int32)) + (1 : Int32)) + (1 : Int32)) + (1 : Int32)))])) _
                      refine XS.iload X0.here hx rfl (hb hby d1_186) rfl ?_
                      show Steps p.tables e below (s₁.setTop (mkF m 188 #[.val (.ref a), .val (.int i), .val (.int en), .val (.int (y0 &&& (255 : Int32))), .val (.int (4 : Int32)), .val (.int (128 : Int32)), .val (.int (191 : Int32)), .val (.int (if (y3 &&& (255 : Int32)) < (128 : Int32) then (0 : Int32) else (if (191 : Int32) < (y3 &&& (255 : Int32)) then (0 : Int32) else (1 : Int32)))), .val (.int ((((i + (1 : Int32)) + (1 : Int32)) + (1 : Int32)) + (1 : Int32))), .val (.int (y3 &&& (255 : Int32)))] [(.int (4 : Int32)), (.int i), (.int ((((i + (1 : Int32)) + (1 : Int32)) + (1 : Int32)) + (1 : Int32)))])) _
                      refine XS.iadd X0.here hx rfl (hb hby d1_188) rfl ?_
                      show Steps p.tables e below (s₁.setTop (mkF m 189 #[.val (.ref a), .val (.int i), .val (.int en), .val (.int (y0 &&& (255 : Int32))), .val (.int (4 : Int32)), .val (.int (128 : Int32)), .val (.int (191 : Int32)), .val (.int (if (y3 &&& (255 : Int32)) < (128 : Int32) then (0 : Int32) else (if (191 : Int32) < (y3 &&& (255 : Int32)) then (0 : Int32) else (1 : Int32)))), .val (.int ((((i + (1 : Int32)) + (1 : Int32)) + (1 : Int32)) + (1 : Int32))), .val (.int (y3 &&& (255 : Int32)))] [(.int (i + (4 : Int32))), (.int ((((i + (1 : Int32)) + (1 : Int32)) + (1 : Int32)) + (1 : Int32)))])) _
                      refine XS.icmpYes X0.here hx rfl (pc0 := 189) (pc' := 239) rfl (hb hby d1_189) rfl (flt hc189_299).2.1 (by decide) (by decide) ?_
                      show Steps p.tables e below (s₁.setTop (mkF m 239 #[.val (.ref a), .val (.int i), .val (.int en), .val (.int (y0 &&& (255 : Int32))), .val (.int (4 : Int32)), .val (.int (128 : Int32)), .val (.int (191 : Int32)), .val (.int (if (y3 &&& (255 : Int32)) < (128 : Int32) then (0 : Int32) else (if (191 : Int32) < (y3 &&& (255 : Int32)) then (0 : Int32) else (1 : Int32)))), .val (.int ((((i + (1 : Int32)) + (1 : Int32)) + (1 : Int32)) + (1 : Int32))), .val (.int (y3 &&& (255 : Int32)))] [])) _
                      refine XS.iload X0.here hx rfl (hb hby d1_239) rfl ?_
                      show Steps p.tables e below (s₁.setTop (mkF m 241 #[.val (.ref a), .val (.int i), .val (.int en), .val (.int (y0 &&& (255 : Int32))), .val (.int (4 : Int32)), .val (.int (128 : Int32)), .val (.int (191 : Int32)), .val (.int (if (y3 &&& (255 : Int32)) < (128 : Int32) then (0 : Int32) else (if (191 : Int32) < (y3 &&& (255 : Int32)) then (0 : Int32) else (1 : Int32)))), .val (.int ((((i + (1 : Int32)) + (1 : Int32)) + (1 : Int32)) + (1 : Int32))), .val (.int (y3 &&& (255 : Int32)))] [(.int (if (y3 &&& (255 : Int32)) < (128 : Int32) then (0 : Int32) else (if (191 : Int32) < (y3 &&& (255 : Int32)) then (0 : Int32) else (1 : Int32))))])) _
                      refine XS.ifNo X0.here hx rfl (hb hby d1_241) rfl ((if0 _ _).trans (feq hc180_284).1) ?_
                      show Steps p.tables e below (s₁.setTop (mkF m 244 #[.val (.ref a), .val (.int i), .val (.int en), .val (.int (y0 &&& (255 : Int32))), .val (.int (4 : Int32)), .val (.int (128 : Int32)), .val (.int (191 : Int32)), .val (.int (if (y3 &&& (255 : Int32)) < (128 : Int32) then (0 : Int32) else (if (191 : Int32) < (y3 &&& (255 : Int32)) then (0 : Int32) else (1 : Int32)))), .val (.int ((((i + (1 : Int32)) + (1 : Int32)) + (1 : Int32)) + (1 : Int32))), .val (.int (y3 &&& (255 : Int32)))] [])) _
                      refine XS.iload X0.here hx rfl (hb hby d1_244) rfl ?_
                      show Steps p.tables e below (s₁.setTop (mkF m 246 #[.val (.ref a), .val (.int i), .val (.int en), .val (.int (y0 &&& (255 : Int32))), .val (.int (4 : Int32)), .val (.int (128 : Int32)), .val (.int (191 : Int32)), .val (.int (if (y3 &&& (255 : Int32)) < (128 : Int32) then (0 : Int32) else (if (191 : Int32) < (y3 &&& (255 : Int32)) then (0 : Int32) else (1 : Int32)))), .val (.int ((((i + (1 : Int32)) + (1 : Int32)) + (1 : Int32)) + (1 : Int32))), .val (.int (y3 &&& (255 : Int32)))] [(.int (4 : Int32))])) _
                      refine XS.goto X0.here hx rfl (pc0 := 246) (pc' := 250) rfl (hb hby d1_246) (by decide) (by decide) ?_
                      show Steps p.tables e below (s₁.setTop (mkF m 250 #[.val (.ref a), .val (.int i), .val (.int en), .val (.int (y0 &&& (255 : Int32))), .val (.int (4 : Int32)), .val (.int (128 : Int32)), .val (.int (191 : Int32)), .val (.int (if (y3 &&& (255 : Int32)) < (128 : Int32) then (0 : Int32) else (if (191 : Int32) < (y3 &&& (255 : Int32)) then (0 : Int32) else (1 : Int32)))), .val (.int ((((i + (1 : Int32)) + (1 : Int32)) + (1 : Int32)) + (1 : Int32))), .val (.int (y3 &&& (255 : Int32)))] [(.int (4 : Int32))])) _
                      exact kt
                    obtain ⟨fs, hr, hrun, hended, hW, hsame⟩ := X0.leave (v := some (.int (4 : Int32))) (fun h => by rw [Bd.returns] at h; cases h)
                    refine ⟨_, _, k300 _ (retI X0 hx Bd.returns (hb hby d1_250) hr), hrun, hended, _, _, rfl, ?_, ⟨_, rfl⟩, hW, hsame.mono (by decide) (by decide)⟩
                    show Q1 Z a i en ii f y0 y1 y2 y3 h0 n0 _ s₁.heap _
                    rw [e0]
                    exact ⟨(by rw [own_eq_own_seq]; rw [if_neg hc22_75, if_neg hc35_86, if_neg hc48_100, if_neg hc61_136, if_pos hc110_204, if_neg hc163_212, if_neg hc180_232, if_neg hc180_256, if_neg hc180_284]), N0, rfl⟩
          · have k301 : ∀ tg_, Steps p.tables e below (s₁.setTop (mkF m 163 #[.val (.ref a), .val (.int i), .val (.int en), .val (.int (y0 &&& (255 : Int32))), .val (.int (0 : Int32)), .val (.int (128 : Int32)), .val (.int (191 : Int32)), .unset, .unset, .unset] [(.int en), (.int (i + (0 : Int32)))])) tg_ → Steps p.tables e below (s₁.setTop (entryFrame m #[(.ref a), (.int i), (.int en)] 10)) tg_ := by
              intro tg_ kt
              refine k203 tg_ ?_
              refine XS.icmpYes X0.here hx rfl (pc0 := 110) (pc' := 155) rfl (hb hby d1_110) rfl (flt hc110_204).2.1 (by decide) (by decide) ?_
              show Steps p.tables e below (s₁.setTop (mkF m 155 #[.val (.ref a), .val (.int i), .val (.int en), .val (.int (y0 &&& (255 : Int32))), .unset, .val (.int (128 : Int32)), .val (.int (191 : Int32)), .unset, .unset, .unset] [])) _
              refine XS.iconst X0.here hx rfl (hb hby d1_155) ?_
              show Steps p.tables e below (s₁.setTop (mkF m 156 #[.val (.ref a), .val (.int i), .val (.int en), .val (.int (y0 &&& (255 : Int32))), .unset, .val (.int (128 : Int32)), .val (.int (191 : Int32)), .unset, .unset, .unset] [(.int (0 : Int32))])) _
              refine XS.istore X0.here hx rfl (hb hby d1_156) rfl (l' := #[.val (.ref a), .val (.int i), .val (.int en), .val (.int (y0 &&& (255 : Int32))), .val (.int (0 : Int32)), .val (.int (128 : Int32)), .val (.int (191 : Int32)), .unset, .unset, .unset]) rfl ?_
              show Steps p.tables e below (s₁.setTop (mkF m 158 #[.val (.ref a), .val (.int i), .val (.int en), .val (.int (y0 &&& (255 : Int32))), .val (.int (0 : Int32)), .val (.int (128 : Int32)), .val (.int (191 : Int32)), .unset, .unset, .unset] [])) _
              refine XS.iloadN X0.here hx rfl (hb hby d1_158) rfl ?_
              show Steps p.tables e below (s₁.setTop (mkF m 159 #[.val (.ref a), .val (.int i), .val (.int en), .val (.int (y0 &&& (255 : Int32))), .val (.int (0 : Int32)), .val (.int (128 : Int32)), .val (.int (191 : Int32)), .unset, .unset, .unset] [(.int i)])) _
              refine XS.iload X0.here hx rfl (hb hby d1_159) rfl ?_
              show Steps p.tables e below (s₁.setTop (mkF m 161 #[.val (.ref a), .val (.int i), .val (.int en), .val (.int (y0 &&& (255 : Int32))), .val (.int (0 : Int32)), .val (.int (128 : Int32)), .val (.int (191 : Int32)), .unset, .unset, .unset] [(.int (0 : Int32)), (.int i)])) _
              refine XS.iadd X0.here hx rfl (hb hby d1_161) rfl ?_
              show Steps p.tables e below (s₁.setTop (mkF m 162 #[.val (.ref a), .val (.int i), .val (.int en), .val (.int (y0 &&& (255 : Int32))), .val (.int (0 : Int32)), .val (.int (128 : Int32)), .val (.int (191 : Int32)), .unset, .unset, .unset] [(.int (i + (0 : Int32)))])) _
              refine XS.iloadN X0.here hx rfl (hb hby d1_162) rfl ?_
              show Steps p.tables e below (s₁.setTop (mkF m 163 #[.val (.ref a), .val (.int i), .val (.int en), .val (.int (y0 &&& (255 : Int32))), .val (.int (0 : Int32)), .val (.int (128 : Int32)), .val (.int (191 : Int32)), .unset, .unset, .unset] [(.int en), (.int (i + (0 : Int32)))])) _
              exact kt
            by_cases hc163_302 : en < (i + (0 : Int32))
            · have k303 : ∀ tg_, Steps p.tables e below (s₁.setTop (mkF m 250 #[.val (.ref a), .val (.int i), .val (.int en), .val (.int (y0 &&& (255 : Int32))), .val (.int (0 : Int32)), .val (.int (128 : Int32)), .val (.int (191 : Int32)), .val (.int (0 : Int32)), .val (.int (i + (1 : Int32))), .unset] [(.int (0 : Int32))])) tg_ → Steps p.tables e below (s₁.setTop (entryFrame m #[(.ref a), (.int i), (.int en)] 10)) tg_ := by
                intro tg_ kt
                refine k301 tg_ ?_
                refine XS.icmpYes X0.here hx rfl (pc0 := 163) (pc' := 170) rfl (hb hby d1_163) rfl (tlt hc163_302).2.2.1 (by decide) (by decide) ?_
                show Steps p.tables e below (s₁.setTop (mkF m 170 #[.val (.ref a), .val (.int i), .val (.int en), .val (.int (y0 &&& (255 : Int32))), .val (.int (0 : Int32)), .val (.int (128 : Int32)), .val (.int (191 : Int32)), .unset, .unset, .unset] [])) _
                refine XS.iconst X0.here hx rfl (hb hby d1_170) ?_
                show Steps p.tables e below (s₁.setTop (mkF m 171 #[.val (.ref a), .val (.int i), .val (.int en), .val (.int (y0 &&& (255 : Int32))), .val (.int (0 : Int32)), .val (.int (128 : Int32)), .val (.int (191 : Int32)), .unset, .unset, .unset] [(.int (0 : Int32))])) _
                refine XS.istore X0.here hx rfl (hb hby d1_171) rfl (l' := #[.val (.ref a), .val (.int i), .val (.int en), .val (.int (y0 &&& (255 : Int32))), .val (.int (0 : Int32)), .val (.int (128 : Int32)), .val (.int (191 : Int32)), .val (.int (0 : Int32)), .unset, .unset]) rfl ?_
                show Steps p.tables e below (s₁.setTop (mkF m 173 #[.val (.ref a), .val (.int i), .val (.int en), .val (.int (y0 &&& (255 : Int32))), .val (.int (0 : Int32)), .val (.int (128 : Int32)), .val (.int (191 : Int32)), .val (.int (0 : Int32)), .unset, .unset] [])) _
                refine XS.iloadN X0.here hx rfl (hb hby d1_173) rfl ?_
                show Steps p.tables e below (s₁.setTop (mkF m 174 #[.val (.ref a), .val (.int i), .val (.int en), .val (.int (y0 &&& (255 : Int32))), .val (.int (0 : Int32)), .val (.int (128 : Int32)), .val (.int (191 : Int32)), .val (.int (0 : Int32)), .unset, .unset] [(.int i)])) _
                refine XS.iconst X0.here hx rfl (hb hby d1_174) ?_
                show Steps p.tables e below (s₁.setTop (mkF m 175 #[.val (.ref a), .val (.int i), .val (.int en), .val (.int (y0 &&& (255 : Int32))), .val (.int (0 : Int32)), .val (.int (128 : Int32)), .val (.int (191 : Int32)), .val (.int (0 : Int32)), .unset, .unset] [(.int (1 : Int32)), (.int i)])) _
                refine XS.iadd X0.here hx rfl (hb hby d1_175) rfl ?_
                show Steps p.tables e below (s₁.setTop (mkF m 176 #[.val (.ref a), .val (.int i), .val (.int en), .val (.int (y0 &&& (255 : Int32))), .val (.int (0 : Int32)), .val (.int (128 : Int32)), .val (.int (191 : Int32)), .val (.int (0 : Int32)), .unset, .unset] [(.int (i + (1 : Int32)))])) _
                refine XS.istore X0.here hx rfl (hb hby d1_176) rfl (l' := #[.val (.ref a), .val (.int i), .val (.int en), .val (.int (y0 &&& (255 : Int32))), .val (.int (0 : Int32)), .val (.int (128 : Int32)), .val (.int (191 : Int32)), .val (.int (0 : Int32)), .val (.int (i + (1 : Int32))), .unset]) rfl ?_
                show Steps p.tables e below (s₁.setTop (mkF m 178 #[.val (.ref a), .val (.int i), .val (.int en), .val (.int (y0 &&& (255 : Int32))), .val (.int (0 : Int32)), .val (.int (128 : Int32)), .val (.int (191 : Int32)), .val (.int (0 : Int32)), .val (.int (i + (1 : Int32))), .unset] [])) _
                refine XS.iload X0.here hx rfl (hb hby d1_178) rfl ?_
                show Steps p.tables e below (s₁.setTop (mkF m 180 #[.val (.ref a), .val (.int i), .val (.int en), .val (.int (y0 &&& (255 : Int32))), .val (.int (0 : Int32)), .val (.int (128 : Int32)), .val (.int (191 : Int32)), .val (.int (0 : Int32)), .val (.int (i + (1 : Int32))), .unset] [(.int (0 : Int32))])) _
                refine XS.ifYes X0.here hx rfl (pc0 := 180) (pc' := 239) rfl (hb hby d1_180) rfl ((if0 _ _).trans (teq (by decide : (0 : Int32) = (0 : Int32))).1) (by decide) (by decide) ?_
                show Steps p.tables e below (s₁.setTop (mkF m 239 #[.val (.ref a), .val (.int i), .val (.int en), .val (.int (y0 &&& (255 : Int32))), .val (.int (0 : Int32)), .val (.int (128 : Int32)), .val (.int (191 : Int32)), .val (.int (0 : Int32)), .val (.int (i + (1 : Int32))), .unset] [])) _
                refine XS.iload X0.here hx rfl (hb hby d1_239) rfl ?_
                show Steps p.tables e below (s₁.setTop (mkF m 241 #[.val (.ref a), .val (.int i), .val (.int en), .val (.int (y0 &&& (255 : Int32))), .val (.int (0 : Int32)), .val (.int (128 : Int32)), .val (.int (191 : Int32)), .val (.int (0 : Int32)), .val (.int (i + (1 : Int32))), .unset] [(.int (0 : Int32))])) _
                refine XS.ifYes X0.here hx rfl (pc0 := 241) (pc' := 249) rfl (hb hby d1_241) rfl ((if0 _ _).trans (teq (by decide : (0 : Int32) = (0 : Int32))).1) (by decide) (by decide) ?_
                show Steps p.tables e below (s₁.setTop (mkF m 249 #[.val (.ref a), .val (.int i), .val (.int en), .val (.int (y0 &&& (255 : Int32))), .val (.int (0 : Int32)), .val (.int (128 : Int32)), .val (.int (191 : Int32)), .val (.int (0 : Int32)), .val (.int (i + (1 : Int32))), .unset] [])) _
                refine XS.iconst X0.here hx rfl (hb hby d1_249) ?_
                show Steps p.tables e below (s₁.setTop (mkF m 250 #[.val (.ref a), .val (.int i), .val (.int en), .val (.int (y0 &&& (255 : Int32))), .val (.int (0 : Int32)), .val (.int (128 : Int32)), .val (.int (191 : Int32)), .val (.int (0 : Int32)), .val (.int (i + (1 : Int32))), .unset] [(.int (0 : Int32))])) _
                exact kt
              obtain ⟨fs, hr, hrun, hended, hW, hsame⟩ := X0.leave (v := some (.int (0 : Int32))) (fun h => by rw [Bd.returns] at h; cases h)
              refine ⟨_, _, k303 _ (retI X0 hx Bd.returns (hb hby d1_250) hr), hrun, hended, _, _, rfl, ?_, ⟨_, rfl⟩, hW, hsame.mono (by decide) (by decide)⟩
              show Q1 Z a i en ii f y0 y1 y2 y3 h0 n0 _ s₁.heap _
              rw [e0]
              exact ⟨(by rw [own_eq_own_seq]; rw [if_neg hc22_75, if_neg hc35_86, if_neg hc48_100, if_neg hc61_136, if_neg hc110_204, if_pos hc163_302]), N0, rfl⟩
            · have hc189_311 : ¬ ((i + (1 : Int32)) < (i + (0 : Int32))) := (by
                  have ar304 := rng32 i
                  have ar305 : (1 : Int32).toInt = 1 := by decide
                  have ar306 := rng32 (i + (1 : Int32))
                  first | have ar307 : (i + (1 : Int32)).toInt = i.toInt + 1 := (by have qw := c_iadd i (1 : Int32); omega) | (have ar307 := c_iadd i (1 : Int32); skip)
                  have ar308 : (0 : Int32).toInt = 0 := by decide
                  have ar309 := rng32 (i + (0 : Int32))
                  first | have ar310 : (i + (0 : Int32)).toInt = i.toInt + 0 := (by have qw := c_iadd i (0 : Int32); omega) | (have ar310 := c_iadd i (0 : Int32); skip)
                  exact fun qq_ => absurd (Int32.lt_iff_toInt_lt.mp qq_) (by omega))
              have k312 : ∀ tg_, Steps p.tables e below (s₁.setTop (mkF m 250 #[.val (.ref a), .val (.int i), .val (.int en), .val (.int (y0 &&& (255 : Int32))), .val (.int (0 : Int32)), .val (.int (128 : Int32)), .val (.int (191 : Int32)), .val (.int (1 : Int32)), .val (.int (i + (1 : Int32))), .unset] [(.int (0 : Int32))])) tg_ → Steps p.tables e below (s₁.setTop (entryFrame m #[(.ref a), (.int i), (.int en)] 10)) tg_ := by
                intro tg_ kt
                refine k301 tg_ ?_
                refine XS.icmpNo X0.here hx rfl (hb hby d1_163) rfl (flt hc163_302).2.2.1 ?_
                show Steps p.tables e below (s₁.setTop (mkF m 166 #[.val (.ref a), .val (.int i), .val (.int en), .val (.int (y0 &&& (255 : Int32))), .val (.int (0 : Int32)), .val (.int (128 : Int32)), .val (.int (191 : Int32)), .unset, .unset, .unset] [])) _
                refine XS.iconst X0.here hx rfl (hb hby d1_166) ?_
                show Steps p.tables e below (s₁.setTop (mkF m 167 #[.val (.ref a), .val (.int i), .val (.int en), .val (.int (y0 &&& (255 : Int32))), .val (.int (0 : Int32)), .val (.int (128 : Int32)), .val (.int (191 : Int32)), .unset, .unset, .unset] [(.int (1 : Int32))])) _
                refine XS.goto X0.here hx rfl (pc0 := 167) (pc' := 171) rfl (hb hby d1_167) (by decide) (by decide) ?_
                show Steps p.tables e below (s₁.setTop (mkF m 171 #[.val (.ref a), .val (.int i), .val (.int en), .val (.int (y0 &&& (255 : Int32))), .val (.int (0 : Int32)), .val (.int (128 : Int32)), .val (.int (191 : Int32)), .unset, .unset, .unset] [(.int (1 : Int32))])) _
                refine XS.istore X0.here hx rfl (hb hby d1_171) rfl (l' := #[.val (.ref a), .val (.int i), .val (.int en), .val (.int (y0 &&& (255 : Int32))), .val (.int (0 : Int32)), .val (.int (128 : Int32)), .val (.int (191 : Int32)), .val (.int (1 : Int32)), .unset, .unset]) rfl ?_
                show Steps p.tables e below (s₁.setTop (mkF m 173 #[.val (.ref a), .val (.int i), .val (.int en), .val (.int (y0 &&& (255 : Int32))), .val (.int (0 : Int32)), .val (.int (128 : Int32)), .val (.int (191 : Int32)), .val (.int (1 : Int32)), .unset, .unset] [])) _
                refine XS.iloadN X0.here hx rfl (hb hby d1_173) rfl ?_
                show Steps p.tables e below (s₁.setTop (mkF m 174 #[.val (.ref a), .val (.int i), .val (.int en), .val (.int (y0 &&& (255 : Int32))), .val (.int (0 : Int32)), .val (.int (128 : Int32)), .val (.int (191 : Int32)), .val (.int (1 : Int32)), .unset, .unset] [(.int i)])) _
                refine XS.iconst X0.here hx rfl (hb hby d1_174) ?_
                show Steps p.tables e below (s₁.setTop (mkF m 175 #[.val (.ref a), .val (.int i), .val (.int en), .val (.int (y0 &&& (255 : Int32))), .val (.int (0 : Int32)), .val (.int (128 : Int32)), .val (.int (191 : Int32)), .val (.int (1 : Int32)), .unset, .unset] [(.int (1 : Int32)), (.int i)])) _
                refine XS.iadd X0.here hx rfl (hb hby d1_175) rfl ?_
                show Steps p.tables e below (s₁.setTop (mkF m 176 #[.val (.ref a), .val (.int i), .val (.int en), .val (.int (y0 &&& (255 : Int32))), .val (.int (0 : Int32)), .val (.int (128 : Int32)), .val (.int (191 : Int32)), .val (.int (1 : Int32)), .unset, .unset] [(.int (i + (1 : Int32)))])) _
                refine XS.istore X0.here hx rfl (hb hby d1_176) rfl (l' := #[.val (.ref a), .val (.int i), .val (.int en), .val (.int (y0 &&& (255 : Int32))), .val (.int (0 : Int32)), .val (.int (128 : Int32)), .val (.int (191 : Int32)), .val (.int (1 : Int32)), .val (.int (i + (1 : Int32))), .unset]) rfl ?_
                show Steps p.tables e below (s₁.setTop (mkF m 178 #[.val (.ref a), .val (.int i), .val (.int en), .val (.int (y0 &&& (255 : Int32))), .val (.int (0 : Int32)), .val (.int (128 : Int32)), .val (.int (191 : Int32)), .val (.int (1 : Int32)), .val (.int (i + (1 : Int32))), .unset] [])) _
                refine XS.iload X0.here hx rfl (hb hby d1_178) rfl ?_
                show Steps p.tables e below (s₁.setTop (mkF m 180 #[.val (.ref a), .val (.int i), .val (.int en), .val (.int (y0 &&& (255 : Int32))), .val (.int (0 : Int32)), .val (.int (128 : Int32)), .val (.int (191 : Int32)), .val (.int (1 : Int32)), .val (.int (i + (1 : Int32))), .unset] [(.int (1 : Int32))])) _
                refine XS.ifNo X0.here hx rfl (hb hby d1_180) rfl ((if0 _ _).trans (feq (by decide : ¬ ((1 : Int32) = (0 : Int32)))).1) ?_
                show Steps p.tables e below (s₁.setTop (mkF m 183 #[.val (.ref a), .val (.int i), .val (.int en), .val (.int (y0 &&& (255 : Int32))), .val (.int (0 : Int32)), .val (.int (128 : Int32)), .val (.int (191 : Int32)), .val (.int (1 : Int32)), .val (.int (i + (1 : Int32))), .unset] [])) _
                refine XS.iload X0.here hx rfl (hb hby d1_183) rfl ?_
                show Steps p.tables e below (s₁.setTop (mkF m 185 #[.val (.ref a), .val (.int i), .val (.int en), .val (.int (y0 &&& (255 : Int32))), .val (.int (0 : Int32)), .val (.int (128 : Int32)), .val (.int (191 : Int32)), .val (.int (1 : Int32)), .val (.int (i + (1 : Int32))), .unset] [(.int (i + (1 : Int32)))])) _
                refine XS.iloadN X0.here hx rfl (hb hby d1_185) rfl ?_
                show Steps p.tables e below (s₁.setTop (mkF m 186 #[.val (.ref a), .val (.int i), .val (.int en), .val (.int (y0 &&& (255 : Int32))), .val (.int (0 : Int32)), .val (.int (128 : Int32)), .val (.int (191 : Int32)), .val (.int (1 : Int32)), .val (.int (i + (1 : Int32))), .unset] [(.int i), (.int (i + (1 : Int32)))])) _
                refine XS.iload X0.here hx rfl (hb hby d1_186) rfl ?_
                show Steps p.tables e below (s₁.setTop (mkF m 188 #[.val (.ref a), .val (.int i), .val (.int en), .val (.int (y0 &&& (255 : Int32))), .val (.int (0 : Int32)), .val (.int (128 : Int32)), .val (.int (191 : Int32)), .val (.int (1 : Int32)), .val (.int (i + (1 : Int32))), .unset] [(.int (0 : Int32)), (.int i), (.int (i + (1 : Int32)))])) _
                refine XS.iadd X0.here hx rfl (hb hby d1_188) rfl ?_
                show Steps p.tables e below (s₁.setTop (mkF m 189 #[.val (.ref a), .val (.int i), .val (.int en), .val (.int (y0 &&& (255 : Int32))), .val (.int (0 : Int32)), .val (.int (128 : Int32)), .val (.int (191 : Int32)), .val (.int (1 : Int32)), .val (.int (i + (1 : Int32))), .unset] [(.int (i + (0 : Int32))), (.int (i + (1 : Int32)))])) _
                refine XS.icmpYes X0.here hx rfl (pc0 := 189) (pc' := 239) rfl (hb hby d1_189) rfl (flt hc189_311).2.1 (by decide) (by decide) ?_
                show Steps p.tables e below (s₁.setTop (mkF m 239 #[.val (.ref a), .val (.int i), .val (.int en), .val (.int (y0 &&& (255 : Int32))), .val (.int (0 : Int32)), .val (.int (128 : Int32)), .val (.int (191 : Int32)), .val (.int (1 : Int32)), .val (.int (i + (1 : Int32))), .unset] [])) _
                refine XS.iload X0.here hx rfl (hb hby d1_239) rfl ?_
                show Steps p.tables e below (s₁.setTop (mkF m 241 #[.val (.ref a), .val (.int i), .val (.int en), .val (.int (y0 &&& (255 : Int32))), .val (.int (0 : Int32)), .val (.int (128 : Int32)), .val (.int (191 : Int32)), .val (.int (1 : Int32)), .val (.int (i + (1 : Int32))), .unset] [(.int (1 : Int32))])) _
                refine XS.ifNo X0.here hx rfl (hb hby d1_241) rfl ((if0 _ _).trans (feq (by decide : ¬ ((1 : Int32) = (0 : Int32)))).1) ?_
                show Steps p.tables e below (s₁.setTop (mkF m 244 #[.val (.ref a), .val (.int i), .val (.int en), .val (.int (y0 &&& (255 : Int32))), .val (.int (0 : Int32)), .val (.int (128 : Int32)), .val (.int (191 : Int32)), .val (.int (1 : Int32)), .val (.int (i + (1 : Int32))), .unset] [])) _
                refine XS.iload X0.here hx rfl (hb hby d1_244) rfl ?_
                show Steps p.tables e below (s₁.setTop (mkF m 246 #[.val (.ref a), .val (.int i), .val (.int en), .val (.int (y0 &&& (255 : Int32))), .val (.int (0 : Int32)), .val (.int (128 : Int32)), .val (.int (191 : Int32)), .val (.int (1 : Int32)), .val (.int (i + (1 : Int32))), .unset] [(.int (0 : Int32))])) _
                refine XS.goto X0.here hx rfl (pc0 := 246) (pc' := 250) rfl (hb hby d1_246) (by decide) (by decide) ?_
                show Steps p.tables e below (s₁.setTop (mkF m 250 #[.val (.ref a), .val (.int i), .val (.int en), .val (.int (y0 &&& (255 : Int32))), .val (.int (0 : Int32)), .val (.int (128 : Int32)), .val (.int (191 : Int32)), .val (.int (1 : Int32)), .val (.int (i + (1 : Int32))), .unset] [(.int (0 : Int32))])) _
                exact kt
              obtain ⟨fs, hr, hrun, hended, hW, hsame⟩ := X0.leave (v := some (.int (0 : Int32))) (fun h => by rw [Bd.returns] at h; cases h)
              refine ⟨_, _, k312 _ (retI X0 hx Bd.returns (hb hby d1_250) hr), hrun, hended, _, _, rfl, ?_, ⟨_, rfl⟩, hW, hsame.mono (by decide) (by decide)⟩
              show Q1 Z a i en ii f y0 y1 y2 y3 h0 n0 _ s₁.heap _
              rw [e0]
              exact ⟨(by rw [own_eq_own_seq]; rw [if_neg hc22_75, if_neg hc35_86, if_neg hc48_100, if_neg hc61_136, if_neg hc110_204, if_neg hc163_302]), N0, rfl⟩

theorem own_bm (x : Int32) : ((x.toInt8.toInt32).toInt8.toInt32 &&& (255 : Int32)) = (x &&& (255 : Int32)) := by
  apply Int32.toInt_inj.mp
  have a := c_i2b x.toInt8.toInt32
  have b := c_i2b x
  rw [c_mask x 255 8 (by decide) (by decide), c_mask _ 255 8 (by decide) (by decide)]
  simp only [show (2 ^ 8 : Nat) = 256 from by decide, Int.cast_ofNat_Int]
  omega

def own_sz (L C1 C2 C3 I E P2 P3 P4 H224 H240 H248 G1 G2 G3 : Int) : Int := (if L < (128 : Int) then (if E < (I + 1) then (0 : Int) else (1 : Int)) else (if L < (194 : Int) then (if E < (I + 0) then (0 : Int) else (0 : Int)) else (if L < (224 : Int) then (if E < (I + 2) then (0 : Int) else (if (if C1 < (128 : Int) then (0 : Int) else (if (191 : Int) < C1 then (0 : Int) else (1 : Int))) = (0 : Int) then (0 : Int) else (2 : Int))) else (if L < (240 : Int) then (if E < (I + 3) then (0 : Int) else (if (if C1 < (if L = (224 : Int) then (160 : Int) else (128 : Int)) then (0 : Int) else (if (if L = (237 : Int) then (159 : Int) else (191 : Int)) < C1 then (0 : Int) else (1 : Int))) = (0 : Int) then (0 : Int) else (if (if C2 < (128 : Int) then (0 : Int) else (if (191 : Int) < C2 then (0 : Int) else (1 : Int))) = (0 : Int) then (0 : Int) else (3 : Int)))) else (if L < (245 : Int) then (if E < (I + 4) then (0 : Int) else (if (if C1 < (if L = (240 : Int) then (144 : Int) else (128 : Int)) then (0 : Int) else (if (if L = (244 : Int) then (143 : Int) else (191 : Int)) < C1 then (0 : Int) else (1 : Int))) = (0 : Int) then (0 : Int) else (if (if C2 < (128 : Int) then (0 : Int) else (if (191 : Int) < C2 then (0 : Int) else (1 : Int))) = (0 : Int) then (0 : Int) else (if (if C3 < (128 : Int) then (0 : Int) else (if (191 : Int) < C3 then (0 : Int) else (1 : Int))) = (0 : Int) then (0 : Int) else (4 : Int))))) else (if E < (I + 0) then (0 : Int) else (0 : Int)))))))
def own_xz (L C1 C2 C3 I E P2 P3 P4 H224 H240 H248 G1 G2 G3 : Int) : Int := (if L < (128 : Int) then (if (E - I) < (1 : Int) then (0 : Int) else (1 : Int)) else (if H224 = (192 : Int) then (if (E - I) < (2 : Int) then (0 : Int) else (if (if G1 = (128 : Int) then (1 : Int) else (0 : Int)) = (0 : Int) then (0 : Int) else (if P2 < (128 : Int) then (0 : Int) else (2 : Int)))) else (if H240 = (224 : Int) then (if (E - I) < (3 : Int) then (0 : Int) else (if (if G1 = (128 : Int) then (1 : Int) else (0 : Int)) = (0 : Int) then (0 : Int) else (if (if G2 = (128 : Int) then (1 : Int) else (0 : Int)) = (0 : Int) then (0 : Int) else (if P3 < (2048 : Int) then (0 : Int) else (if P3 < (55296 : Int) then (3 : Int) else (if (57343 : Int) < P3 then (3 : Int) else (0 : Int))))))) else (if H248 = (240 : Int) then (if (E - I) < (4 : Int) then (0 : Int) else (if (if G1 = (128 : Int) then (1 : Int) else (0 : Int)) = (0 : Int) then (0 : Int) else (if (if G2 = (128 : Int) then (1 : Int) else (0 : Int)) = (0 : Int) then (0 : Int) else (if (if G3 = (128 : Int) then (1 : Int) else (0 : Int)) = (0 : Int) then (0 : Int) else (if P4 < (65536 : Int) then (0 : Int) else (if (1114111 : Int) < P4 then (0 : Int) else (4 : Int))))))) else (0 : Int)))))
theorem own_b0 {a b : Prop} [Decidable a] [Decidable b] : ((if a then (0 : Int) else if b then 0 else 1) = 0) ↔ (a ∨ b) := by
  by_cases h : a
  · simp [h]
  · by_cases h' : b <;> simp [h, h']
theorem own_b1 {a : Prop} [Decidable a] : ((if a then (1 : Int) else 0) = 0) ↔ ¬ a := by
  by_cases h : a <;> simp [h]
set_option maxHeartbeats 4000000 in
theorem own_zz {L C1 C2 C3 I E P2 P3 P4 H224 H240 H248 G1 G2 G3 : Int} (l0 : 0 ≤ L) (l1 : L < 256) (a0 : 0 ≤ C1) (a1 : C1 < 256) (b0 : 0 ≤ C2) (b1 : C2 < 256) (d0 : 0 ≤ C3) (d1 : C3 < 256)
    (p2 : P2 = L % 32 * 64 + C1 % 64) (p3 : P3 = L % 16 * 4096 + C1 % 64 * 64 + C2 % 64) (p4 : P4 = L % 8 * 262144 + C1 % 64 * 4096 + C2 % 64 * 64 + C3 % 64)
    (g1 : H224 = L - L % 32) (g2 : H240 = L - L % 16) (g3 : H248 = L - L % 8) (k1 : G1 = C1 - C1 % 64) (k2 : G2 = C2 - C2 % 64) (k3 : G3 = C3 - C3 % 64) : own_sz L C1 C2 C3 I E P2 P3 P4 H224 H240 H248 G1 G2 G3 = own_xz L C1 C2 C3 I E P2 P3 P4 H224 H240 H248 G1 G2 G3 := by
  unfold own_sz own_xz
  simp only [own_b0, own_b1]
  by_cases h1 : L < 128
  · rw [if_pos h1, if_pos h1]; split <;> split <;> omega
  rw [if_neg h1, if_neg h1]
  by_cases h2 : L < 192
  · rw [if_pos (show L < 194 by omega), if_neg (show ¬ H224 = 192 by omega), if_neg (show ¬ H240 = 224 by omega), if_neg (show ¬ H248 = 240 by omega)]; split <;> rfl
  by_cases h3 : L < 224
  · rw [if_pos h3, if_pos (show H224 = 192 by omega)]
    by_cases q1 : E < I + 2
    · by_cases h194 : L < 194
      · rw [if_pos h194, if_pos (show E - I < 2 by omega)]; split <;> rfl
      · rw [if_neg h194, if_pos q1, if_pos (show E - I < 2 by omega)]
    · rw [if_neg (show ¬ E - I < 2 by omega)]
      by_cases h194 : L < 194
      · rw [if_pos h194]
        by_cases k : G1 = 128
        · rw [if_neg (show ¬ ¬ G1 = 128 from fun q => q k), if_pos (show P2 < 128 by omega)]; split <;> rfl
        · rw [if_pos k]; split <;> rfl
      · rw [if_neg h194, if_neg q1]
        by_cases k : G1 = 128
        · rw [if_neg (show ¬ (C1 < 128 ∨ 191 < C1) by omega), if_neg (show ¬ ¬ G1 = 128 from fun q => q k), if_neg (show ¬ P2 < 128 by omega)]
        · rw [if_pos (show C1 < 128 ∨ 191 < C1 by omega), if_pos k]
  rw [if_neg (show ¬ L < 194 by omega), if_neg h3, if_neg (show ¬ H224 = 192 by omega)]
  by_cases h4 : L < 240
  · rw [if_pos h4, if_pos (show H240 = 224 by omega)]
    by_cases q1 : E < I + 3
    · rw [if_pos q1, if_pos (show E - I < 3 by omega)]
    rw [if_neg q1, if_neg (show ¬ E - I < 3 by omega)]
    by_cases k : G1 = 128
    · rw [if_neg (show ¬ ¬ G1 = 128 from fun q => q k)]
      by_cases k' : G2 = 128
      · rw [if_neg (show ¬ ¬ G2 = 128 from fun q => q k'), if_neg (show ¬ (C2 < 128 ∨ 191 < C2) by omega)]
        by_cases z1 : L = 224
        · rw [if_pos z1, if_neg (show ¬ L = 237 by omega)]
          by_cases z2 : C1 < 160
          · rw [if_pos (Or.inl z2), if_pos (show P3 < 2048 by omega)]
          · rw [if_neg (show ¬ (C1 < 160 ∨ 191 < C1) by omega), if_neg (show ¬ P3 < 2048 by omega), if_pos (show P3 < 55296 by omega)]
        · rw [if_neg z1]
          by_cases z3 : L = 237
          · rw [if_pos z3]
            by_cases z2 : 159 < C1
            · rw [if_pos (Or.inr z2), if_neg (show ¬ P3 < 2048 by omega), if_neg (show ¬ P3 < 55296 by omega), if_neg (show ¬ 57343 < P3 by omega)]
            · rw [if_neg (show ¬ (C1 < 128 ∨ 159 < C1) by omega), if_neg (show ¬ P3 < 2048 by omega), if_pos (show P3 < 55296 by omega)]
          · rw [if_neg z3, if_neg (show ¬ (C1 < 128 ∨ 191 < C1) by omega), if_neg (show ¬ P3 < 2048 by omega)]
            by_cases z4 : L < 237
            · rw [if_pos (show P3 < 55296 by omega)]
            · rw [if_neg (show ¬ P3 < 55296 by omega), if_pos (show 57343 < P3 by omega)]
      · rw [if_pos k', if_pos (show C2 < 128 ∨ 191 < C2 by omega)]; exact ite_self _
    · rw [if_pos k]
      by_cases z1 : L = 224
      · rw [if_pos z1, if_neg (show ¬ L = 237 by omega), if_pos (show C1 < 160 ∨ 191 < C1 by omega)]
      · rw [if_neg z1]
        by_cases z3 : L = 237
        · rw [if_pos z3, if_pos (show C1 < 128 ∨ 159 < C1 by omega)]
        · rw [if_neg z3, if_pos (show C1 < 128 ∨ 191 < C1 by omega)]
  rw [if_neg h4, if_neg (show ¬ H240 = 224 by omega)]
  by_cases h6 : L < 248
  · rw [if_pos (show H248 = 240 by omega)]
    by_cases q1 : E < I + 4
    · rw [if_pos (show E - I < 4 by omega)]
      by_cases h5 : L < 245
      · rw [if_pos h5, if_pos q1]
      · rw [if_neg h5]; split <;> rfl
    rw [if_neg (show ¬ E - I < 4 by omega)]
    by_cases h5 : L < 245
    · rw [if_pos h5, if_neg q1]
      by_cases k : G1 = 128
      · rw [if_neg (show ¬ ¬ G1 = 128 from fun q => q k)]
        by_cases k' : G2 = 128
        · rw [if_neg (show ¬ ¬ G2 = 128 from fun q => q k'), if_neg (show ¬ (C2 < 128 ∨ 191 < C2) by omega)]
          by_cases k3 : G3 = 128
          · rw [if_neg (show ¬ ¬ G3 = 128 from fun q => q k3), if_neg (show ¬ (C3 < 128 ∨ 191 < C3) by omega)]
            by_cases z1 : L = 240
            · rw [if_pos z1, if_neg (show ¬ L = 244 by omega)]
              by_cases z2 : C1 < 144
              · rw [if_pos (Or.inl z2), if_pos (show P4 < 65536 by omega)]
              · rw [if_neg (show ¬ (C1 < 144 ∨ 191 < C1) by omega), if_neg (show ¬ P4 < 65536 by omega), if_neg (show ¬ 1114111 < P4 by omega)]
            · rw [if_neg z1]
              by_cases z3 : L = 244
              · rw [if_pos z3]
                by_cases z2 : 143 < C1
                · rw [if_pos (Or.inr z2), if_neg (show ¬ P4 < 65536 by omega), if_pos (show 1114111 < P4 by omega)]
                · rw [if_neg (show ¬ (C1 < 128 ∨ 143 < C1) by omega), if_neg (show ¬ P4 < 65536 by omega), if_neg (show ¬ 1114111 < P4 by omega)]
              · rw [if_neg z3, if_neg (show ¬ (C1 < 128 ∨ 191 < C1) by omega), if_neg (show ¬ P4 < 65536 by omega), if_neg (show ¬ 1114111 < P4 by omega)]
          · rw [if_pos k3, if_pos (show C3 < 128 ∨ 191 < C3 by omega)]; exact ite_self _
        · rw [if_pos k', if_pos (show C2 < 128 ∨ 191 < C2 by omega)]; exact ite_self _
      · rw [if_pos k]
        by_cases z1 : L = 240
        · rw [if_pos z1, if_neg (show ¬ L = 244 by omega), if_pos (show C1 < 144 ∨ 191 < C1 by omega)]
        · rw [if_neg z1]
          by_cases z3 : L = 244
          · rw [if_pos z3, if_pos (show C1 < 128 ∨ 143 < C1 by omega)]
          · rw [if_neg z3, if_pos (show C1 < 128 ∨ 191 < C1 by omega)]
    · rw [if_neg h5]
      have hp : 1114111 < P4 := by omega
      rw [if_neg (show ¬ P4 < 65536 by omega), if_pos hp]
      repeat' split
      all_goals rfl
  · rw [if_neg (show ¬ H248 = 240 by omega), if_neg (show ¬ L < 245 by omega)]; split <;> rfl
set_option maxHeartbeats 4000000 in
theorem own_pl {ld c1 c2 c3 i en : Int32} (hl : 0 ≤ ld.toInt ∧ ld.toInt < 256) (h1 : 0 ≤ c1.toInt ∧ c1.toInt < 256) (h2 : 0 ≤ c2.toInt ∧ c2.toInt < 256) (h3 : 0 ≤ c3.toInt ∧ c3.toInt < 256) (hi : 0 ≤ i.toInt ∧ i.toInt ≤ 1) (he : i.toInt ≤ en.toInt ∧ en.toInt ≤ 6) : (if ld < (128 : Int32) then (if en < (i + (1 : Int32)) then (0 : Int32) else (1 : Int32)) else (if ld < (194 : Int32) then (if en < (i + (0 : Int32)) then (0 : Int32) else (0 : Int32)) else (if ld < (224 : Int32) then (if en < (i + (2 : Int32)) then (0 : Int32) else (if (if c1 < (128 : Int32) then (0 : Int32) else (if (191 : Int32) < c1 then (0 : Int32) else (1 : Int32))) = (0 : Int32) then (0 : Int32) else (2 : Int32))) else (if ld < (240 : Int32) then (if en < (i + (3 : Int32)) then (0 : Int32) else (if (if c1 < (if ld = (224 : Int32) then (160 : Int32) else (128 : Int32)) then (0 : Int32) else (if (if ld = (237 : Int32) then (159 : Int32) else (191 : Int32)) < c1 then (0 : Int32) else (1 : Int32))) = (0 : Int32) then (0 : Int32) else (if (if c2 < (128 : Int32) then (0 : Int32) else (if (191 : Int32) < c2 then (0 : Int32) else (1 : Int32))) = (0 : Int32) then (0 : Int32) else (3 : Int32)))) else (if ld < (245 : Int32) then (if en < (i + (4 : Int32)) then (0 : Int32) else (if (if c1 < (if ld = (240 : Int32) then (144 : Int32) else (128 : Int32)) then (0 : Int32) else (if (if ld = (244 : Int32) then (143 : Int32) else (191 : Int32)) < c1 then (0 : Int32) else (1 : Int32))) = (0 : Int32) then (0 : Int32) else (if (if c2 < (128 : Int32) then (0 : Int32) else (if (191 : Int32) < c2 then (0 : Int32) else (1 : Int32))) = (0 : Int32) then (0 : Int32) else (if (if c3 < (128 : Int32) then (0 : Int32) else (if (191 : Int32) < c3 then (0 : Int32) else (1 : Int32))) = (0 : Int32) then (0 : Int32) else (4 : Int32))))) else (if en < (i + (0 : Int32)) then (0 : Int32) else (0 : Int32))))))) = (if ld < (128 : Int32) then (if (en - i) < (1 : Int32) then (0 : Int32) else (1 : Int32)) else (if (ld &&& (224 : Int32)) = (192 : Int32) then (if (en - i) < (2 : Int32) then (0 : Int32) else (if (if (c1 &&& (192 : Int32)) = (128 : Int32) then (1 : Int32) else (0 : Int32)) = (0 : Int32) then (0 : Int32) else (if (((ld &&& (31 : Int32)) <<< ((6 : Int32) &&& 31)) ||| (c1 &&& (63 : Int32))) < (128 : Int32) then (0 : Int32) else (2 : Int32)))) else (if (ld &&& (240 : Int32)) = (224 : Int32) then (if (en - i) < (3 : Int32) then (0 : Int32) else (if (if (c1 &&& (192 : Int32)) = (128 : Int32) then (1 : Int32) else (0 : Int32)) = (0 : Int32) then (0 : Int32) else (if (if (c2 &&& (192 : Int32)) = (128 : Int32) then (1 : Int32) else (0 : Int32)) = (0 : Int32) then (0 : Int32) else (if ((((ld &&& (15 : Int32)) <<< ((12 : Int32) &&& 31)) ||| ((c1 &&& (63 : Int32)) <<< ((6 : Int32) &&& 31))) ||| (c2 &&& (63 : Int32))) < (2048 : Int32) then (0 : Int32) else (if ((((ld &&& (15 : Int32)) <<< ((12 : Int32) &&& 31)) ||| ((c1 &&& (63 : Int32)) <<< ((6 : Int32) &&& 31))) ||| (c2 &&& (63 : Int32))) < (55296 : Int32) then (3 : Int32) else (if (57343 : Int32) < ((((ld &&& (15 : Int32)) <<< ((12 : Int32) &&& 31)) ||| ((c1 &&& (63 : Int32)) <<< ((6 : Int32) &&& 31))) ||| (c2 &&& (63 : Int32))) then (3 : Int32) else (0 : Int32))))))) else (if (ld &&& (248 : Int32)) = (240 : Int32) then (if (en - i) < (4 : Int32) then (0 : Int32) else (if (if (c1 &&& (192 : Int32)) = (128 : Int32) then (1 : Int32) else (0 : Int32)) = (0 : Int32) then (0 : Int32) else (if (if (c2 &&& (192 : Int32)) = (128 : Int32) then (1 : Int32) else (0 : Int32)) = (0 : Int32) then (0 : Int32) else (if (if (c3 &&& (192 : Int32)) = (128 : Int32) then (1 : Int32) else (0 : Int32)) = (0 : Int32) then (0 : Int32) else (if (((((ld &&& (7 : Int32)) <<< ((18 : Int32) &&& 31)) ||| ((c1 &&& (63 : Int32)) <<< ((12 : Int32) &&& 31))) ||| ((c2 &&& (63 : Int32)) <<< ((6 : Int32) &&& 31))) ||| (c3 &&& (63 : Int32))) < (65536 : Int32) then (0 : Int32) else (if (1114111 : Int32) < (((((ld &&& (7 : Int32)) <<< ((18 : Int32) &&& 31)) ||| ((c1 &&& (63 : Int32)) <<< ((12 : Int32) &&& 31))) ||| ((c2 &&& (63 : Int32)) <<< ((6 : Int32) &&& 31))) ||| (c3 &&& (63 : Int32))) then (0 : Int32) else (4 : Int32))))))) else (0 : Int32))))) := by
  have i0 : (i + (0 : Int32)).toInt = i.toInt + 0 := by
    have a := c_iadd i 0
    have b := rng32 (i + 0)
    have o : (0 : Int32).toInt = 0 := by decide
    omega
  have i1 : (i + (1 : Int32)).toInt = i.toInt + 1 := by
    have a := c_iadd i 1
    have b := rng32 (i + 1)
    have o : (1 : Int32).toInt = 1 := by decide
    omega
  have i2 : (i + (2 : Int32)).toInt = i.toInt + 2 := by
    have a := c_iadd i 2
    have b := rng32 (i + 2)
    have o : (2 : Int32).toInt = 2 := by decide
    omega
  have i3 : (i + (3 : Int32)).toInt = i.toInt + 3 := by
    have a := c_iadd i 3
    have b := rng32 (i + 3)
    have o : (3 : Int32).toInt = 3 := by decide
    omega
  have i4 : (i + (4 : Int32)).toInt = i.toInt + 4 := by
    have a := c_iadd i 4
    have b := rng32 (i + 4)
    have o : (4 : Int32).toInt = 4 := by decide
    omega
  have ei : (en - i).toInt = en.toInt - i.toInt := by
    have a := c_isub en i
    have b := rng32 (en - i)
    omega
  have q2 : (((ld &&& (31 : Int32)) <<< ((6 : Int32) &&& 31)) ||| (c1 &&& (63 : Int32))).toInt = ld.toInt % 32 * 64 + c1.toInt % 64 := by
    have ar313 := rng32 ld
    have ar314 : (31 : Int32).toInt = 31 := by decide
    have ar315 := c_mask ld (31 : Int32) 5 (by decide) (by decide)
    simp only [show (2 ^ 5 : Nat) = 32 from by decide, Int.cast_ofNat_Int] at ar315
    have ar316 := rng32 (ld &&& (31 : Int32))
    have ar317 := rng32 ((ld &&& (31 : Int32)) <<< ((6 : Int32) &&& 31))
    first | have ar318 : ((ld &&& (31 : Int32)) <<< ((6 : Int32) &&& 31)).toInt = (ld &&& (31 : Int32)).toInt * 64 := (by have qw := c_ishl (ld &&& (31 : Int32)) (6 : Int32) 6 (by decide); simp only [show (2 ^ 6 : Nat) = 64 from by decide, Int.cast_ofNat_Int] at qw; omega) | (have ar318 := c_ishl (ld &&& (31 : Int32)) (6 : Int32) 6 (by decide); simp only [show (2 ^ 6 : Nat) = 64 from by decide, Int.cast_ofNat_Int] at ar318)
    have ar319 := rng32 c1
    have ar320 : (63 : Int32).toInt = 63 := by decide
    have ar321 := c_mask c1 (63 : Int32) 6 (by decide) (by decide)
    simp only [show (2 ^ 6 : Nat) = 64 from by decide, Int.cast_ofNat_Int] at ar321
    have ar322 := rng32 (c1 &&& (63 : Int32))
    have ar323 := rng32 (((ld &&& (31 : Int32)) <<< ((6 : Int32) &&& 31)) ||| (c1 &&& (63 : Int32)))
    first | have ar324 : (((ld &&& (31 : Int32)) <<< ((6 : Int32) &&& 31)) ||| (c1 &&& (63 : Int32))).toInt = ((ld &&& (31 : Int32)) <<< ((6 : Int32) &&& 31)).toInt + (c1 &&& (63 : Int32)).toInt := (by have qw := c_or ((ld &&& (31 : Int32)) <<< ((6 : Int32) &&& 31)) (c1 &&& (63 : Int32)) 6 (by decide) 64 (by decide) (by omega) (by omega) (by omega); omega) | (have ar324 := c_or ((ld &&& (31 : Int32)) <<< ((6 : Int32) &&& 31)) (c1 &&& (63 : Int32)) 6 (by decide) 64 (by decide) (by omega) (by omega) (by omega); skip)
    omega
  have q3 : ((((ld &&& (15 : Int32)) <<< ((12 : Int32) &&& 31)) ||| ((c1 &&& (63 : Int32)) <<< ((6 : Int32) &&& 31))) ||| (c2 &&& (63 : Int32))).toInt = ld.toInt % 16 * 4096 + c1.toInt % 64 * 64 + c2.toInt % 64 := by
    have ar325 := rng32 ld
    have ar326 : (15 : Int32).toInt = 15 := by decide
    have ar327 := c_mask ld (15 : Int32) 4 (by decide) (by decide)
    simp only [show (2 ^ 4 : Nat) = 16 from by decide, Int.cast_ofNat_Int] at ar327
    have ar328 := rng32 (ld &&& (15 : Int32))
    have ar329 := rng32 ((ld &&& (15 : Int32)) <<< ((12 : Int32) &&& 31))
    first | have ar330 : ((ld &&& (15 : Int32)) <<< ((12 : Int32) &&& 31)).toInt = (ld &&& (15 : Int32)).toInt * 4096 := (by have qw := c_ishl (ld &&& (15 : Int32)) (12 : Int32) 12 (by decide); simp only [show (2 ^ 12 : Nat) = 4096 from by decide, Int.cast_ofNat_Int] at qw; omega) | (have ar330 := c_ishl (ld &&& (15 : Int32)) (12 : Int32) 12 (by decide); simp only [show (2 ^ 12 : Nat) = 4096 from by decide, Int.cast_ofNat_Int] at ar330)
    have ar331 := rng32 c1
    have ar332 : (63 : Int32).toInt = 63 := by decide
    have ar333 := c_mask c1 (63 : Int32) 6 (by decide) (by decide)
    simp only [show (2 ^ 6 : Nat) = 64 from by decide, Int.cast_ofNat_Int] at ar333
    have ar334 := rng32 (c1 &&& (63 : Int32))
    have ar335 := rng32 ((c1 &&& (63 : Int32)) <<< ((6 : Int32) &&& 31))
    first | have ar336 : ((c1 &&& (63 : Int32)) <<< ((6 : Int32) &&& 31)).toInt = (c1 &&& (63 : Int32)).toInt * 64 := (by have qw := c_ishl (c1 &&& (63 : Int32)) (6 : Int32) 6 (by decide); simp only [show (2 ^ 6 : Nat) = 64 from by decide, Int.cast_ofNat_Int] at qw; omega) | (have ar336 := c_ishl (c1 &&& (63 : Int32)) (6 : Int32) 6 (by decide); simp only [show (2 ^ 6 : Nat) = 64 from by decide, Int.cast_ofNat_Int] at ar336)
    have ar337 := rng32 (((ld &&& (15 : Int32)) <<< ((12 : Int32) &&& 31)) ||| ((c1 &&& (63 : Int32)) <<< ((6 : Int32) &&& 31)))
    first | have ar338 : (((ld &&& (15 : Int32)) <<< ((12 : Int32) &&& 31)) ||| ((c1 &&& (63 : Int32)) <<< ((6 : Int32) &&& 31))).toInt = ((ld &&& (15 : Int32)) <<< ((12 : Int32) &&& 31)).toInt + ((c1 &&& (63 : Int32)) <<< ((6 : Int32) &&& 31)).toInt := (by have qw := c_or ((ld &&& (15 : Int32)) <<< ((12 : Int32) &&& 31)) ((c1 &&& (63 : Int32)) <<< ((6 : Int32) &&& 31)) 12 (by decide) 4096 (by decide) (by omega) (by omega) (by omega); omega) | (have ar338 := c_or ((ld &&& (15 : Int32)) <<< ((12 : Int32) &&& 31)) ((c1 &&& (63 : Int32)) <<< ((6 : Int32) &&& 31)) 12 (by decide) 4096 (by decide) (by omega) (by omega) (by omega); skip)
    have ar339 := rng32 c2
    have ar340 := c_mask c2 (63 : Int32) 6 (by decide) (by decide)
    simp only [show (2 ^ 6 : Nat) = 64 from by decide, Int.cast_ofNat_Int] at ar340
    have ar341 := rng32 (c2 &&& (63 : Int32))
    have ar342 := rng32 ((((ld &&& (15 : Int32)) <<< ((12 : Int32) &&& 31)) ||| ((c1 &&& (63 : Int32)) <<< ((6 : Int32) &&& 31))) ||| (c2 &&& (63 : Int32)))
    first | have ar343 : ((((ld &&& (15 : Int32)) <<< ((12 : Int32) &&& 31)) ||| ((c1 &&& (63 : Int32)) <<< ((6 : Int32) &&& 31))) ||| (c2 &&& (63 : Int32))).toInt = (((ld &&& (15 : Int32)) <<< ((12 : Int32) &&& 31)) ||| ((c1 &&& (63 : Int32)) <<< ((6 : Int32) &&& 31))).toInt + (c2 &&& (63 : Int32)).toInt := (by have qw := c_or (((ld &&& (15 : Int32)) <<< ((12 : Int32) &&& 31)) ||| ((c1 &&& (63 : Int32)) <<< ((6 : Int32) &&& 31))) (c2 &&& (63 : Int32)) 6 (by decide) 64 (by decide) (by omega) (by omega) (by omega); omega) | (have ar343 := c_or (((ld &&& (15 : Int32)) <<< ((12 : Int32) &&& 31)) ||| ((c1 &&& (63 : Int32)) <<< ((6 : Int32) &&& 31))) (c2 &&& (63 : Int32)) 6 (by decide) 64 (by decide) (by omega) (by omega) (by omega); skip)
    omega
  have q4 : (((((ld &&& (7 : Int32)) <<< ((18 : Int32) &&& 31)) ||| ((c1 &&& (63 : Int32)) <<< ((12 : Int32) &&& 31))) ||| ((c2 &&& (63 : Int32)) <<< ((6 : Int32) &&& 31))) ||| (c3 &&& (63 : Int32))).toInt = ld.toInt % 8 * 262144 + c1.toInt % 64 * 4096 + c2.toInt % 64 * 64 + c3.toInt % 64 := by
    have ar344 := rng32 ld
    have ar345 : (7 : Int32).toInt = 7 := by decide
    have ar346 := c_mask ld (7 : Int32) 3 (by decide) (by decide)
    simp only [show (2 ^ 3 : Nat) = 8 from by decide, Int.cast_ofNat_Int] at ar346
    have ar347 := rng32 (ld &&& (7 : Int32))
    have ar348 := rng32 ((ld &&& (7 : Int32)) <<< ((18 : Int32) &&& 31))
    first | have ar349 : ((ld &&& (7 : Int32)) <<< ((18 : Int32) &&& 31)).toInt = (ld &&& (7 : Int32)).toInt * 262144 := (by have qw := c_ishl (ld &&& (7 : Int32)) (18 : Int32) 18 (by decide); simp only [show (2 ^ 18 : Nat) = 262144 from by decide, Int.cast_ofNat_Int] at qw; omega) | (have ar349 := c_ishl (ld &&& (7 : Int32)) (18 : Int32) 18 (by decide); simp only [show (2 ^ 18 : Nat) = 262144 from by decide, Int.cast_ofNat_Int] at ar349)
    have ar350 := rng32 c1
    have ar351 : (63 : Int32).toInt = 63 := by decide
    have ar352 := c_mask c1 (63 : Int32) 6 (by decide) (by decide)
    simp only [show (2 ^ 6 : Nat) = 64 from by decide, Int.cast_ofNat_Int] at ar352
    have ar353 := rng32 (c1 &&& (63 : Int32))
    have ar354 := rng32 ((c1 &&& (63 : Int32)) <<< ((12 : Int32) &&& 31))
    first | have ar355 : ((c1 &&& (63 : Int32)) <<< ((12 : Int32) &&& 31)).toInt = (c1 &&& (63 : Int32)).toInt * 4096 := (by have qw := c_ishl (c1 &&& (63 : Int32)) (12 : Int32) 12 (by decide); simp only [show (2 ^ 12 : Nat) = 4096 from by decide, Int.cast_ofNat_Int] at qw; omega) | (have ar355 := c_ishl (c1 &&& (63 : Int32)) (12 : Int32) 12 (by decide); simp only [show (2 ^ 12 : Nat) = 4096 from by decide, Int.cast_ofNat_Int] at ar355)
    have ar356 := rng32 (((ld &&& (7 : Int32)) <<< ((18 : Int32) &&& 31)) ||| ((c1 &&& (63 : Int32)) <<< ((12 : Int32) &&& 31)))
    first | have ar357 : (((ld &&& (7 : Int32)) <<< ((18 : Int32) &&& 31)) ||| ((c1 &&& (63 : Int32)) <<< ((12 : Int32) &&& 31))).toInt = ((ld &&& (7 : Int32)) <<< ((18 : Int32) &&& 31)).toInt + ((c1 &&& (63 : Int32)) <<< ((12 : Int32) &&& 31)).toInt := (by have qw := c_or ((ld &&& (7 : Int32)) <<< ((18 : Int32) &&& 31)) ((c1 &&& (63 : Int32)) <<< ((12 : Int32) &&& 31)) 18 (by decide) 262144 (by decide) (by omega) (by omega) (by omega); omega) | (have ar357 := c_or ((ld &&& (7 : Int32)) <<< ((18 : Int32) &&& 31)) ((c1 &&& (63 : Int32)) <<< ((12 : Int32) &&& 31)) 18 (by decide) 262144 (by decide) (by omega) (by omega) (by omega); skip)
    have ar358 := rng32 c2
    have ar359 := c_mask c2 (63 : Int32) 6 (by decide) (by decide)
    simp only [show (2 ^ 6 : Nat) = 64 from by decide, Int.cast_ofNat_Int] at ar359
    have ar360 := rng32 (c2 &&& (63 : Int32))
    have ar361 := rng32 ((c2 &&& (63 : Int32)) <<< ((6 : Int32) &&& 31))
    first | have ar362 : ((c2 &&& (63 : Int32)) <<< ((6 : Int32) &&& 31)).toInt = (c2 &&& (63 : Int32)).toInt * 64 := (by have qw := c_ishl (c2 &&& (63 : Int32)) (6 : Int32) 6 (by decide); simp only [show (2 ^ 6 : Nat) = 64 from by decide, Int.cast_ofNat_Int] at qw; omega) | (have ar362 := c_ishl (c2 &&& (63 : Int32)) (6 : Int32) 6 (by decide); simp only [show (2 ^ 6 : Nat) = 64 from by decide, Int.cast_ofNat_Int] at ar362)
    have ar363 := rng32 ((((ld &&& (7 : Int32)) <<< ((18 : Int32) &&& 31)) ||| ((c1 &&& (63 : Int32)) <<< ((12 : Int32) &&& 31))) ||| ((c2 &&& (63 : Int32)) <<< ((6 : Int32) &&& 31)))
    first | have ar364 : ((((ld &&& (7 : Int32)) <<< ((18 : Int32) &&& 31)) ||| ((c1 &&& (63 : Int32)) <<< ((12 : Int32) &&& 31))) ||| ((c2 &&& (63 : Int32)) <<< ((6 : Int32) &&& 31))).toInt = (((ld &&& (7 : Int32)) <<< ((18 : Int32) &&& 31)) ||| ((c1 &&& (63 : Int32)) <<< ((12 : Int32) &&& 31))).toInt + ((c2 &&& (63 : Int32)) <<< ((6 : Int32) &&& 31)).toInt := (by have qw := c_or (((ld &&& (7 : Int32)) <<< ((18 : Int32) &&& 31)) ||| ((c1 &&& (63 : Int32)) <<< ((12 : Int32) &&& 31))) ((c2 &&& (63 : Int32)) <<< ((6 : Int32) &&& 31)) 12 (by decide) 4096 (by decide) (by omega) (by omega) (by omega); omega) | (have ar364 := c_or (((ld &&& (7 : Int32)) <<< ((18 : Int32) &&& 31)) ||| ((c1 &&& (63 : Int32)) <<< ((12 : Int32) &&& 31))) ((c2 &&& (63 : Int32)) <<< ((6 : Int32) &&& 31)) 12 (by decide) 4096 (by decide) (by omega) (by omega) (by omega); skip)
    have ar365 := rng32 c3
    have ar366 := c_mask c3 (63 : Int32) 6 (by decide) (by decide)
    simp only [show (2 ^ 6 : Nat) = 64 from by decide, Int.cast_ofNat_Int] at ar366
    have ar367 := rng32 (c3 &&& (63 : Int32))
    have ar368 := rng32 (((((ld &&& (7 : Int32)) <<< ((18 : Int32) &&& 31)) ||| ((c1 &&& (63 : Int32)) <<< ((12 : Int32) &&& 31))) ||| ((c2 &&& (63 : Int32)) <<< ((6 : Int32) &&& 31))) ||| (c3 &&& (63 : Int32)))
    first | have ar369 : (((((ld &&& (7 : Int32)) <<< ((18 : Int32) &&& 31)) ||| ((c1 &&& (63 : Int32)) <<< ((12 : Int32) &&& 31))) ||| ((c2 &&& (63 : Int32)) <<< ((6 : Int32) &&& 31))) ||| (c3 &&& (63 : Int32))).toInt = ((((ld &&& (7 : Int32)) <<< ((18 : Int32) &&& 31)) ||| ((c1 &&& (63 : Int32)) <<< ((12 : Int32) &&& 31))) ||| ((c2 &&& (63 : Int32)) <<< ((6 : Int32) &&& 31))).toInt + (c3 &&& (63 : Int32)).toInt := (by have qw := c_or ((((ld &&& (7 : Int32)) <<< ((18 : Int32) &&& 31)) ||| ((c1 &&& (63 : Int32)) <<< ((12 : Int32) &&& 31))) ||| ((c2 &&& (63 : Int32)) <<< ((6 : Int32) &&& 31))) (c3 &&& (63 : Int32)) 6 (by decide) 64 (by decide) (by omega) (by omega) (by omega); omega) | (have ar369 := c_or ((((ld &&& (7 : Int32)) <<< ((18 : Int32) &&& 31)) ||| ((c1 &&& (63 : Int32)) <<< ((12 : Int32) &&& 31))) ||| ((c2 &&& (63 : Int32)) <<< ((6 : Int32) &&& 31))) (c3 &&& (63 : Int32)) 6 (by decide) 64 (by decide) (by omega) (by omega) (by omega); skip)
    omega
  have e1 : ((if ld < (128 : Int32) then (if en < (i + (1 : Int32)) then (0 : Int32) else (1 : Int32)) else (if ld < (194 : Int32) then (if en < (i + (0 : Int32)) then (0 : Int32) else (0 : Int32)) else (if ld < (224 : Int32) then (if en < (i + (2 : Int32)) then (0 : Int32) else (if (if c1 < (128 : Int32) then (0 : Int32) else (if (191 : Int32) < c1 then (0 : Int32) else (1 : Int32))) = (0 : Int32) then (0 : Int32) else (2 : Int32))) else (if ld < (240 : Int32) then (if en < (i + (3 : Int32)) then (0 : Int32) else (if (if c1 < (if ld = (224 : Int32) then (160 : Int32) else (128 : Int32)) then (0 : Int32) else (if (if ld = (237 : Int32) then (159 : Int32) else (191 : Int32)) < c1 then (0 : Int32) else (1 : Int32))) = (0 : Int32) then (0 : Int32) else (if (if c2 < (128 : Int32) then (0 : Int32) else (if (191 : Int32) < c2 then (0 : Int32) else (1 : Int32))) = (0 : Int32) then (0 : Int32) else (3 : Int32)))) else (if ld < (245 : Int32) then (if en < (i + (4 : Int32)) then (0 : Int32) else (if (if c1 < (if ld = (240 : Int32) then (144 : Int32) else (128 : Int32)) then (0 : Int32) else (if (if ld = (244 : Int32) then (143 : Int32) else (191 : Int32)) < c1 then (0 : Int32) else (1 : Int32))) = (0 : Int32) then (0 : Int32) else (if (if c2 < (128 : Int32) then (0 : Int32) else (if (191 : Int32) < c2 then (0 : Int32) else (1 : Int32))) = (0 : Int32) then (0 : Int32) else (if (if c3 < (128 : Int32) then (0 : Int32) else (if (191 : Int32) < c3 then (0 : Int32) else (1 : Int32))) = (0 : Int32) then (0 : Int32) else (4 : Int32))))) else (if en < (i + (0 : Int32)) then (0 : Int32) else (0 : Int32)))))))).toInt = own_sz (ld.toInt) (c1.toInt) (c2.toInt) (c3.toInt) (i.toInt) (en.toInt) ((((ld &&& (31 : Int32)) <<< ((6 : Int32) &&& 31)) ||| (c1 &&& (63 : Int32))).toInt) (((((ld &&& (15 : Int32)) <<< ((12 : Int32) &&& 31)) ||| ((c1 &&& (63 : Int32)) <<< ((6 : Int32) &&& 31))) ||| (c2 &&& (63 : Int32))).toInt) ((((((ld &&& (7 : Int32)) <<< ((18 : Int32) &&& 31)) ||| ((c1 &&& (63 : Int32)) <<< ((12 : Int32) &&& 31))) ||| ((c2 &&& (63 : Int32)) <<< ((6 : Int32) &&& 31))) ||| (c3 &&& (63 : Int32))).toInt) ((ld &&& (224 : Int32)).toInt) ((ld &&& (240 : Int32)).toInt) ((ld &&& (248 : Int32)).toInt) ((c1 &&& (192 : Int32)).toInt) ((c2 &&& (192 : Int32)).toInt) ((c3 &&& (192 : Int32)).toInt) := by
    unfold own_sz
    simp only [apply_ite Int32.toInt, Int32.lt_iff_toInt_lt, ← Int32.toInt_inj, i0, i1, i2, i3, i4, ei, show (0 : Int32).toInt = 0 from by decide, show (1 : Int32).toInt = 1 from by decide, show (2 : Int32).toInt = 2 from by decide, show (3 : Int32).toInt = 3 from by decide, show (4 : Int32).toInt = 4 from by decide, show (6 : Int32).toInt = 6 from by decide, show (7 : Int32).toInt = 7 from by decide, show (12 : Int32).toInt = 12 from by decide, show (15 : Int32).toInt = 15 from by decide, show (18 : Int32).toInt = 18 from by decide, show (31 : Int32).toInt = 31 from by decide, show (63 : Int32).toInt = 63 from by decide, show (128 : Int32).toInt = 128 from by decide, show (143 : Int32).toInt = 143 from by decide, show (144 : Int32).toInt = 144 from by decide, show (159 : Int32).toInt = 159 from by decide, show (160 : Int32).toInt = 160 from by decide, show (191 : Int32).toInt = 191 from by decide, show (192 : Int32).toInt = 192 from by decide, show (194 : Int32).toInt = 194 from by decide, show (224 : Int32).toInt = 224 from by decide, show (237 : Int32).toInt = 237 from by decide, show (240 : Int32).toInt = 240 from by decide, show (244 : Int32).toInt = 244 from by decide, show (245 : Int32).toInt = 245 from by decide, show (248 : Int32).toInt = 248 from by decide, show (2048 : Int32).toInt = 2048 from by decide, show (55296 : Int32).toInt = 55296 from by decide, show (57343 : Int32).toInt = 57343 from by decide, show (65536 : Int32).toInt = 65536 from by decide, show (1114111 : Int32).toInt = 1114111 from by decide]
  have e2 : ((if ld < (128 : Int32) then (if (en - i) < (1 : Int32) then (0 : Int32) else (1 : Int32)) else (if (ld &&& (224 : Int32)) = (192 : Int32) then (if (en - i) < (2 : Int32) then (0 : Int32) else (if (if (c1 &&& (192 : Int32)) = (128 : Int32) then (1 : Int32) else (0 : Int32)) = (0 : Int32) then (0 : Int32) else (if (((ld &&& (31 : Int32)) <<< ((6 : Int32) &&& 31)) ||| (c1 &&& (63 : Int32))) < (128 : Int32) then (0 : Int32) else (2 : Int32)))) else (if (ld &&& (240 : Int32)) = (224 : Int32) then (if (en - i) < (3 : Int32) then (0 : Int32) else (if (if (c1 &&& (192 : Int32)) = (128 : Int32) then (1 : Int32) else (0 : Int32)) = (0 : Int32) then (0 : Int32) else (if (if (c2 &&& (192 : Int32)) = (128 : Int32) then (1 : Int32) else (0 : Int32)) = (0 : Int32) then (0 : Int32) else (if ((((ld &&& (15 : Int32)) <<< ((12 : Int32) &&& 31)) ||| ((c1 &&& (63 : Int32)) <<< ((6 : Int32) &&& 31))) ||| (c2 &&& (63 : Int32))) < (2048 : Int32) then (0 : Int32) else (if ((((ld &&& (15 : Int32)) <<< ((12 : Int32) &&& 31)) ||| ((c1 &&& (63 : Int32)) <<< ((6 : Int32) &&& 31))) ||| (c2 &&& (63 : Int32))) < (55296 : Int32) then (3 : Int32) else (if (57343 : Int32) < ((((ld &&& (15 : Int32)) <<< ((12 : Int32) &&& 31)) ||| ((c1 &&& (63 : Int32)) <<< ((6 : Int32) &&& 31))) ||| (c2 &&& (63 : Int32))) then (3 : Int32) else (0 : Int32))))))) else (if (ld &&& (248 : Int32)) = (240 : Int32) then (if (en - i) < (4 : Int32) then (0 : Int32) else (if (if (c1 &&& (192 : Int32)) = (128 : Int32) then (1 : Int32) else (0 : Int32)) = (0 : Int32) then (0 : Int32) else (if (if (c2 &&& (192 : Int32)) = (128 : Int32) then (1 : Int32) else (0 : Int32)) = (0 : Int32) then (0 : Int32) else (if (if (c3 &&& (192 : Int32)) = (128 : Int32) then (1 : Int32) else (0 : Int32)) = (0 : Int32) then (0 : Int32) else (if (((((ld &&& (7 : Int32)) <<< ((18 : Int32) &&& 31)) ||| ((c1 &&& (63 : Int32)) <<< ((12 : Int32) &&& 31))) ||| ((c2 &&& (63 : Int32)) <<< ((6 : Int32) &&& 31))) ||| (c3 &&& (63 : Int32))) < (65536 : Int32) then (0 : Int32) else (if (1114111 : Int32) < (((((ld &&& (7 : Int32)) <<< ((18 : Int32) &&& 31)) ||| ((c1 &&& (63 : Int32)) <<< ((12 : Int32) &&& 31))) ||| ((c2 &&& (63 : Int32)) <<< ((6 : Int32) &&& 31))) ||| (c3 &&& (63 : Int32))) then (0 : Int32) else (4 : Int32))))))) else (0 : Int32)))))).toInt = own_xz (ld.toInt) (c1.toInt) (c2.toInt) (c3.toInt) (i.toInt) (en.toInt) ((((ld &&& (31 : Int32)) <<< ((6 : Int32) &&& 31)) ||| (c1 &&& (63 : Int32))).toInt) (((((ld &&& (15 : Int32)) <<< ((12 : Int32) &&& 31)) ||| ((c1 &&& (63 : Int32)) <<< ((6 : Int32) &&& 31))) ||| (c2 &&& (63 : Int32))).toInt) ((((((ld &&& (7 : Int32)) <<< ((18 : Int32) &&& 31)) ||| ((c1 &&& (63 : Int32)) <<< ((12 : Int32) &&& 31))) ||| ((c2 &&& (63 : Int32)) <<< ((6 : Int32) &&& 31))) ||| (c3 &&& (63 : Int32))).toInt) ((ld &&& (224 : Int32)).toInt) ((ld &&& (240 : Int32)).toInt) ((ld &&& (248 : Int32)).toInt) ((c1 &&& (192 : Int32)).toInt) ((c2 &&& (192 : Int32)).toInt) ((c3 &&& (192 : Int32)).toInt) := by
    unfold own_xz
    simp only [apply_ite Int32.toInt, Int32.lt_iff_toInt_lt, ← Int32.toInt_inj, i0, i1, i2, i3, i4, ei, show (0 : Int32).toInt = 0 from by decide, show (1 : Int32).toInt = 1 from by decide, show (2 : Int32).toInt = 2 from by decide, show (3 : Int32).toInt = 3 from by decide, show (4 : Int32).toInt = 4 from by decide, show (6 : Int32).toInt = 6 from by decide, show (7 : Int32).toInt = 7 from by decide, show (12 : Int32).toInt = 12 from by decide, show (15 : Int32).toInt = 15 from by decide, show (18 : Int32).toInt = 18 from by decide, show (31 : Int32).toInt = 31 from by decide, show (63 : Int32).toInt = 63 from by decide, show (128 : Int32).toInt = 128 from by decide, show (143 : Int32).toInt = 143 from by decide, show (144 : Int32).toInt = 144 from by decide, show (159 : Int32).toInt = 159 from by decide, show (160 : Int32).toInt = 160 from by decide, show (191 : Int32).toInt = 191 from by decide, show (192 : Int32).toInt = 192 from by decide, show (194 : Int32).toInt = 194 from by decide, show (224 : Int32).toInt = 224 from by decide, show (237 : Int32).toInt = 237 from by decide, show (240 : Int32).toInt = 240 from by decide, show (244 : Int32).toInt = 244 from by decide, show (245 : Int32).toInt = 245 from by decide, show (248 : Int32).toInt = 248 from by decide, show (2048 : Int32).toInt = 2048 from by decide, show (55296 : Int32).toInt = 55296 from by decide, show (57343 : Int32).toInt = 57343 from by decide, show (65536 : Int32).toInt = 65536 from by decide, show (1114111 : Int32).toInt = 1114111 from by decide]
  apply Int32.toInt_inj.mp
  rw [e1, e2]
  exact own_zz hl.1 hl.2 h1.1 h1.2 h2.1 h2.2 h3.1 h3.2 q2 q3 q4 (own_hi224 ld hl.1 hl.2) (own_hi240 ld hl.1 hl.2) (own_hi248 ld hl.1 hl.2) (own_hi192 c1 h1.1 h1.2) (own_hi192 c2 h2.1 h2.2) (own_hi192 c3 h3.1 h3.2)
theorem pd_0 : parseMethodDescriptor "([BII)I" = some ⟨[(.array .byte), .int, .int], some .int⟩ := by decide +kernel
theorem pd_1 : parseMethodDescriptor "(IIIII)I" = some ⟨[.int, .int, .int, .int, .int], some .int⟩ := by decide +kernel
theorem pn_0 : plainName "com/example/benzer/benzer/cli/Utf8SequenceSizePinLaw" = true := by first | (simp [plainName, overriddenIn]; done) | decide +kernel
theorem ef_0 (m : MethodId) (x0 : Int32) (x1 : Int32) (x2 : Int32) (x3 : Int32) (x4 : Int32) : entryFrame m #[(.int x0), (.int x1), (.int x2), (.int x3), (.int x4)] maxLocals = mkF m 0 #[.val (.int x0), .val (.int x1), .val (.int x2), .val (.int x3), .val (.int x4), .unset, .unset, .unset, .unset] [] := by first | (simp [entryFrame, mkF, argsToLocals, Value.category, maxLocals]; done) | rfl
def Q0 (Z : State) (p0 : Int32) (p1 : Int32) (p2 : Int32) (p3 : Int32) (p4 : Int32) (h0 : Heap) (n0 : Nat) (rv_ : Option Value) (h : Heap) (LL_ : List Loc) : Prop := rv_ = some (.int 1) ∧ Fr n0 LL_
set_option maxRecDepth 65536 in
set_option maxHeartbeats 40000000 in
theorem rm0 (l : Launch) (Z : State) (a0 : Array Value) (hw : ∀ d ∈ tables_1, d.before a0 Z = true) (ws : List Jvm.Cond) (p0 : Int32) (p1 : Int32) (p2 : Int32) (p3 : Int32) (p4 : Int32) (h0 : Heap) (n0 : Nat) (Z0 : n0 ≤ h0.size) :
    MetFree l x (head1 (Jvm.Cond.code x code maxLocals ret :: ws) room_1) (fun aa UU => aa = #[(.int p0), (.int p1), (.int p2), (.int p3), (.int p4)] ∧ Z.Warmed39 UU.vm ∧ UU.heap = h0) (fun _ _ _ _ _ => True) (fun _ UU oo UV => ∃ vv LL, oo = .returned vv ∧ Q0 Z p0 p1 p2 p3 p4 h0 n0 vv UV.heap LL ∧ FrameEnd UU oo UV LL room_1.cells room_1.slots) := by
  refine MetFree.of_bodySF (plainFor_of_name pn_0) hisR ?_
  intro p e s m args below meth c s₁ Bd hml0 hP hK
  obtain ⟨rfl, hZ, hh⟩ := hP
  have hx := Bd.exec
  have hby := Bd.bytes
  have hml : c.maxLocals = 9 := hml0
  have hown : s.vm.findClass "com/example/benzer/benzer/cli/Utf8SequenceSizePinLaw" = some m.cls := findClass_of_methodNamed Bd.named
  have hnm := (name_of_methodNamed Bd.named Bd.method).1
  have X0 : Stand p l e room_1 s m #[(.int p0), (.int p1), (.int p2), (.int p3), (.int p4)] below meth c s₁ [] 0 0 := Stand.of_body Bd
  have e0 : s₁.heap = h0 := by rw [← hh, Bd.state]; rfl
  have N0 := Fr.nil n0
  have k0 : ∀ tg_, Steps p.tables e below (s₁.setTop (mkF m 0 #[.val (.int p0), .val (.int p1), .val (.int p2), .val (.int p3), .val (.int p4), .unset, .unset, .unset, .unset] [])) tg_ → Steps p.tables e below (s₁.setTop (entryFrame m #[(.int p0), (.int p1), (.int p2), (.int p3), (.int p4)] maxLocals)) tg_ := fun tg_ k => castTop (ef_0 m p0 p1 p2 p3 p4) k
  have k370 : ∀ tg_, Steps p.tables e below (s₁.setTop (mkF m 4 #[.val (.int p0), .val (.int p1), .val (.int p2), .val (.int p3), .val (.int p4), .unset, .unset, .unset, .unset] [(.int (p4 &&& (1 : Int32)))])) tg_ → Steps p.tables e below (s₁.setTop (entryFrame m #[(.int p0), (.int p1), (.int p2), (.int p3), (.int p4)] maxLocals)) tg_ := by
    intro tg_ kt
    refine k0 tg_ ?_
    refine XS.iload X0.here hx rfl (hb hby at_0) rfl ?_
    show Steps p.tables e below (s₁.setTop (mkF m 2 #[.val (.int p0), .val (.int p1), .val (.int p2), .val (.int p3), .val (.int p4), .unset, .unset, .unset, .unset] [(.int p4)])) _
    refine XS.iconst X0.here hx rfl (hb hby at_2) ?_
    show Steps p.tables e below (s₁.setTop (mkF m 3 #[.val (.int p0), .val (.int p1), .val (.int p2), .val (.int p3), .val (.int p4), .unset, .unset, .unset, .unset] [(.int (1 : Int32)), (.int p4)])) _
    refine XS.iand X0.here hx rfl (hb hby at_3) rfl ?_
    show Steps p.tables e below (s₁.setTop (mkF m 4 #[.val (.int p0), .val (.int p1), .val (.int p2), .val (.int p3), .val (.int p4), .unset, .unset, .unset, .unset] [(.int (p4 &&& (1 : Int32)))])) _
    exact kt
  obtain ⟨vi371, hvi371⟩ : ∃ z : Int32, z = (p4 &&& (1 : Int32)) := ⟨_, rfl⟩
  rw [← hvi371] at k370
  have k372 : ∀ tg_, Steps p.tables e below (s₁.setTop (mkF m 6 #[.val (.int p0), .val (.int p1), .val (.int p2), .val (.int p3), .val (.int p4), .val (.int vi371), .unset, .unset, .unset] [])) tg_ → Steps p.tables e below (s₁.setTop (entryFrame m #[(.int p0), (.int p1), (.int p2), (.int p3), (.int p4)] maxLocals)) tg_ := by
    intro tg_ kt
    refine k370 tg_ ?_
    refine XS.istore X0.here hx rfl (hb hby at_4) rfl (l' := #[.val (.int p0), .val (.int p1), .val (.int p2), .val (.int p3), .val (.int p4), .val (.int vi371), .unset, .unset, .unset]) rfl ?_
    show Steps p.tables e below (s₁.setTop (mkF m 6 #[.val (.int p0), .val (.int p1), .val (.int p2), .val (.int p3), .val (.int p4), .val (.int vi371), .unset, .unset, .unset] [])) _
    exact kt
  obtain ⟨ii, hi, hi1⟩ : ∃ ii : Nat, vi371.toInt = (ii : Int) ∧ ii ≤ 1 := by
    have ar373 := rng32 vi371
    have ar374 := rng32 p4
    have ar375 : (1 : Int32).toInt = 1 := by decide
    have ar376 := c_mask p4 (1 : Int32) 1 (by decide) (by decide)
    simp only [show (2 ^ 1 : Nat) = 2 from by decide, Int.cast_ofNat_Int] at ar376
    have ar377 := rng32 (p4 &&& (1 : Int32))
    have ar378 := congrArg Int32.toInt hvi371
    exact ⟨vi371.toInt.toNat, by omega, by omega⟩
  have ha379 : ¬ (((6 : Int32) - vi371) = (0 : Int32)) := (by
      have ar380 : (6 : Int32).toInt = 6 := by decide
      have ar381 := rng32 vi371
      have ar382 := rng32 ((6 : Int32) - vi371)
      first | have ar383 : ((6 : Int32) - vi371).toInt = 6 - vi371.toInt := (by have qw := c_isub (6 : Int32) vi371; omega) | (have ar383 := c_isub (6 : Int32) vi371; skip)
      have ar384 : (0 : Int32).toInt = 0 := by decide
      exact fun qq_ => absurd (congrArg Int32.toInt qq_) (by omega))
  have k385 : ∀ tg_, Steps p.tables e below (s₁.setTop (mkF m 22 #[.val (.int p0), .val (.int p1), .val (.int p2), .val (.int p3), .val (.int p4), .val (.int vi371), .unset, .unset, .unset] [(.int (vi371 + ((((p4.toUInt32 >>> ((1 : Int32) &&& 31).toUInt32).toInt32) &&& (127 : Int32)) % ((6 : Int32) - vi371))))])) tg_ → Steps p.tables e below (s₁.setTop (entryFrame m #[(.int p0), (.int p1), (.int p2), (.int p3), (.int p4)] maxLocals)) tg_ := by
    intro tg_ kt
    refine k372 tg_ ?_
    refine XS.iload X0.here hx rfl (hb hby at_6) rfl ?_
    show Steps p.tables e below (s₁.setTop (mkF m 8 #[.val (.int p0), .val (.int p1), .val (.int p2), .val (.int p3), .val (.int p4), .val (.int vi371), .unset, .unset, .unset] [(.int vi371)])) _
    refine XS.iload X0.here hx rfl (hb hby at_8) rfl ?_
    show Steps p.tables e below (s₁.setTop (mkF m 10 #[.val (.int p0), .val (.int p1), .val (.int p2), .val (.int p3), .val (.int p4), .val (.int vi371), .unset, .unset, .unset] [(.int p4), (.int vi371)])) _
    refine XS.iconst X0.here hx rfl (hb hby at_10) ?_
    show Steps p.tables e below (s₁.setTop (mkF m 11 #[.val (.int p0), .val (.int p1), .val (.int p2), .val (.int p3), .val (.int p4), .val (.int vi371), .unset, .unset, .unset] [(.int (1 : Int32)), (.int p4), (.int vi371)])) _
    refine XS.iushr X0.here hx rfl (hb hby at_11) rfl ?_
    show Steps p.tables e below (s₁.setTop (mkF m 12 #[.val (.int p0), .val (.int p1), .val (.int p2), .val (.int p3), .val (.int p4), .val (.int vi371), .unset, .unset, .unset] [(.int ((p4.toUInt32 >>> ((1 : Int32) &&& 31).toUInt32).toInt32)), (.int vi371)])) _
    refine XS.bipush X0.here hx rfl (hb hby at_12) ?_
    show Steps p.tables e below (s₁.setTop (mkF m 14 #[.val (.int p0), .val (.int p1), .val (.int p2), .val (.int p3), .val (.int p4), .val (.int vi371), .unset, .unset, .unset] [(.int (127 : Int32)), (.int ((p4.toUInt32 >>> ((1 : Int32) &&& 31).toUInt32).toInt32)), (.int vi371)])) _
    refine XS.iand X0.here hx rfl (hb hby at_14) rfl ?_
    show Steps p.tables e below (s₁.setTop (mkF m 15 #[.val (.int p0), .val (.int p1), .val (.int p2), .val (.int p3), .val (.int p4), .val (.int vi371), .unset, .unset, .unset] [(.int (((p4.toUInt32 >>> ((1 : Int32) &&& 31).toUInt32).toInt32) &&& (127 : Int32))), (.int vi371)])) _
    refine XS.bipush X0.here hx rfl (hb hby at_15) ?_
    show Steps p.tables e below (s₁.setTop (mkF m 17 #[.val (.int p0), .val (.int p1), .val (.int p2), .val (.int p3), .val (.int p4), .val (.int vi371), .unset, .unset, .unset] [(.int (6 : Int32)), (.int (((p4.toUInt32 >>> ((1 : Int32) &&& 31).toUInt32).toInt32) &&& (127 : Int32))), (.int vi371)])) _
    refine XS.iload X0.here hx rfl (hb hby at_17) rfl ?_
    show Steps p.tables e below (s₁.setTop (mkF m 19 #[.val (.int p0), .val (.int p1), .val (.int p2), .val (.int p3), .val (.int p4), .val (.int vi371), .unset, .unset, .unset] [(.int vi371), (.int (6 : Int32)), (.int (((p4.toUInt32 >>> ((1 : Int32) &&& 31).toUInt32).toInt32) &&& (127 : Int32))), (.int vi371)])) _
    refine XS.isub X0.here hx rfl (hb hby at_19) rfl ?_
    show Steps p.tables e below (s₁.setTop (mkF m 20 #[.val (.int p0), .val (.int p1), .val (.int p2), .val (.int p3), .val (.int p4), .val (.int vi371), .unset, .unset, .unset] [(.int ((6 : Int32) - vi371)), (.int (((p4.toUInt32 >>> ((1 : Int32) &&& 31).toUInt32).toInt32) &&& (127 : Int32))), (.int vi371)])) _
    refine iremM X0 hx rfl (hb hby at_20) rfl ha379 ?_
    show Steps p.tables e below (s₁.setTop (mkF m 21 #[.val (.int p0), .val (.int p1), .val (.int p2), .val (.int p3), .val (.int p4), .val (.int vi371), .unset, .unset, .unset] [(.int ((((p4.toUInt32 >>> ((1 : Int32) &&& 31).toUInt32).toInt32) &&& (127 : Int32)) % ((6 : Int32) - vi371))), (.int vi371)])) _
    refine XS.iadd X0.here hx rfl (hb hby at_21) rfl ?_
    show Steps p.tables e below (s₁.setTop (mkF m 22 #[.val (.int p0), .val (.int p1), .val (.int p2), .val (.int p3), .val (.int p4), .val (.int vi371), .unset, .unset, .unset] [(.int (vi371 + ((((p4.toUInt32 >>> ((1 : Int32) &&& 31).toUInt32).toInt32) &&& (127 : Int32)) % ((6 : Int32) - vi371))))])) _
    exact kt
  obtain ⟨ve386, hve386⟩ : ∃ z : Int32, z = (vi371 + ((((p4.toUInt32 >>> ((1 : Int32) &&& 31).toUInt32).toInt32) &&& (127 : Int32)) % ((6 : Int32) - vi371))) := ⟨_, rfl⟩
  rw [← hve386] at k385
  have k387 : ∀ tg_, Steps p.tables e below (s₁.setTop (mkF m 24 #[.val (.int p0), .val (.int p1), .val (.int p2), .val (.int p3), .val (.int p4), .val (.int vi371), .val (.int ve386), .unset, .unset] [])) tg_ → Steps p.tables e below (s₁.setTop (entryFrame m #[(.int p0), (.int p1), (.int p2), (.int p3), (.int p4)] maxLocals)) tg_ := by
    intro tg_ kt
    refine k385 tg_ ?_
    refine XS.istore X0.here hx rfl (hb hby at_22) rfl (l' := #[.val (.int p0), .val (.int p1), .val (.int p2), .val (.int p3), .val (.int p4), .val (.int vi371), .val (.int ve386), .unset, .unset]) rfl ?_
    show Steps p.tables e below (s₁.setTop (mkF m 24 #[.val (.int p0), .val (.int p1), .val (.int p2), .val (.int p3), .val (.int p4), .val (.int vi371), .val (.int ve386), .unset, .unset] [])) _
    exact kt
  have hen : vi371.toInt ≤ ve386.toInt ∧ ve386.toInt ≤ 6 := by
    have ar388 := rng32 ve386
    have ar389 := rng32 vi371
    have ar390 := rng32 p4
    have ar391 := c_iushr p4 (1 : Int32) 1 (by decide) (by decide)
    simp only [show (2 ^ 1 : Nat) = 2 from by decide, Int.cast_ofNat_Int] at ar391
    have ar392 := rng32 ((p4.toUInt32 >>> ((1 : Int32) &&& 31).toUInt32).toInt32)
    have ar393 : (127 : Int32).toInt = 127 := by decide
    have ar394 := c_mask ((p4.toUInt32 >>> ((1 : Int32) &&& 31).toUInt32).toInt32) (127 : Int32) 7 (by decide) (by decide)
    simp only [show (2 ^ 7 : Nat) = 128 from by decide, Int.cast_ofNat_Int] at ar394
    have ar395 := rng32 (((p4.toUInt32 >>> ((1 : Int32) &&& 31).toUInt32).toInt32) &&& (127 : Int32))
    have ar396 : (6 : Int32).toInt = 6 := by decide
    have ar397 := rng32 ((6 : Int32) - vi371)
    first | have ar398 : ((6 : Int32) - vi371).toInt = 6 - vi371.toInt := (by have qw := c_isub (6 : Int32) vi371; omega) | (have ar398 := c_isub (6 : Int32) vi371; skip)
    first | have ar399 := (c_iremV (((p4.toUInt32 >>> ((1 : Int32) &&& 31).toUInt32).toInt32) &&& (127 : Int32)) ((6 : Int32) - vi371)).1 (by omega) (by omega) | have ar399 := c_iremV (((p4.toUInt32 >>> ((1 : Int32) &&& 31).toUInt32).toInt32) &&& (127 : Int32)) ((6 : Int32) - vi371)
    have ar400 := rng32 ((((p4.toUInt32 >>> ((1 : Int32) &&& 31).toUInt32).toInt32) &&& (127 : Int32)) % ((6 : Int32) - vi371))
    have ar401 := rng32 (vi371 + ((((p4.toUInt32 >>> ((1 : Int32) &&& 31).toUInt32).toInt32) &&& (127 : Int32)) % ((6 : Int32) - vi371)))
    first | have ar402 : (vi371 + ((((p4.toUInt32 >>> ((1 : Int32) &&& 31).toUInt32).toInt32) &&& (127 : Int32)) % ((6 : Int32) - vi371))).toInt = vi371.toInt + ((((p4.toUInt32 >>> ((1 : Int32) &&& 31).toUInt32).toInt32) &&& (127 : Int32)) % ((6 : Int32) - vi371)).toInt := (by have qw := c_iadd vi371 ((((p4.toUInt32 >>> ((1 : Int32) &&& 31).toUInt32).toInt32) &&& (127 : Int32)) % ((6 : Int32) - vi371)); omega) | (have ar402 := c_iadd vi371 ((((p4.toUInt32 >>> ((1 : Int32) &&& 31).toUInt32).toInt32) &&& (127 : Int32)) % ((6 : Int32) - vi371)); skip)
    have ar403 := congrArg Int32.toInt hve386
    omega
  obtain ⟨T404, h404, kA404, X404, e404, E404, A404, st404⟩ := newP X0 hx hZ (hw _ (List.mem_of_getElem? (i := 0) rfl)) e0 (g := (mkF m 25 #[.val (.int p0), .val (.int p1), .val (.int p2), .val (.int p3), .val (.int p4), .val (.int vi371), .val (.int ve386), .unset, .unset] [(.int (5 : Int32))])) rfl (hb hby at_25) rfl (by decide) (cap := 5) (by decide) (by decide) (by decide) (by decide)
  obtain ⟨b404, g404⟩ : ∃ z, z = h0.size := ⟨_, rfl⟩
  rw [← g404] at A404 st404
  have ge_b404 : n0 ≤ b404 := Nat.le_trans Z0 (Nat.le_of_eq g404.symm)
  have V404 : own_AI Z h404 b404 .byte 5 (fun _ => 0) := own_newI (by decide : (5 : Int32).toInt = ((5 : Nat) : Int)) A404 rfl
  have hj405 : ((vi371 + (4 : Int32)) % (5 : Int32)).toInt = ((((ii + 4) % 5) : Nat) : Int) := by
    have ar406 := rng32 vi371
    have ar407 : (4 : Int32).toInt = 4 := by decide
    have ar408 := rng32 (vi371 + (4 : Int32))
    first | have ar409 : (vi371 + (4 : Int32)).toInt = vi371.toInt + 4 := (by have qw := c_iadd vi371 (4 : Int32); omega) | (have ar409 := c_iadd vi371 (4 : Int32); skip)
    have ar410 : (5 : Int32).toInt = 5 := by decide
    first | have ar411 := (c_irem (vi371 + (4 : Int32)) (5 : Int32) 5 (by decide)).1 (by omega) | have ar411 := c_irem (vi371 + (4 : Int32)) (5 : Int32) 5 (by decide)
    have ar412 := rng32 ((vi371 + (4 : Int32)) % (5 : Int32))
    omega
  obtain ⟨T413, h413, X413, e413, W413, V413, st413⟩ := own_stB X404 hx hZ e404 V404 (i := ((ii + 4) % 5)) hj405 (by omega) (g := (mkF m 43 #[.val (.int p0), .val (.int p1), .val (.int p2), .val (.int p3), .val (.int p4), .val (.int vi371), .val (.int ve386), .val (.ref b404), .unset] [(.int (((p4.toUInt32 >>> ((16 : Int32) &&& 31).toUInt32).toInt32).toInt8.toInt32)), (.int ((vi371 + (4 : Int32)) % (5 : Int32))), (.ref b404)])) rfl rfl (hb hby at_43)
  have N413 := Fr.snoc X413 N0 ge_b404
  obtain ⟨f413, hf413⟩ : ∃ z : Nat → Int32, z = (own_upd (fun _ => 0) ((ii + 4) % 5) ((((p4.toUInt32 >>> ((16 : Int32) &&& 31).toUInt32).toInt32).toInt8.toInt32).toInt8.toInt32)) := ⟨_, rfl⟩
  rw [← hf413] at V413
  have hj414 : vi371.toInt = ((ii : Nat) : Int) := by
    have ar415 := rng32 vi371
    omega
  obtain ⟨T416, h416, X416, e416, W416, V416, st416⟩ := own_stB X413 hx hZ e413 V413 (i := ii) hj414 (by omega) (g := (mkF m 50 #[.val (.int p0), .val (.int p1), .val (.int p2), .val (.int p3), .val (.int p4), .val (.int vi371), .val (.int ve386), .val (.ref b404), .unset] [(.int (p0.toInt8.toInt32)), (.int vi371), (.ref b404)])) rfl rfl (hb hby at_50)
  have N416 := Fr.snoc X416 N413 ge_b404
  obtain ⟨f416, hf416⟩ : ∃ z : Nat → Int32, z = (own_upd f413 ii ((p0.toInt8.toInt32).toInt8.toInt32)) := ⟨_, rfl⟩
  rw [← hf416] at V416
  have hj417 : (vi371 + (1 : Int32)).toInt = (((ii + 1) : Nat) : Int) := by
    have ar418 := rng32 vi371
    have ar419 : (1 : Int32).toInt = 1 := by decide
    have ar420 := rng32 (vi371 + (1 : Int32))
    first | have ar421 : (vi371 + (1 : Int32)).toInt = vi371.toInt + 1 := (by have qw := c_iadd vi371 (1 : Int32); omega) | (have ar421 := c_iadd vi371 (1 : Int32); skip)
    omega
  obtain ⟨T422, h422, X422, e422, W422, V422, st422⟩ := own_stB X416 hx hZ e416 V416 (i := (ii + 1)) hj417 (by omega) (g := (mkF m 59 #[.val (.int p0), .val (.int p1), .val (.int p2), .val (.int p3), .val (.int p4), .val (.int vi371), .val (.int ve386), .val (.ref b404), .unset] [(.int (p1.toInt8.toInt32)), (.int (vi371 + (1 : Int32))), (.ref b404)])) rfl rfl (hb hby at_59)
  have N422 := Fr.snoc X422 N416 ge_b404
  obtain ⟨f422, hf422⟩ : ∃ z : Nat → Int32, z = (own_upd f416 (ii + 1) ((p1.toInt8.toInt32).toInt8.toInt32)) := ⟨_, rfl⟩
  rw [← hf422] at V422
  have k423 : ∀ tg_, Steps p.tables e below (T422.setTop (mkF m 60 #[.val (.int p0), .val (.int p1), .val (.int p2), .val (.int p3), .val (.int p4), .val (.int vi371), .val (.int ve386), .val (.ref b404), .unset] [])) tg_ → Steps p.tables e below (s₁.setTop (entryFrame m #[(.int p0), (.int p1), (.int p2), (.int p3), (.int p4)] maxLocals)) tg_ := by
    intro tg_ kt
    refine k387 tg_ ?_
    refine XS.iconst X0.here hx rfl (hb hby at_24) ?_
    show Steps p.tables e below (s₁.setTop (mkF m 25 #[.val (.int p0), .val (.int p1), .val (.int p2), .val (.int p3), .val (.int p4), .val (.int vi371), .val (.int ve386), .unset, .unset] [(.int (5 : Int32))])) _
    refine st404 _ ?_
    show Steps p.tables e below (T404.setTop (mkF m 27 #[.val (.int p0), .val (.int p1), .val (.int p2), .val (.int p3), .val (.int p4), .val (.int vi371), .val (.int ve386), .unset, .unset] [(.ref b404)])) _
    refine XS.astore X404.here hx rfl (hb hby at_27) rfl rfl (l' := #[.val (.int p0), .val (.int p1), .val (.int p2), .val (.int p3), .val (.int p4), .val (.int vi371), .val (.int ve386), .val (.ref b404), .unset]) rfl ?_
    show Steps p.tables e below (T404.setTop (mkF m 29 #[.val (.int p0), .val (.int p1), .val (.int p2), .val (.int p3), .val (.int p4), .val (.int vi371), .val (.int ve386), .val (.ref b404), .unset] [])) _
    refine XS.aload X404.here hx rfl (hb hby at_29) rfl rfl ?_
    show Steps p.tables e below (T404.setTop (mkF m 31 #[.val (.int p0), .val (.int p1), .val (.int p2), .val (.int p3), .val (.int p4), .val (.int vi371), .val (.int ve386), .val (.ref b404), .unset] [(.ref b404)])) _
    refine XS.iload X404.here hx rfl (hb hby at_31) rfl ?_
    show Steps p.tables e below (T404.setTop (mkF m 33 #[.val (.int p0), .val (.int p1), .val (.int p2), .val (.int p3), .val (.int p4), .val (.int vi371), .val (.int ve386), .val (.ref b404), .unset] [(.int vi371), (.ref b404)])) _
    refine XS.iconst X404.here hx rfl (hb hby at_33) ?_
    show Steps p.tables e below (T404.setTop (mkF m 34 #[.val (.int p0), .val (.int p1), .val (.int p2), .val (.int p3), .val (.int p4), .val (.int vi371), .val (.int ve386), .val (.ref b404), .unset] [(.int (4 : Int32)), (.int vi371), (.ref b404)])) _
    refine XS.iadd X404.here hx rfl (hb hby at_34) rfl ?_
    show Steps p.tables e below (T404.setTop (mkF m 35 #[.val (.int p0), .val (.int p1), .val (.int p2), .val (.int p3), .val (.int p4), .val (.int vi371), .val (.int ve386), .val (.ref b404), .unset] [(.int (vi371 + (4 : Int32))), (.ref b404)])) _
    refine XS.iconst X404.here hx rfl (hb hby at_35) ?_
    show Steps p.tables e below (T404.setTop (mkF m 36 #[.val (.int p0), .val (.int p1), .val (.int p2), .val (.int p3), .val (.int p4), .val (.int vi371), .val (.int ve386), .val (.ref b404), .unset] [(.int (5 : Int32)), (.int (vi371 + (4 : Int32))), (.ref b404)])) _
    refine iremM X404 hx rfl (hb hby at_36) rfl (by decide) ?_
    show Steps p.tables e below (T404.setTop (mkF m 37 #[.val (.int p0), .val (.int p1), .val (.int p2), .val (.int p3), .val (.int p4), .val (.int vi371), .val (.int ve386), .val (.ref b404), .unset] [(.int ((vi371 + (4 : Int32)) % (5 : Int32))), (.ref b404)])) _
    refine XS.iload X404.here hx rfl (hb hby at_37) rfl ?_
    show Steps p.tables e below (T404.setTop (mkF m 39 #[.val (.int p0), .val (.int p1), .val (.int p2), .val (.int p3), .val (.int p4), .val (.int vi371), .val (.int ve386), .val (.ref b404), .unset] [(.int p4), (.int ((vi371 + (4 : Int32)) % (5 : Int32))), (.ref b404)])) _
    refine XS.bipush X404.here hx rfl (hb hby at_39) ?_
    show Steps p.tables e below (T404.setTop (mkF m 41 #[.val (.int p0), .val (.int p1), .val (.int p2), .val (.int p3), .val (.int p4), .val (.int vi371), .val (.int ve386), .val (.ref b404), .unset] [(.int (16 : Int32)), (.int p4), (.int ((vi371 + (4 : Int32)) % (5 : Int32))), (.ref b404)])) _
    refine XS.iushr X404.here hx rfl (hb hby at_41) rfl ?_
    show Steps p.tables e below (T404.setTop (mkF m 42 #[.val (.int p0), .val (.int p1), .val (.int p2), .val (.int p3), .val (.int p4), .val (.int vi371), .val (.int ve386), .val (.ref b404), .unset] [(.int ((p4.toUInt32 >>> ((16 : Int32) &&& 31).toUInt32).toInt32)), (.int ((vi371 + (4 : Int32)) % (5 : Int32))), (.ref b404)])) _
    refine XS.i2b X404.here hx rfl (hb hby at_42) rfl ?_
    show Steps p.tables e below (T404.setTop (mkF m 43 #[.val (.int p0), .val (.int p1), .val (.int p2), .val (.int p3), .val (.int p4), .val (.int vi371), .val (.int ve386), .val (.ref b404), .unset] [(.int (((p4.toUInt32 >>> ((16 : Int32) &&& 31).toUInt32).toInt32).toInt8.toInt32)), (.int ((vi371 + (4 : Int32)) % (5 : Int32))), (.ref b404)])) _
    refine st413 _ ?_
    show Steps p.tables e below (T413.setTop (mkF m 44 #[.val (.int p0), .val (.int p1), .val (.int p2), .val (.int p3), .val (.int p4), .val (.int vi371), .val (.int ve386), .val (.ref b404), .unset] [])) _
    refine XS.aload X413.here hx rfl (hb hby at_44) rfl rfl ?_
    show Steps p.tables e below (T413.setTop (mkF m 46 #[.val (.int p0), .val (.int p1), .val (.int p2), .val (.int p3), .val (.int p4), .val (.int vi371), .val (.int ve386), .val (.ref b404), .unset] [(.ref b404)])) _
    refine XS.iload X413.here hx rfl (hb hby at_46) rfl ?_
    show Steps p.tables e below (T413.setTop (mkF m 48 #[.val (.int p0), .val (.int p1), .val (.int p2), .val (.int p3), .val (.int p4), .val (.int vi371), .val (.int ve386), .val (.ref b404), .unset] [(.int vi371), (.ref b404)])) _
    refine XS.iloadN X413.here hx rfl (hb hby at_48) rfl ?_
    show Steps p.tables e below (T413.setTop (mkF m 49 #[.val (.int p0), .val (.int p1), .val (.int p2), .val (.int p3), .val (.int p4), .val (.int vi371), .val (.int ve386), .val (.ref b404), .unset] [(.int p0), (.int vi371), (.ref b404)])) _
    refine XS.i2b X413.here hx rfl (hb hby at_49) rfl ?_
    show Steps p.tables e below (T413.setTop (mkF m 50 #[.val (.int p0), .val (.int p1), .val (.int p2), .val (.int p3), .val (.int p4), .val (.int vi371), .val (.int ve386), .val (.ref b404), .unset] [(.int (p0.toInt8.toInt32)), (.int vi371), (.ref b404)])) _
    refine st416 _ ?_
    show Steps p.tables e below (T416.setTop (mkF m 51 #[.val (.int p0), .val (.int p1), .val (.int p2), .val (.int p3), .val (.int p4), .val (.int vi371), .val (.int ve386), .val (.ref b404), .unset] [])) _
    refine XS.aload X416.here hx rfl (hb hby at_51) rfl rfl ?_
    show Steps p.tables e below (T416.setTop (mkF m 53 #[.val (.int p0), .val (.int p1), .val (.int p2), .val (.int p3), .val (.int p4), .val (.int vi371), .val (.int ve386), .val (.ref b404), .unset] [(.ref b404)])) _
    refine XS.iload X416.here hx rfl (hb hby at_53) rfl ?_
    show Steps p.tables e below (T416.setTop (mkF m 55 #[.val (.int p0), .val (.int p1), .val (.int p2), .val (.int p3), .val (.int p4), .val (.int vi371), .val (.int ve386), .val (.ref b404), .unset] [(.int vi371), (.ref b404)])) _
    refine XS.iconst X416.here hx rfl (hb hby at_55) ?_
    show Steps p.tables e below (T416.setTop (mkF m 56 #[.val (.int p0), .val (.int p1), .val (.int p2), .val (.int p3), .val (.int p4), .val (.int vi371), .val (.int ve386), .val (.ref b404), .unset] [(.int (1 : Int32)), (.int vi371), (.ref b404)])) _
    refine XS.iadd X416.here hx rfl (hb hby at_56) rfl ?_
    show Steps p.tables e below (T416.setTop (mkF m 57 #[.val (.int p0), .val (.int p1), .val (.int p2), .val (.int p3), .val (.int p4), .val (.int vi371), .val (.int ve386), .val (.ref b404), .unset] [(.int (vi371 + (1 : Int32))), (.ref b404)])) _
    refine XS.iloadN X416.here hx rfl (hb hby at_57) rfl ?_
    show Steps p.tables e below (T416.setTop (mkF m 58 #[.val (.int p0), .val (.int p1), .val (.int p2), .val (.int p3), .val (.int p4), .val (.int vi371), .val (.int ve386), .val (.ref b404), .unset] [(.int p1), (.int (vi371 + (1 : Int32))), (.ref b404)])) _
    refine XS.i2b X416.here hx rfl (hb hby at_58) rfl ?_
    show Steps p.tables e below (T416.setTop (mkF m 59 #[.val (.int p0), .val (.int p1), .val (.int p2), .val (.int p3), .val (.int p4), .val (.int vi371), .val (.int ve386), .val (.ref b404), .unset] [(.int (p1.toInt8.toInt32)), (.int (vi371 + (1 : Int32))), (.ref b404)])) _
    refine st422 _ ?_
    show Steps p.tables e below (T422.setTop (mkF m 60 #[.val (.int p0), .val (.int p1), .val (.int p2), .val (.int p3), .val (.int p4), .val (.int vi371), .val (.int ve386), .val (.ref b404), .unset] [])) _
    exact kt
  have hj424 : (vi371 + (2 : Int32)).toInt = (((ii + 2) : Nat) : Int) := by
    have ar425 := rng32 vi371
    have ar426 : (2 : Int32).toInt = 2 := by decide
    have ar427 := rng32 (vi371 + (2 : Int32))
    first | have ar428 : (vi371 + (2 : Int32)).toInt = vi371.toInt + 2 := (by have qw := c_iadd vi371 (2 : Int32); omega) | (have ar428 := c_iadd vi371 (2 : Int32); skip)
    omega
  obtain ⟨T429, h429, X429, e429, W429, V429, st429⟩ := own_stB X422 hx hZ e422 V422 (i := (ii + 2)) hj424 (by omega) (g := (mkF m 68 #[.val (.int p0), .val (.int p1), .val (.int p2), .val (.int p3), .val (.int p4), .val (.int vi371), .val (.int ve386), .val (.ref b404), .unset] [(.int (p2.toInt8.toInt32)), (.int (vi371 + (2 : Int32))), (.ref b404)])) rfl rfl (hb hby at_68)
  have N429 := Fr.snoc X429 N422 ge_b404
  obtain ⟨f429, hf429⟩ : ∃ z : Nat → Int32, z = (own_upd f422 (ii + 2) ((p2.toInt8.toInt32).toInt8.toInt32)) := ⟨_, rfl⟩
  rw [← hf429] at V429
  have hj430 : (vi371 + (3 : Int32)).toInt = (((ii + 3) : Nat) : Int) := by
    have ar431 := rng32 vi371
    have ar432 : (3 : Int32).toInt = 3 := by decide
    have ar433 := rng32 (vi371 + (3 : Int32))
    first | have ar434 : (vi371 + (3 : Int32)).toInt = vi371.toInt + 3 := (by have qw := c_iadd vi371 (3 : Int32); omega) | (have ar434 := c_iadd vi371 (3 : Int32); skip)
    omega
  obtain ⟨T435, h435, X435, e435, W435, V435, st435⟩ := own_stB X429 hx hZ e429 V429 (i := (ii + 3)) hj430 (by omega) (g := (mkF m 77 #[.val (.int p0), .val (.int p1), .val (.int p2), .val (.int p3), .val (.int p4), .val (.int vi371), .val (.int ve386), .val (.ref b404), .unset] [(.int (p3.toInt8.toInt32)), (.int (vi371 + (3 : Int32))), (.ref b404)])) rfl rfl (hb hby at_77)
  have N435 := Fr.snoc X435 N429 ge_b404
  obtain ⟨f435, hf435⟩ : ∃ z : Nat → Int32, z = (own_upd f429 (ii + 3) ((p3.toInt8.toInt32).toInt8.toInt32)) := ⟨_, rfl⟩
  rw [← hf435] at V435
  have k436 : ∀ tg_, Steps p.tables e below (T435.setTop (mkF m 84 #[.val (.int p0), .val (.int p1), .val (.int p2), .val (.int p3), .val (.int p4), .val (.int vi371), .val (.int ve386), .val (.ref b404), .unset] [(.int ve386), (.int vi371), (.ref b404)])) tg_ → Steps p.tables e below (s₁.setTop (entryFrame m #[(.int p0), (.int p1), (.int p2), (.int p3), (.int p4)] maxLocals)) tg_ := by
    intro tg_ kt
    refine k423 tg_ ?_
    refine XS.aload X422.here hx rfl (hb hby at_60) rfl rfl ?_
    show Steps p.tables e below (T422.setTop (mkF m 62 #[.val (.int p0), .val (.int p1), .val (.int p2), .val (.int p3), .val (.int p4), .val (.int vi371), .val (.int ve386), .val (.ref b404), .unset] [(.ref b404)])) _
    refine XS.iload X422.here hx rfl (hb hby at_62) rfl ?_
    show Steps p.tables e below (T422.setTop (mkF m 64 #[.val (.int p0), .val (.int p1), .val (.int p2), .val (.int p3), .val (.int p4), .val (.int vi371), .val (.int ve386), .val (.ref b404), .unset] [(.int vi371), (.ref b404)])) _
    refine XS.iconst X422.here hx rfl (hb hby at_64) ?_
    show Steps p.tables e below (T422.setTop (mkF m 65 #[.val (.int p0), .val (.int p1), .val (.int p2), .val (.int p3), .val (.int p4), .val (.int vi371), .val (.int ve386), .val (.ref b404), .unset] [(.int (2 : Int32)), (.int vi371), (.ref b404)])) _
    refine XS.iadd X422.here hx rfl (hb hby at_65) rfl ?_
    show Steps p.tables e below (T422.setTop (mkF m 66 #[.val (.int p0), .val (.int p1), .val (.int p2), .val (.int p3), .val (.int p4), .val (.int vi371), .val (.int ve386), .val (.ref b404), .unset] [(.int (vi371 + (2 : Int32))), (.ref b404)])) _
    refine XS.iloadN X422.here hx rfl (hb hby at_66) rfl ?_
    show Steps p.tables e below (T422.setTop (mkF m 67 #[.val (.int p0), .val (.int p1), .val (.int p2), .val (.int p3), .val (.int p4), .val (.int vi371), .val (.int ve386), .val (.ref b404), .unset] [(.int p2), (.int (vi371 + (2 : Int32))), (.ref b404)])) _
    refine XS.i2b X422.here hx rfl (hb hby at_67) rfl ?_
    show Steps p.tables e below (T422.setTop (mkF m 68 #[.val (.int p0), .val (.int p1), .val (.int p2), .val (.int p3), .val (.int p4), .val (.int vi371), .val (.int ve386), .val (.ref b404), .unset] [(.int (p2.toInt8.toInt32)), (.int (vi371 + (2 : Int32))), (.ref b404)])) _
    refine st429 _ ?_
    show Steps p.tables e below (T429.setTop (mkF m 69 #[.val (.int p0), .val (.int p1), .val (.int p2), .val (.int p3), .val (.int p4), .val (.int vi371), .val (.int ve386), .val (.ref b404), .unset] [])) _
    refine XS.aload X429.here hx rfl (hb hby at_69) rfl rfl ?_
    show Steps p.tables e below (T429.setTop (mkF m 71 #[.val (.int p0), .val (.int p1), .val (.int p2), .val (.int p3), .val (.int p4), .val (.int vi371), .val (.int ve386), .val (.ref b404), .unset] [(.ref b404)])) _
    refine XS.iload X429.here hx rfl (hb hby at_71) rfl ?_
    show Steps p.tables e below (T429.setTop (mkF m 73 #[.val (.int p0), .val (.int p1), .val (.int p2), .val (.int p3), .val (.int p4), .val (.int vi371), .val (.int ve386), .val (.ref b404), .unset] [(.int vi371), (.ref b404)])) _
    refine XS.iconst X429.here hx rfl (hb hby at_73) ?_
    show Steps p.tables e below (T429.setTop (mkF m 74 #[.val (.int p0), .val (.int p1), .val (.int p2), .val (.int p3), .val (.int p4), .val (.int vi371), .val (.int ve386), .val (.ref b404), .unset] [(.int (3 : Int32)), (.int vi371), (.ref b404)])) _
    refine XS.iadd X429.here hx rfl (hb hby at_74) rfl ?_
    show Steps p.tables e below (T429.setTop (mkF m 75 #[.val (.int p0), .val (.int p1), .val (.int p2), .val (.int p3), .val (.int p4), .val (.int vi371), .val (.int ve386), .val (.ref b404), .unset] [(.int (vi371 + (3 : Int32))), (.ref b404)])) _
    refine XS.iloadN X429.here hx rfl (hb hby at_75) rfl ?_
    show Steps p.tables e below (T429.setTop (mkF m 76 #[.val (.int p0), .val (.int p1), .val (.int p2), .val (.int p3), .val (.int p4), .val (.int vi371), .val (.int ve386), .val (.ref b404), .unset] [(.int p3), (.int (vi371 + (3 : Int32))), (.ref b404)])) _
    refine XS.i2b X429.here hx rfl (hb hby at_76) rfl ?_
    show Steps p.tables e below (T429.setTop (mkF m 77 #[.val (.int p0), .val (.int p1), .val (.int p2), .val (.int p3), .val (.int p4), .val (.int vi371), .val (.int ve386), .val (.ref b404), .unset] [(.int (p3.toInt8.toInt32)), (.int (vi371 + (3 : Int32))), (.ref b404)])) _
    refine st435 _ ?_
    show Steps p.tables e below (T435.setTop (mkF m 78 #[.val (.int p0), .val (.int p1), .val (.int p2), .val (.int p3), .val (.int p4), .val (.int vi371), .val (.int ve386), .val (.ref b404), .unset] [])) _
    refine XS.aload X435.here hx rfl (hb hby at_78) rfl rfl ?_
    show Steps p.tables e below (T435.setTop (mkF m 80 #[.val (.int p0), .val (.int p1), .val (.int p2), .val (.int p3), .val (.int p4), .val (.int vi371), .val (.int ve386), .val (.ref b404), .unset] [(.ref b404)])) _
    refine XS.iload X435.here hx rfl (hb hby at_80) rfl ?_
    show Steps p.tables e below (T435.setTop (mkF m 82 #[.val (.int p0), .val (.int p1), .val (.int p2), .val (.int p3), .val (.int p4), .val (.int vi371), .val (.int ve386), .val (.ref b404), .unset] [(.int vi371), (.ref b404)])) _
    refine XS.iload X435.here hx rfl (hb hby at_82) rfl ?_
    show Steps p.tables e below (T435.setTop (mkF m 84 #[.val (.int p0), .val (.int p1), .val (.int p2), .val (.int p3), .val (.int p4), .val (.int vi371), .val (.int ve386), .val (.ref b404), .unset] [(.int ve386), (.int vi371), (.ref b404)])) _
    exact kt
  have hf0 : f435 ii = ((p0.toInt8.toInt32).toInt8.toInt32) := by
    rw [hf435, hf429, hf422, hf416, hf413]
    simp only [own_upd]
    rw [if_neg (by omega)]
    rw [if_neg (by omega)]
    rw [if_neg (by omega)]
    rw [if_pos (by first | trivial | omega)]
  have hf1 : f435 (ii + 1) = ((p1.toInt8.toInt32).toInt8.toInt32) := by
    rw [hf435, hf429, hf422, hf416, hf413]
    simp only [own_upd]
    rw [if_neg (by omega)]
    rw [if_neg (by omega)]
    rw [if_pos (by first | trivial | omega)]
  have hf2 : f435 (ii + 2) = ((p2.toInt8.toInt32).toInt8.toInt32) := by
    rw [hf435, hf429, hf422, hf416, hf413]
    simp only [own_upd]
    rw [if_neg (by omega)]
    rw [if_pos (by first | trivial | omega)]
  have hf3 : f435 (ii + 3) = ((p3.toInt8.toInt32).toInt8.toInt32) := by
    rw [hf435, hf429, hf422, hf416, hf413]
    simp only [own_upd]
    rw [if_pos (by first | trivial | omega)]
  obtain ⟨_, _, ⟨T437, L437, kc437, nc437⟩, -, X437, ⟨Lc437, hQ437, l437, y437, z437⟩, st437⟩ := Jvm.LawKit.callS X435 hx (y := (⟨"com/example/benzer/benzer/cli/Utf8", "sequenceSize", "([BII)I"⟩ : MethodName)) hown (mvT hZ (hw _ (List.mem_of_getElem? (i := 1) rfl))) (mvT hZ (hw _ (List.mem_of_getElem? (i := 2) rfl))) (mvT hZ (hw _ (List.mem_of_getElem? (i := 3) rfl))) (mvT hZ (hw _ (List.mem_of_getElem? (i := 4) rfl))) (by decide) (backOf (W := 0) (rm1 l Z a0 hw [] b404 vi371 ve386 ii f435 ((p0.toInt8.toInt32).toInt8.toInt32) ((p1.toInt8.toInt32).toInt8.toInt32) ((p2.toInt8.toInt32).toInt8.toInt32) ((p3.toInt8.toInt32).toInt8.toInt32) h435 n0 V435 hi hi1 hf0 hf1 hf2 hf3) hZ (hw _ (List.mem_of_getElem? (i := 4) rfl)) (hw _ (List.mem_of_getElem? (i := 3) rfl)) (by decide) (by decide)) (g := (mkF m 84 #[.val (.int p0), .val (.int p1), .val (.int p2), .val (.int p3), .val (.int p4), .val (.int vi371), .val (.int ve386), .val (.ref b404), .unset] [(.int ve386), (.int vi371), (.ref b404)])) rfl (by rw [hml]; rfl) (argsL := [(.ref b404), (.int vi371), (.int ve386)]) (rest := []) (lenOf pd_0 rfl) rfl (by show 2 * 0 + _ ≤ _; exact Nat.le_of_eq rfl) (hb hby at_84) (fun _ _ => ⟨rfl, e435, (by decide : 1 + 0 ≤ _), (by decide : 5 + 0 ≤ _)⟩)
  dsimp only [Pt.U, Pt.locs, Pt.cells, Pt.slots] at X437 l437 y437 z437 st437 hQ437
  rw [l437, y437, z437] at X437
  replace X437 : Stand p l e room_1 s m #[(.int p0), (.int p1), (.int p2), (.int p3), (.int p4)] below meth c T437 _ 1 5 := X437
  obtain ⟨rfl, Nq437, eq437⟩ := hQ437
  have N437 := Fr.app N435 Nq437
  have k438 : ∀ tg_, Steps p.tables e below (T437.setTop (mkF m 87 #[.val (.int p0), .val (.int p1), .val (.int p2), .val (.int p3), .val (.int p4), .val (.int vi371), .val (.int ve386), .val (.ref b404), .unset] [(.int (own_seq ((p0.toInt8.toInt32).toInt8.toInt32) ((p1.toInt8.toInt32).toInt8.toInt32) ((p2.toInt8.toInt32).toInt8.toInt32) ((p3.toInt8.toInt32).toInt8.toInt32) vi371 ve386))])) tg_ → Steps p.tables e below (s₁.setTop (entryFrame m #[(.int p0), (.int p1), (.int p2), (.int p3), (.int p4)] maxLocals)) tg_ := by
    intro tg_ kt
    refine k436 tg_ ?_
    refine st437 _ ?_
    show Steps p.tables e below (T437.setTop (mkF m 87 #[.val (.int p0), .val (.int p1), .val (.int p2), .val (.int p3), .val (.int p4), .val (.int vi371), .val (.int ve386), .val (.ref b404), .unset] [(.int (own_seq ((p0.toInt8.toInt32).toInt8.toInt32) ((p1.toInt8.toInt32).toInt8.toInt32) ((p2.toInt8.toInt32).toInt8.toInt32) ((p3.toInt8.toInt32).toInt8.toInt32) vi371 ve386))])) _
    exact kt
  obtain ⟨r439, hr439⟩ : ∃ z : Int32, z = (own_seq ((p0.toInt8.toInt32).toInt8.toInt32) ((p1.toInt8.toInt32).toInt8.toInt32) ((p2.toInt8.toInt32).toInt8.toInt32) ((p3.toInt8.toInt32).toInt8.toInt32) vi371 ve386) := ⟨_, rfl⟩
  rw [← hr439] at k438
  obtain ⟨_, _, ⟨T440, L440, kc440, nc440⟩, -, X440, ⟨Lc440, hQ440, l440, y440, z440⟩, st440⟩ := Jvm.LawKit.callS X437 hx (y := (⟨"com/example/benzer/benzer/cli/Utf8SequenceSizePinLaw", "expected", "(IIIII)I"⟩ : MethodName)) hown (mvT hZ (hw _ (List.mem_of_getElem? (i := 5) rfl))) (mvT hZ (hw _ (List.mem_of_getElem? (i := 6) rfl))) (mvT hZ (hw _ (List.mem_of_getElem? (i := 7) rfl))) (mvT hZ (hw _ (List.mem_of_getElem? (i := 8) rfl))) (by decide) (backOf (W := 1) (rm2 l Z a0 hw [] (p0 &&& (255 : Int32)) (p1 &&& (255 : Int32)) (p2 &&& (255 : Int32)) (p3 &&& (255 : Int32)) (ve386 - vi371) h435 n0 ) hZ (hw _ (List.mem_of_getElem? (i := 8) rfl)) (hw _ (List.mem_of_getElem? (i := 7) rfl)) (by decide) (by decide)) (g := (mkF m 116 #[.val (.int p0), .val (.int p1), .val (.int p2), .val (.int p3), .val (.int p4), .val (.int vi371), .val (.int ve386), .val (.ref b404), .val (.int r439)] [(.int (ve386 - vi371)), (.int (p3 &&& (255 : Int32))), (.int (p2 &&& (255 : Int32))), (.int (p1 &&& (255 : Int32))), (.int (p0 &&& (255 : Int32))), (.int r439)])) rfl (by rw [hml]; rfl) (argsL := [(.int (p0 &&& (255 : Int32))), (.int (p1 &&& (255 : Int32))), (.int (p2 &&& (255 : Int32))), (.int (p3 &&& (255 : Int32))), (.int (ve386 - vi371))]) (rest := [(.int r439)]) (lenOf pd_1 rfl) rfl (by show 2 * 0 + _ ≤ _; exact Nat.le_of_eq rfl) (hb hby at_116) (fun _ _ => ⟨rfl, eq437, (by decide : 1 + 0 ≤ _), (by decide : 5 + 0 ≤ _)⟩)
  dsimp only [Pt.U, Pt.locs, Pt.cells, Pt.slots] at X440 l440 y440 z440 st440 hQ440
  rw [l440, y440, z440] at X440
  replace X440 : Stand p l e room_1 s m #[(.int p0), (.int p1), (.int p2), (.int p3), (.int p4)] below meth c T440 _ 1 5 := X440
  obtain ⟨rfl, Nq440, eq440⟩ := hQ440
  have N440 := Fr.app N437 Nq440
  have k441 : ∀ tg_, Steps p.tables e below (T440.setTop (mkF m 119 #[.val (.int p0), .val (.int p1), .val (.int p2), .val (.int p3), .val (.int p4), .val (.int vi371), .val (.int ve386), .val (.ref b404), .val (.int r439)] [(.int (own_exp (p0 &&& (255 : Int32)) (p1 &&& (255 : Int32)) (p2 &&& (255 : Int32)) (p3 &&& (255 : Int32)) (ve386 - vi371))), (.int r439)])) tg_ → Steps p.tables e below (s₁.setTop (entryFrame m #[(.int p0), (.int p1), (.int p2), (.int p3), (.int p4)] maxLocals)) tg_ := by
    intro tg_ kt
    refine k438 tg_ ?_
    show Steps p.tables e below (T437.setTop (mkF m 87 #[.val (.int p0), .val (.int p1), .val (.int p2), .val (.int p3), .val (.int p4), .val (.int vi371), .val (.int ve386), .val (.ref b404), .unset] [(.int r439)])) _
    refine XS.istore X437.here hx rfl (hb hby at_87) rfl (l' := #[.val (.int p0), .val (.int p1), .val (.int p2), .val (.int p3), .val (.int p4), .val (.int vi371), .val (.int ve386), .val (.ref b404), .val (.int r439)]) rfl ?_
    show Steps p.tables e below (T437.setTop (mkF m 89 #[.val (.int p0), .val (.int p1), .val (.int p2), .val (.int p3), .val (.int p4), .val (.int vi371), .val (.int ve386), .val (.ref b404), .val (.int r439)] [])) _
    refine XS.iload X437.here hx rfl (hb hby at_89) rfl ?_
    show Steps p.tables e below (T437.setTop (mkF m 91 #[.val (.int p0), .val (.int p1), .val (.int p2), .val (.int p3), .val (.int p4), .val (.int vi371), .val (.int ve386), .val (.ref b404), .val (.int r439)] [(.int r439)])) _
    refine XS.iloadN X437.here hx rfl (hb hby at_91) rfl ?_
    show Steps p.tables e below (T437.setTop (mkF m 92 #[.val (.int p0), .val (.int p1), .val (.int p2), .val (.int p3), .val (.int p4), .val (.int vi371), .val (.int ve386), .val (.ref b404), .val (.int r439)] [(.int p0), (.int r439)])) _
    refine XS.sipush X437.here hx rfl (hb hby at_92) ?_
    show Steps p.tables e below (T437.setTop (mkF m 95 #[.val (.int p0), .val (.int p1), .val (.int p2), .val (.int p3), .val (.int p4), .val (.int vi371), .val (.int ve386), .val (.ref b404), .val (.int r439)] [(.int (255 : Int32)), (.int p0), (.int r439)])) _
    refine XS.iand X437.here hx rfl (hb hby at_95) rfl ?_
    show Steps p.tables e below (T437.setTop (mkF m 96 #[.val (.int p0), .val (.int p1), .val (.int p2), .val (.int p3), .val (.int p4), .val (.int vi371), .val (.int ve386), .val (.ref b404), .val (.int r439)] [(.int (p0 &&& (255 : Int32))), (.int r439)])) _
    refine XS.iloadN X437.here hx rfl (hb hby at_96) rfl ?_
    show Steps p.tables e below (T437.setTop (mkF m 97 #[.val (.int p0), .val (.int p1), .val (.int p2), .val (.int p3), .val (.int p4), .val (.int vi371), .val (.int ve386), .val (.ref b404), .val (.int r439)] [(.int p1), (.int (p0 &&& (255 : Int32))), (.int r439)])) _
    refine XS.sipush X437.here hx rfl (hb hby at_97) ?_
    show Steps p.tables e below (T437.setTop (mkF m 100 #[.val (.int p0), .val (.int p1), .val (.int p2), .val (.int p3), .val (.int p4), .val (.int vi371), .val (.int ve386), .val (.ref b404), .val (.int r439)] [(.int (255 : Int32)), (.int p1), (.int (p0 &&& (255 : Int32))), (.int r439)])) _
    refine XS.iand X437.here hx rfl (hb hby at_100) rfl ?_
    show Steps p.tables e below (T437.setTop (mkF m 101 #[.val (.int p0), .val (.int p1), .val (.int p2), .val (.int p3), .val (.int p4), .val (.int vi371), .val (.int ve386), .val (.ref b404), .val (.int r439)] [(.int (p1 &&& (255 : Int32))), (.int (p0 &&& (255 : Int32))), (.int r439)])) _
    refine XS.iloadN X437.here hx rfl (hb hby at_101) rfl ?_
    show Steps p.tables e below (T437.setTop (mkF m 102 #[.val (.int p0), .val (.int p1), .val (.int p2), .val (.int p3), .val (.int p4), .val (.int vi371), .val (.int ve386), .val (.ref b404), .val (.int r439)] [(.int p2), (.int (p1 &&& (255 : Int32))), (.int (p0 &&& (255 : Int32))), (.int r439)])) _
    refine XS.sipush X437.here hx rfl (hb hby at_102) ?_
    show Steps p.tables e below (T437.setTop (mkF m 105 #[.val (.int p0), .val (.int p1), .val (.int p2), .val (.int p3), .val (.int p4), .val (.int vi371), .val (.int ve386), .val (.ref b404), .val (.int r439)] [(.int (255 : Int32)), (.int p2), (.int (p1 &&& (255 : Int32))), (.int (p0 &&& (255 : Int32))), (.int r439)])) _
    refine XS.iand X437.here hx rfl (hb hby at_105) rfl ?_
    show Steps p.tables e below (T437.setTop (mkF m 106 #[.val (.int p0), .val (.int p1), .val (.int p2), .val (.int p3), .val (.int p4), .val (.int vi371), .val (.int ve386), .val (.ref b404), .val (.int r439)] [(.int (p2 &&& (255 : Int32))), (.int (p1 &&& (255 : Int32))), (.int (p0 &&& (255 : Int32))), (.int r439)])) _
    refine XS.iloadN X437.here hx rfl (hb hby at_106) rfl ?_
    show Steps p.tables e below (T437.setTop (mkF m 107 #[.val (.int p0), .val (.int p1), .val (.int p2), .val (.int p3), .val (.int p4), .val (.int vi371), .val (.int ve386), .val (.ref b404), .val (.int r439)] [(.int p3), (.int (p2 &&& (255 : Int32))), (.int (p1 &&& (255 : Int32))), (.int (p0 &&& (255 : Int32))), (.int r439)])) _
    refine XS.sipush X437.here hx rfl (hb hby at_107) ?_
    show Steps p.tables e below (T437.setTop (mkF m 110 #[.val (.int p0), .val (.int p1), .val (.int p2), .val (.int p3), .val (.int p4), .val (.int vi371), .val (.int ve386), .val (.ref b404), .val (.int r439)] [(.int (255 : Int32)), (.int p3), (.int (p2 &&& (255 : Int32))), (.int (p1 &&& (255 : Int32))), (.int (p0 &&& (255 : Int32))), (.int r439)])) _
    refine XS.iand X437.here hx rfl (hb hby at_110) rfl ?_
    show Steps p.tables e below (T437.setTop (mkF m 111 #[.val (.int p0), .val (.int p1), .val (.int p2), .val (.int p3), .val (.int p4), .val (.int vi371), .val (.int ve386), .val (.ref b404), .val (.int r439)] [(.int (p3 &&& (255 : Int32))), (.int (p2 &&& (255 : Int32))), (.int (p1 &&& (255 : Int32))), (.int (p0 &&& (255 : Int32))), (.int r439)])) _
    refine XS.iload X437.here hx rfl (hb hby at_111) rfl ?_
    show Steps p.tables e below (T437.setTop (mkF m 113 #[.val (.int p0), .val (.int p1), .val (.int p2), .val (.int p3), .val (.int p4), .val (.int vi371), .val (.int ve386), .val (.ref b404), .val (.int r439)] [(.int ve386), (.int (p3 &&& (255 : Int32))), (.int (p2 &&& (255 : Int32))), (.int (p1 &&& (255 : Int32))), (.int (p0 &&& (255 : Int32))), (.int r439)])) _
    refine XS.iload X437.here hx rfl (hb hby at_113) rfl ?_
    show Steps p.tables e below (T437.setTop (mkF m 115 #[.val (.int p0), .val (.int p1), .val (.int p2), .val (.int p3), .val (.int p4), .val (.int vi371), .val (.int ve386), .val (.ref b404), .val (.int r439)] [(.int vi371), (.int ve386), (.int (p3 &&& (255 : Int32))), (.int (p2 &&& (255 : Int32))), (.int (p1 &&& (255 : Int32))), (.int (p0 &&& (255 : Int32))), (.int r439)])) _
    refine XS.isub X437.here hx rfl (hb hby at_115) rfl ?_
    show Steps p.tables e below (T437.setTop (mkF m 116 #[.val (.int p0), .val (.int p1), .val (.int p2), .val (.int p3), .val (.int p4), .val (.int vi371), .val (.int ve386), .val (.ref b404), .val (.int r439)] [(.int (ve386 - vi371)), (.int (p3 &&& (255 : Int32))), (.int (p2 &&& (255 : Int32))), (.int (p1 &&& (255 : Int32))), (.int (p0 &&& (255 : Int32))), (.int r439)])) _
    refine st440 _ ?_
    show Steps p.tables e below (T440.setTop (mkF m 119 #[.val (.int p0), .val (.int p1), .val (.int p2), .val (.int p3), .val (.int p4), .val (.int vi371), .val (.int ve386), .val (.ref b404), .val (.int r439)] [(.int (own_exp (p0 &&& (255 : Int32)) (p1 &&& (255 : Int32)) (p2 &&& (255 : Int32)) (p3 &&& (255 : Int32)) (ve386 - vi371))), (.int r439)])) _
    exact kt
  obtain ⟨r442, hr442⟩ : ∃ z : Int32, z = (own_exp (p0 &&& (255 : Int32)) (p1 &&& (255 : Int32)) (p2 &&& (255 : Int32)) (p3 &&& (255 : Int32)) (ve386 - vi371)) := ⟨_, rfl⟩
  rw [← hr442] at k441
  have hres443 : r439 = r442 := by
    rw [hr439, hr442, own_eq_own_seq, own_eq_own_exp]
    simp only [own_bm, own_eq_own_cont]
    have m0 : 0 ≤ (p0 &&& (255 : Int32)).toInt ∧ (p0 &&& (255 : Int32)).toInt < 256 := by
      rw [c_mask p0 255 8 (by decide) (by decide)]; simp only [show (2 ^ 8 : Nat) = 256 from by decide, Int.cast_ofNat_Int]; omega
    have m1 : 0 ≤ (p1 &&& (255 : Int32)).toInt ∧ (p1 &&& (255 : Int32)).toInt < 256 := by
      rw [c_mask p1 255 8 (by decide) (by decide)]; simp only [show (2 ^ 8 : Nat) = 256 from by decide, Int.cast_ofNat_Int]; omega
    have m2 : 0 ≤ (p2 &&& (255 : Int32)).toInt ∧ (p2 &&& (255 : Int32)).toInt < 256 := by
      rw [c_mask p2 255 8 (by decide) (by decide)]; simp only [show (2 ^ 8 : Nat) = 256 from by decide, Int.cast_ofNat_Int]; omega
    have m3 : 0 ≤ (p3 &&& (255 : Int32)).toInt ∧ (p3 &&& (255 : Int32)).toInt < 256 := by
      rw [c_mask p3 255 8 (by decide) (by decide)]; simp only [show (2 ^ 8 : Nat) = 256 from by decide, Int.cast_ofNat_Int]; omega
    exact own_pl m0 m1 m2 m3 ⟨by omega, by omega⟩ hen
  have hc119_444 : r439 = r442 := hres443
  have k445 : ∀ tg_, Steps p.tables e below (T440.setTop (mkF m 127 #[.val (.int p0), .val (.int p1), .val (.int p2), .val (.int p3), .val (.int p4), .val (.int vi371), .val (.int ve386), .val (.ref b404), .val (.int r439)] [(.int (1 : Int32))])) tg_ → Steps p.tables e below (s₁.setTop (entryFrame m #[(.int p0), (.int p1), (.int p2), (.int p3), (.int p4)] maxLocals)) tg_ := by
    intro tg_ kt
    refine k441 tg_ ?_
    show Steps p.tables e below (T440.setTop (mkF m 119 #[.val (.int p0), .val (.int p1), .val (.int p2), .val (.int p3), .val (.int p4), .val (.int vi371), .val (.int ve386), .val (.ref b404), .val (.int r439)] [(.int r442), (.int r439)])) _
    refine XS.icmpNo X440.here hx rfl (hb hby at_119) rfl (teq hc119_444).2 ?_
    show Steps p.tables e below (T440.setTop (mkF m 122 #[.val (.int p0), .val (.int p1), .val (.int p2), .val (.int p3), .val (.int p4), .val (.int vi371), .val (.int ve386), .val (.ref b404), .val (.int r439)] [])) _
    refine XS.iconst X440.here hx rfl (hb hby at_122) ?_
    show Steps p.tables e below (T440.setTop (mkF m 123 #[.val (.int p0), .val (.int p1), .val (.int p2), .val (.int p3), .val (.int p4), .val (.int vi371), .val (.int ve386), .val (.ref b404), .val (.int r439)] [(.int (1 : Int32))])) _
    refine XS.goto X440.here hx rfl (pc0 := 123) (pc' := 127) rfl (hb hby at_123) (by decide) (by decide) ?_
    show Steps p.tables e below (T440.setTop (mkF m 127 #[.val (.int p0), .val (.int p1), .val (.int p2), .val (.int p3), .val (.int p4), .val (.int vi371), .val (.int ve386), .val (.ref b404), .val (.int r439)] [(.int (1 : Int32))])) _
    exact kt
  obtain ⟨fs, hr, hrun, hended, hW, hsame⟩ := X440.leave (v := some (.int (1 : Int32))) (fun h => by rw [Bd.returns] at h; cases h)
  refine ⟨_, _, k445 _ (retN X440 hx (t := .boolean) Bd.returns (by simp) (hb hby at_127) hr), hrun, hended, _, _, rfl, ?_, ⟨_, rfl⟩, hW, hsame.mono (by decide) (by decide)⟩
  show Q0 Z p0 p1 p2 p3 p4 h0 n0 _ T440.heap _
  rw [eq440]
  exact ⟨rfl, N440⟩
set_option maxRecDepth 65536 in
set_option maxHeartbeats 40000000 in
theorem comes_1 {Post : Tables → Env → Array Value → State → Outcome → State → Prop} (hpost : ∀ tb e args s v u, (limb_1_1.after args s (.returned v) u = true ∧ limb_1_2.after args s (.returned v) u = true ∧ True) → FrameEnd s (.returned v) u (Jvm.fieldLocs frame_1_writes args s ++ Jvm.arrayLocs frame_1_arrays args s ++ Jvm.staticLocs frame_1_statics s) 16 128 → Post tb e args s (.returned v) u) :
    ArmFor flags0 classFile x code maxLocals ret World_1 tables_1 room_1 Calls_1 rest_1 Pre_1 Post := by
  intro l hfl _ _ p e ha hc hk s m args below hf hA hF happ hP
  obtain ⟨hcalls, hrest, hpre⟩ := hP
  obtain ⟨-, -, -, hnamed, -, -, -, hat⟩ := (Spec.applies_iff hf).mp happ
  obtain ⟨hg, hn⟩ := and_e (Cond.before_iff.mp (show (Jvm.Cond.and given_1 narrow_1).before args s = true from hpre))
  have hcount := (and_e hg).1
  have hgs0 := (and_e hg).2
  have hi0 := (and_e hgs0).1
  have hgs1 := (and_e hgs0).2
  have hi1 := (and_e hgs1).1
  have hgs2 := (and_e hgs1).2
  have hi2 := (and_e hgs2).1
  have hgs3 := (and_e hgs2).2
  have hi3 := (and_e hgs3).1
  have hgs4 := (and_e hgs3).2
  have hi4 := hgs4
  obtain ⟨w0, w1, w2, w3, w4, rfl⟩ : ∃ w0 w1 w2 w3 w4 : Value, args = #[w0, w1, w2, w3, w4] := by
    have hs : args.size = 5 := by simpa [Cond.value, given_1] using hcount
    obtain ⟨L⟩ := args
    match L, hs with
    | [w0, w1, w2, w3, w4], _ => exact ⟨w0, w1, w2, w3, w4, rfl⟩
  have hw := fun d (hd : d ∈ tables_1) => atoms_spec (ws := Jvm.Cond.code x code maxLocals ret :: tables_1) hat d (List.mem_cons_of_mem _ hd)
  have hfit : Fit s := fun {y c} hc i hi => by
    obtain ⟨ha, rfl⟩ := Array.getElem?_eq_some_iff.mp hc
    have q := List.all_eq_true.mp ((Array.all_eq_true_iff_forall_mem.mp hF) _ (Array.getElem_mem ha)) i (List.mem_range.mpr hi)
    simpa [Array.getElem?_eq_getElem hi] using q
  obtain ⟨i0, ei0⟩ := is_v hi0
  obtain rfl : w0 = (.int i0) := Option.some.inj ei0
  obtain ⟨i1, ei1⟩ := is_v hi1
  obtain rfl : w1 = (.int i1) := Option.some.inj ei1
  obtain ⟨i2, ei2⟩ := is_v hi2
  obtain rfl : w2 = (.int i2) := Option.some.inj ei2
  obtain ⟨i3, ei3⟩ := is_v hi3
  obtain rfl : w3 = (.int i3) := Option.some.inj ei3
  obtain ⟨i4, ei4⟩ := is_v hi4
  obtain rfl : w4 = (.int i4) := Option.some.inj ei4
  obtain ⟨n, o, h1, h2, h3, _, L, rfl, ⟨rfl, N⟩, hq⟩ := rm0 l s _ hw tables_1 i0 i1 i2 i3 i4 s.heap s.heap.size (Nat.le_refl _)  p e ha hc hk s m _ below hf ((Spec.applies_iff_loose hf).mp happ).1 ⟨rfl, State.Warmed39.refl s, rfl⟩ trivial
  refine ⟨n, _, h1, h2, h3, hpost _ _ _ _ _ _ ⟨Cond.after_iff.mpr rfl, Cond.after_iff.mpr (eq_i res_at (Term.int_eval (1)) rfl), trivial⟩ ⟨hq.1, hq.2.1, (hq.2.2.sift fun y hy => Or.inr (N y hy)).mono (by decide) (by decide)⟩⟩
theorem main_1_1 : Claimed_1_1 := comes_1 fun _ _ _ _ _ _ h hF => ⟨h.1, hF⟩
theorem main_1_2 : Claimed_1_2 := comes_1 fun _ _ _ _ _ _ h hF => ⟨h.2.1, hF⟩
end Jvm.Pilot.@@N@@
namespace Jvm.Pilot.@@N@@
open Jvm Jvm.ClassFile Sem Op Lib Jvm.Free Jvm.Stand Jvm.Pilot.@@N@@.Jvm.D
/-! MADE BY PROGRAM (witnessworld.py) out of the Statement's table words and the real class files: 9 classes; the members and pool entries that the words name. The judged class is class 1, her method 1. -/
namespace start1
open Jvm.ClassFile
def u (s : String) : CpInfo := .utf8 (stringToUtf16 s)
/-- a pool by its gaps: so many unusable entries, then the entry; so many at the end -/
def gap : Nat → List CpInfo → List CpInfo
  | 0, r => r
  | n + 1, r => .unusable :: gap n r
def poolList (es : List (Nat × CpInfo)) (last : Nat) : List CpInfo := es.foldr (fun e r => gap e.1 (e.2 :: r)) (gap last [])
def pool (es : List (Nat × CpInfo)) (last : Nat) : Array CpInfo := ⟨poolList es last⟩
def fileOf (pool : Array CpInfo) (this : Nat) (attrs : Array Attribute := #[]) (ms : Array MethodInfo := #[]) (fl : Nat := 33) (sup : Nat := 0) (ifs : Array Nat := #[]) (fds : Array FieldInfo := #[]) : ClassFile where
  minorVersion := 0
  majorVersion := 65
  constantPool := pool
  accessFlags := fl
  thisClass := this
  superClass := sup
  interfaces := ifs
  fields := fds
  methods := ms
  attributes := attrs
def plain (name : String) (sup : Option ClassId) : Class where
  name := name
  kind := .ordinary
  loader := none
  accessFlags := 33
  super := sup
  interfaces := #[]
  cf := none
  fields := #[]
  methods := #[]
  instanceTypes := #[]
  staticTypes := #[]
  resolved := #[]
  callSites := []
  init := .initialized
  statics := none
  mirror := none

def pool0 : Array CpInfo := pool [(5, u "<init>"), (0, u "()V"), (1, .class_ 10), (1, u "java/lang/Object")] 113

def k0m0 : Method := { name := "<init>", desc := "()V", sig := { parameters := [], returnType := none }, accessFlags := 1, code := none }
/-- java/lang/Object -/
def k0 : Class := { plain "java/lang/Object" none with
  accessFlags := 33
  interfaces := #[]
  cf := some (fileOf pool0 8 #[] #[{ accessFlags := 1, nameIndex := 5, descriptorIndex := 6, attributes := #[] }] 33 0 #[] #[])
  fields := #[]
  methods := #[k0m0]
  instanceTypes := #[]
  staticTypes := #[]
  resolved := Array.replicate 124 none
  statics := none }

def pool1 : Array CpInfo := pool [(2, .class_ 4), (1, u "java/lang/Object"), (0, u "<init>"), (0, u "()V"), (0, .methodref 8 9), (0, .class_ 10), (0, .nameAndType 11 12), (0, u "com/example/benzer/benzer/cli/Utf8"), (0, u "sequenceSize"), (0, u "([BII)I"), (0, .methodref 14 15), (0, .class_ 16), (0, .nameAndType 17 18), (0, u "com/example/benzer/benzer/cli/Utf8SequenceSizePinLaw"), (0, u "expected"), (0, u "(IIIII)I"), (0, .methodref 14 20), (0, .nameAndType 21 22), (0, u "cont"), (0, u "(I)Z"), (0, .integer 55296), (0, .integer 57343), (0, .integer 65536), (0, .integer 1114111), (2, u "law"), (0, u "(IIIII)Z")] 5

def k1m0 : Method := { name := "<init>", desc := "()V", sig := { parameters := [], returnType := none }, accessFlags := 2, code := none }
def k1c1 : Code := { maxStack := 7, maxLocals := 9, code := code, exceptionTable := #[], attributes := #[] }
def k1m1 : Method := { name := "law", desc := "(IIIII)Z", sig := { parameters := [.int, .int, .int, .int, .int], returnType := some .boolean }, accessFlags := 9, code := some k1c1 }
def k1c2 : Code := { maxStack := 2, maxLocals := 1, code := method_3_code, exceptionTable := #[], attributes := #[] }
def k1m2 : Method := { name := "cont", desc := "(I)Z", sig := { parameters := [.int], returnType := some .boolean }, accessFlags := 10, code := some k1c2 }
def k1c3 : Code := { maxStack := 3, maxLocals := 7, code := method_4_code, exceptionTable := #[], attributes := #[] }
def k1m3 : Method := { name := "expected", desc := "(IIIII)I", sig := { parameters := [.int, .int, .int, .int, .int], returnType := some .int }, accessFlags := 10, code := some k1c3 }
/-- com/example/benzer/benzer/cli/Utf8SequenceSizePinLaw -/
def k1 : Class := { plain "com/example/benzer/benzer/cli/Utf8SequenceSizePinLaw" (some 0) with
  accessFlags := 49
  interfaces := #[]
  cf := some (fileOf pool1 14 #[] #[{ accessFlags := 2, nameIndex := 5, descriptorIndex := 6, attributes := #[] }, { accessFlags := 9, nameIndex := 29, descriptorIndex := 30, attributes := #[] }, { accessFlags := 10, nameIndex := 21, descriptorIndex := 22, attributes := #[] }, { accessFlags := 10, nameIndex := 17, descriptorIndex := 18, attributes := #[] }] 49 2 #[] #[])
  fields := #[]
  methods := #[k1m0, k1m1, k1m2, k1m3]
  instanceTypes := #[]
  staticTypes := #[]
  resolved := Array.replicate 36 none
  statics := none }

def pool2 : Array CpInfo := pool [(2, .class_ 4), (1, u "java/lang/Object"), (0, u "<init>"), (0, u "()V"), (0, .class_ 8), (0, u "com/example/benzer/benzer/cli/Utf8"), (2, u "sequenceSize"), (0, u "([BII)I")] 5

def k2m0 : Method := { name := "<init>", desc := "()V", sig := { parameters := [], returnType := none }, accessFlags := 2, code := none }
def k2c1 : Code := { maxStack := 3, maxLocals := 10, code := prog_27_method_2_code, exceptionTable := #[], attributes := #[] }
def k2m1 : Method := { name := "sequenceSize", desc := "([BII)I", sig := { parameters := [(.array .byte), .int, .int], returnType := some .int }, accessFlags := 8, code := some k2c1 }
/-- com/example/benzer/benzer/cli/Utf8 -/
def k2 : Class := { plain "com/example/benzer/benzer/cli/Utf8" (some 0) with
  accessFlags := 48
  interfaces := #[]
  cf := some (fileOf pool2 7 #[] #[{ accessFlags := 2, nameIndex := 5, descriptorIndex := 6, attributes := #[] }, { accessFlags := 8, nameIndex := 11, descriptorIndex := 12, attributes := #[] }] 48 2 #[] #[])
  fields := #[]
  methods := #[k2m0, k2m1]
  instanceTypes := #[]
  staticTypes := #[]
  resolved := Array.replicate 18 none
  statics := none }

def pool3 : Array CpInfo := pool [(1, u "java/lang/Cloneable"), (0, .class_ 1), (0, u "java/lang/Object"), (0, .class_ 3)] 3

/-- java/lang/Cloneable -/
def k3 : Class := { plain "java/lang/Cloneable" (some 0) with
  accessFlags := 1537
  interfaces := #[]
  cf := some (fileOf pool3 2 #[] #[] 1537 4 #[] #[])
  fields := #[]
  methods := #[]
  instanceTypes := #[]
  staticTypes := #[]
  resolved := Array.replicate 8 none
  statics := none }

def pool4 : Array CpInfo := pool [(1, u "java/io/Serializable"), (0, .class_ 1), (0, u "java/lang/Object"), (0, .class_ 3)] 3

/-- java/io/Serializable -/
def k4 : Class := { plain "java/io/Serializable" (some 0) with
  accessFlags := 1537
  interfaces := #[]
  cf := some (fileOf pool4 2 #[] #[] 1537 4 #[] #[])
  fields := #[]
  methods := #[]
  instanceTypes := #[]
  staticTypes := #[]
  resolved := Array.replicate 8 none
  statics := none }

/-- the primitive byte -/
def k5 : Class := { plain "byte" none with kind := .primitive 'B', accessFlags := 0x411 }
/-- [B -/
def k6 : Class := { plain "[B" (some 0) with kind := .array 5 .byte, interfaces := #[3, 4], accessFlags := 1041 }

/-- the primitive int -/
def k7 : Class := { plain "int" none with kind := .primitive 'I', accessFlags := 0x411 }
/-- [I -/
def k8 : Class := { plain "[I" (some 0) with kind := .array 7 .int, interfaces := #[3, 4], accessFlags := 1041 }

def heap : Heap := #[]
def classes : Array Class := #[k0, k1, k2, k3, k4, k5, k6, k7, k8]
def interned : List (Array UInt16 × Addr) := []
def slotsUsed : Nat := 0
def theMethod : MethodId := ⟨1, 1⟩
def args0 : Array Value := #[.int 1, .int 2, .int 3, .int 4, .int 5]
def aboutOver (below : List Frame) : State where
  vm := { classes := classes, interned := interned.toArray }
  heap := heap
  slotsUsed := slotsUsed
  threads := #[{ frames := .invoking theMethod args0 :: below }]
def below0 : List Frame := [.native { method := ⟨0, 0⟩, args := #[] }]
def about1 : State := aboutOver below0
def p0 : Program := .bare "" "" ""
def e0 : Env := launch0.env 0 0 0
theorem w_frames : about1.frames = Frame.invoking theMethod args0 :: below0 := rfl
set_option maxRecDepth 65536 in
theorem w_args : argsFit about1.vm theMethod args0 = true := by decide +kernel
set_option maxRecDepth 65536 in
theorem w_heap : heapFits about1 = true := by decide +kernel
set_option maxRecDepth 65536 in
theorem w_runnable : about1.curStatus? = some .runnable := by decide +kernel
set_option maxRecDepth 65536 in
theorem w_alone : about1.alone = true := by decide +kernel
set_option maxRecDepth 65536 in
theorem w_named : about1.methodNamed? x = some theMethod := by decide +kernel
set_option maxRecDepth 65536 in
theorem w_hears : about1.hears theMethod below0 = true := by decide +kernel
set_option maxRecDepth 65536 in
theorem w_ripe : about1.ripe theMethod args0 below0 = true := by decide +kernel
theorem w_running : about1.status = .running := rfl
set_option maxRecDepth 65536 in
theorem w_room : about1.hasRoom e0.platform room_1 = true :=
  launch0.hasRoom_least _ room_1 (by decide +kernel) (by decide +kernel) (by decide +kernel) (by decide +kernel) (by decide +kernel) (by decide +kernel)
theorem allAtoms_all (ts : List Jvm.Cond) (a : Array Jvm.Value) (st : Jvm.State) : (allAtoms ts).before a st = ts.all (fun c => c.before a st) := by
  induction ts with
  | nil => rfl
  | cons c t ih =>
    show (Jvm.Cond.and c (allAtoms t)).before a st = _
    rw [Jvm.Cond.before_and, ih, List.all_cons]
def words1 : List Jvm.Cond := Jvm.Cond.code x code maxLocals ret :: tables_1
/-- a 'code' word, met by the world's own term for the bytes: nothing is compared byte by byte -/
theorem code_word {y : MethodName} {bytes : ByteArray} {mx : Nat} {rt : Option FieldType} {a : Array Value} {s : State} {m : MethodId} {meth : Method} {c : Code} (h1 : s.methodNamed? y = some m) (h2 : s.vm.method? m = some meth) (h3 : meth.code = some c) (h4 : c.code = bytes)
    (h5 : (c.maxLocals == mx && c.exceptionTable.isEmpty && decide (c.maxStack ≤ mostOperands) && decide (meth.sig.returnType = rt) && !meth.locks && decide (parseMethodDescriptor y.desc = some meth.sig)) = true) : (Jvm.Cond.code y bytes mx rt).before a s = true := by
  simp only [Bool.and_eq_true, beq_iff_eq, Bool.not_eq_true', decide_eq_true_eq] at h5
  obtain ⟨⟨⟨⟨⟨g1, g2⟩, g3⟩, g4⟩, g5⟩, g6⟩ := h5
  simp [Cond.before, Cond.holds, Cond.value, h1, h2, h3, h4, g1, g2, g3, g4, g5, g6]
def isCode : Jvm.Cond → Bool
  | .code _ _ _ _ => true
  | _ => false
theorem all_split {L : List Jvm.Cond} {P : Jvm.Cond → Bool} (h1 : L.all (fun c => isCode c || P c) = true) (h2 : ∀ c ∈ L.filter isCode, P c = true) : L.all P = true := by
  refine List.all_eq_true.mpr fun c hc => ?_
  have h := List.all_eq_true.mp h1 c hc
  rcases Bool.eq_false_or_eq_true (isCode c) with hi | hi
  · exact h2 c (List.mem_filter.mpr ⟨hc, hi⟩)
  · simpa [hi] using h
set_option maxRecDepth 65536 in
theorem w_c0 : (Jvm.Cond.code x code maxLocals ret).before args0 about1 = true := code_word (m := ⟨1, 1⟩) (meth := k1m1) (c := k1c1) (by decide +kernel) rfl rfl rfl (by decide +kernel)
set_option maxRecDepth 65536 in
theorem w_c1 : (Jvm.Cond.code ({ cls := "com/example/benzer/benzer/cli/Utf8", name := "sequenceSize", desc := "([BII)I" } : Jvm.MethodName) prog_27_method_2_code (10 : Nat) (Option.some Jvm.ClassFile.FieldType.int)).before args0 about1 = true := code_word (m := ⟨2, 1⟩) (meth := k2m1) (c := k2c1) (by decide +kernel) rfl rfl rfl (by decide +kernel)
set_option maxRecDepth 65536 in
theorem w_c2 : (Jvm.Cond.code ({ cls := "com/example/benzer/benzer/cli/Utf8SequenceSizePinLaw", name := "expected", desc := "(IIIII)I" } : Jvm.MethodName) method_4_code (7 : Nat) (Option.some Jvm.ClassFile.FieldType.int)).before args0 about1 = true := code_word (m := ⟨1, 3⟩) (meth := k1m3) (c := k1c3) (by decide +kernel) rfl rfl rfl (by decide +kernel)
set_option maxRecDepth 65536 in
theorem w_c3 : (Jvm.Cond.code ({ cls := "com/example/benzer/benzer/cli/Utf8SequenceSizePinLaw", name := "cont", desc := "(I)Z" } : Jvm.MethodName) method_3_code (1 : Nat) (Option.some Jvm.ClassFile.FieldType.boolean)).before args0 about1 = true := code_word (m := ⟨1, 2⟩) (meth := k1m2) (c := k1c2) (by decide +kernel) rfl rfl rfl (by decide +kernel)
def codes1 : List Jvm.Cond := [Jvm.Cond.code x code maxLocals ret, Jvm.Cond.code ({ cls := "com/example/benzer/benzer/cli/Utf8", name := "sequenceSize", desc := "([BII)I" } : Jvm.MethodName) prog_27_method_2_code (10 : Nat) (Option.some Jvm.ClassFile.FieldType.int), Jvm.Cond.code ({ cls := "com/example/benzer/benzer/cli/Utf8SequenceSizePinLaw", name := "expected", desc := "(IIIII)I" } : Jvm.MethodName) method_4_code (7 : Nat) (Option.some Jvm.ClassFile.FieldType.int), Jvm.Cond.code ({ cls := "com/example/benzer/benzer/cli/Utf8SequenceSizePinLaw", name := "cont", desc := "(I)Z" } : Jvm.MethodName) method_3_code (1 : Nat) (Option.some Jvm.ClassFile.FieldType.boolean)]
set_option maxRecDepth 65536 in
theorem codes_eq : words1.filter isCode = codes1 := rfl
theorem w_codes : ∀ c ∈ words1.filter isCode, c.before args0 about1 = true := by
  rw [codes_eq]
  intro c hc
  simp only [codes1, List.mem_cons, List.not_mem_nil, or_false] at hc
  rcases hc with rfl | rfl | rfl | rfl
  · exact w_c0
  · exact w_c1
  · exact w_c2
  · exact w_c3
set_option maxRecDepth 65536 in
theorem w_t1 : words1.all (fun c => isCode c || c.before args0 about1) = true := by decide +kernel
theorem w_tables : (allAtoms (Jvm.Cond.code x code maxLocals ret :: tables_1)).before args0 about1 = true := by
  rw [allAtoms_all]
  show words1.all (fun c => c.before args0 about1) = true
  refine all_split ?_ w_codes
  rw [w_t1]
set_option maxRecDepth 65536 in
theorem w_case : (Jvm.Cond.and given_1 narrow_1).before args0 about1 = true := by decide +kernel
theorem w_applies : (headSpec (Jvm.Cond.code x code maxLocals ret :: tables_1) room_1).applies x e0.platform about1 = true :=
  (Spec.applies_iff w_frames).mpr ⟨w_running, w_runnable, w_alone, w_named, w_hears, w_ripe, w_room, w_tables⟩
theorem atStart : AtStart classFile x code maxLocals ret World_1 tables_1 room_1 Calls_1 rest_1 Pre_1 launch0 p0 e0 about1 theMethod args0 below0 :=
  ⟨lists_1, trivial, launch0.admits_env _ _ _, launch0.least_env, fairChoices_fair.cas, fairChoices_fair.clock, w_frames, w_args, w_heap, w_applies, trivial, trivial, w_case⟩
end start1
theorem witness_1 : WitnessClaimed_1 := ⟨start1.p0, start1.e0, start1.about1, start1.theMethod, start1.args0, start1.below0, start1.atStart⟩
end Jvm.Pilot.@@N@@
