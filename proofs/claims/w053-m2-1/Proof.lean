import JvmDerived
import JvmDerived.Pilot.@@N@@Statement
import JvmDerived.Pilot.@@N@@Code
set_option linter.unusedVariables false
set_option linter.unusedSimpArgs false
namespace Jvm.RoadKit
open Sem ClassFile Op Lib Jvm.Stand Jvm.Free Jvm.LawKit
section New
variable {p : Program} {l : Launch} {e : Env} {R : Room} {s : State} {m : MethodId} {args : Array Value} {below : List Frame} {meth : Method} {c : Code} {T : State} {locs : List Loc} {cells slots : Nat}
theorem retI (X : Stand p l e R s m args below meth c T locs cells slots) (hx : p.tables.exec = Jvm.exec) {pc : Nat} {Ls : Array Slot} {z : Int32} {rest : List Value} (hret : meth.sig.returnType = some .int) (hd : decode c.code pc = .ok (.ireturn, 1)) {fs : List Frame}
    (hl : ∀ (f : JFrame) (acts : List Action), f.method = m → f.locked = none → f.entered = [] → (doReturn e (T.setTop f) acts (some (.int z))).1 = T.setFrames fs) : Steps p.tables e below (T.setTop (mkF m pc Ls (.int z :: rest))) (T.setFrames fs) := by
  have hm' : T.vm.method? m = some meth := X.method'
  have hn : narrow .int (.int z) = .int z := rfl
  show Steps p.tables e below (T.setTop { method := m, pc := pc, locals := Ls, stack := _ :: rest, locked := none }) _
  jvm_step X.here [X.here.top, hx, hd, hm', hret, hn]
  first | (intro acts; rw [hl _ acts rfl rfl rfl]) | rw [hl _ _ rfl rfl rfl]
  exact Steps.refl _
end New
end Jvm.RoadKit
namespace Jvm.Pilot.@@N@@
open Jvm Jvm.ClassFile Sem Op Lib Jvm.Free Jvm.Stand Jvm.LawKit Jvm.RoadKit Bundle Jvm.Pilot.@@N@@.Jvm.D
section Own
variable {p : Program} {l : Launch} {e : Env} {R : Room} {s : State} {m : MethodId} {args : Array Value} {below : List Frame} {meth : Method} {c : Code} {T : State} {locs : List Loc} {cells slots : Nat} {Z : State} {a0 : Array Value} {h h' : Heap}
/-- an array of n places, whose j-th holds f j -/
def own_AF (Z : State) (h : Heap) (a : Addr) (ty : FieldType) (n : Nat) (f : Nat → Value) : Prop := n < 2147483648 ∧ ∃ c : Cell, Arr Z h a c ty ∧ c.slots.size = n ∧ ∀ j, j < n → c.slots[j]? = some (f j)
/-- an array of ints, bytes, chars, booleans -/
def own_AI (Z : State) (h : Heap) (a : Addr) (ty : FieldType) (n : Nat) (f : Nat → Int32) : Prop := own_AF Z h a ty n (fun j => .int (f j))
def own_AL (Z : State) (h : Heap) (a : Addr) (n : Nat) (f : Nat → Int64) : Prop := own_AF Z h a .long n (fun j => .long (f j))
def own_upd {α : Type} (f : Nat → α) (i : Nat) (x : α) : Nat → α := fun j => if j = i then x else f j
theorem own_AF.lt {a : Addr} {ty : FieldType} {n : Nat} {f : Nat → Value} (F : own_AF Z h a ty n f) : a < h.size := by obtain ⟨_, c, A, -⟩ := F; exact A.lt
theorem own_AI.lt {a : Addr} {ty : FieldType} {n : Nat} {f : Nat → Int32} (F : own_AI Z h a ty n f) : a < h.size := own_AF.lt F
theorem own_AL.lt {a : Addr} {n : Nat} {f : Nat → Int64} (F : own_AL Z h a n f) : a < h.size := own_AF.lt F
theorem own_AF.keep {a : Addr} {ty : FieldType} {n : Nat} {f : Nat → Value} {ws : List Addr} (F : own_AF Z h a ty n f) (K : Keep h h' ws) (q : a ∉ ws) : own_AF Z h' a ty n f := by
  obtain ⟨b, c, A, r⟩ := F; exact ⟨b, c, ⟨K.2.1 a c A.1 q, A.2⟩, r⟩
theorem own_AI.keep {a : Addr} {ty : FieldType} {n : Nat} {f : Nat → Int32} {ws : List Addr} (F : own_AI Z h a ty n f) (K : Keep h h' ws) (q : a ∉ ws) : own_AI Z h' a ty n f := own_AF.keep F K q
theorem own_AL.keep {a : Addr} {n : Nat} {f : Nat → Int64} {ws : List Addr} (F : own_AL Z h a n f) (K : Keep h h' ws) (q : a ∉ ws) : own_AL Z h' a n f := own_AF.keep F K q
theorem own_AF.congr {a : Addr} {ty : FieldType} {n : Nat} {f g : Nat → Value} (F : own_AF Z h a ty n f) (q : ∀ j, j < n → f j = g j) : own_AF Z h a ty n g := by
  obtain ⟨b, c, A, s, r⟩ := F; exact ⟨b, c, A, s, fun j hj => by rw [r j hj, q j hj]⟩
theorem own_AI.congr {a : Addr} {ty : FieldType} {n : Nat} {f g : Nat → Int32} (F : own_AI Z h a ty n f) (q : ∀ j, j < n → f j = g j) : own_AI Z h a ty n g := own_AF.congr F fun j hj => by show Value.int (f j) = .int (g j); rw [q j hj]
theorem own_AF.wr {a : Addr} {ty : FieldType} {n i : Nat} {f : Nat → Value} {v : Value} (F : own_AF Z h a ty n f) (hi : i < n) (W : Wr h h' a i v) : own_AF Z h' a ty n (own_upd f i v) := by
  obtain ⟨b, c, A, s, r⟩ := F
  refine ⟨b, _, A.same W, by rw [sz_set]; exact s, fun j hj => ?_⟩
  simp only [Cell.setSlot, own_upd, Array.getElem?_setIfInBounds]
  by_cases q : i = j
  · subst q; simp [s, hi]
  · have q' : ¬ j = i := fun e => q e.symm
    simp [q, q', r j hj]
theorem own_AI.wr {a : Addr} {ty : FieldType} {n i : Nat} {f : Nat → Int32} {x : Int32} (F : own_AI Z h a ty n f) (hi : i < n) (W : Wr h h' a i (.int x)) : own_AI Z h' a ty n (own_upd f i x) :=
  (own_AF.wr F hi W).congr fun j hj => by simp only [own_upd]; split <;> rfl
theorem own_AL.wr {a : Addr} {n i : Nat} {f : Nat → Int64} {x : Int64} (F : own_AL Z h a n f) (hi : i < n) (W : Wr h h' a i (.long x)) : own_AL Z h' a n (own_upd f i x) :=
  (own_AF.wr F hi W).congr fun j hj => by simp only [own_upd]; split <;> rfl
theorem own_idx {j : Int32} {i : Nat} (hj : j.toInt = i) : ¬ j < 0 ∧ j.toNatClampNeg = i := by
  refine ⟨by rw [Int32.lt_iff_toInt_lt, Int32.toInt_zero]; omega, ?_⟩
  have := nat_of (j := j) (by rw [Int32.lt_iff_toInt_lt, Int32.toInt_zero]; omega)
  omega
theorem own_inb {j : Int32} {i n : Nat} {cl : Cell} (hj : j.toInt = i) (hi : i < n) (hs : cl.slots.size = n) : ¬ (j < 0 ∨ cl.slots.size ≤ j.toNatClampNeg) := by
  obtain ⟨h1, h2⟩ := own_idx hj
  rintro (q | q)
  · exact h1 q
  · rw [h2, hs] at q; omega
theorem own_ldF {a : Addr} {n i : Nat} {ty : FieldType} {f : Nat → Value} {j : Int32} {v : Value} (A : own_AF Z h a ty n f) (hj : j.toInt = i) (hi : i < n) (hv : f i = v) : ∃ cl : Cell, Arr Z h a cl ty ∧ ¬ (j < 0 ∨ cl.slots.size ≤ j.toNatClampNeg) ∧ cl.slots[j.toNatClampNeg]? = some v := by
  obtain ⟨b, cl, Ar, hs, hf⟩ := A
  exact ⟨cl, Ar, own_inb hj hi hs, by rw [(own_idx hj).2, hf i hi, hv]⟩
theorem own_ldI (X : Stand p l e R s m args below meth c T locs cells slots) (hx : p.tables.exec = Jvm.exec) (hZ : Z.Warmed39 s.vm) (eT : T.heap = h) {a : Addr} {n i : Nat} {f : Nat → Int32} {j x : Int32} (A : own_AI Z h a .int n f) (hj : j.toInt = i) (hi : i < n) (hv : f i = x) {g : JFrame} (hg : g.method = m) {rest : List Value} (hs : g.stack = .int j :: .ref a :: rest) (hd : decode c.code g.pc = .ok (.iaload, 1)) :
    ∀ target, Steps p.tables e below (T.setTop { g with pc := g.pc + 1, stack := .int x :: rest }) target → Steps p.tables e below (T.setTop g) target := by
  obtain ⟨cl, Ar, h1, h2⟩ := own_ldF A hj hi (by rw [hv])
  exact X.iaload hx (by rw [eT]; exact Ar.1) (State.isArrayOf_alike hZ.alike Ar.2.1) Ar.2.2 h1 h2 hg hs hd
theorem own_ldC (X : Stand p l e R s m args below meth c T locs cells slots) (hx : p.tables.exec = Jvm.exec) (hZ : Z.Warmed39 s.vm) (eT : T.heap = h) {a : Addr} {n i : Nat} {f : Nat → Int32} {j x : Int32} (A : own_AI Z h a .char n f) (hj : j.toInt = i) (hi : i < n) (hv : f i = x) {g : JFrame} (hg : g.method = m) {rest : List Value} (hs : g.stack = .int j :: .ref a :: rest) (hd : decode c.code g.pc = .ok (.caload, 1)) :
    ∀ target, Steps p.tables e below (T.setTop { g with pc := g.pc + 1, stack := .int x :: rest }) target → Steps p.tables e below (T.setTop g) target := by
  obtain ⟨cl, Ar, h1, h2⟩ := own_ldF A hj hi (by rw [hv])
  exact X.caload hx (by rw [eT]; exact Ar.1) (State.isArrayOf_alike hZ.alike Ar.2.1) Ar.2.2 h1 h2 hg hs hd
theorem own_ldB (X : Stand p l e R s m args below meth c T locs cells slots) (hx : p.tables.exec = Jvm.exec) (hZ : Z.Warmed39 s.vm) (eT : T.heap = h) {a : Addr} {n i : Nat} {f : Nat → Int32} {j x : Int32} (A : own_AI Z h a .byte n f) (hj : j.toInt = i) (hi : i < n) (hv : f i = x) {g : JFrame} (hg : g.method = m) {rest : List Value} (hs : g.stack = .int j :: .ref a :: rest) (hd : decode c.code g.pc = .ok (.baload, 1)) :
    ∀ target, Steps p.tables e below (T.setTop { g with pc := g.pc + 1, stack := .int x :: rest }) target → Steps p.tables e below (T.setTop g) target := by
  obtain ⟨cl, Ar, h1, h2⟩ := own_ldF A hj hi (by rw [hv])
  exact X.baloadBytes hx (by rw [eT]; exact Ar.1) (State.isArrayOf_alike hZ.alike Ar.2.1) Ar.2.2 h1 h2 hg hs hd
theorem own_ldZ (X : Stand p l e R s m args below meth c T locs cells slots) (hx : p.tables.exec = Jvm.exec) (hZ : Z.Warmed39 s.vm) (eT : T.heap = h) {a : Addr} {n i : Nat} {f : Nat → Int32} {j x : Int32} (A : own_AI Z h a .boolean n f) (hj : j.toInt = i) (hi : i < n) (hv : f i = x) {g : JFrame} (hg : g.method = m) {rest : List Value} (hs : g.stack = .int j :: .ref a :: rest) (hd : decode c.code g.pc = .ok (.baload, 1)) :
    ∀ target, Steps p.tables e below (T.setTop { g with pc := g.pc + 1, stack := .int x :: rest }) target → Steps p.tables e below (T.setTop g) target := by
  obtain ⟨cl, Ar, h1, h2⟩ := own_ldF A hj hi (by rw [hv])
  exact X.baloadBooleans hx (by rw [eT]; exact Ar.1) (State.isArrayOf_alike hZ.alike Ar.2.1) Ar.2.2 h1 h2 hg hs hd
theorem own_ldJ (X : Stand p l e R s m args below meth c T locs cells slots) (hx : p.tables.exec = Jvm.exec) (hZ : Z.Warmed39 s.vm) (eT : T.heap = h) {a : Addr} {n i : Nat} {f : Nat → Int64} {j : Int32} {x : Int64} (A : own_AL Z h a n f) (hj : j.toInt = i) (hi : i < n) (hv : f i = x) {g : JFrame} (hg : g.method = m) {rest : List Value} (hs : g.stack = .int j :: .ref a :: rest) (hd : decode c.code g.pc = .ok (.laload, 1)) :
    ∀ target, Steps p.tables e below (T.setTop { g with pc := g.pc + 1, stack := .long x :: rest }) target → Steps p.tables e below (T.setTop g) target := by
  obtain ⟨cl, Ar, h1, h2⟩ := own_ldF A hj hi (by rw [hv])
  exact X.laload hx (by rw [eT]; exact Ar.1) (State.isArrayOf_alike hZ.alike Ar.2.1) Ar.2.2 h1 h2 hg hs hd
theorem own_ldR (X : Stand p l e R s m args below meth c T locs cells slots) (hx : p.tables.exec = Jvm.exec) (hZ : Z.Warmed39 s.vm) (eT : T.heap = h) {a : Addr} {n i : Nat} {ty : FieldType} {f : Nat → Value} {j : Int32} {v : Value} (hty : ty.isReference = true) (A : own_AF Z h a ty n f) (hj : j.toInt = i) (hi : i < n) (hv : f i = v) {g : JFrame} (hg : g.method = m) {rest : List Value} (hs : g.stack = .int j :: .ref a :: rest) (hd : decode c.code g.pc = .ok (.aaload, 1)) :
    ∀ target, Steps p.tables e below (T.setTop { g with pc := g.pc + 1, stack := v :: rest }) target → Steps p.tables e below (T.setTop g) target := by
  obtain ⟨cl, Ar, h1, h2⟩ := own_ldF A hj hi hv
  exact X.aaload hx (by rw [eT]; exact Ar.1) (State.isArrayOf_alike hZ.alike Ar.2.1) hty Ar.2.2 h1 h2 hg hs hd
theorem own_len (X : Stand p l e R s m args below meth c T locs cells slots) (hx : p.tables.exec = Jvm.exec) (hZ : Z.Warmed39 s.vm) (eT : T.heap = h) {a : Addr} {n : Nat} {ty : FieldType} {f : Nat → Value} {z : Int32} (A : own_AF Z h a ty n f) (hz : z.toInt = n) {g : JFrame} (hg : g.method = m) {rest : List Value} (hs : g.stack = .ref a :: rest) (hd : decode c.code g.pc = .ok (.arraylength, 1)) :
    ∀ target, Steps p.tables e below (T.setTop { g with pc := g.pc + 1, stack := .int z :: rest }) target → Steps p.tables e below (T.setTop g) target := by
  obtain ⟨b, cl, Ar, hs', hf⟩ := A
  intro target k
  refine X.arraylength hx (by rw [eT]; exact Ar.1) (State.isArrayOf_alike hZ.alike Ar.2.1) hg hs hd target ?_
  have q : cl.slots.size.toInt32 = z := by
    apply Int32.toInt_inj.mp
    rw [hs', len_toInt (by omega), hz]
  rw [q]; exact k
theorem own_stI (X : Stand p l e R s m args below meth c T locs cells slots) (hx : p.tables.exec = Jvm.exec) (hZ : Z.Warmed39 s.vm) (eT : T.heap = h) {a : Addr} {n i : Nat} {f : Nat → Int32} {j x : Int32} (A : own_AI Z h a .int n f) (hj : j.toInt = i) (hi : i < n) {g : JFrame} (hg : g.method = m) {rest : List Value} (hs : g.stack = .int x :: .int j :: .ref a :: rest) (hd : decode c.code g.pc = .ok (.iastore, 1)) :
    ∃ T' h', Stand p l e R s m args below meth c T' (locs ++ [⟨a, i⟩]) cells slots ∧ T'.heap = h' ∧ Wr h h' a i (.int x) ∧ own_AI Z h' a .int n (own_upd f i x) ∧ ∀ target, Steps p.tables e below (T'.setTop { g with pc := g.pc + 1, stack := rest }) target → Steps p.tables e below (T.setTop g) target := by
  obtain ⟨cl, Ar, h1, -⟩ := own_ldF A hj hi rfl
  obtain ⟨T', h', X', e', W, st⟩ := stI X hx hZ eT Ar h1 hg hs hd
  rw [(own_idx hj).2] at X' W
  exact ⟨T', h', X', e', W, A.wr hi W, st⟩
theorem own_stB (X : Stand p l e R s m args below meth c T locs cells slots) (hx : p.tables.exec = Jvm.exec) (hZ : Z.Warmed39 s.vm) (eT : T.heap = h) {a : Addr} {n i : Nat} {f : Nat → Int32} {j x : Int32} (A : own_AI Z h a .byte n f) (hj : j.toInt = i) (hi : i < n) {g : JFrame} (hg : g.method = m) {rest : List Value} (hs : g.stack = .int x :: .int j :: .ref a :: rest) (hd : decode c.code g.pc = .ok (.bastore, 1)) :
    ∃ T' h', Stand p l e R s m args below meth c T' (locs ++ [⟨a, i⟩]) cells slots ∧ T'.heap = h' ∧ Wr h h' a i (.int (x.toInt8.toInt32)) ∧ own_AI Z h' a .byte n (own_upd f i (x.toInt8.toInt32)) ∧ ∀ target, Steps p.tables e below (T'.setTop { g with pc := g.pc + 1, stack := rest }) target → Steps p.tables e below (T.setTop g) target := by
  obtain ⟨cl, Ar, h1, -⟩ := own_ldF A hj hi rfl
  obtain ⟨T', h', X', e', W, st⟩ := stB X hx hZ eT Ar h1 hg hs hd
  rw [(own_idx hj).2] at X' W
  exact ⟨T', h', X', e', W, A.wr hi W, st⟩
theorem own_stZ (X : Stand p l e R s m args below meth c T locs cells slots) (hx : p.tables.exec = Jvm.exec) (hZ : Z.Warmed39 s.vm) (eT : T.heap = h) {a : Addr} {n i : Nat} {f : Nat → Int32} {j x : Int32} (A : own_AI Z h a .boolean n f) (hj : j.toInt = i) (hi : i < n) {g : JFrame} (hg : g.method = m) {rest : List Value} (hs : g.stack = .int x :: .int j :: .ref a :: rest) (hd : decode c.code g.pc = .ok (.bastore, 1)) :
    ∃ T' h', Stand p l e R s m args below meth c T' (locs ++ [⟨a, i⟩]) cells slots ∧ T'.heap = h' ∧ Wr h h' a i (.int (x &&& 1)) ∧ own_AI Z h' a .boolean n (own_upd f i (x &&& 1)) ∧ ∀ target, Steps p.tables e below (T'.setTop { g with pc := g.pc + 1, stack := rest }) target → Steps p.tables e below (T.setTop g) target := by
  obtain ⟨cl, Ar, h1, -⟩ := own_ldF A hj hi rfl
  obtain ⟨T', h', X', e', W, st⟩ := stZ X hx hZ eT Ar h1 hg hs hd
  rw [(own_idx hj).2] at X' W
  exact ⟨T', h', X', e', W, A.wr hi W, st⟩
theorem own_stC (X : Stand p l e R s m args below meth c T locs cells slots) (hx : p.tables.exec = Jvm.exec) (hZ : Z.Warmed39 s.vm) (eT : T.heap = h) {a : Addr} {n i : Nat} {f : Nat → Int32} {j x : Int32} (A : own_AI Z h a .char n f) (hj : j.toInt = i) (hi : i < n) {g : JFrame} (hg : g.method = m) {rest : List Value} (hs : g.stack = .int x :: .int j :: .ref a :: rest) (hd : decode c.code g.pc = .ok (.castore, 1)) :
    ∃ T' h', Stand p l e R s m args below meth c T' (locs ++ [⟨a, i⟩]) cells slots ∧ T'.heap = h' ∧ Wr h h' a i (.int (x.toUInt32.toUInt16.toUInt32.toInt32)) ∧ own_AI Z h' a .char n (own_upd f i (x.toUInt32.toUInt16.toUInt32.toInt32)) ∧ ∀ target, Steps p.tables e below (T'.setTop { g with pc := g.pc + 1, stack := rest }) target → Steps p.tables e below (T.setTop g) target := by
  obtain ⟨cl, Ar, h1, -⟩ := own_ldF A hj hi rfl
  obtain ⟨T', h', X', e', W, st⟩ := stC X hx hZ eT Ar h1 hg hs hd
  rw [(own_idx hj).2] at X' W
  exact ⟨T', h', X', e', W, A.wr hi W, st⟩
theorem own_stJ (X : Stand p l e R s m args below meth c T locs cells slots) (hx : p.tables.exec = Jvm.exec) (hZ : Z.Warmed39 s.vm) (eT : T.heap = h) {a : Addr} {n i : Nat} {f : Nat → Int64} {j : Int32} {x : Int64} (A : own_AL Z h a n f) (hj : j.toInt = i) (hi : i < n) {g : JFrame} (hg : g.method = m) {rest : List Value} (hs : g.stack = .long x :: .int j :: .ref a :: rest) (hd : decode c.code g.pc = .ok (.lastore, 1)) :
    ∃ T' h', Stand p l e R s m args below meth c T' (locs ++ [⟨a, i⟩]) cells slots ∧ T'.heap = h' ∧ Wr h h' a i (.long x) ∧ own_AL Z h' a n (own_upd f i x) ∧ ∀ target, Steps p.tables e below (T'.setTop { g with pc := g.pc + 1, stack := rest }) target → Steps p.tables e below (T.setTop g) target := by
  obtain ⟨cl, Ar, h1, -⟩ := own_ldF A hj hi rfl
  obtain ⟨T', h', X', e', W, st⟩ := stJ X hx hZ eT Ar h1 hg hs hd
  rw [(own_idx hj).2] at X' W
  exact ⟨T', h', X', e', W, A.wr hi W, st⟩
theorem own_newF {a : Addr} {cA : ClassId} {ty : FieldType} {n : Int32} {i : Nat} (hn : n.toInt = i) (A : Arr Z h a (newA cA ty n) ty) : own_AF Z h a ty i (fun _ => defaultValue ty) := by
  obtain ⟨h1, h2⟩ := own_idx hn
  have := n.toInt_lt
  refine ⟨by omega, _, A, by rw [sz_new, h2], fun j hj => ?_⟩
  simp [newA, h2, hj]
theorem own_newI {a : Addr} {cA : ClassId} {ty : FieldType} {n : Int32} {i : Nat} (hn : n.toInt = i) (A : Arr Z h a (newA cA ty n) ty) (hd : defaultValue ty = .int 0) : own_AI Z h a ty i (fun _ => 0) :=
  (own_newF hn A).congr fun _ _ => hd
theorem own_newL {a : Addr} {cA : ClassId} {n : Int32} {i : Nat} (hn : n.toInt = i) (A : Arr Z h a (newA cA .long n) .long) : own_AL Z h a i (fun _ => 0) :=
  (own_newF hn A).congr fun _ _ => rfl
theorem own_Sta.keep {C n d : String} {v : Value} {ws : List Addr} (F : Sta Z h C n d v) (K : Keep h h' ws) (q : ∀ x ∈ ws, ∀ cl : Cell, h[x]? = some cl → cl.vm.isStatics = false) : Sta Z h' C n d v := by
  obtain ⟨cf, i, k, f, st, cell, h1, h2, h3, h4, h5, h6, h7⟩ := F
  refine ⟨cf, i, k, f, st, cell, h1, h2, h3, h4, K.2.1 st cell h5 (fun q' => ?_), h6, h7⟩
  have := q st q' cell h5
  rw [h6] at this; cases this
theorem own_selP {args : Array Value} {C : String} {y y' : MethodName} (hcls : y'.cls = y.cls) (hs : (Jvm.Cond.selects C y' y').before args s = true) (hi' : (Jvm.Cond.instanceMethod y').before args s = true) (hp : (Jvm.Cond.privateMethod y).before args s = true) (hi : (Jvm.Cond.instanceMethod y).before args s = true) (hy : y.cls ≠ "java/lang/invoke/MethodHandle" ∧ y.cls ≠ "java/lang/invoke/VarHandle") : (Jvm.Cond.selects y.cls y y).before args s = true := by
  obtain ⟨mk, methM, hnamed, -⟩ := Cond.instanceMethod_spec hi'
  obtain ⟨kr, hk, hni⟩ := notFace_of_selects hs mk hnamed
  have hc := findClass_of_methodNamed hnamed
  rw [hcls] at hc
  exact selects_self_of_private hc hk hni (Cond.privateMethod_at hp) hi hy
end Own

theorem own_hiAll : ∀ i : Fin 256, ((Int32.ofNat i.1) &&& 128).toInt = i.1 - i.1 % 128 ∧ ((Int32.ofNat i.1) &&& 192).toInt = i.1 - i.1 % 64 ∧ ((Int32.ofNat i.1) &&& 224).toInt = i.1 - i.1 % 32 ∧ ((Int32.ofNat i.1) &&& 240).toInt = i.1 - i.1 % 16 ∧ ((Int32.ofNat i.1) &&& 248).toInt = i.1 - i.1 % 8 := by decide +kernel
theorem own_hi (x : Int32) (h0 : 0 ≤ x.toInt) (h1 : x.toInt < 256) : (x &&& 128).toInt = x.toInt - x.toInt % 128 ∧ (x &&& 192).toInt = x.toInt - x.toInt % 64 ∧ (x &&& 224).toInt = x.toInt - x.toInt % 32 ∧ (x &&& 240).toInt = x.toInt - x.toInt % 16 ∧ (x &&& 248).toInt = x.toInt - x.toInt % 8 := by
  have e : x = Int32.ofNat x.toInt.toNat := by
    apply Int32.toInt_inj.mp
    rw [Int32.toInt_ofNat_of_lt (by omega)]
    omega
  have q := own_hiAll ⟨x.toInt.toNat, by omega⟩
  simp only at q
  rw [← e] at q
  have e2 : ((x.toInt.toNat : Nat) : Int) = x.toInt := by omega
  rw [e2] at q
  exact q
theorem own_hi128 (x : Int32) : 0 ≤ x.toInt → x.toInt < 256 → (x &&& 128).toInt = x.toInt - x.toInt % 128 := fun a b => (own_hi x a b).1
theorem own_hi192 (x : Int32) : 0 ≤ x.toInt → x.toInt < 256 → (x &&& 192).toInt = x.toInt - x.toInt % 64 := fun a b => (own_hi x a b).2.1
theorem own_hi224 (x : Int32) : 0 ≤ x.toInt → x.toInt < 256 → (x &&& 224).toInt = x.toInt - x.toInt % 32 := fun a b => (own_hi x a b).2.2.1
theorem own_hi240 (x : Int32) : 0 ≤ x.toInt → x.toInt < 256 → (x &&& 240).toInt = x.toInt - x.toInt % 16 := fun a b => (own_hi x a b).2.2.2.1
theorem own_hi248 (x : Int32) : 0 ≤ x.toInt → x.toInt < 256 → (x &&& 248).toInt = x.toInt - x.toInt % 8 := fun a b => (own_hi x a b).2.2.2.2


theorem own_bb (x : Int32) : x.toInt8.toInt32.toInt8.toInt32 = x.toInt8.toInt32 := by
  apply Int32.toInt_inj.mp
  have a := c_i2b x.toInt8.toInt32
  have b := c_i2b x
  omega

theorem d1_0 : decode prog_1_method_10_code 0 = .ok (.iload_n 2, 1) := by decide +kernel
theorem d1_1 : decode prog_1_method_10_code 1 = .ok (.istore_n 3, 1) := by decide +kernel
theorem d1_2 : decode prog_1_method_10_code 2 = .ok (.iload_n 0, 1) := by decide +kernel
theorem d1_3 : decode prog_1_method_10_code 3 = .ok (.sipush 128, 3) := by decide +kernel
theorem d1_6 : decode prog_1_method_10_code 6 = .ok (.if_icmp .ge 14, 3) := by decide +kernel
theorem d1_9 : decode prog_1_method_10_code 9 = .ok (.aload_n 1, 1) := by decide +kernel
theorem d1_10 : decode prog_1_method_10_code 10 = .ok (.iload_n 3, 1) := by decide +kernel
theorem d1_11 : decode prog_1_method_10_code 11 = .ok (.iinc 3 1, 3) := by decide +kernel
theorem d1_14 : decode prog_1_method_10_code 14 = .ok (.iload_n 0, 1) := by decide +kernel
theorem d1_15 : decode prog_1_method_10_code 15 = .ok (.i2b, 1) := by decide +kernel
theorem d1_16 : decode prog_1_method_10_code 16 = .ok (.bastore, 1) := by decide +kernel
theorem d1_17 : decode prog_1_method_10_code 17 = .ok (.goto 166, 3) := by decide +kernel
theorem d1_183 : decode prog_1_method_10_code 183 = .ok (.iload_n 3, 1) := by decide +kernel
theorem d1_184 : decode prog_1_method_10_code 184 = .ok (.ireturn, 1) := by decide +kernel
theorem pn_1 : plainName "com/example/benzer/benzer/FeatureHash" = true := by first | (simp [plainName, overriddenIn]; done) | decide +kernel
theorem ef_enc1 (m : MethodId) (x0 : Int32) (x1 : Addr) (x2 : Int32) : entryFrame m #[(.int x0), (.ref x1), (.int x2)] 4 = mkF m 0 #[.val (.int x0), .val (.ref x1), .val (.int x2), .unset] [] := by first | (simp [entryFrame, mkF, argsToLocals, Value.category]; done) | rfl
def Qenc1 (Z : State) (cp : Int32) (a : Addr) (at_ : Int32) (k : Nat) (f : Nat → Int32) (h0 : Heap) (n0 : Nat) (rv_ : Option Value) (h : Heap) (LL_ : List Loc) : Prop := rv_ = some (.int (at_ + (1 : Int32))) ∧ Fr n0 LL_ ∧ Keep h0 h [a] ∧ own_AI Z h a .byte 12 (own_upd f k ((cp.toInt8.toInt32).toInt8.toInt32))
set_option maxRecDepth 65536 in
set_option maxHeartbeats 40000000 in
theorem rmenc1 (l : Launch) (Z : State) (a0 : Array Value) (hw : ∀ d ∈ tables_1, d.before a0 Z = true) (ws : List Jvm.Cond) (cp : Int32) (a : Addr) (at_ : Int32) (k : Nat) (f : Nat → Int32) (h0 : Heap) (n0 : Nat) (Z0 : n0 ≤ h0.size) (V_a : own_AI Z h0 a .byte 12 f) (g_a : n0 ≤ a) (hk : at_.toInt = (k : Int)) (hk7 : k ≤ 7) (h6 : cp < (128 : Int32)) :
    MetFree l (⟨"com/example/benzer/benzer/FeatureHash", "encode", "(I[BI)I"⟩ : MethodName) (head1 (Jvm.Cond.code (⟨"com/example/benzer/benzer/FeatureHash", "encode", "(I[BI)I"⟩ : MethodName) prog_1_method_10_code 4 (some .int) :: ws) ({ frames := 0, cells := 0, slots := 0, locals := 0 } : Room)) (fun aa UU => aa = #[(.int cp), (.ref a), (.int at_)] ∧ Z.Warmed39 UU.vm ∧ UU.heap = h0) (fun _ _ _ _ _ => True) (fun _ UU oo UV => ∃ vv LL, oo = .returned vv ∧ Qenc1 Z cp a at_ k f h0 n0 vv UV.heap LL ∧ FrameEnd UU oo UV LL ({ frames := 0, cells := 0, slots := 0, locals := 0 } : Room).cells ({ frames := 0, cells := 0, slots := 0, locals := 0 } : Room).slots) := by
  refine MetFree.of_bodySF (plainFor_of_name pn_1) hisR ?_
  intro p e s m args below meth c s₁ Bd hml0 hP hK
  obtain ⟨rfl, hZ, hh⟩ := hP
  have hx := Bd.exec
  have hby := Bd.bytes
  have hml : c.maxLocals = 4 := hml0
  have hown : s.vm.findClass "com/example/benzer/benzer/FeatureHash" = some m.cls := findClass_of_methodNamed Bd.named
  have hnm := (name_of_methodNamed Bd.named Bd.method).1
  have X0 : Stand p l e ({ frames := 0, cells := 0, slots := 0, locals := 0 } : Room) s m #[(.int cp), (.ref a), (.int at_)] below meth c s₁ [] 0 0 := Stand.of_body Bd
  have e0 : s₁.heap = h0 := by rw [← hh, Bd.state]; rfl
  have N0 := Fr.nil n0
  have k0 : ∀ tg_, Steps p.tables e below (s₁.setTop (mkF m 0 #[.val (.int cp), .val (.ref a), .val (.int at_), .unset] [])) tg_ → Steps p.tables e below (s₁.setTop (entryFrame m #[(.int cp), (.ref a), (.int at_)] 4)) tg_ := fun tg_ k => castTop (ef_enc1 m cp a at_) k
  have hc6_1 : cp < (128 : Int32) := h6
  have hj2 : at_.toInt = ((k : Nat) : Int) := by
    have ar3 := rng32 at_
    omega
  obtain ⟨T4, h4, X4, e4, W4, V4, st4⟩ := own_stB X0 hx hZ e0 V_a (i := k) hj2 (by omega) (g := (mkF m 16 #[.val (.int cp), .val (.ref a), .val (.int at_), .val (.int (at_ + (1 : Int32)))] [(.int (cp.toInt8.toInt32)), (.int at_), (.ref a)])) rfl rfl (hb hby d1_16)
  have N4 := Fr.snoc X4 N0 g_a
  have k5 : ∀ tg_, Steps p.tables e below (T4.setTop (mkF m 184 #[.val (.int cp), .val (.ref a), .val (.int at_), .val (.int (at_ + (1 : Int32)))] [(.int (at_ + (1 : Int32)))])) tg_ → Steps p.tables e below (s₁.setTop (entryFrame m #[(.int cp), (.ref a), (.int at_)] 4)) tg_ := by
    intro tg_ kt
    refine k0 tg_ ?_
    refine XS.iloadN X0.here hx rfl (hb hby d1_0) rfl ?_
    show Steps p.tables e below (s₁.setTop (mkF m 1 #[.val (.int cp), .val (.ref a), .val (.int at_), .unset] [(.int at_)])) _
    refine XS.istoreN X0.here hx rfl (hb hby d1_1) rfl (l' := #[.val (.int cp), .val (.ref a), .val (.int at_), .val (.int at_)]) rfl ?_
    show Steps p.tables e below (s₁.setTop (mkF m 2 #[.val (.int cp), .val (.ref a), .val (.int at_), .val (.int at_)] [])) _
    refine XS.iloadN X0.here hx rfl (hb hby d1_2) rfl ?_
    show Steps p.tables e below (s₁.setTop (mkF m 3 #[.val (.int cp), .val (.ref a), .val (.int at_), .val (.int at_)] [(.int cp)])) _
    refine XS.sipush X0.here hx rfl (hb hby d1_3) ?_
    show Steps p.tables e below (s₁.setTop (mkF m 6 #[.val (.int cp), .val (.ref a), .val (.int at_), .val (.int at_)] [(.int (128 : Int32)), (.int cp)])) _
    refine XS.icmpNo X0.here hx rfl (hb hby d1_6) rfl (tlt hc6_1).2.1 ?_
    show Steps p.tables e below (s₁.setTop (mkF m 9 #[.val (.int cp), .val (.ref a), .val (.int at_), .val (.int at_)] [])) _
    refine XS.aloadN X0.here hx rfl (hb hby d1_9) rfl rfl ?_
    show Steps p.tables e below (s₁.setTop (mkF m 10 #[.val (.int cp), .val (.ref a), .val (.int at_), .val (.int at_)] [(.ref a)])) _
    refine XS.iloadN X0.here hx rfl (hb hby d1_10) rfl ?_
    show Steps p.tables e below (s₁.setTop (mkF m 11 #[.val (.int cp), .val (.ref a), .val (.int at_), .val (.int at_)] [(.int at_), (.ref a)])) _
    refine XS.iinc X0.here hx rfl (hb hby d1_11) rfl (l' := #[.val (.int cp), .val (.ref a), .val (.int at_), .val (.int (at_ + (1 : Int32)))]) rfl ?_
    show Steps p.tables e below (s₁.setTop (mkF m 14 #[.val (.int cp), .val (.ref a), .val (.int at_), .val (.int (at_ + (1 : Int32)))] [(.int at_), (.ref a)])) _
    refine XS.iloadN X0.here hx rfl (hb hby d1_14) rfl ?_
    show Steps p.tables e below (s₁.setTop (mkF m 15 #[.val (.int cp), .val (.ref a), .val (.int at_), .val (.int (at_ + (1 : Int32)))] [(.int cp), (.int at_), (.ref a)])) _
    refine XS.i2b X0.here hx rfl (hb hby d1_15) rfl ?_
    show Steps p.tables e below (s₁.setTop (mkF m 16 #[.val (.int cp), .val (.ref a), .val (.int at_), .val (.int (at_ + (1 : Int32)))] [(.int (cp.toInt8.toInt32)), (.int at_), (.ref a)])) _
    refine st4 _ ?_
    show Steps p.tables e below (T4.setTop (mkF m 17 #[.val (.int cp), .val (.ref a), .val (.int at_), .val (.int (at_ + (1 : Int32)))] [])) _
    refine XS.goto X4.here hx rfl (pc0 := 17) (pc' := 183) rfl (hb hby d1_17) (by decide) (by decide) ?_
    show Steps p.tables e below (T4.setTop (mkF m 183 #[.val (.int cp), .val (.ref a), .val (.int at_), .val (.int (at_ + (1 : Int32)))] [])) _
    refine XS.iloadN X4.here hx rfl (hb hby d1_183) rfl ?_
    show Steps p.tables e below (T4.setTop (mkF m 184 #[.val (.int cp), .val (.ref a), .val (.int at_), .val (.int (at_ + (1 : Int32)))] [(.int (at_ + (1 : Int32)))])) _
    exact kt
  have f6 := ((Keep.refl h0 [a]).trans (Keep.of_wr W4) (allS (Or.inl (List.mem_of_getElem? (i := 0) rfl)) all0))
  obtain ⟨fs, hr, hrun, hended, hW, hsame⟩ := X4.leave (v := some (.int (at_ + (1 : Int32)))) (fun h => by rw [Bd.returns] at h; cases h)
  refine ⟨_, _, k5 _ (retI X4 hx Bd.returns (hb hby d1_184) hr), hrun, hended, _, _, rfl, ?_, ⟨_, rfl⟩, hW, hsame.mono (by decide) (by decide)⟩
  show Qenc1 Z cp a at_ k f h0 n0 _ T4.heap _
  rw [e4]
  exact ⟨rfl, N4, f6, V4⟩
theorem d1_20 : decode prog_1_method_10_code 20 = .ok (.iload_n 0, 1) := by decide +kernel
theorem d1_21 : decode prog_1_method_10_code 21 = .ok (.sipush 2048, 3) := by decide +kernel
theorem d1_24 : decode prog_1_method_10_code 24 = .ok (.if_icmp .ge 36, 3) := by decide +kernel
theorem d1_27 : decode prog_1_method_10_code 27 = .ok (.aload_n 1, 1) := by decide +kernel
theorem d1_28 : decode prog_1_method_10_code 28 = .ok (.iload_n 3, 1) := by decide +kernel
theorem d1_29 : decode prog_1_method_10_code 29 = .ok (.iinc 3 1, 3) := by decide +kernel
theorem d1_32 : decode prog_1_method_10_code 32 = .ok (.sipush 192, 3) := by decide +kernel
theorem d1_35 : decode prog_1_method_10_code 35 = .ok (.iload_n 0, 1) := by decide +kernel
theorem d1_36 : decode prog_1_method_10_code 36 = .ok (.bipush 6, 2) := by decide +kernel
theorem d1_38 : decode prog_1_method_10_code 38 = .ok (.iushr, 1) := by decide +kernel
theorem d1_39 : decode prog_1_method_10_code 39 = .ok (.ior, 1) := by decide +kernel
theorem d1_40 : decode prog_1_method_10_code 40 = .ok (.i2b, 1) := by decide +kernel
theorem d1_41 : decode prog_1_method_10_code 41 = .ok (.bastore, 1) := by decide +kernel
theorem d1_42 : decode prog_1_method_10_code 42 = .ok (.aload_n 1, 1) := by decide +kernel
theorem d1_43 : decode prog_1_method_10_code 43 = .ok (.iload_n 3, 1) := by decide +kernel
theorem d1_44 : decode prog_1_method_10_code 44 = .ok (.iinc 3 1, 3) := by decide +kernel
theorem d1_47 : decode prog_1_method_10_code 47 = .ok (.sipush 128, 3) := by decide +kernel
theorem d1_50 : decode prog_1_method_10_code 50 = .ok (.iload_n 0, 1) := by decide +kernel
theorem d1_51 : decode prog_1_method_10_code 51 = .ok (.bipush 63, 2) := by decide +kernel
theorem d1_53 : decode prog_1_method_10_code 53 = .ok (.iand, 1) := by decide +kernel
theorem d1_54 : decode prog_1_method_10_code 54 = .ok (.ior, 1) := by decide +kernel
theorem d1_55 : decode prog_1_method_10_code 55 = .ok (.i2b, 1) := by decide +kernel
theorem d1_56 : decode prog_1_method_10_code 56 = .ok (.bastore, 1) := by decide +kernel
theorem d1_57 : decode prog_1_method_10_code 57 = .ok (.goto 126, 3) := by decide +kernel
theorem ef_enc2 (m : MethodId) (x0 : Int32) (x1 : Addr) (x2 : Int32) : entryFrame m #[(.int x0), (.ref x1), (.int x2)] 4 = mkF m 0 #[.val (.int x0), .val (.ref x1), .val (.int x2), .unset] [] := by first | (simp [entryFrame, mkF, argsToLocals, Value.category]; done) | rfl
def Qenc2 (Z : State) (cp : Int32) (a : Addr) (at_ : Int32) (k : Nat) (f : Nat → Int32) (h0 : Heap) (n0 : Nat) (rv_ : Option Value) (h : Heap) (LL_ : List Loc) : Prop := rv_ = some (.int ((at_ + (1 : Int32)) + (1 : Int32))) ∧ Fr n0 LL_ ∧ Keep h0 h [a] ∧ own_AI Z h a .byte 12 (own_upd (own_upd f k ((((192 : Int32) ||| ((cp.toUInt32 >>> ((6 : Int32) &&& 31).toUInt32).toInt32)).toInt8.toInt32).toInt8.toInt32)) (k + 1) ((((128 : Int32) ||| (cp &&& (63 : Int32))).toInt8.toInt32).toInt8.toInt32))
set_option maxRecDepth 65536 in
set_option maxHeartbeats 40000000 in
theorem rmenc2 (l : Launch) (Z : State) (a0 : Array Value) (hw : ∀ d ∈ tables_1, d.before a0 Z = true) (ws : List Jvm.Cond) (cp : Int32) (a : Addr) (at_ : Int32) (k : Nat) (f : Nat → Int32) (h0 : Heap) (n0 : Nat) (Z0 : n0 ≤ h0.size) (V_a : own_AI Z h0 a .byte 12 f) (g_a : n0 ≤ a) (hk : at_.toInt = (k : Int)) (hk7 : k ≤ 7) (h6 : ¬ (cp < (128 : Int32))) (h24 : cp < (2048 : Int32)) :
    MetFree l (⟨"com/example/benzer/benzer/FeatureHash", "encode", "(I[BI)I"⟩ : MethodName) (head1 (Jvm.Cond.code (⟨"com/example/benzer/benzer/FeatureHash", "encode", "(I[BI)I"⟩ : MethodName) prog_1_method_10_code 4 (some .int) :: ws) ({ frames := 0, cells := 0, slots := 0, locals := 0 } : Room)) (fun aa UU => aa = #[(.int cp), (.ref a), (.int at_)] ∧ Z.Warmed39 UU.vm ∧ UU.heap = h0) (fun _ _ _ _ _ => True) (fun _ UU oo UV => ∃ vv LL, oo = .returned vv ∧ Qenc2 Z cp a at_ k f h0 n0 vv UV.heap LL ∧ FrameEnd UU oo UV LL ({ frames := 0, cells := 0, slots := 0, locals := 0 } : Room).cells ({ frames := 0, cells := 0, slots := 0, locals := 0 } : Room).slots) := by
  refine MetFree.of_bodySF (plainFor_of_name pn_1) hisR ?_
  intro p e s m args below meth c s₁ Bd hml0 hP hK
  obtain ⟨rfl, hZ, hh⟩ := hP
  have hx := Bd.exec
  have hby := Bd.bytes
  have hml : c.maxLocals = 4 := hml0
  have hown : s.vm.findClass "com/example/benzer/benzer/FeatureHash" = some m.cls := findClass_of_methodNamed Bd.named
  have hnm := (name_of_methodNamed Bd.named Bd.method).1
  have X0 : Stand p l e ({ frames := 0, cells := 0, slots := 0, locals := 0 } : Room) s m #[(.int cp), (.ref a), (.int at_)] below meth c s₁ [] 0 0 := Stand.of_body Bd
  have e0 : s₁.heap = h0 := by rw [← hh, Bd.state]; rfl
  have N0 := Fr.nil n0
  have k0 : ∀ tg_, Steps p.tables e below (s₁.setTop (mkF m 0 #[.val (.int cp), .val (.ref a), .val (.int at_), .unset] [])) tg_ → Steps p.tables e below (s₁.setTop (entryFrame m #[(.int cp), (.ref a), (.int at_)] 4)) tg_ := fun tg_ k => castTop (ef_enc2 m cp a at_) k
  have hc6_7 : ¬ (cp < (128 : Int32)) := h6
  have hc24_8 : cp < (2048 : Int32) := h24
  have hj9 : at_.toInt = ((k : Nat) : Int) := by
    have ar10 := rng32 at_
    omega
  obtain ⟨T11, h11, X11, e11, W11, V11, st11⟩ := own_stB X0 hx hZ e0 V_a (i := k) hj9 (by omega) (g := (mkF m 41 #[.val (.int cp), .val (.ref a), .val (.int at_), .val (.int (at_ + (1 : Int32)))] [(.int (((192 : Int32) ||| ((cp.toUInt32 >>> ((6 : Int32) &&& 31).toUInt32).toInt32)).toInt8.toInt32)), (.int at_), (.ref a)])) rfl rfl (hb hby d1_41)
  have N11 := Fr.snoc X11 N0 g_a
  have k12 : ∀ tg_, Steps p.tables e below (T11.setTop (mkF m 55 #[.val (.int cp), .val (.ref a), .val (.int at_), .val (.int ((at_ + (1 : Int32)) + (1 : Int32)))] [(.int ((128 : Int32) ||| (cp &&& (63 : Int32)))), (.int (at_ + (1 : Int32))), (.ref a)])) tg_ → Steps p.tables e below (s₁.setTop (entryFrame m #[(.int cp), (.ref a), (.int at_)] 4)) tg_ := by
    intro tg_ kt
    refine k0 tg_ ?_
    refine XS.iloadN X0.here hx rfl (hb hby d1_0) rfl ?_
    show Steps p.tables e below (s₁.setTop (mkF m 1 #[.val (.int cp), .val (.ref a), .val (.int at_), .unset] [(.int at_)])) _
    refine XS.istoreN X0.here hx rfl (hb hby d1_1) rfl (l' := #[.val (.int cp), .val (.ref a), .val (.int at_), .val (.int at_)]) rfl ?_
    show Steps p.tables e below (s₁.setTop (mkF m 2 #[.val (.int cp), .val (.ref a), .val (.int at_), .val (.int at_)] [])) _
    refine XS.iloadN X0.here hx rfl (hb hby d1_2) rfl ?_
    show Steps p.tables e below (s₁.setTop (mkF m 3 #[.val (.int cp), .val (.ref a), .val (.int at_), .val (.int at_)] [(.int cp)])) _
    refine XS.sipush X0.here hx rfl (hb hby d1_3) ?_
    show Steps p.tables e below (s₁.setTop (mkF m 6 #[.val (.int cp), .val (.ref a), .val (.int at_), .val (.int at_)] [(.int (128 : Int32)), (.int cp)])) _
    refine XS.icmpYes X0.here hx rfl (pc0 := 6) (pc' := 20) rfl (hb hby d1_6) rfl (flt hc6_7).2.1 (by decide) (by decide) ?_
    show Steps p.tables e below (s₁.setTop (mkF m 20 #[.val (.int cp), .val (.ref a), .val (.int at_), .val (.int at_)] [])) _
    refine XS.iloadN X0.here hx rfl (hb hby d1_20) rfl ?_
    show Steps p.tables e below (s₁.setTop (mkF m 21 #[.val (.int cp), .val (.ref a), .val (.int at_), .val (.int at_)] [(.int cp)])) _
    refine XS.sipush X0.here hx rfl (hb hby d1_21) ?_
    show Steps p.tables e below (s₁.setTop (mkF m 24 #[.val (.int cp), .val (.ref a), .val (.int at_), .val (.int at_)] [(.int (2048 : Int32)), (.int cp)])) _
    refine XS.icmpNo X0.here hx rfl (hb hby d1_24) rfl (tlt hc24_8).2.1 ?_
    show Steps p.tables e below (s₁.setTop (mkF m 27 #[.val (.int cp), .val (.ref a), .val (.int at_), .val (.int at_)] [])) _
    refine XS.aloadN X0.here hx rfl (hb hby d1_27) rfl rfl ?_
    show Steps p.tables e below (s₁.setTop (mkF m 28 #[.val (.int cp), .val (.ref a), .val (.int at_), .val (.int at_)] [(.ref a)])) _
    refine XS.iloadN X0.here hx rfl (hb hby d1_28) rfl ?_
    show Steps p.tables e below (s₁.setTop (mkF m 29 #[.val (.int cp), .val (.ref a), .val (.int at_), .val (.int at_)] [(.int at_), (.ref a)])) _
    refine XS.iinc X0.here hx rfl (hb hby d1_29) rfl (l' := #[.val (.int cp), .val (.ref a), .val (.int at_), .val (.int (at_ + (1 : Int32)))]) rfl ?_
    show Steps p.tables e below (s₁.setTop (mkF m 32 #[.val (.int cp), .val (.ref a), .val (.int at_), .val (.int (at_ + (1 : Int32)))] [(.int at_), (.ref a)])) _
    refine XS.sipush X0.here hx rfl (hb hby d1_32) ?_
    show Steps p.tables e below (s₁.setTop (mkF m 35 #[.val (.int cp), .val (.ref a), .val (.int at_), .val (.int (at_ + (1 : Int32)))] [(.int (192 : Int32)), (.int at_), (.ref a)])) _
    refine XS.iloadN X0.here hx rfl (hb hby d1_35) rfl ?_
    show Steps p.tables e below (s₁.setTop (mkF m 36 #[.val (.int cp), .val (.ref a), .val (.int at_), .val (.int (at_ + (1 : Int32)))] [(.int cp), (.int (192 : Int32)), (.int at_), (.ref a)])) _
    refine XS.bipush X0.here hx rfl (hb hby d1_36) ?_
    show Steps p.tables e below (s₁.setTop (mkF m 38 #[.val (.int cp), .val (.ref a), .val (.int at_), .val (.int (at_ + (1 : Int32)))] [(.int (6 : Int32)), (.int cp), (.int (192 : Int32)), (.int at_), (.ref a)])) _
    refine XS.iushr X0.here hx rfl (hb hby d1_38) rfl ?_
    show Steps p.tables e below (s₁.setTop (mkF m 39 #[.val (.int cp), .val (.ref a), .val (.int at_), .val (.int (at_ + (1 : Int32)))] [(.int ((cp.toUInt32 >>> ((6 : Int32) &&& 31).toUInt32).toInt32)), (.int (192 : Int32)), (.int at_), (.ref a)])) _
    refine XS.ior X0.here hx rfl (hb hby d1_39) rfl ?_
    show Steps p.tables e below (s₁.setTop (mkF m 40 #[.val (.int cp), .val (.ref a), .val (.int at_), .val (.int (at_ + (1 : Int32)))] [(.int ((192 : Int32) ||| ((cp.toUInt32 >>> ((6 : Int32) &&& 31).toUInt32).toInt32))), (.int at_), (.ref a)])) _
    refine XS.i2b X0.here hx rfl (hb hby d1_40) rfl ?_
    show Steps p.tables e below (s₁.setTop (mkF m 41 #[.val (.int cp), .val (.ref a), .val (.int at_), .val (.int (at_ + (1 : Int32)))] [(.int (((192 : Int32) ||| ((cp.toUInt32 >>> ((6 : Int32) &&& 31).toUInt32).toInt32)).toInt8.toInt32)), (.int at_), (.ref a)])) _
    refine st11 _ ?_
    show Steps p.tables e below (T11.setTop (mkF m 42 #[.val (.int cp), .val (.ref a), .val (.int at_), .val (.int (at_ + (1 : Int32)))] [])) _
    refine XS.aloadN X11.here hx rfl (hb hby d1_42) rfl rfl ?_
    show Steps p.tables e below (T11.setTop (mkF m 43 #[.val (.int cp), .val (.ref a), .val (.int at_), .val (.int (at_ + (1 : Int32)))] [(.ref a)])) _
    refine XS.iloadN X11.here hx rfl (hb hby d1_43) rfl ?_
    show Steps p.tables e below (T11.setTop (mkF m 44 #[.val (.int cp), .val (.ref a), .val (.int at_), .val (.int (at_ + (1 : Int32)))] [(.int (at_ + (1 : Int32))), (.ref a)])) _
    refine XS.iinc X11.here hx rfl (hb hby d1_44) rfl (l' := #[.val (.int cp), .val (.ref a), .val (.int at_), .val (.int ((at_ + (1 : Int32)) + (1 : Int32)))]) rfl ?_
    show Steps p.tables e below (T11.setTop (mkF m 47 #[.val (.int cp), .val (.ref a), .val (.int at_), .val (.int ((at_ + (1 : Int32)) + (1 : Int32)))] [(.int (at_ + (1 : Int32))), (.ref a)])) _
    refine XS.sipush X11.here hx rfl (hb hby d1_47) ?_
    show Steps p.tables e below (T11.setTop (mkF m 50 #[.val (.int cp), .val (.ref a), .val (.int at_), .val (.int ((at_ + (1 : Int32)) + (1 : Int32)))] [(.int (128 : Int32)), (.int (at_ + (1 : Int32))), (.ref a)])) _
    refine XS.iloadN X11.here hx rfl (hb hby d1_50) rfl ?_
    show Steps p.tables e below (T11.setTop (mkF m 51 #[.val (.int cp), .val (.ref a), .val (.int at_), .val (.int ((at_ + (1 : Int32)) + (1 : Int32)))] [(.int cp), (.int (128 : Int32)), (.int (at_ + (1 : Int32))), (.ref a)])) _
    refine XS.bipush X11.here hx rfl (hb hby d1_51) ?_
    show Steps p.tables e below (T11.setTop (mkF m 53 #[.val (.int cp), .val (.ref a), .val (.int at_), .val (.int ((at_ + (1 : Int32)) + (1 : Int32)))] [(.int (63 : Int32)), (.int cp), (.int (128 : Int32)), (.int (at_ + (1 : Int32))), (.ref a)])) _
    refine XS.iand X11.here hx rfl (hb hby d1_53) rfl ?_
    show Steps p.tables e below (T11.setTop (mkF m 54 #[.val (.int cp), .val (.ref a), .val (.int at_), .val (.int ((at_ + (1 : Int32)) + (1 : Int32)))] [(.int (cp &&& (63 : Int32))), (.int (128 : Int32)), (.int (at_ + (1 : Int32))), (.ref a)])) _
    refine XS.ior X11.here hx rfl (hb hby d1_54) rfl ?_
    show Steps p.tables e below (T11.setTop (mkF m 55 #[.val (.int cp), .val (.ref a), .val (.int at_), .val (.int ((at_ + (1 : Int32)) + (1 : Int32)))] [(.int ((128 : Int32) ||| (cp &&& (63 : Int32)))), (.int (at_ + (1 : Int32))), (.ref a)])) _
    exact kt
  have hj13 : (at_ + (1 : Int32)).toInt = (((k + 1) : Nat) : Int) := by
    have ar14 := rng32 at_
    have ar15 : (1 : Int32).toInt = 1 := by decide
    have ar16 := rng32 (at_ + (1 : Int32))
    first | have ar17 : (at_ + (1 : Int32)).toInt = at_.toInt + 1 := (by have qw := c_iadd at_ (1 : Int32); omega) | (have ar17 := c_iadd at_ (1 : Int32); skip)
    omega
  obtain ⟨T18, h18, X18, e18, W18, V18, st18⟩ := own_stB X11 hx hZ e11 V11 (i := (k + 1)) hj13 (by omega) (g := (mkF m 56 #[.val (.int cp), .val (.ref a), .val (.int at_), .val (.int ((at_ + (1 : Int32)) + (1 : Int32)))] [(.int (((128 : Int32) ||| (cp &&& (63 : Int32))).toInt8.toInt32)), (.int (at_ + (1 : Int32))), (.ref a)])) rfl rfl (hb hby d1_56)
  have N18 := Fr.snoc X18 N11 g_a
  have k19 : ∀ tg_, Steps p.tables e below (T18.setTop (mkF m 184 #[.val (.int cp), .val (.ref a), .val (.int at_), .val (.int ((at_ + (1 : Int32)) + (1 : Int32)))] [(.int ((at_ + (1 : Int32)) + (1 : Int32)))])) tg_ → Steps p.tables e below (s₁.setTop (entryFrame m #[(.int cp), (.ref a), (.int at_)] 4)) tg_ := by
    intro tg_ kt
    refine k12 tg_ ?_
    refine XS.i2b X11.here hx rfl (hb hby d1_55) rfl ?_
    show Steps p.tables e below (T11.setTop (mkF m 56 #[.val (.int cp), .val (.ref a), .val (.int at_), .val (.int ((at_ + (1 : Int32)) + (1 : Int32)))] [(.int (((128 : Int32) ||| (cp &&& (63 : Int32))).toInt8.toInt32)), (.int (at_ + (1 : Int32))), (.ref a)])) _
    refine st18 _ ?_
    show Steps p.tables e below (T18.setTop (mkF m 57 #[.val (.int cp), .val (.ref a), .val (.int at_), .val (.int ((at_ + (1 : Int32)) + (1 : Int32)))] [])) _
    refine XS.goto X18.here hx rfl (pc0 := 57) (pc' := 183) rfl (hb hby d1_57) (by decide) (by decide) ?_
    show Steps p.tables e below (T18.setTop (mkF m 183 #[.val (.int cp), .val (.ref a), .val (.int at_), .val (.int ((at_ + (1 : Int32)) + (1 : Int32)))] [])) _
    refine XS.iloadN X18.here hx rfl (hb hby d1_183) rfl ?_
    show Steps p.tables e below (T18.setTop (mkF m 184 #[.val (.int cp), .val (.ref a), .val (.int at_), .val (.int ((at_ + (1 : Int32)) + (1 : Int32)))] [(.int ((at_ + (1 : Int32)) + (1 : Int32)))])) _
    exact kt
  have f20 := (((Keep.refl h0 [a]).trans (Keep.of_wr W11) (allS (Or.inl (List.mem_of_getElem? (i := 0) rfl)) all0)).trans (Keep.of_wr W18) (allS (Or.inl (List.mem_of_getElem? (i := 0) rfl)) all0))
  obtain ⟨fs, hr, hrun, hended, hW, hsame⟩ := X18.leave (v := some (.int ((at_ + (1 : Int32)) + (1 : Int32)))) (fun h => by rw [Bd.returns] at h; cases h)
  refine ⟨_, _, k19 _ (retI X18 hx Bd.returns (hb hby d1_184) hr), hrun, hended, _, _, rfl, ?_, ⟨_, rfl⟩, hW, hsame.mono (by decide) (by decide)⟩
  show Qenc2 Z cp a at_ k f h0 n0 _ T18.heap _
  rw [e18]
  exact ⟨rfl, N18, f20, V18⟩
theorem d1_60 : decode prog_1_method_10_code 60 = .ok (.iload_n 0, 1) := by decide +kernel
theorem d1_61 : decode prog_1_method_10_code 61 = .ok (.ldc 187, 2) := by decide +kernel
theorem d1_63 : decode prog_1_method_10_code 63 = .ok (.if_icmp .ge 54, 3) := by decide +kernel
theorem d1_66 : decode prog_1_method_10_code 66 = .ok (.aload_n 1, 1) := by decide +kernel
theorem d1_67 : decode prog_1_method_10_code 67 = .ok (.iload_n 3, 1) := by decide +kernel
theorem d1_68 : decode prog_1_method_10_code 68 = .ok (.iinc 3 1, 3) := by decide +kernel
theorem d1_71 : decode prog_1_method_10_code 71 = .ok (.sipush 224, 3) := by decide +kernel
theorem d1_74 : decode prog_1_method_10_code 74 = .ok (.iload_n 0, 1) := by decide +kernel
theorem d1_75 : decode prog_1_method_10_code 75 = .ok (.bipush 12, 2) := by decide +kernel
theorem d1_77 : decode prog_1_method_10_code 77 = .ok (.iushr, 1) := by decide +kernel
theorem d1_78 : decode prog_1_method_10_code 78 = .ok (.ior, 1) := by decide +kernel
theorem d1_79 : decode prog_1_method_10_code 79 = .ok (.i2b, 1) := by decide +kernel
theorem d1_80 : decode prog_1_method_10_code 80 = .ok (.bastore, 1) := by decide +kernel
theorem d1_81 : decode prog_1_method_10_code 81 = .ok (.aload_n 1, 1) := by decide +kernel
theorem d1_82 : decode prog_1_method_10_code 82 = .ok (.iload_n 3, 1) := by decide +kernel
theorem d1_83 : decode prog_1_method_10_code 83 = .ok (.iinc 3 1, 3) := by decide +kernel
theorem d1_86 : decode prog_1_method_10_code 86 = .ok (.sipush 128, 3) := by decide +kernel
theorem d1_89 : decode prog_1_method_10_code 89 = .ok (.iload_n 0, 1) := by decide +kernel
theorem d1_90 : decode prog_1_method_10_code 90 = .ok (.bipush 6, 2) := by decide +kernel
theorem d1_92 : decode prog_1_method_10_code 92 = .ok (.iushr, 1) := by decide +kernel
theorem d1_93 : decode prog_1_method_10_code 93 = .ok (.bipush 63, 2) := by decide +kernel
theorem d1_95 : decode prog_1_method_10_code 95 = .ok (.iand, 1) := by decide +kernel
theorem d1_96 : decode prog_1_method_10_code 96 = .ok (.ior, 1) := by decide +kernel
theorem d1_97 : decode prog_1_method_10_code 97 = .ok (.i2b, 1) := by decide +kernel
theorem d1_98 : decode prog_1_method_10_code 98 = .ok (.bastore, 1) := by decide +kernel
theorem d1_99 : decode prog_1_method_10_code 99 = .ok (.aload_n 1, 1) := by decide +kernel
theorem d1_100 : decode prog_1_method_10_code 100 = .ok (.iload_n 3, 1) := by decide +kernel
theorem d1_101 : decode prog_1_method_10_code 101 = .ok (.iinc 3 1, 3) := by decide +kernel
theorem d1_104 : decode prog_1_method_10_code 104 = .ok (.sipush 128, 3) := by decide +kernel
theorem d1_107 : decode prog_1_method_10_code 107 = .ok (.iload_n 0, 1) := by decide +kernel
theorem d1_108 : decode prog_1_method_10_code 108 = .ok (.bipush 63, 2) := by decide +kernel
theorem d1_110 : decode prog_1_method_10_code 110 = .ok (.iand, 1) := by decide +kernel
theorem d1_111 : decode prog_1_method_10_code 111 = .ok (.ior, 1) := by decide +kernel
theorem d1_112 : decode prog_1_method_10_code 112 = .ok (.i2b, 1) := by decide +kernel
theorem d1_113 : decode prog_1_method_10_code 113 = .ok (.bastore, 1) := by decide +kernel
theorem d1_114 : decode prog_1_method_10_code 114 = .ok (.goto 69, 3) := by decide +kernel
theorem ef_enc3 (m : MethodId) (x0 : Int32) (x1 : Addr) (x2 : Int32) : entryFrame m #[(.int x0), (.ref x1), (.int x2)] 4 = mkF m 0 #[.val (.int x0), .val (.ref x1), .val (.int x2), .unset] [] := by first | (simp [entryFrame, mkF, argsToLocals, Value.category]; done) | rfl
def Qenc3 (Z : State) (cp : Int32) (a : Addr) (at_ : Int32) (k : Nat) (f : Nat → Int32) (h0 : Heap) (n0 : Nat) (rv_ : Option Value) (h : Heap) (LL_ : List Loc) : Prop := rv_ = some (.int (((at_ + (1 : Int32)) + (1 : Int32)) + (1 : Int32))) ∧ Fr n0 LL_ ∧ Keep h0 h [a] ∧ own_AI Z h a .byte 12 (own_upd (own_upd (own_upd f k ((((224 : Int32) ||| ((cp.toUInt32 >>> ((12 : Int32) &&& 31).toUInt32).toInt32)).toInt8.toInt32).toInt8.toInt32)) (k + 1) ((((128 : Int32) ||| (((cp.toUInt32 >>> ((6 : Int32) &&& 31).toUInt32).toInt32) &&& (63 : Int32))).toInt8.toInt32).toInt8.toInt32)) (k + 2) ((((128 : Int32) ||| (cp &&& (63 : Int32))).toInt8.toInt32).toInt8.toInt32))
set_option maxRecDepth 65536 in
set_option maxHeartbeats 40000000 in
theorem rmenc3 (l : Launch) (Z : State) (a0 : Array Value) (hw : ∀ d ∈ tables_1, d.before a0 Z = true) (ws : List Jvm.Cond) (cp : Int32) (a : Addr) (at_ : Int32) (k : Nat) (f : Nat → Int32) (h0 : Heap) (n0 : Nat) (Z0 : n0 ≤ h0.size) (V_a : own_AI Z h0 a .byte 12 f) (g_a : n0 ≤ a) (hk : at_.toInt = (k : Int)) (hk7 : k ≤ 7) (h6 : ¬ (cp < (128 : Int32))) (h24 : ¬ (cp < (2048 : Int32))) (h63 : cp < (65536 : Int32)) :
    MetFree l (⟨"com/example/benzer/benzer/FeatureHash", "encode", "(I[BI)I"⟩ : MethodName) (head1 (Jvm.Cond.code (⟨"com/example/benzer/benzer/FeatureHash", "encode", "(I[BI)I"⟩ : MethodName) prog_1_method_10_code 4 (some .int) :: ws) ({ frames := 0, cells := 0, slots := 0, locals := 0 } : Room)) (fun aa UU => aa = #[(.int cp), (.ref a), (.int at_)] ∧ Z.Warmed39 UU.vm ∧ UU.heap = h0) (fun _ _ _ _ _ => True) (fun _ UU oo UV => ∃ vv LL, oo = .returned vv ∧ Qenc3 Z cp a at_ k f h0 n0 vv UV.heap LL ∧ FrameEnd UU oo UV LL ({ frames := 0, cells := 0, slots := 0, locals := 0 } : Room).cells ({ frames := 0, cells := 0, slots := 0, locals := 0 } : Room).slots) := by
  refine MetFree.of_bodySF (plainFor_of_name pn_1) hisR ?_
  intro p e s m args below meth c s₁ Bd hml0 hP hK
  obtain ⟨rfl, hZ, hh⟩ := hP
  have hx := Bd.exec
  have hby := Bd.bytes
  have hml : c.maxLocals = 4 := hml0
  have hown : s.vm.findClass "com/example/benzer/benzer/FeatureHash" = some m.cls := findClass_of_methodNamed Bd.named
  have hnm := (name_of_methodNamed Bd.named Bd.method).1
  have X0 : Stand p l e ({ frames := 0, cells := 0, slots := 0, locals := 0 } : Room) s m #[(.int cp), (.ref a), (.int at_)] below meth c s₁ [] 0 0 := Stand.of_body Bd
  have e0 : s₁.heap = h0 := by rw [← hh, Bd.state]; rfl
  have N0 := Fr.nil n0
  have k0 : ∀ tg_, Steps p.tables e below (s₁.setTop (mkF m 0 #[.val (.int cp), .val (.ref a), .val (.int at_), .unset] [])) tg_ → Steps p.tables e below (s₁.setTop (entryFrame m #[(.int cp), (.ref a), (.int at_)] 4)) tg_ := fun tg_ k => castTop (ef_enc3 m cp a at_) k
  have hc6_21 : ¬ (cp < (128 : Int32)) := h6
  have hc24_22 : ¬ (cp < (2048 : Int32)) := h24
  have hc63_23 : cp < (65536 : Int32) := h63
  have hj24 : at_.toInt = ((k : Nat) : Int) := by
    have ar25 := rng32 at_
    omega
  obtain ⟨T26, h26, X26, e26, W26, V26, st26⟩ := own_stB X0 hx hZ e0 V_a (i := k) hj24 (by omega) (g := (mkF m 80 #[.val (.int cp), .val (.ref a), .val (.int at_), .val (.int (at_ + (1 : Int32)))] [(.int (((224 : Int32) ||| ((cp.toUInt32 >>> ((12 : Int32) &&& 31).toUInt32).toInt32)).toInt8.toInt32)), (.int at_), (.ref a)])) rfl rfl (hb hby d1_80)
  have N26 := Fr.snoc X26 N0 g_a
  have k27 : ∀ tg_, Steps p.tables e below (T26.setTop (mkF m 90 #[.val (.int cp), .val (.ref a), .val (.int at_), .val (.int ((at_ + (1 : Int32)) + (1 : Int32)))] [(.int cp), (.int (128 : Int32)), (.int (at_ + (1 : Int32))), (.ref a)])) tg_ → Steps p.tables e below (s₁.setTop (entryFrame m #[(.int cp), (.ref a), (.int at_)] 4)) tg_ := by
    intro tg_ kt
    refine k0 tg_ ?_
    refine XS.iloadN X0.here hx rfl (hb hby d1_0) rfl ?_
    show Steps p.tables e below (s₁.setTop (mkF m 1 #[.val (.int cp), .val (.ref a), .val (.int at_), .unset] [(.int at_)])) _
    refine XS.istoreN X0.here hx rfl (hb hby d1_1) rfl (l' := #[.val (.int cp), .val (.ref a), .val (.int at_), .val (.int at_)]) rfl ?_
    show Steps p.tables e below (s₁.setTop (mkF m 2 #[.val (.int cp), .val (.ref a), .val (.int at_), .val (.int at_)] [])) _
    refine XS.iloadN X0.here hx rfl (hb hby d1_2) rfl ?_
    show Steps p.tables e below (s₁.setTop (mkF m 3 #[.val (.int cp), .val (.ref a), .val (.int at_), .val (.int at_)] [(.int cp)])) _
    refine XS.sipush X0.here hx rfl (hb hby d1_3) ?_
    show Steps p.tables e below (s₁.setTop (mkF m 6 #[.val (.int cp), .val (.ref a), .val (.int at_), .val (.int at_)] [(.int (128 : Int32)), (.int cp)])) _
    refine XS.icmpYes X0.here hx rfl (pc0 := 6) (pc' := 20) rfl (hb hby d1_6) rfl (flt hc6_21).2.1 (by decide) (by decide) ?_
    show Steps p.tables e below (s₁.setTop (mkF m 20 #[.val (.int cp), .val (.ref a), .val (.int at_), .val (.int at_)] [])) _
    refine XS.iloadN X0.here hx rfl (hb hby d1_20) rfl ?_
    show Steps p.tables e below (s₁.setTop (mkF m 21 #[.val (.int cp), .val (.ref a), .val (.int at_), .val (.int at_)] [(.int cp)])) _
    refine XS.sipush X0.here hx rfl (hb hby d1_21) ?_
    show Steps p.tables e below (s₁.setTop (mkF m 24 #[.val (.int cp), .val (.ref a), .val (.int at_), .val (.int at_)] [(.int (2048 : Int32)), (.int cp)])) _
    refine XS.icmpYes X0.here hx rfl (pc0 := 24) (pc' := 60) rfl (hb hby d1_24) rfl (flt hc24_22).2.1 (by decide) (by decide) ?_
    show Steps p.tables e below (s₁.setTop (mkF m 60 #[.val (.int cp), .val (.ref a), .val (.int at_), .val (.int at_)] [])) _
    refine XS.iloadN X0.here hx rfl (hb hby d1_60) rfl ?_
    show Steps p.tables e below (s₁.setTop (mkF m 61 #[.val (.int cp), .val (.ref a), .val (.int at_), .val (.int at_)] [(.int cp)])) _
    refine X0.ldcInt hx hown (mvT hZ (hw _ (List.mem_of_getElem? (i := 9) rfl))) (g := (mkF m 61 #[.val (.int cp), .val (.ref a), .val (.int at_), .val (.int at_)] [(.int cp)])) rfl (hb hby d1_61) _ ?_
    show Steps p.tables e below (s₁.setTop (mkF m 63 #[.val (.int cp), .val (.ref a), .val (.int at_), .val (.int at_)] [(.int (65536 : Int32)), (.int cp)])) _
    refine XS.icmpNo X0.here hx rfl (hb hby d1_63) rfl (tlt hc63_23).2.1 ?_
    show Steps p.tables e below (s₁.setTop (mkF m 66 #[.val (.int cp), .val (.ref a), .val (.int at_), .val (.int at_)] [])) _
    refine XS.aloadN X0.here hx rfl (hb hby d1_66) rfl rfl ?_
    show Steps p.tables e below (s₁.setTop (mkF m 67 #[.val (.int cp), .val (.ref a), .val (.int at_), .val (.int at_)] [(.ref a)])) _
    refine XS.iloadN X0.here hx rfl (hb hby d1_67) rfl ?_
    show Steps p.tables e below (s₁.setTop (mkF m 68 #[.val (.int cp), .val (.ref a), .val (.int at_), .val (.int at_)] [(.int at_), (.ref a)])) _
    refine XS.iinc X0.here hx rfl (hb hby d1_68) rfl (l' := #[.val (.int cp), .val (.ref a), .val (.int at_), .val (.int (at_ + (1 : Int32)))]) rfl ?_
    show Steps p.tables e below (s₁.setTop (mkF m 71 #[.val (.int cp), .val (.ref a), .val (.int at_), .val (.int (at_ + (1 : Int32)))] [(.int at_), (.ref a)])) _
    refine XS.sipush X0.here hx rfl (hb hby d1_71) ?_
    show Steps p.tables e below (s₁.setTop (mkF m 74 #[.val (.int cp), .val (.ref a), .val (.int at_), .val (.int (at_ + (1 : Int32)))] [(.int (224 : Int32)), (.int at_), (.ref a)])) _
    refine XS.iloadN X0.here hx rfl (hb hby d1_74) rfl ?_
    show Steps p.tables e below (s₁.setTop (mkF m 75 #[.val (.int cp), .val (.ref a), .val (.int at_), .val (.int (at_ + (1 : Int32)))] [(.int cp), (.int (224 : Int32)), (.int at_), (.ref a)])) _
    refine XS.bipush X0.here hx rfl (hb hby d1_75) ?_
    show Steps p.tables e below (s₁.setTop (mkF m 77 #[.val (.int cp), .val (.ref a), .val (.int at_), .val (.int (at_ + (1 : Int32)))] [(.int (12 : Int32)), (.int cp), (.int (224 : Int32)), (.int at_), (.ref a)])) _
    refine XS.iushr X0.here hx rfl (hb hby d1_77) rfl ?_
    show Steps p.tables e below (s₁.setTop (mkF m 78 #[.val (.int cp), .val (.ref a), .val (.int at_), .val (.int (at_ + (1 : Int32)))] [(.int ((cp.toUInt32 >>> ((12 : Int32) &&& 31).toUInt32).toInt32)), (.int (224 : Int32)), (.int at_), (.ref a)])) _
    refine XS.ior X0.here hx rfl (hb hby d1_78) rfl ?_
    show Steps p.tables e below (s₁.setTop (mkF m 79 #[.val (.int cp), .val (.ref a), .val (.int at_), .val (.int (at_ + (1 : Int32)))] [(.int ((224 : Int32) ||| ((cp.toUInt32 >>> ((12 : Int32) &&& 31).toUInt32).toInt32))), (.int at_), (.ref a)])) _
    refine XS.i2b X0.here hx rfl (hb hby d1_79) rfl ?_
    show Steps p.tables e below (s₁.setTop (mkF m 80 #[.val (.int cp), .val (.ref a), .val (.int at_), .val (.int (at_ + (1 : Int32)))] [(.int (((224 : Int32) ||| ((cp.toUInt32 >>> ((12 : Int32) &&& 31).toUInt32).toInt32)).toInt8.toInt32)), (.int at_), (.ref a)])) _
    refine st26 _ ?_
    show Steps p.tables e below (T26.setTop (mkF m 81 #[.val (.int cp), .val (.ref a), .val (.int at_), .val (.int (at_ + (1 : Int32)))] [])) _
    refine XS.aloadN X26.here hx rfl (hb hby d1_81) rfl rfl ?_
    show Steps p.tables e below (T26.setTop (mkF m 82 #[.val (.int cp), .val (.ref a), .val (.int at_), .val (.int (at_ + (1 : Int32)))] [(.ref a)])) _
    refine XS.iloadN X26.here hx rfl (hb hby d1_82) rfl ?_
    show Steps p.tables e below (T26.setTop (mkF m 83 #[.val (.int cp), .val (.ref a), .val (.int at_), .val (.int (at_ + (1 : Int32)))] [(.int (at_ + (1 : Int32))), (.ref a)])) _
    refine XS.iinc X26.here hx rfl (hb hby d1_83) rfl (l' := #[.val (.int cp), .val (.ref a), .val (.int at_), .val (.int ((at_ + (1 : Int32)) + (1 : Int32)))]) rfl ?_
    show Steps p.tables e below (T26.setTop (mkF m 86 #[.val (.int cp), .val (.ref a), .val (.int at_), .val (.int ((at_ + (1 : Int32)) + (1 : Int32)))] [(.int (at_ + (1 : Int32))), (.ref a)])) _
    refine XS.sipush X26.here hx rfl (hb hby d1_86) ?_
    show Steps p.tables e below (T26.setTop (mkF m 89 #[.val (.int cp), .val (.ref a), .val (.int at_), .val (.int ((at_ + (1 : Int32)) + (1 : Int32)))] [(.int (128 : Int32)), (.int (at_ + (1 : Int32))), (.ref a)])) _
    refine XS.iloadN X26.here hx rfl (hb hby d1_89) rfl ?_
    show Steps p.tables e below (T26.setTop (mkF m 90 #[.val (.int cp), .val (.ref a), .val (.int at_), .val (.int ((at_ + (1 : Int32)) + (1 : Int32)))] [(.int cp), (.int (128 : Int32)), (.int (at_ + (1 : Int32))), (.ref a)])) _
    exact kt
  have hj28 : (at_ + (1 : Int32)).toInt = (((k + 1) : Nat) : Int) := by
    have ar29 := rng32 at_
    have ar30 : (1 : Int32).toInt = 1 := by decide
    have ar31 := rng32 (at_ + (1 : Int32))
    first | have ar32 : (at_ + (1 : Int32)).toInt = at_.toInt + 1 := (by have qw := c_iadd at_ (1 : Int32); omega) | (have ar32 := c_iadd at_ (1 : Int32); skip)
    omega
  obtain ⟨T33, h33, X33, e33, W33, V33, st33⟩ := own_stB X26 hx hZ e26 V26 (i := (k + 1)) hj28 (by omega) (g := (mkF m 98 #[.val (.int cp), .val (.ref a), .val (.int at_), .val (.int ((at_ + (1 : Int32)) + (1 : Int32)))] [(.int (((128 : Int32) ||| (((cp.toUInt32 >>> ((6 : Int32) &&& 31).toUInt32).toInt32) &&& (63 : Int32))).toInt8.toInt32)), (.int (at_ + (1 : Int32))), (.ref a)])) rfl rfl (hb hby d1_98)
  have N33 := Fr.snoc X33 N26 g_a
  have hj34 : ((at_ + (1 : Int32)) + (1 : Int32)).toInt = (((k + 2) : Nat) : Int) := by
    have ar35 := rng32 at_
    have ar36 : (1 : Int32).toInt = 1 := by decide
    have ar37 := rng32 (at_ + (1 : Int32))
    first | have ar38 : (at_ + (1 : Int32)).toInt = at_.toInt + 1 := (by have qw := c_iadd at_ (1 : Int32); omega) | (have ar38 := c_iadd at_ (1 : Int32); skip)
    have ar39 := rng32 ((at_ + (1 : Int32)) + (1 : Int32))
    first | have ar40 : ((at_ + (1 : Int32)) + (1 : Int32)).toInt = (at_ + (1 : Int32)).toInt + 1 := (by have qw := c_iadd (at_ + (1 : Int32)) (1 : Int32); omega) | (have ar40 := c_iadd (at_ + (1 : Int32)) (1 : Int32); skip)
    omega
  obtain ⟨T41, h41, X41, e41, W41, V41, st41⟩ := own_stB X33 hx hZ e33 V33 (i := (k + 2)) hj34 (by omega) (g := (mkF m 113 #[.val (.int cp), .val (.ref a), .val (.int at_), .val (.int (((at_ + (1 : Int32)) + (1 : Int32)) + (1 : Int32)))] [(.int (((128 : Int32) ||| (cp &&& (63 : Int32))).toInt8.toInt32)), (.int ((at_ + (1 : Int32)) + (1 : Int32))), (.ref a)])) rfl rfl (hb hby d1_113)
  have N41 := Fr.snoc X41 N33 g_a
  have k42 : ∀ tg_, Steps p.tables e below (T41.setTop (mkF m 184 #[.val (.int cp), .val (.ref a), .val (.int at_), .val (.int (((at_ + (1 : Int32)) + (1 : Int32)) + (1 : Int32)))] [(.int (((at_ + (1 : Int32)) + (1 : Int32)) + (1 : Int32)))])) tg_ → Steps p.tables e below (s₁.setTop (entryFrame m #[(.int cp), (.ref a), (.int at_)] 4)) tg_ := by
    intro tg_ kt
    refine k27 tg_ ?_
    refine XS.bipush X26.here hx rfl (hb hby d1_90) ?_
    show Steps p.tables e below (T26.setTop (mkF m 92 #[.val (.int cp), .val (.ref a), .val (.int at_), .val (.int ((at_ + (1 : Int32)) + (1 : Int32)))] [(.int (6 : Int32)), (.int cp), (.int (128 : Int32)), (.int (at_ + (1 : Int32))), (.ref a)])) _
    refine XS.iushr X26.here hx rfl (hb hby d1_92) rfl ?_
    show Steps p.tables e below (T26.setTop (mkF m 93 #[.val (.int cp), .val (.ref a), .val (.int at_), .val (.int ((at_ + (1 : Int32)) + (1 : Int32)))] [(.int ((cp.toUInt32 >>> ((6 : Int32) &&& 31).toUInt32).toInt32)), (.int (128 : Int32)), (.int (at_ + (1 : Int32))), (.ref a)])) _
    refine XS.bipush X26.here hx rfl (hb hby d1_93) ?_
    show Steps p.tables e below (T26.setTop (mkF m 95 #[.val (.int cp), .val (.ref a), .val (.int at_), .val (.int ((at_ + (1 : Int32)) + (1 : Int32)))] [(.int (63 : Int32)), (.int ((cp.toUInt32 >>> ((6 : Int32) &&& 31).toUInt32).toInt32)), (.int (128 : Int32)), (.int (at_ + (1 : Int32))), (.ref a)])) _
    refine XS.iand X26.here hx rfl (hb hby d1_95) rfl ?_
    show Steps p.tables e below (T26.setTop (mkF m 96 #[.val (.int cp), .val (.ref a), .val (.int at_), .val (.int ((at_ + (1 : Int32)) + (1 : Int32)))] [(.int (((cp.toUInt32 >>> ((6 : Int32) &&& 31).toUInt32).toInt32) &&& (63 : Int32))), (.int (128 : Int32)), (.int (at_ + (1 : Int32))), (.ref a)])) _
    refine XS.ior X26.here hx rfl (hb hby d1_96) rfl ?_
    show Steps p.tables e below (T26.setTop (mkF m 97 #[.val (.int cp), .val (.ref a), .val (.int at_), .val (.int ((at_ + (1 : Int32)) + (1 : Int32)))] [(.int ((128 : Int32) ||| (((cp.toUInt32 >>> ((6 : Int32) &&& 31).toUInt32).toInt32) &&& (63 : Int32)))), (.int (at_ + (1 : Int32))), (.ref a)])) _
    refine XS.i2b X26.here hx rfl (hb hby d1_97) rfl ?_
    show Steps p.tables e below (T26.setTop (mkF m 98 #[.val (.int cp), .val (.ref a), .val (.int at_), .val (.int ((at_ + (1 : Int32)) + (1 : Int32)))] [(.int (((128 : Int32) ||| (((cp.toUInt32 >>> ((6 : Int32) &&& 31).toUInt32).toInt32) &&& (63 : Int32))).toInt8.toInt32)), (.int (at_ + (1 : Int32))), (.ref a)])) _
    refine st33 _ ?_
    show Steps p.tables e below (T33.setTop (mkF m 99 #[.val (.int cp), .val (.ref a), .val (.int at_), .val (.int ((at_ + (1 : Int32)) + (1 : Int32)))] [])) _
    refine XS.aloadN X33.here hx rfl (hb hby d1_99) rfl rfl ?_
    show Steps p.tables e below (T33.setTop (mkF m 100 #[.val (.int cp), .val (.ref a), .val (.int at_), .val (.int ((at_ + (1 : Int32)) + (1 : Int32)))] [(.ref a)])) _
    refine XS.iloadN X33.here hx rfl (hb hby d1_100) rfl ?_
    show Steps p.tables e below (T33.setTop (mkF m 101 #[.val (.int cp), .val (.ref a), .val (.int at_), .val (.int ((at_ + (1 : Int32)) + (1 : Int32)))] [(.int ((at_ + (1 : Int32)) + (1 : Int32))), (.ref a)])) _
    refine XS.iinc X33.here hx rfl (hb hby d1_101) rfl (l' := #[.val (.int cp), .val (.ref a), .val (.int at_), .val (.int (((at_ + (1 : Int32)) + (1 : Int32)) + (1 : Int32)))]) rfl ?_
    show Steps p.tables e below (T33.setTop (mkF m 104 #[.val (.int cp), .val (.ref a), .val (.int at_), .val (.int (((at_ + (1 : Int32)) + (1 : Int32)) + (1 : Int32)))] [(.int ((at_ + (1 : Int32)) + (1 : Int32))), (.ref a)])) _
    refine XS.sipush X33.here hx rfl (hb hby d1_104) ?_
    show Steps p.tables e below (T33.setTop (mkF m 107 #[.val (.int cp), .val (.ref a), .val (.int at_), .val (.int (((at_ + (1 : Int32)) + (1 : Int32)) + (1 : Int32)))] [(.int (128 : Int32)), (.int ((at_ + (1 : Int32)) + (1 : Int32))), (.ref a)])) _
    refine XS.iloadN X33.here hx rfl (hb hby d1_107) rfl ?_
    show Steps p.tables e below (T33.setTop (mkF m 108 #[.val (.int cp), .val (.ref a), .val (.int at_), .val (.int (((at_ + (1 : Int32)) + (1 : Int32)) + (1 : Int32)))] [(.int cp), (.int (128 : Int32)), (.int ((at_ + (1 : Int32)) + (1 : Int32))), (.ref a)])) _
    refine XS.bipush X33.here hx rfl (hb hby d1_108) ?_
    show Steps p.tables e below (T33.setTop (mkF m 110 #[.val (.int cp), .val (.ref a), .val (.int at_), .val (.int (((at_ + (1 : Int32)) + (1 : Int32)) + (1 : Int32)))] [(.int (63 : Int32)), (.int cp), (.int (128 : Int32)), (.int ((at_ + (1 : Int32)) + (1 : Int32))), (.ref a)])) _
    refine XS.iand X33.here hx rfl (hb hby d1_110) rfl ?_
    show Steps p.tables e below (T33.setTop (mkF m 111 #[.val (.int cp), .val (.ref a), .val (.int at_), .val (.int (((at_ + (1 : Int32)) + (1 : Int32)) + (1 : Int32)))] [(.int (cp &&& (63 : Int32))), (.int (128 : Int32)), (.int ((at_ + (1 : Int32)) + (1 : Int32))), (.ref a)])) _
    refine XS.ior X33.here hx rfl (hb hby d1_111) rfl ?_
    show Steps p.tables e below (T33.setTop (mkF m 112 #[.val (.int cp), .val (.ref a), .val (.int at_), .val (.int (((at_ + (1 : Int32)) + (1 : Int32)) + (1 : Int32)))] [(.int ((128 : Int32) ||| (cp &&& (63 : Int32)))), (.int ((at_ + (1 : Int32)) + (1 : Int32))), (.ref a)])) _
    refine XS.i2b X33.here hx rfl (hb hby d1_112) rfl ?_
    show Steps p.tables e below (T33.setTop (mkF m 113 #[.val (.int cp), .val (.ref a), .val (.int at_), .val (.int (((at_ + (1 : Int32)) + (1 : Int32)) + (1 : Int32)))] [(.int (((128 : Int32) ||| (cp &&& (63 : Int32))).toInt8.toInt32)), (.int ((at_ + (1 : Int32)) + (1 : Int32))), (.ref a)])) _
    refine st41 _ ?_
    show Steps p.tables e below (T41.setTop (mkF m 114 #[.val (.int cp), .val (.ref a), .val (.int at_), .val (.int (((at_ + (1 : Int32)) + (1 : Int32)) + (1 : Int32)))] [])) _
    refine XS.goto X41.here hx rfl (pc0 := 114) (pc' := 183) rfl (hb hby d1_114) (by decide) (by decide) ?_
    show Steps p.tables e below (T41.setTop (mkF m 183 #[.val (.int cp), .val (.ref a), .val (.int at_), .val (.int (((at_ + (1 : Int32)) + (1 : Int32)) + (1 : Int32)))] [])) _
    refine XS.iloadN X41.here hx rfl (hb hby d1_183) rfl ?_
    show Steps p.tables e below (T41.setTop (mkF m 184 #[.val (.int cp), .val (.ref a), .val (.int at_), .val (.int (((at_ + (1 : Int32)) + (1 : Int32)) + (1 : Int32)))] [(.int (((at_ + (1 : Int32)) + (1 : Int32)) + (1 : Int32)))])) _
    exact kt
  have f43 := ((((Keep.refl h0 [a]).trans (Keep.of_wr W26) (allS (Or.inl (List.mem_of_getElem? (i := 0) rfl)) all0)).trans (Keep.of_wr W33) (allS (Or.inl (List.mem_of_getElem? (i := 0) rfl)) all0)).trans (Keep.of_wr W41) (allS (Or.inl (List.mem_of_getElem? (i := 0) rfl)) all0))
  obtain ⟨fs, hr, hrun, hended, hW, hsame⟩ := X41.leave (v := some (.int (((at_ + (1 : Int32)) + (1 : Int32)) + (1 : Int32)))) (fun h => by rw [Bd.returns] at h; cases h)
  refine ⟨_, _, k42 _ (retI X41 hx Bd.returns (hb hby d1_184) hr), hrun, hended, _, _, rfl, ?_, ⟨_, rfl⟩, hW, hsame.mono (by decide) (by decide)⟩
  show Qenc3 Z cp a at_ k f h0 n0 _ T41.heap _
  rw [e41]
  exact ⟨rfl, N41, f43, V41⟩
theorem d1_117 : decode prog_1_method_10_code 117 = .ok (.aload_n 1, 1) := by decide +kernel
theorem d1_118 : decode prog_1_method_10_code 118 = .ok (.iload_n 3, 1) := by decide +kernel
theorem d1_119 : decode prog_1_method_10_code 119 = .ok (.iinc 3 1, 3) := by decide +kernel
theorem d1_122 : decode prog_1_method_10_code 122 = .ok (.sipush 240, 3) := by decide +kernel
theorem d1_125 : decode prog_1_method_10_code 125 = .ok (.iload_n 0, 1) := by decide +kernel
theorem d1_126 : decode prog_1_method_10_code 126 = .ok (.bipush 18, 2) := by decide +kernel
theorem d1_128 : decode prog_1_method_10_code 128 = .ok (.iushr, 1) := by decide +kernel
theorem d1_129 : decode prog_1_method_10_code 129 = .ok (.ior, 1) := by decide +kernel
theorem d1_130 : decode prog_1_method_10_code 130 = .ok (.i2b, 1) := by decide +kernel
theorem d1_131 : decode prog_1_method_10_code 131 = .ok (.bastore, 1) := by decide +kernel
theorem d1_132 : decode prog_1_method_10_code 132 = .ok (.aload_n 1, 1) := by decide +kernel
theorem d1_133 : decode prog_1_method_10_code 133 = .ok (.iload_n 3, 1) := by decide +kernel
theorem d1_134 : decode prog_1_method_10_code 134 = .ok (.iinc 3 1, 3) := by decide +kernel
theorem d1_137 : decode prog_1_method_10_code 137 = .ok (.sipush 128, 3) := by decide +kernel
theorem d1_140 : decode prog_1_method_10_code 140 = .ok (.iload_n 0, 1) := by decide +kernel
theorem d1_141 : decode prog_1_method_10_code 141 = .ok (.bipush 12, 2) := by decide +kernel
theorem d1_143 : decode prog_1_method_10_code 143 = .ok (.iushr, 1) := by decide +kernel
theorem d1_144 : decode prog_1_method_10_code 144 = .ok (.bipush 63, 2) := by decide +kernel
theorem d1_146 : decode prog_1_method_10_code 146 = .ok (.iand, 1) := by decide +kernel
theorem d1_147 : decode prog_1_method_10_code 147 = .ok (.ior, 1) := by decide +kernel
theorem d1_148 : decode prog_1_method_10_code 148 = .ok (.i2b, 1) := by decide +kernel
theorem d1_149 : decode prog_1_method_10_code 149 = .ok (.bastore, 1) := by decide +kernel
theorem d1_150 : decode prog_1_method_10_code 150 = .ok (.aload_n 1, 1) := by decide +kernel
theorem d1_151 : decode prog_1_method_10_code 151 = .ok (.iload_n 3, 1) := by decide +kernel
theorem d1_152 : decode prog_1_method_10_code 152 = .ok (.iinc 3 1, 3) := by decide +kernel
theorem d1_155 : decode prog_1_method_10_code 155 = .ok (.sipush 128, 3) := by decide +kernel
theorem d1_158 : decode prog_1_method_10_code 158 = .ok (.iload_n 0, 1) := by decide +kernel
theorem d1_159 : decode prog_1_method_10_code 159 = .ok (.bipush 6, 2) := by decide +kernel
theorem d1_161 : decode prog_1_method_10_code 161 = .ok (.iushr, 1) := by decide +kernel
theorem d1_162 : decode prog_1_method_10_code 162 = .ok (.bipush 63, 2) := by decide +kernel
theorem d1_164 : decode prog_1_method_10_code 164 = .ok (.iand, 1) := by decide +kernel
theorem d1_165 : decode prog_1_method_10_code 165 = .ok (.ior, 1) := by decide +kernel
theorem d1_166 : decode prog_1_method_10_code 166 = .ok (.i2b, 1) := by decide +kernel
theorem d1_167 : decode prog_1_method_10_code 167 = .ok (.bastore, 1) := by decide +kernel
theorem d1_168 : decode prog_1_method_10_code 168 = .ok (.aload_n 1, 1) := by decide +kernel
theorem d1_169 : decode prog_1_method_10_code 169 = .ok (.iload_n 3, 1) := by decide +kernel
theorem d1_170 : decode prog_1_method_10_code 170 = .ok (.iinc 3 1, 3) := by decide +kernel
theorem d1_173 : decode prog_1_method_10_code 173 = .ok (.sipush 128, 3) := by decide +kernel
theorem d1_176 : decode prog_1_method_10_code 176 = .ok (.iload_n 0, 1) := by decide +kernel
theorem d1_177 : decode prog_1_method_10_code 177 = .ok (.bipush 63, 2) := by decide +kernel
theorem d1_179 : decode prog_1_method_10_code 179 = .ok (.iand, 1) := by decide +kernel
theorem d1_180 : decode prog_1_method_10_code 180 = .ok (.ior, 1) := by decide +kernel
theorem d1_181 : decode prog_1_method_10_code 181 = .ok (.i2b, 1) := by decide +kernel
theorem d1_182 : decode prog_1_method_10_code 182 = .ok (.bastore, 1) := by decide +kernel
theorem ef_enc4 (m : MethodId) (x0 : Int32) (x1 : Addr) (x2 : Int32) : entryFrame m #[(.int x0), (.ref x1), (.int x2)] 4 = mkF m 0 #[.val (.int x0), .val (.ref x1), .val (.int x2), .unset] [] := by first | (simp [entryFrame, mkF, argsToLocals, Value.category]; done) | rfl
def Qenc4 (Z : State) (cp : Int32) (a : Addr) (at_ : Int32) (k : Nat) (f : Nat → Int32) (h0 : Heap) (n0 : Nat) (rv_ : Option Value) (h : Heap) (LL_ : List Loc) : Prop := rv_ = some (.int ((((at_ + (1 : Int32)) + (1 : Int32)) + (1 : Int32)) + (1 : Int32))) ∧ Fr n0 LL_ ∧ Keep h0 h [a] ∧ own_AI Z h a .byte 12 (own_upd (own_upd (own_upd (own_upd f k ((((240 : Int32) ||| ((cp.toUInt32 >>> ((18 : Int32) &&& 31).toUInt32).toInt32)).toInt8.toInt32).toInt8.toInt32)) (k + 1) ((((128 : Int32) ||| (((cp.toUInt32 >>> ((12 : Int32) &&& 31).toUInt32).toInt32) &&& (63 : Int32))).toInt8.toInt32).toInt8.toInt32)) (k + 2) ((((128 : Int32) ||| (((cp.toUInt32 >>> ((6 : Int32) &&& 31).toUInt32).toInt32) &&& (63 : Int32))).toInt8.toInt32).toInt8.toInt32)) (k + 3) ((((128 : Int32) ||| (cp &&& (63 : Int32))).toInt8.toInt32).toInt8.toInt32))
set_option maxRecDepth 65536 in
set_option maxHeartbeats 40000000 in
theorem rmenc4 (l : Launch) (Z : State) (a0 : Array Value) (hw : ∀ d ∈ tables_1, d.before a0 Z = true) (ws : List Jvm.Cond) (cp : Int32) (a : Addr) (at_ : Int32) (k : Nat) (f : Nat → Int32) (h0 : Heap) (n0 : Nat) (Z0 : n0 ≤ h0.size) (V_a : own_AI Z h0 a .byte 12 f) (g_a : n0 ≤ a) (hk : at_.toInt = (k : Int)) (hk7 : k ≤ 7) (h6 : ¬ (cp < (128 : Int32))) (h24 : ¬ (cp < (2048 : Int32))) (h63 : ¬ (cp < (65536 : Int32))) :
    MetFree l (⟨"com/example/benzer/benzer/FeatureHash", "encode", "(I[BI)I"⟩ : MethodName) (head1 (Jvm.Cond.code (⟨"com/example/benzer/benzer/FeatureHash", "encode", "(I[BI)I"⟩ : MethodName) prog_1_method_10_code 4 (some .int) :: ws) ({ frames := 0, cells := 0, slots := 0, locals := 0 } : Room)) (fun aa UU => aa = #[(.int cp), (.ref a), (.int at_)] ∧ Z.Warmed39 UU.vm ∧ UU.heap = h0) (fun _ _ _ _ _ => True) (fun _ UU oo UV => ∃ vv LL, oo = .returned vv ∧ Qenc4 Z cp a at_ k f h0 n0 vv UV.heap LL ∧ FrameEnd UU oo UV LL ({ frames := 0, cells := 0, slots := 0, locals := 0 } : Room).cells ({ frames := 0, cells := 0, slots := 0, locals := 0 } : Room).slots) := by
  refine MetFree.of_bodySF (plainFor_of_name pn_1) hisR ?_
  intro p e s m args below meth c s₁ Bd hml0 hP hK
  obtain ⟨rfl, hZ, hh⟩ := hP
  have hx := Bd.exec
  have hby := Bd.bytes
  have hml : c.maxLocals = 4 := hml0
  have hown : s.vm.findClass "com/example/benzer/benzer/FeatureHash" = some m.cls := findClass_of_methodNamed Bd.named
  have hnm := (name_of_methodNamed Bd.named Bd.method).1
  have X0 : Stand p l e ({ frames := 0, cells := 0, slots := 0, locals := 0 } : Room) s m #[(.int cp), (.ref a), (.int at_)] below meth c s₁ [] 0 0 := Stand.of_body Bd
  have e0 : s₁.heap = h0 := by rw [← hh, Bd.state]; rfl
  have N0 := Fr.nil n0
  have k0 : ∀ tg_, Steps p.tables e below (s₁.setTop (mkF m 0 #[.val (.int cp), .val (.ref a), .val (.int at_), .unset] [])) tg_ → Steps p.tables e below (s₁.setTop (entryFrame m #[(.int cp), (.ref a), (.int at_)] 4)) tg_ := fun tg_ k => castTop (ef_enc4 m cp a at_) k
  have hc6_44 : ¬ (cp < (128 : Int32)) := h6
  have hc24_45 : ¬ (cp < (2048 : Int32)) := h24
  have hc63_46 : ¬ (cp < (65536 : Int32)) := h63
  have hj47 : at_.toInt = ((k : Nat) : Int) := by
    have ar48 := rng32 at_
    omega
  obtain ⟨T49, h49, X49, e49, W49, V49, st49⟩ := own_stB X0 hx hZ e0 V_a (i := k) hj47 (by omega) (g := (mkF m 131 #[.val (.int cp), .val (.ref a), .val (.int at_), .val (.int (at_ + (1 : Int32)))] [(.int (((240 : Int32) ||| ((cp.toUInt32 >>> ((18 : Int32) &&& 31).toUInt32).toInt32)).toInt8.toInt32)), (.int at_), (.ref a)])) rfl rfl (hb hby d1_131)
  have N49 := Fr.snoc X49 N0 g_a
  have k50 : ∀ tg_, Steps p.tables e below (T49.setTop (mkF m 141 #[.val (.int cp), .val (.ref a), .val (.int at_), .val (.int ((at_ + (1 : Int32)) + (1 : Int32)))] [(.int cp), (.int (128 : Int32)), (.int (at_ + (1 : Int32))), (.ref a)])) tg_ → Steps p.tables e below (s₁.setTop (entryFrame m #[(.int cp), (.ref a), (.int at_)] 4)) tg_ := by
    intro tg_ kt
    refine k0 tg_ ?_
    refine XS.iloadN X0.here hx rfl (hb hby d1_0) rfl ?_
    show Steps p.tables e below (s₁.setTop (mkF m 1 #[.val (.int cp), .val (.ref a), .val (.int at_), .unset] [(.int at_)])) _
    refine XS.istoreN X0.here hx rfl (hb hby d1_1) rfl (l' := #[.val (.int cp), .val (.ref a), .val (.int at_), .val (.int at_)]) rfl ?_
    show Steps p.tables e below (s₁.setTop (mkF m 2 #[.val (.int cp), .val (.ref a), .val (.int at_), .val (.int at_)] [])) _
    refine XS.iloadN X0.here hx rfl (hb hby d1_2) rfl ?_
    show Steps p.tables e below (s₁.setTop (mkF m 3 #[.val (.int cp), .val (.ref a), .val (.int at_), .val (.int at_)] [(.int cp)])) _
    refine XS.sipush X0.here hx rfl (hb hby d1_3) ?_
    show Steps p.tables e below (s₁.setTop (mkF m 6 #[.val (.int cp), .val (.ref a), .val (.int at_), .val (.int at_)] [(.int (128 : Int32)), (.int cp)])) _
    refine XS.icmpYes X0.here hx rfl (pc0 := 6) (pc' := 20) rfl (hb hby d1_6) rfl (flt hc6_44).2.1 (by decide) (by decide) ?_
    show Steps p.tables e below (s₁.setTop (mkF m 20 #[.val (.int cp), .val (.ref a), .val (.int at_), .val (.int at_)] [])) _
    refine XS.iloadN X0.here hx rfl (hb hby d1_20) rfl ?_
    show Steps p.tables e below (s₁.setTop (mkF m 21 #[.val (.int cp), .val (.ref a), .val (.int at_), .val (.int at_)] [(.int cp)])) _
    refine XS.sipush X0.here hx rfl (hb hby d1_21) ?_
    show Steps p.tables e below (s₁.setTop (mkF m 24 #[.val (.int cp), .val (.ref a), .val (.int at_), .val (.int at_)] [(.int (2048 : Int32)), (.int cp)])) _
    refine XS.icmpYes X0.here hx rfl (pc0 := 24) (pc' := 60) rfl (hb hby d1_24) rfl (flt hc24_45).2.1 (by decide) (by decide) ?_
    show Steps p.tables e below (s₁.setTop (mkF m 60 #[.val (.int cp), .val (.ref a), .val (.int at_), .val (.int at_)] [])) _
    refine XS.iloadN X0.here hx rfl (hb hby d1_60) rfl ?_
    show Steps p.tables e below (s₁.setTop (mkF m 61 #[.val (.int cp), .val (.ref a), .val (.int at_), .val (.int at_)] [(.int cp)])) _
    refine X0.ldcInt hx hown (mvT hZ (hw _ (List.mem_of_getElem? (i := 9) rfl))) (g := (mkF m 61 #[.val (.int cp), .val (.ref a), .val (.int at_), .val (.int at_)] [(.int cp)])) rfl (hb hby d1_61) _ ?_
    show Steps p.tables e below (s₁.setTop (mkF m 63 #[.val (.int cp), .val (.ref a), .val (.int at_), .val (.int at_)] [(.int (65536 : Int32)), (.int cp)])) _
    refine XS.icmpYes X0.here hx rfl (pc0 := 63) (pc' := 117) rfl (hb hby d1_63) rfl (flt hc63_46).2.1 (by decide) (by decide) ?_
    show Steps p.tables e below (s₁.setTop (mkF m 117 #[.val (.int cp), .val (.ref a), .val (.int at_), .val (.int at_)] [])) _
    refine XS.aloadN X0.here hx rfl (hb hby d1_117) rfl rfl ?_
    show Steps p.tables e below (s₁.setTop (mkF m 118 #[.val (.int cp), .val (.ref a), .val (.int at_), .val (.int at_)] [(.ref a)])) _
    refine XS.iloadN X0.here hx rfl (hb hby d1_118) rfl ?_
    show Steps p.tables e below (s₁.setTop (mkF m 119 #[.val (.int cp), .val (.ref a), .val (.int at_), .val (.int at_)] [(.int at_), (.ref a)])) _
    refine XS.iinc X0.here hx rfl (hb hby d1_119) rfl (l' := #[.val (.int cp), .val (.ref a), .val (.int at_), .val (.int (at_ + (1 : Int32)))]) rfl ?_
    show Steps p.tables e below (s₁.setTop (mkF m 122 #[.val (.int cp), .val (.ref a), .val (.int at_), .val (.int (at_ + (1 : Int32)))] [(.int at_), (.ref a)])) _
    refine XS.sipush X0.here hx rfl (hb hby d1_122) ?_
    show Steps p.tables e below (s₁.setTop (mkF m 125 #[.val (.int cp), .val (.ref a), .val (.int at_), .val (.int (at_ + (1 : Int32)))] [(.int (240 : Int32)), (.int at_), (.ref a)])) _
    refine XS.iloadN X0.here hx rfl (hb hby d1_125) rfl ?_
    show Steps p.tables e below (s₁.setTop (mkF m 126 #[.val (.int cp), .val (.ref a), .val (.int at_), .val (.int (at_ + (1 : Int32)))] [(.int cp), (.int (240 : Int32)), (.int at_), (.ref a)])) _
    refine XS.bipush X0.here hx rfl (hb hby d1_126) ?_
    show Steps p.tables e below (s₁.setTop (mkF m 128 #[.val (.int cp), .val (.ref a), .val (.int at_), .val (.int (at_ + (1 : Int32)))] [(.int (18 : Int32)), (.int cp), (.int (240 : Int32)), (.int at_), (.ref a)])) _
    refine XS.iushr X0.here hx rfl (hb hby d1_128) rfl ?_
    show Steps p.tables e below (s₁.setTop (mkF m 129 #[.val (.int cp), .val (.ref a), .val (.int at_), .val (.int (at_ + (1 : Int32)))] [(.int ((cp.toUInt32 >>> ((18 : Int32) &&& 31).toUInt32).toInt32)), (.int (240 : Int32)), (.int at_), (.ref a)])) _
    refine XS.ior X0.here hx rfl (hb hby d1_129) rfl ?_
    show Steps p.tables e below (s₁.setTop (mkF m 130 #[.val (.int cp), .val (.ref a), .val (.int at_), .val (.int (at_ + (1 : Int32)))] [(.int ((240 : Int32) ||| ((cp.toUInt32 >>> ((18 : Int32) &&& 31).toUInt32).toInt32))), (.int at_), (.ref a)])) _
    refine XS.i2b X0.here hx rfl (hb hby d1_130) rfl ?_
    show Steps p.tables e below (s₁.setTop (mkF m 131 #[.val (.int cp), .val (.ref a), .val (.int at_), .val (.int (at_ + (1 : Int32)))] [(.int (((240 : Int32) ||| ((cp.toUInt32 >>> ((18 : Int32) &&& 31).toUInt32).toInt32)).toInt8.toInt32)), (.int at_), (.ref a)])) _
    refine st49 _ ?_
    show Steps p.tables e below (T49.setTop (mkF m 132 #[.val (.int cp), .val (.ref a), .val (.int at_), .val (.int (at_ + (1 : Int32)))] [])) _
    refine XS.aloadN X49.here hx rfl (hb hby d1_132) rfl rfl ?_
    show Steps p.tables e below (T49.setTop (mkF m 133 #[.val (.int cp), .val (.ref a), .val (.int at_), .val (.int (at_ + (1 : Int32)))] [(.ref a)])) _
    refine XS.iloadN X49.here hx rfl (hb hby d1_133) rfl ?_
    show Steps p.tables e below (T49.setTop (mkF m 134 #[.val (.int cp), .val (.ref a), .val (.int at_), .val (.int (at_ + (1 : Int32)))] [(.int (at_ + (1 : Int32))), (.ref a)])) _
    refine XS.iinc X49.here hx rfl (hb hby d1_134) rfl (l' := #[.val (.int cp), .val (.ref a), .val (.int at_), .val (.int ((at_ + (1 : Int32)) + (1 : Int32)))]) rfl ?_
    show Steps p.tables e below (T49.setTop (mkF m 137 #[.val (.int cp), .val (.ref a), .val (.int at_), .val (.int ((at_ + (1 : Int32)) + (1 : Int32)))] [(.int (at_ + (1 : Int32))), (.ref a)])) _
    refine XS.sipush X49.here hx rfl (hb hby d1_137) ?_
    show Steps p.tables e below (T49.setTop (mkF m 140 #[.val (.int cp), .val (.ref a), .val (.int at_), .val (.int ((at_ + (1 : Int32)) + (1 : Int32)))] [(.int (128 : Int32)), (.int (at_ + (1 : Int32))), (.ref a)])) _
    refine XS.iloadN X49.here hx rfl (hb hby d1_140) rfl ?_
    show Steps p.tables e below (T49.setTop (mkF m 141 #[.val (.int cp), .val (.ref a), .val (.int at_), .val (.int ((at_ + (1 : Int32)) + (1 : Int32)))] [(.int cp), (.int (128 : Int32)), (.int (at_ + (1 : Int32))), (.ref a)])) _
    exact kt
  have hj51 : (at_ + (1 : Int32)).toInt = (((k + 1) : Nat) : Int) := by
    have ar52 := rng32 at_
    have ar53 : (1 : Int32).toInt = 1 := by decide
    have ar54 := rng32 (at_ + (1 : Int32))
    first | have ar55 : (at_ + (1 : Int32)).toInt = at_.toInt + 1 := (by have qw := c_iadd at_ (1 : Int32); omega) | (have ar55 := c_iadd at_ (1 : Int32); skip)
    omega
  obtain ⟨T56, h56, X56, e56, W56, V56, st56⟩ := own_stB X49 hx hZ e49 V49 (i := (k + 1)) hj51 (by omega) (g := (mkF m 149 #[.val (.int cp), .val (.ref a), .val (.int at_), .val (.int ((at_ + (1 : Int32)) + (1 : Int32)))] [(.int (((128 : Int32) ||| (((cp.toUInt32 >>> ((12 : Int32) &&& 31).toUInt32).toInt32) &&& (63 : Int32))).toInt8.toInt32)), (.int (at_ + (1 : Int32))), (.ref a)])) rfl rfl (hb hby d1_149)
  have N56 := Fr.snoc X56 N49 g_a
  have hj57 : ((at_ + (1 : Int32)) + (1 : Int32)).toInt = (((k + 2) : Nat) : Int) := by
    have ar58 := rng32 at_
    have ar59 : (1 : Int32).toInt = 1 := by decide
    have ar60 := rng32 (at_ + (1 : Int32))
    first | have ar61 : (at_ + (1 : Int32)).toInt = at_.toInt + 1 := (by have qw := c_iadd at_ (1 : Int32); omega) | (have ar61 := c_iadd at_ (1 : Int32); skip)
    have ar62 := rng32 ((at_ + (1 : Int32)) + (1 : Int32))
    first | have ar63 : ((at_ + (1 : Int32)) + (1 : Int32)).toInt = (at_ + (1 : Int32)).toInt + 1 := (by have qw := c_iadd (at_ + (1 : Int32)) (1 : Int32); omega) | (have ar63 := c_iadd (at_ + (1 : Int32)) (1 : Int32); skip)
    omega
  obtain ⟨T64, h64, X64, e64, W64, V64, st64⟩ := own_stB X56 hx hZ e56 V56 (i := (k + 2)) hj57 (by omega) (g := (mkF m 167 #[.val (.int cp), .val (.ref a), .val (.int at_), .val (.int (((at_ + (1 : Int32)) + (1 : Int32)) + (1 : Int32)))] [(.int (((128 : Int32) ||| (((cp.toUInt32 >>> ((6 : Int32) &&& 31).toUInt32).toInt32) &&& (63 : Int32))).toInt8.toInt32)), (.int ((at_ + (1 : Int32)) + (1 : Int32))), (.ref a)])) rfl rfl (hb hby d1_167)
  have N64 := Fr.snoc X64 N56 g_a
  have k65 : ∀ tg_, Steps p.tables e below (T64.setTop (mkF m 180 #[.val (.int cp), .val (.ref a), .val (.int at_), .val (.int ((((at_ + (1 : Int32)) + (1 : Int32)) + (1 : Int32)) + (1 : Int32)))] [(.int (cp &&& (63 : Int32))), (.int (128 : Int32)), (.int (((at_ + (1 : Int32)) + (1 : Int32)) + (1 : Int32))), (.ref a)])) tg_ → Steps p.tables e below (s₁.setTop (entryFrame m #[(.int cp), (.ref a), (.int at_)] 4)) tg_ := by
    intro tg_ kt
    refine k50 tg_ ?_
    refine XS.bipush X49.here hx rfl (hb hby d1_141) ?_
    show Steps p.tables e below (T49.setTop (mkF m 143 #[.val (.int cp), .val (.ref a), .val (.int at_), .val (.int ((at_ + (1 : Int32)) + (1 : Int32)))] [(.int (12 : Int32)), (.int cp), (.int (128 : Int32)), (.int (at_ + (1 : Int32))), (.ref a)])) _
    refine XS.iushr X49.here hx rfl (hb hby d1_143) rfl ?_
    show Steps p.tables e below (T49.setTop (mkF m 144 #[.val (.int cp), .val (.ref a), .val (.int at_), .val (.int ((at_ + (1 : Int32)) + (1 : Int32)))] [(.int ((cp.toUInt32 >>> ((12 : Int32) &&& 31).toUInt32).toInt32)), (.int (128 : Int32)), (.int (at_ + (1 : Int32))), (.ref a)])) _
    refine XS.bipush X49.here hx rfl (hb hby d1_144) ?_
    show Steps p.tables e below (T49.setTop (mkF m 146 #[.val (.int cp), .val (.ref a), .val (.int at_), .val (.int ((at_ + (1 : Int32)) + (1 : Int32)))] [(.int (63 : Int32)), (.int ((cp.toUInt32 >>> ((12 : Int32) &&& 31).toUInt32).toInt32)), (.int (128 : Int32)), (.int (at_ + (1 : Int32))), (.ref a)])) _
    refine XS.iand X49.here hx rfl (hb hby d1_146) rfl ?_
    show Steps p.tables e below (T49.setTop (mkF m 147 #[.val (.int cp), .val (.ref a), .val (.int at_), .val (.int ((at_ + (1 : Int32)) + (1 : Int32)))] [(.int (((cp.toUInt32 >>> ((12 : Int32) &&& 31).toUInt32).toInt32) &&& (63 : Int32))), (.int (128 : Int32)), (.int (at_ + (1 : Int32))), (.ref a)])) _
    refine XS.ior X49.here hx rfl (hb hby d1_147) rfl ?_
    show Steps p.tables e below (T49.setTop (mkF m 148 #[.val (.int cp), .val (.ref a), .val (.int at_), .val (.int ((at_ + (1 : Int32)) + (1 : Int32)))] [(.int ((128 : Int32) ||| (((cp.toUInt32 >>> ((12 : Int32) &&& 31).toUInt32).toInt32) &&& (63 : Int32)))), (.int (at_ + (1 : Int32))), (.ref a)])) _
    refine XS.i2b X49.here hx rfl (hb hby d1_148) rfl ?_
    show Steps p.tables e below (T49.setTop (mkF m 149 #[.val (.int cp), .val (.ref a), .val (.int at_), .val (.int ((at_ + (1 : Int32)) + (1 : Int32)))] [(.int (((128 : Int32) ||| (((cp.toUInt32 >>> ((12 : Int32) &&& 31).toUInt32).toInt32) &&& (63 : Int32))).toInt8.toInt32)), (.int (at_ + (1 : Int32))), (.ref a)])) _
    refine st56 _ ?_
    show Steps p.tables e below (T56.setTop (mkF m 150 #[.val (.int cp), .val (.ref a), .val (.int at_), .val (.int ((at_ + (1 : Int32)) + (1 : Int32)))] [])) _
    refine XS.aloadN X56.here hx rfl (hb hby d1_150) rfl rfl ?_
    show Steps p.tables e below (T56.setTop (mkF m 151 #[.val (.int cp), .val (.ref a), .val (.int at_), .val (.int ((at_ + (1 : Int32)) + (1 : Int32)))] [(.ref a)])) _
    refine XS.iloadN X56.here hx rfl (hb hby d1_151) rfl ?_
    show Steps p.tables e below (T56.setTop (mkF m 152 #[.val (.int cp), .val (.ref a), .val (.int at_), .val (.int ((at_ + (1 : Int32)) + (1 : Int32)))] [(.int ((at_ + (1 : Int32)) + (1 : Int32))), (.ref a)])) _
    refine XS.iinc X56.here hx rfl (hb hby d1_152) rfl (l' := #[.val (.int cp), .val (.ref a), .val (.int at_), .val (.int (((at_ + (1 : Int32)) + (1 : Int32)) + (1 : Int32)))]) rfl ?_
    show Steps p.tables e below (T56.setTop (mkF m 155 #[.val (.int cp), .val (.ref a), .val (.int at_), .val (.int (((at_ + (1 : Int32)) + (1 : Int32)) + (1 : Int32)))] [(.int ((at_ + (1 : Int32)) + (1 : Int32))), (.ref a)])) _
    refine XS.sipush X56.here hx rfl (hb hby d1_155) ?_
    show Steps p.tables e below (T56.setTop (mkF m 158 #[.val (.int cp), .val (.ref a), .val (.int at_), .val (.int (((at_ + (1 : Int32)) + (1 : Int32)) + (1 : Int32)))] [(.int (128 : Int32)), (.int ((at_ + (1 : Int32)) + (1 : Int32))), (.ref a)])) _
    refine XS.iloadN X56.here hx rfl (hb hby d1_158) rfl ?_
    show Steps p.tables e below (T56.setTop (mkF m 159 #[.val (.int cp), .val (.ref a), .val (.int at_), .val (.int (((at_ + (1 : Int32)) + (1 : Int32)) + (1 : Int32)))] [(.int cp), (.int (128 : Int32)), (.int ((at_ + (1 : Int32)) + (1 : Int32))), (.ref a)])) _
    refine XS.bipush X56.here hx rfl (hb hby d1_159) ?_
    show Steps p.tables e below (T56.setTop (mkF m 161 #[.val (.int cp), .val (.ref a), .val (.int at_), .val (.int (((at_ + (1 : Int32)) + (1 : Int32)) + (1 : Int32)))] [(.int (6 : Int32)), (.int cp), (.int (128 : Int32)), (.int ((at_ + (1 : Int32)) + (1 : Int32))), (.ref a)])) _
    refine XS.iushr X56.here hx rfl (hb hby d1_161) rfl ?_
    show Steps p.tables e below (T56.setTop (mkF m 162 #[.val (.int cp), .val (.ref a), .val (.int at_), .val (.int (((at_ + (1 : Int32)) + (1 : Int32)) + (1 : Int32)))] [(.int ((cp.toUInt32 >>> ((6 : Int32) &&& 31).toUInt32).toInt32)), (.int (128 : Int32)), (.int ((at_ + (1 : Int32)) + (1 : Int32))), (.ref a)])) _
    refine XS.bipush X56.here hx rfl (hb hby d1_162) ?_
    show Steps p.tables e below (T56.setTop (mkF m 164 #[.val (.int cp), .val (.ref a), .val (.int at_), .val (.int (((at_ + (1 : Int32)) + (1 : Int32)) + (1 : Int32)))] [(.int (63 : Int32)), (.int ((cp.toUInt32 >>> ((6 : Int32) &&& 31).toUInt32).toInt32)), (.int (128 : Int32)), (.int ((at_ + (1 : Int32)) + (1 : Int32))), (.ref a)])) _
    refine XS.iand X56.here hx rfl (hb hby d1_164) rfl ?_
    show Steps p.tables e below (T56.setTop (mkF m 165 #[.val (.int cp), .val (.ref a), .val (.int at_), .val (.int (((at_ + (1 : Int32)) + (1 : Int32)) + (1 : Int32)))] [(.int (((cp.toUInt32 >>> ((6 : Int32) &&& 31).toUInt32).toInt32) &&& (63 : Int32))), (.int (128 : Int32)), (.int ((at_ + (1 : Int32)) + (1 : Int32))), (.ref a)])) _
    refine XS.ior X56.here hx rfl (hb hby d1_165) rfl ?_
    show Steps p.tables e below (T56.setTop (mkF m 166 #[.val (.int cp), .val (.ref a), .val (.int at_), .val (.int (((at_ + (1 : Int32)) + (1 : Int32)) + (1 : Int32)))] [(.int ((128 : Int32) ||| (((cp.toUInt32 >>> ((6 : Int32) &&& 31).toUInt32).toInt32) &&& (63 : Int32)))), (.int ((at_ + (1 : Int32)) + (1 : Int32))), (.ref a)])) _
    refine XS.i2b X56.here hx rfl (hb hby d1_166) rfl ?_
    show Steps p.tables e below (T56.setTop (mkF m 167 #[.val (.int cp), .val (.ref a), .val (.int at_), .val (.int (((at_ + (1 : Int32)) + (1 : Int32)) + (1 : Int32)))] [(.int (((128 : Int32) ||| (((cp.toUInt32 >>> ((6 : Int32) &&& 31).toUInt32).toInt32) &&& (63 : Int32))).toInt8.toInt32)), (.int ((at_ + (1 : Int32)) + (1 : Int32))), (.ref a)])) _
    refine st64 _ ?_
    show Steps p.tables e below (T64.setTop (mkF m 168 #[.val (.int cp), .val (.ref a), .val (.int at_), .val (.int (((at_ + (1 : Int32)) + (1 : Int32)) + (1 : Int32)))] [])) _
    refine XS.aloadN X64.here hx rfl (hb hby d1_168) rfl rfl ?_
    show Steps p.tables e below (T64.setTop (mkF m 169 #[.val (.int cp), .val (.ref a), .val (.int at_), .val (.int (((at_ + (1 : Int32)) + (1 : Int32)) + (1 : Int32)))] [(.ref a)])) _
    refine XS.iloadN X64.here hx rfl (hb hby d1_169) rfl ?_
    show Steps p.tables e below (T64.setTop (mkF m 170 #[.val (.int cp), .val (.ref a), .val (.int at_), .val (.int (((at_ + (1 : Int32)) + (1 : Int32)) + (1 : Int32)))] [(.int (((at_ + (1 : Int32)) + (1 : Int32)) + (1 : Int32))), (.ref a)])) _
    refine XS.iinc X64.here hx rfl (hb hby d1_170) rfl (l' := #[.val (.int cp), .val (.ref a), .val (.int at_), .val (.int ((((at_ + (1 : Int32)) + (1 : Int32)) + (1 : Int32)) + (1 : Int32)))]) rfl ?_
    show Steps p.tables e below (T64.setTop (mkF m 173 #[.val (.int cp), .val (.ref a), .val (.int at_), .val (.int ((((at_ + (1 : Int32)) + (1 : Int32)) + (1 : Int32)) + (1 : Int32)))] [(.int (((at_ + (1 : Int32)) + (1 : Int32)) + (1 : Int32))), (.ref a)])) _
    refine XS.sipush X64.here hx rfl (hb hby d1_173) ?_
    show Steps p.tables e below (T64.setTop (mkF m 176 #[.val (.int cp), .val (.ref a), .val (.int at_), .val (.int ((((at_ + (1 : Int32)) + (1 : Int32)) + (1 : Int32)) + (1 : Int32)))] [(.int (128 : Int32)), (.int (((at_ + (1 : Int32)) + (1 : Int32)) + (1 : Int32))), (.ref a)])) _
    refine XS.iloadN X64.here hx rfl (hb hby d1_176) rfl ?_
    show Steps p.tables e below (T64.setTop (mkF m 177 #[.val (.int cp), .val (.ref a), .val (.int at_), .val (.int ((((at_ + (1 : Int32)) + (1 : Int32)) + (1 : Int32)) + (1 : Int32)))] [(.int cp), (.int (128 : Int32)), (.int (((at_ + (1 : Int32)) + (1 : Int32)) + (1 : Int32))), (.ref a)])) _
    refine XS.bipush X64.here hx rfl (hb hby d1_177) ?_
    show Steps p.tables e below (T64.setTop (mkF m 179 #[.val (.int cp), .val (.ref a), .val (.int at_), .val (.int ((((at_ + (1 : Int32)) + (1 : Int32)) + (1 : Int32)) + (1 : Int32)))] [(.int (63 : Int32)), (.int cp), (.int (128 : Int32)), (.int (((at_ + (1 : Int32)) + (1 : Int32)) + (1 : Int32))), (.ref a)])) _
    refine XS.iand X64.here hx rfl (hb hby d1_179) rfl ?_
    show Steps p.tables e below (T64.setTop (mkF m 180 #[.val (.int cp), .val (.ref a), .val (.int at_), .val (.int ((((at_ + (1 : Int32)) + (1 : Int32)) + (1 : Int32)) + (1 : Int32)))] [(.int (cp &&& (63 : Int32))), (.int (128 : Int32)), (.int (((at_ + (1 : Int32)) + (1 : Int32)) + (1 : Int32))), (.ref a)])) _
    exact kt
  have hj66 : (((at_ + (1 : Int32)) + (1 : Int32)) + (1 : Int32)).toInt = (((k + 3) : Nat) : Int) := by
    have ar67 := rng32 at_
    have ar68 : (1 : Int32).toInt = 1 := by decide
    have ar69 := rng32 (at_ + (1 : Int32))
    first | have ar70 : (at_ + (1 : Int32)).toInt = at_.toInt + 1 := (by have qw := c_iadd at_ (1 : Int32); omega) | (have ar70 := c_iadd at_ (1 : Int32); skip)
    have ar71 := rng32 ((at_ + (1 : Int32)) + (1 : Int32))
    first | have ar72 : ((at_ + (1 : Int32)) + (1 : Int32)).toInt = (at_ + (1 : Int32)).toInt + 1 := (by have qw := c_iadd (at_ + (1 : Int32)) (1 : Int32); omega) | (have ar72 := c_iadd (at_ + (1 : Int32)) (1 : Int32); skip)
    have ar73 := rng32 (((at_ + (1 : Int32)) + (1 : Int32)) + (1 : Int32))
    first | have ar74 : (((at_ + (1 : Int32)) + (1 : Int32)) + (1 : Int32)).toInt = ((at_ + (1 : Int32)) + (1 : Int32)).toInt + 1 := (by have qw := c_iadd ((at_ + (1 : Int32)) + (1 : Int32)) (1 : Int32); omega) | (have ar74 := c_iadd ((at_ + (1 : Int32)) + (1 : Int32)) (1 : Int32); skip)
    omega
  obtain ⟨T75, h75, X75, e75, W75, V75, st75⟩ := own_stB X64 hx hZ e64 V64 (i := (k + 3)) hj66 (by omega) (g := (mkF m 182 #[.val (.int cp), .val (.ref a), .val (.int at_), .val (.int ((((at_ + (1 : Int32)) + (1 : Int32)) + (1 : Int32)) + (1 : Int32)))] [(.int (((128 : Int32) ||| (cp &&& (63 : Int32))).toInt8.toInt32)), (.int (((at_ + (1 : Int32)) + (1 : Int32)) + (1 : Int32))), (.ref a)])) rfl rfl (hb hby d1_182)
  have N75 := Fr.snoc X75 N64 g_a
  have k76 : ∀ tg_, Steps p.tables e below (T75.setTop (mkF m 184 #[.val (.int cp), .val (.ref a), .val (.int at_), .val (.int ((((at_ + (1 : Int32)) + (1 : Int32)) + (1 : Int32)) + (1 : Int32)))] [(.int ((((at_ + (1 : Int32)) + (1 : Int32)) + (1 : Int32)) + (1 : Int32)))])) tg_ → Steps p.tables e below (s₁.setTop (entryFrame m #[(.int cp), (.ref a), (.int at_)] 4)) tg_ := by
    intro tg_ kt
    refine k65 tg_ ?_
    refine XS.ior X64.here hx rfl (hb hby d1_180) rfl ?_
    show Steps p.tables e below (T64.setTop (mkF m 181 #[.val (.int cp), .val (.ref a), .val (.int at_), .val (.int ((((at_ + (1 : Int32)) + (1 : Int32)) + (1 : Int32)) + (1 : Int32)))] [(.int ((128 : Int32) ||| (cp &&& (63 : Int32)))), (.int (((at_ + (1 : Int32)) + (1 : Int32)) + (1 : Int32))), (.ref a)])) _
    refine XS.i2b X64.here hx rfl (hb hby d1_181) rfl ?_
    show Steps p.tables e below (T64.setTop (mkF m 182 #[.val (.int cp), .val (.ref a), .val (.int at_), .val (.int ((((at_ + (1 : Int32)) + (1 : Int32)) + (1 : Int32)) + (1 : Int32)))] [(.int (((128 : Int32) ||| (cp &&& (63 : Int32))).toInt8.toInt32)), (.int (((at_ + (1 : Int32)) + (1 : Int32)) + (1 : Int32))), (.ref a)])) _
    refine st75 _ ?_
    show Steps p.tables e below (T75.setTop (mkF m 183 #[.val (.int cp), .val (.ref a), .val (.int at_), .val (.int ((((at_ + (1 : Int32)) + (1 : Int32)) + (1 : Int32)) + (1 : Int32)))] [])) _
    refine XS.iloadN X75.here hx rfl (hb hby d1_183) rfl ?_
    show Steps p.tables e below (T75.setTop (mkF m 184 #[.val (.int cp), .val (.ref a), .val (.int at_), .val (.int ((((at_ + (1 : Int32)) + (1 : Int32)) + (1 : Int32)) + (1 : Int32)))] [(.int ((((at_ + (1 : Int32)) + (1 : Int32)) + (1 : Int32)) + (1 : Int32)))])) _
    exact kt
  have f77 := (((((Keep.refl h0 [a]).trans (Keep.of_wr W49) (allS (Or.inl (List.mem_of_getElem? (i := 0) rfl)) all0)).trans (Keep.of_wr W56) (allS (Or.inl (List.mem_of_getElem? (i := 0) rfl)) all0)).trans (Keep.of_wr W64) (allS (Or.inl (List.mem_of_getElem? (i := 0) rfl)) all0)).trans (Keep.of_wr W75) (allS (Or.inl (List.mem_of_getElem? (i := 0) rfl)) all0))
  obtain ⟨fs, hr, hrun, hended, hW, hsame⟩ := X75.leave (v := some (.int ((((at_ + (1 : Int32)) + (1 : Int32)) + (1 : Int32)) + (1 : Int32)))) (fun h => by rw [Bd.returns] at h; cases h)
  refine ⟨_, _, k76 _ (retI X75 hx Bd.returns (hb hby d1_184) hr), hrun, hended, _, _, rfl, ?_, ⟨_, rfl⟩, hW, hsame.mono (by decide) (by decide)⟩
  show Qenc4 Z cp a at_ k f h0 n0 _ T75.heap _
  rw [e75]
  exact ⟨rfl, N75, f77, V75⟩
theorem own_e1_0 (cp : Int32) (h1 : 0 ≤ cp.toInt) (h2 : cp.toInt < 128) : (((cp.toInt8.toInt32).toInt8.toInt32) &&& (255 : Int32)).toInt = cp.toInt := by
  have ar78 := rng32 cp
  have ar79 := rng32 (cp.toInt8.toInt32)
  first | have ar80 : (cp.toInt8.toInt32).toInt = cp.toInt := (by have qw := c_i2b cp; omega) | (have ar80 := c_i2b cp; skip)
  have ar81 := rng32 ((cp.toInt8.toInt32).toInt8.toInt32)
  first | have ar82 : ((cp.toInt8.toInt32).toInt8.toInt32).toInt = (cp.toInt8.toInt32).toInt := (by have qw := c_i2b (cp.toInt8.toInt32); omega) | (have ar82 := c_i2b (cp.toInt8.toInt32); skip)
  have ar83 : (255 : Int32).toInt = 255 := by decide
  have ar84 := c_mask ((cp.toInt8.toInt32).toInt8.toInt32) (255 : Int32) 8 (by decide) (by decide)
  simp only [show (2 ^ 8 : Nat) = 256 from by decide, Int.cast_ofNat_Int] at ar84
  have ar85 := rng32 (((cp.toInt8.toInt32).toInt8.toInt32) &&& (255 : Int32))
  omega
theorem own_e2_0 (cp : Int32) (h1 : 128 ≤ cp.toInt) (h2 : cp.toInt < 2048) : (((((192 : Int32) ||| ((cp.toUInt32 >>> ((6 : Int32) &&& 31).toUInt32).toInt32)).toInt8.toInt32).toInt8.toInt32) &&& (255 : Int32)).toInt = 192 + cp.toInt / 64 := by
  have ar86 : (192 : Int32).toInt = 192 := by decide
  have ar87 := rng32 cp
  have ar88 := c_iushr cp (6 : Int32) 6 (by decide) (by decide)
  simp only [show (2 ^ 6 : Nat) = 64 from by decide, Int.cast_ofNat_Int] at ar88
  have ar89 := rng32 ((cp.toUInt32 >>> ((6 : Int32) &&& 31).toUInt32).toInt32)
  have ar90 := rng32 ((192 : Int32) ||| ((cp.toUInt32 >>> ((6 : Int32) &&& 31).toUInt32).toInt32))
  first | have ar91 : ((192 : Int32) ||| ((cp.toUInt32 >>> ((6 : Int32) &&& 31).toUInt32).toInt32)).toInt = (192 : Int32).toInt + ((cp.toUInt32 >>> ((6 : Int32) &&& 31).toUInt32).toInt32).toInt := (by have qw := c_or (192 : Int32) ((cp.toUInt32 >>> ((6 : Int32) &&& 31).toUInt32).toInt32) 6 (by decide) 64 (by decide) (by omega) (by omega) (by omega); omega) | (have ar91 := c_or (192 : Int32) ((cp.toUInt32 >>> ((6 : Int32) &&& 31).toUInt32).toInt32) 6 (by decide) 64 (by decide) (by omega) (by omega) (by omega); skip)
  have ar92 := rng32 (((192 : Int32) ||| ((cp.toUInt32 >>> ((6 : Int32) &&& 31).toUInt32).toInt32)).toInt8.toInt32)
  first | have ar93 : (((192 : Int32) ||| ((cp.toUInt32 >>> ((6 : Int32) &&& 31).toUInt32).toInt32)).toInt8.toInt32).toInt = ((192 : Int32) ||| ((cp.toUInt32 >>> ((6 : Int32) &&& 31).toUInt32).toInt32)).toInt := (by have qw := c_i2b ((192 : Int32) ||| ((cp.toUInt32 >>> ((6 : Int32) &&& 31).toUInt32).toInt32)); omega) | (have ar93 := c_i2b ((192 : Int32) ||| ((cp.toUInt32 >>> ((6 : Int32) &&& 31).toUInt32).toInt32)); skip)
  have ar94 := rng32 ((((192 : Int32) ||| ((cp.toUInt32 >>> ((6 : Int32) &&& 31).toUInt32).toInt32)).toInt8.toInt32).toInt8.toInt32)
  first | have ar95 : ((((192 : Int32) ||| ((cp.toUInt32 >>> ((6 : Int32) &&& 31).toUInt32).toInt32)).toInt8.toInt32).toInt8.toInt32).toInt = (((192 : Int32) ||| ((cp.toUInt32 >>> ((6 : Int32) &&& 31).toUInt32).toInt32)).toInt8.toInt32).toInt := (by have qw := c_i2b (((192 : Int32) ||| ((cp.toUInt32 >>> ((6 : Int32) &&& 31).toUInt32).toInt32)).toInt8.toInt32); omega) | (have ar95 := c_i2b (((192 : Int32) ||| ((cp.toUInt32 >>> ((6 : Int32) &&& 31).toUInt32).toInt32)).toInt8.toInt32); skip)
  have ar96 : (255 : Int32).toInt = 255 := by decide
  have ar97 := c_mask ((((192 : Int32) ||| ((cp.toUInt32 >>> ((6 : Int32) &&& 31).toUInt32).toInt32)).toInt8.toInt32).toInt8.toInt32) (255 : Int32) 8 (by decide) (by decide)
  simp only [show (2 ^ 8 : Nat) = 256 from by decide, Int.cast_ofNat_Int] at ar97
  have ar98 := rng32 (((((192 : Int32) ||| ((cp.toUInt32 >>> ((6 : Int32) &&& 31).toUInt32).toInt32)).toInt8.toInt32).toInt8.toInt32) &&& (255 : Int32))
  omega
theorem own_e2_1 (cp : Int32) (h1 : 128 ≤ cp.toInt) (h2 : cp.toInt < 2048) : (((((128 : Int32) ||| (cp &&& (63 : Int32))).toInt8.toInt32).toInt8.toInt32) &&& (255 : Int32)).toInt = 128 + cp.toInt % 64 := by
  have ar99 : (128 : Int32).toInt = 128 := by decide
  have ar100 := rng32 cp
  have ar101 : (63 : Int32).toInt = 63 := by decide
  have ar102 := c_mask cp (63 : Int32) 6 (by decide) (by decide)
  simp only [show (2 ^ 6 : Nat) = 64 from by decide, Int.cast_ofNat_Int] at ar102
  have ar103 := rng32 (cp &&& (63 : Int32))
  have ar104 := rng32 ((128 : Int32) ||| (cp &&& (63 : Int32)))
  first | have ar105 : ((128 : Int32) ||| (cp &&& (63 : Int32))).toInt = (128 : Int32).toInt + (cp &&& (63 : Int32)).toInt := (by have qw := c_or (128 : Int32) (cp &&& (63 : Int32)) 7 (by decide) 128 (by decide) (by omega) (by omega) (by omega); omega) | (have ar105 := c_or (128 : Int32) (cp &&& (63 : Int32)) 7 (by decide) 128 (by decide) (by omega) (by omega) (by omega); skip)
  have ar106 := rng32 (((128 : Int32) ||| (cp &&& (63 : Int32))).toInt8.toInt32)
  first | have ar107 : (((128 : Int32) ||| (cp &&& (63 : Int32))).toInt8.toInt32).toInt = ((128 : Int32) ||| (cp &&& (63 : Int32))).toInt := (by have qw := c_i2b ((128 : Int32) ||| (cp &&& (63 : Int32))); omega) | (have ar107 := c_i2b ((128 : Int32) ||| (cp &&& (63 : Int32))); skip)
  have ar108 := rng32 ((((128 : Int32) ||| (cp &&& (63 : Int32))).toInt8.toInt32).toInt8.toInt32)
  first | have ar109 : ((((128 : Int32) ||| (cp &&& (63 : Int32))).toInt8.toInt32).toInt8.toInt32).toInt = (((128 : Int32) ||| (cp &&& (63 : Int32))).toInt8.toInt32).toInt := (by have qw := c_i2b (((128 : Int32) ||| (cp &&& (63 : Int32))).toInt8.toInt32); omega) | (have ar109 := c_i2b (((128 : Int32) ||| (cp &&& (63 : Int32))).toInt8.toInt32); skip)
  have ar110 : (255 : Int32).toInt = 255 := by decide
  have ar111 := c_mask ((((128 : Int32) ||| (cp &&& (63 : Int32))).toInt8.toInt32).toInt8.toInt32) (255 : Int32) 8 (by decide) (by decide)
  simp only [show (2 ^ 8 : Nat) = 256 from by decide, Int.cast_ofNat_Int] at ar111
  have ar112 := rng32 (((((128 : Int32) ||| (cp &&& (63 : Int32))).toInt8.toInt32).toInt8.toInt32) &&& (255 : Int32))
  omega
theorem own_e3_0 (cp : Int32) (h1 : 2048 ≤ cp.toInt) (h2 : cp.toInt < 65536) : (((((224 : Int32) ||| ((cp.toUInt32 >>> ((12 : Int32) &&& 31).toUInt32).toInt32)).toInt8.toInt32).toInt8.toInt32) &&& (255 : Int32)).toInt = 224 + cp.toInt / 4096 := by
  have ar113 : (224 : Int32).toInt = 224 := by decide
  have ar114 := rng32 cp
  have ar115 := c_iushr cp (12 : Int32) 12 (by decide) (by decide)
  simp only [show (2 ^ 12 : Nat) = 4096 from by decide, Int.cast_ofNat_Int] at ar115
  have ar116 := rng32 ((cp.toUInt32 >>> ((12 : Int32) &&& 31).toUInt32).toInt32)
  have ar117 := rng32 ((224 : Int32) ||| ((cp.toUInt32 >>> ((12 : Int32) &&& 31).toUInt32).toInt32))
  first | have ar118 : ((224 : Int32) ||| ((cp.toUInt32 >>> ((12 : Int32) &&& 31).toUInt32).toInt32)).toInt = (224 : Int32).toInt + ((cp.toUInt32 >>> ((12 : Int32) &&& 31).toUInt32).toInt32).toInt := (by have qw := c_or (224 : Int32) ((cp.toUInt32 >>> ((12 : Int32) &&& 31).toUInt32).toInt32) 5 (by decide) 32 (by decide) (by omega) (by omega) (by omega); omega) | (have ar118 := c_or (224 : Int32) ((cp.toUInt32 >>> ((12 : Int32) &&& 31).toUInt32).toInt32) 5 (by decide) 32 (by decide) (by omega) (by omega) (by omega); skip)
  have ar119 := rng32 (((224 : Int32) ||| ((cp.toUInt32 >>> ((12 : Int32) &&& 31).toUInt32).toInt32)).toInt8.toInt32)
  first | have ar120 : (((224 : Int32) ||| ((cp.toUInt32 >>> ((12 : Int32) &&& 31).toUInt32).toInt32)).toInt8.toInt32).toInt = ((224 : Int32) ||| ((cp.toUInt32 >>> ((12 : Int32) &&& 31).toUInt32).toInt32)).toInt := (by have qw := c_i2b ((224 : Int32) ||| ((cp.toUInt32 >>> ((12 : Int32) &&& 31).toUInt32).toInt32)); omega) | (have ar120 := c_i2b ((224 : Int32) ||| ((cp.toUInt32 >>> ((12 : Int32) &&& 31).toUInt32).toInt32)); skip)
  have ar121 := rng32 ((((224 : Int32) ||| ((cp.toUInt32 >>> ((12 : Int32) &&& 31).toUInt32).toInt32)).toInt8.toInt32).toInt8.toInt32)
  first | have ar122 : ((((224 : Int32) ||| ((cp.toUInt32 >>> ((12 : Int32) &&& 31).toUInt32).toInt32)).toInt8.toInt32).toInt8.toInt32).toInt = (((224 : Int32) ||| ((cp.toUInt32 >>> ((12 : Int32) &&& 31).toUInt32).toInt32)).toInt8.toInt32).toInt := (by have qw := c_i2b (((224 : Int32) ||| ((cp.toUInt32 >>> ((12 : Int32) &&& 31).toUInt32).toInt32)).toInt8.toInt32); omega) | (have ar122 := c_i2b (((224 : Int32) ||| ((cp.toUInt32 >>> ((12 : Int32) &&& 31).toUInt32).toInt32)).toInt8.toInt32); skip)
  have ar123 : (255 : Int32).toInt = 255 := by decide
  have ar124 := c_mask ((((224 : Int32) ||| ((cp.toUInt32 >>> ((12 : Int32) &&& 31).toUInt32).toInt32)).toInt8.toInt32).toInt8.toInt32) (255 : Int32) 8 (by decide) (by decide)
  simp only [show (2 ^ 8 : Nat) = 256 from by decide, Int.cast_ofNat_Int] at ar124
  have ar125 := rng32 (((((224 : Int32) ||| ((cp.toUInt32 >>> ((12 : Int32) &&& 31).toUInt32).toInt32)).toInt8.toInt32).toInt8.toInt32) &&& (255 : Int32))
  omega
theorem own_e3_1 (cp : Int32) (h1 : 2048 ≤ cp.toInt) (h2 : cp.toInt < 65536) : (((((128 : Int32) ||| (((cp.toUInt32 >>> ((6 : Int32) &&& 31).toUInt32).toInt32) &&& (63 : Int32))).toInt8.toInt32).toInt8.toInt32) &&& (255 : Int32)).toInt = 128 + cp.toInt / 64 % 64 := by
  have ar126 : (128 : Int32).toInt = 128 := by decide
  have ar127 := rng32 cp
  have ar128 := c_iushr cp (6 : Int32) 6 (by decide) (by decide)
  simp only [show (2 ^ 6 : Nat) = 64 from by decide, Int.cast_ofNat_Int] at ar128
  have ar129 := rng32 ((cp.toUInt32 >>> ((6 : Int32) &&& 31).toUInt32).toInt32)
  have ar130 : (63 : Int32).toInt = 63 := by decide
  have ar131 := c_mask ((cp.toUInt32 >>> ((6 : Int32) &&& 31).toUInt32).toInt32) (63 : Int32) 6 (by decide) (by decide)
  simp only [show (2 ^ 6 : Nat) = 64 from by decide, Int.cast_ofNat_Int] at ar131
  have ar132 := rng32 (((cp.toUInt32 >>> ((6 : Int32) &&& 31).toUInt32).toInt32) &&& (63 : Int32))
  have ar133 := rng32 ((128 : Int32) ||| (((cp.toUInt32 >>> ((6 : Int32) &&& 31).toUInt32).toInt32) &&& (63 : Int32)))
  first | have ar134 : ((128 : Int32) ||| (((cp.toUInt32 >>> ((6 : Int32) &&& 31).toUInt32).toInt32) &&& (63 : Int32))).toInt = (128 : Int32).toInt + (((cp.toUInt32 >>> ((6 : Int32) &&& 31).toUInt32).toInt32) &&& (63 : Int32)).toInt := (by have qw := c_or (128 : Int32) (((cp.toUInt32 >>> ((6 : Int32) &&& 31).toUInt32).toInt32) &&& (63 : Int32)) 7 (by decide) 128 (by decide) (by omega) (by omega) (by omega); omega) | (have ar134 := c_or (128 : Int32) (((cp.toUInt32 >>> ((6 : Int32) &&& 31).toUInt32).toInt32) &&& (63 : Int32)) 7 (by decide) 128 (by decide) (by omega) (by omega) (by omega); skip)
  have ar135 := rng32 (((128 : Int32) ||| (((cp.toUInt32 >>> ((6 : Int32) &&& 31).toUInt32).toInt32) &&& (63 : Int32))).toInt8.toInt32)
  first | have ar136 : (((128 : Int32) ||| (((cp.toUInt32 >>> ((6 : Int32) &&& 31).toUInt32).toInt32) &&& (63 : Int32))).toInt8.toInt32).toInt = ((128 : Int32) ||| (((cp.toUInt32 >>> ((6 : Int32) &&& 31).toUInt32).toInt32) &&& (63 : Int32))).toInt := (by have qw := c_i2b ((128 : Int32) ||| (((cp.toUInt32 >>> ((6 : Int32) &&& 31).toUInt32).toInt32) &&& (63 : Int32))); omega) | (have ar136 := c_i2b ((128 : Int32) ||| (((cp.toUInt32 >>> ((6 : Int32) &&& 31).toUInt32).toInt32) &&& (63 : Int32))); skip)
  have ar137 := rng32 ((((128 : Int32) ||| (((cp.toUInt32 >>> ((6 : Int32) &&& 31).toUInt32).toInt32) &&& (63 : Int32))).toInt8.toInt32).toInt8.toInt32)
  first | have ar138 : ((((128 : Int32) ||| (((cp.toUInt32 >>> ((6 : Int32) &&& 31).toUInt32).toInt32) &&& (63 : Int32))).toInt8.toInt32).toInt8.toInt32).toInt = (((128 : Int32) ||| (((cp.toUInt32 >>> ((6 : Int32) &&& 31).toUInt32).toInt32) &&& (63 : Int32))).toInt8.toInt32).toInt := (by have qw := c_i2b (((128 : Int32) ||| (((cp.toUInt32 >>> ((6 : Int32) &&& 31).toUInt32).toInt32) &&& (63 : Int32))).toInt8.toInt32); omega) | (have ar138 := c_i2b (((128 : Int32) ||| (((cp.toUInt32 >>> ((6 : Int32) &&& 31).toUInt32).toInt32) &&& (63 : Int32))).toInt8.toInt32); skip)
  have ar139 : (255 : Int32).toInt = 255 := by decide
  have ar140 := c_mask ((((128 : Int32) ||| (((cp.toUInt32 >>> ((6 : Int32) &&& 31).toUInt32).toInt32) &&& (63 : Int32))).toInt8.toInt32).toInt8.toInt32) (255 : Int32) 8 (by decide) (by decide)
  simp only [show (2 ^ 8 : Nat) = 256 from by decide, Int.cast_ofNat_Int] at ar140
  have ar141 := rng32 (((((128 : Int32) ||| (((cp.toUInt32 >>> ((6 : Int32) &&& 31).toUInt32).toInt32) &&& (63 : Int32))).toInt8.toInt32).toInt8.toInt32) &&& (255 : Int32))
  omega
theorem own_e3_2 (cp : Int32) (h1 : 2048 ≤ cp.toInt) (h2 : cp.toInt < 65536) : (((((128 : Int32) ||| (cp &&& (63 : Int32))).toInt8.toInt32).toInt8.toInt32) &&& (255 : Int32)).toInt = 128 + cp.toInt % 64 := by
  have ar142 : (128 : Int32).toInt = 128 := by decide
  have ar143 := rng32 cp
  have ar144 : (63 : Int32).toInt = 63 := by decide
  have ar145 := c_mask cp (63 : Int32) 6 (by decide) (by decide)
  simp only [show (2 ^ 6 : Nat) = 64 from by decide, Int.cast_ofNat_Int] at ar145
  have ar146 := rng32 (cp &&& (63 : Int32))
  have ar147 := rng32 ((128 : Int32) ||| (cp &&& (63 : Int32)))
  first | have ar148 : ((128 : Int32) ||| (cp &&& (63 : Int32))).toInt = (128 : Int32).toInt + (cp &&& (63 : Int32)).toInt := (by have qw := c_or (128 : Int32) (cp &&& (63 : Int32)) 7 (by decide) 128 (by decide) (by omega) (by omega) (by omega); omega) | (have ar148 := c_or (128 : Int32) (cp &&& (63 : Int32)) 7 (by decide) 128 (by decide) (by omega) (by omega) (by omega); skip)
  have ar149 := rng32 (((128 : Int32) ||| (cp &&& (63 : Int32))).toInt8.toInt32)
  first | have ar150 : (((128 : Int32) ||| (cp &&& (63 : Int32))).toInt8.toInt32).toInt = ((128 : Int32) ||| (cp &&& (63 : Int32))).toInt := (by have qw := c_i2b ((128 : Int32) ||| (cp &&& (63 : Int32))); omega) | (have ar150 := c_i2b ((128 : Int32) ||| (cp &&& (63 : Int32))); skip)
  have ar151 := rng32 ((((128 : Int32) ||| (cp &&& (63 : Int32))).toInt8.toInt32).toInt8.toInt32)
  first | have ar152 : ((((128 : Int32) ||| (cp &&& (63 : Int32))).toInt8.toInt32).toInt8.toInt32).toInt = (((128 : Int32) ||| (cp &&& (63 : Int32))).toInt8.toInt32).toInt := (by have qw := c_i2b (((128 : Int32) ||| (cp &&& (63 : Int32))).toInt8.toInt32); omega) | (have ar152 := c_i2b (((128 : Int32) ||| (cp &&& (63 : Int32))).toInt8.toInt32); skip)
  have ar153 : (255 : Int32).toInt = 255 := by decide
  have ar154 := c_mask ((((128 : Int32) ||| (cp &&& (63 : Int32))).toInt8.toInt32).toInt8.toInt32) (255 : Int32) 8 (by decide) (by decide)
  simp only [show (2 ^ 8 : Nat) = 256 from by decide, Int.cast_ofNat_Int] at ar154
  have ar155 := rng32 (((((128 : Int32) ||| (cp &&& (63 : Int32))).toInt8.toInt32).toInt8.toInt32) &&& (255 : Int32))
  omega
theorem own_e4_0 (cp : Int32) (h1 : 65536 ≤ cp.toInt) (h2 : cp.toInt < 1114112) : (((((240 : Int32) ||| ((cp.toUInt32 >>> ((18 : Int32) &&& 31).toUInt32).toInt32)).toInt8.toInt32).toInt8.toInt32) &&& (255 : Int32)).toInt = 240 + cp.toInt / 262144 := by
  have ar156 : (240 : Int32).toInt = 240 := by decide
  have ar157 := rng32 cp
  have ar158 := c_iushr cp (18 : Int32) 18 (by decide) (by decide)
  simp only [show (2 ^ 18 : Nat) = 262144 from by decide, Int.cast_ofNat_Int] at ar158
  have ar159 := rng32 ((cp.toUInt32 >>> ((18 : Int32) &&& 31).toUInt32).toInt32)
  have ar160 := rng32 ((240 : Int32) ||| ((cp.toUInt32 >>> ((18 : Int32) &&& 31).toUInt32).toInt32))
  first | have ar161 : ((240 : Int32) ||| ((cp.toUInt32 >>> ((18 : Int32) &&& 31).toUInt32).toInt32)).toInt = (240 : Int32).toInt + ((cp.toUInt32 >>> ((18 : Int32) &&& 31).toUInt32).toInt32).toInt := (by have qw := c_or (240 : Int32) ((cp.toUInt32 >>> ((18 : Int32) &&& 31).toUInt32).toInt32) 4 (by decide) 16 (by decide) (by omega) (by omega) (by omega); omega) | (have ar161 := c_or (240 : Int32) ((cp.toUInt32 >>> ((18 : Int32) &&& 31).toUInt32).toInt32) 4 (by decide) 16 (by decide) (by omega) (by omega) (by omega); skip)
  have ar162 := rng32 (((240 : Int32) ||| ((cp.toUInt32 >>> ((18 : Int32) &&& 31).toUInt32).toInt32)).toInt8.toInt32)
  first | have ar163 : (((240 : Int32) ||| ((cp.toUInt32 >>> ((18 : Int32) &&& 31).toUInt32).toInt32)).toInt8.toInt32).toInt = ((240 : Int32) ||| ((cp.toUInt32 >>> ((18 : Int32) &&& 31).toUInt32).toInt32)).toInt := (by have qw := c_i2b ((240 : Int32) ||| ((cp.toUInt32 >>> ((18 : Int32) &&& 31).toUInt32).toInt32)); omega) | (have ar163 := c_i2b ((240 : Int32) ||| ((cp.toUInt32 >>> ((18 : Int32) &&& 31).toUInt32).toInt32)); skip)
  have ar164 := rng32 ((((240 : Int32) ||| ((cp.toUInt32 >>> ((18 : Int32) &&& 31).toUInt32).toInt32)).toInt8.toInt32).toInt8.toInt32)
  first | have ar165 : ((((240 : Int32) ||| ((cp.toUInt32 >>> ((18 : Int32) &&& 31).toUInt32).toInt32)).toInt8.toInt32).toInt8.toInt32).toInt = (((240 : Int32) ||| ((cp.toUInt32 >>> ((18 : Int32) &&& 31).toUInt32).toInt32)).toInt8.toInt32).toInt := (by have qw := c_i2b (((240 : Int32) ||| ((cp.toUInt32 >>> ((18 : Int32) &&& 31).toUInt32).toInt32)).toInt8.toInt32); omega) | (have ar165 := c_i2b (((240 : Int32) ||| ((cp.toUInt32 >>> ((18 : Int32) &&& 31).toUInt32).toInt32)).toInt8.toInt32); skip)
  have ar166 : (255 : Int32).toInt = 255 := by decide
  have ar167 := c_mask ((((240 : Int32) ||| ((cp.toUInt32 >>> ((18 : Int32) &&& 31).toUInt32).toInt32)).toInt8.toInt32).toInt8.toInt32) (255 : Int32) 8 (by decide) (by decide)
  simp only [show (2 ^ 8 : Nat) = 256 from by decide, Int.cast_ofNat_Int] at ar167
  have ar168 := rng32 (((((240 : Int32) ||| ((cp.toUInt32 >>> ((18 : Int32) &&& 31).toUInt32).toInt32)).toInt8.toInt32).toInt8.toInt32) &&& (255 : Int32))
  omega
theorem own_e4_1 (cp : Int32) (h1 : 65536 ≤ cp.toInt) (h2 : cp.toInt < 1114112) : (((((128 : Int32) ||| (((cp.toUInt32 >>> ((12 : Int32) &&& 31).toUInt32).toInt32) &&& (63 : Int32))).toInt8.toInt32).toInt8.toInt32) &&& (255 : Int32)).toInt = 128 + cp.toInt / 4096 % 64 := by
  have ar169 : (128 : Int32).toInt = 128 := by decide
  have ar170 := rng32 cp
  have ar171 := c_iushr cp (12 : Int32) 12 (by decide) (by decide)
  simp only [show (2 ^ 12 : Nat) = 4096 from by decide, Int.cast_ofNat_Int] at ar171
  have ar172 := rng32 ((cp.toUInt32 >>> ((12 : Int32) &&& 31).toUInt32).toInt32)
  have ar173 : (63 : Int32).toInt = 63 := by decide
  have ar174 := c_mask ((cp.toUInt32 >>> ((12 : Int32) &&& 31).toUInt32).toInt32) (63 : Int32) 6 (by decide) (by decide)
  simp only [show (2 ^ 6 : Nat) = 64 from by decide, Int.cast_ofNat_Int] at ar174
  have ar175 := rng32 (((cp.toUInt32 >>> ((12 : Int32) &&& 31).toUInt32).toInt32) &&& (63 : Int32))
  have ar176 := rng32 ((128 : Int32) ||| (((cp.toUInt32 >>> ((12 : Int32) &&& 31).toUInt32).toInt32) &&& (63 : Int32)))
  first | have ar177 : ((128 : Int32) ||| (((cp.toUInt32 >>> ((12 : Int32) &&& 31).toUInt32).toInt32) &&& (63 : Int32))).toInt = (128 : Int32).toInt + (((cp.toUInt32 >>> ((12 : Int32) &&& 31).toUInt32).toInt32) &&& (63 : Int32)).toInt := (by have qw := c_or (128 : Int32) (((cp.toUInt32 >>> ((12 : Int32) &&& 31).toUInt32).toInt32) &&& (63 : Int32)) 7 (by decide) 128 (by decide) (by omega) (by omega) (by omega); omega) | (have ar177 := c_or (128 : Int32) (((cp.toUInt32 >>> ((12 : Int32) &&& 31).toUInt32).toInt32) &&& (63 : Int32)) 7 (by decide) 128 (by decide) (by omega) (by omega) (by omega); skip)
  have ar178 := rng32 (((128 : Int32) ||| (((cp.toUInt32 >>> ((12 : Int32) &&& 31).toUInt32).toInt32) &&& (63 : Int32))).toInt8.toInt32)
  first | have ar179 : (((128 : Int32) ||| (((cp.toUInt32 >>> ((12 : Int32) &&& 31).toUInt32).toInt32) &&& (63 : Int32))).toInt8.toInt32).toInt = ((128 : Int32) ||| (((cp.toUInt32 >>> ((12 : Int32) &&& 31).toUInt32).toInt32) &&& (63 : Int32))).toInt := (by have qw := c_i2b ((128 : Int32) ||| (((cp.toUInt32 >>> ((12 : Int32) &&& 31).toUInt32).toInt32) &&& (63 : Int32))); omega) | (have ar179 := c_i2b ((128 : Int32) ||| (((cp.toUInt32 >>> ((12 : Int32) &&& 31).toUInt32).toInt32) &&& (63 : Int32))); skip)
  have ar180 := rng32 ((((128 : Int32) ||| (((cp.toUInt32 >>> ((12 : Int32) &&& 31).toUInt32).toInt32) &&& (63 : Int32))).toInt8.toInt32).toInt8.toInt32)
  first | have ar181 : ((((128 : Int32) ||| (((cp.toUInt32 >>> ((12 : Int32) &&& 31).toUInt32).toInt32) &&& (63 : Int32))).toInt8.toInt32).toInt8.toInt32).toInt = (((128 : Int32) ||| (((cp.toUInt32 >>> ((12 : Int32) &&& 31).toUInt32).toInt32) &&& (63 : Int32))).toInt8.toInt32).toInt := (by have qw := c_i2b (((128 : Int32) ||| (((cp.toUInt32 >>> ((12 : Int32) &&& 31).toUInt32).toInt32) &&& (63 : Int32))).toInt8.toInt32); omega) | (have ar181 := c_i2b (((128 : Int32) ||| (((cp.toUInt32 >>> ((12 : Int32) &&& 31).toUInt32).toInt32) &&& (63 : Int32))).toInt8.toInt32); skip)
  have ar182 : (255 : Int32).toInt = 255 := by decide
  have ar183 := c_mask ((((128 : Int32) ||| (((cp.toUInt32 >>> ((12 : Int32) &&& 31).toUInt32).toInt32) &&& (63 : Int32))).toInt8.toInt32).toInt8.toInt32) (255 : Int32) 8 (by decide) (by decide)
  simp only [show (2 ^ 8 : Nat) = 256 from by decide, Int.cast_ofNat_Int] at ar183
  have ar184 := rng32 (((((128 : Int32) ||| (((cp.toUInt32 >>> ((12 : Int32) &&& 31).toUInt32).toInt32) &&& (63 : Int32))).toInt8.toInt32).toInt8.toInt32) &&& (255 : Int32))
  omega
theorem own_e4_2 (cp : Int32) (h1 : 65536 ≤ cp.toInt) (h2 : cp.toInt < 1114112) : (((((128 : Int32) ||| (((cp.toUInt32 >>> ((6 : Int32) &&& 31).toUInt32).toInt32) &&& (63 : Int32))).toInt8.toInt32).toInt8.toInt32) &&& (255 : Int32)).toInt = 128 + cp.toInt / 64 % 64 := by
  have ar185 : (128 : Int32).toInt = 128 := by decide
  have ar186 := rng32 cp
  have ar187 := c_iushr cp (6 : Int32) 6 (by decide) (by decide)
  simp only [show (2 ^ 6 : Nat) = 64 from by decide, Int.cast_ofNat_Int] at ar187
  have ar188 := rng32 ((cp.toUInt32 >>> ((6 : Int32) &&& 31).toUInt32).toInt32)
  have ar189 : (63 : Int32).toInt = 63 := by decide
  have ar190 := c_mask ((cp.toUInt32 >>> ((6 : Int32) &&& 31).toUInt32).toInt32) (63 : Int32) 6 (by decide) (by decide)
  simp only [show (2 ^ 6 : Nat) = 64 from by decide, Int.cast_ofNat_Int] at ar190
  have ar191 := rng32 (((cp.toUInt32 >>> ((6 : Int32) &&& 31).toUInt32).toInt32) &&& (63 : Int32))
  have ar192 := rng32 ((128 : Int32) ||| (((cp.toUInt32 >>> ((6 : Int32) &&& 31).toUInt32).toInt32) &&& (63 : Int32)))
  first | have ar193 : ((128 : Int32) ||| (((cp.toUInt32 >>> ((6 : Int32) &&& 31).toUInt32).toInt32) &&& (63 : Int32))).toInt = (128 : Int32).toInt + (((cp.toUInt32 >>> ((6 : Int32) &&& 31).toUInt32).toInt32) &&& (63 : Int32)).toInt := (by have qw := c_or (128 : Int32) (((cp.toUInt32 >>> ((6 : Int32) &&& 31).toUInt32).toInt32) &&& (63 : Int32)) 7 (by decide) 128 (by decide) (by omega) (by omega) (by omega); omega) | (have ar193 := c_or (128 : Int32) (((cp.toUInt32 >>> ((6 : Int32) &&& 31).toUInt32).toInt32) &&& (63 : Int32)) 7 (by decide) 128 (by decide) (by omega) (by omega) (by omega); skip)
  have ar194 := rng32 (((128 : Int32) ||| (((cp.toUInt32 >>> ((6 : Int32) &&& 31).toUInt32).toInt32) &&& (63 : Int32))).toInt8.toInt32)
  first | have ar195 : (((128 : Int32) ||| (((cp.toUInt32 >>> ((6 : Int32) &&& 31).toUInt32).toInt32) &&& (63 : Int32))).toInt8.toInt32).toInt = ((128 : Int32) ||| (((cp.toUInt32 >>> ((6 : Int32) &&& 31).toUInt32).toInt32) &&& (63 : Int32))).toInt := (by have qw := c_i2b ((128 : Int32) ||| (((cp.toUInt32 >>> ((6 : Int32) &&& 31).toUInt32).toInt32) &&& (63 : Int32))); omega) | (have ar195 := c_i2b ((128 : Int32) ||| (((cp.toUInt32 >>> ((6 : Int32) &&& 31).toUInt32).toInt32) &&& (63 : Int32))); skip)
  have ar196 := rng32 ((((128 : Int32) ||| (((cp.toUInt32 >>> ((6 : Int32) &&& 31).toUInt32).toInt32) &&& (63 : Int32))).toInt8.toInt32).toInt8.toInt32)
  first | have ar197 : ((((128 : Int32) ||| (((cp.toUInt32 >>> ((6 : Int32) &&& 31).toUInt32).toInt32) &&& (63 : Int32))).toInt8.toInt32).toInt8.toInt32).toInt = (((128 : Int32) ||| (((cp.toUInt32 >>> ((6 : Int32) &&& 31).toUInt32).toInt32) &&& (63 : Int32))).toInt8.toInt32).toInt := (by have qw := c_i2b (((128 : Int32) ||| (((cp.toUInt32 >>> ((6 : Int32) &&& 31).toUInt32).toInt32) &&& (63 : Int32))).toInt8.toInt32); omega) | (have ar197 := c_i2b (((128 : Int32) ||| (((cp.toUInt32 >>> ((6 : Int32) &&& 31).toUInt32).toInt32) &&& (63 : Int32))).toInt8.toInt32); skip)
  have ar198 : (255 : Int32).toInt = 255 := by decide
  have ar199 := c_mask ((((128 : Int32) ||| (((cp.toUInt32 >>> ((6 : Int32) &&& 31).toUInt32).toInt32) &&& (63 : Int32))).toInt8.toInt32).toInt8.toInt32) (255 : Int32) 8 (by decide) (by decide)
  simp only [show (2 ^ 8 : Nat) = 256 from by decide, Int.cast_ofNat_Int] at ar199
  have ar200 := rng32 (((((128 : Int32) ||| (((cp.toUInt32 >>> ((6 : Int32) &&& 31).toUInt32).toInt32) &&& (63 : Int32))).toInt8.toInt32).toInt8.toInt32) &&& (255 : Int32))
  omega
theorem own_e4_3 (cp : Int32) (h1 : 65536 ≤ cp.toInt) (h2 : cp.toInt < 1114112) : (((((128 : Int32) ||| (cp &&& (63 : Int32))).toInt8.toInt32).toInt8.toInt32) &&& (255 : Int32)).toInt = 128 + cp.toInt % 64 := by
  have ar201 : (128 : Int32).toInt = 128 := by decide
  have ar202 := rng32 cp
  have ar203 : (63 : Int32).toInt = 63 := by decide
  have ar204 := c_mask cp (63 : Int32) 6 (by decide) (by decide)
  simp only [show (2 ^ 6 : Nat) = 64 from by decide, Int.cast_ofNat_Int] at ar204
  have ar205 := rng32 (cp &&& (63 : Int32))
  have ar206 := rng32 ((128 : Int32) ||| (cp &&& (63 : Int32)))
  first | have ar207 : ((128 : Int32) ||| (cp &&& (63 : Int32))).toInt = (128 : Int32).toInt + (cp &&& (63 : Int32)).toInt := (by have qw := c_or (128 : Int32) (cp &&& (63 : Int32)) 7 (by decide) 128 (by decide) (by omega) (by omega) (by omega); omega) | (have ar207 := c_or (128 : Int32) (cp &&& (63 : Int32)) 7 (by decide) 128 (by decide) (by omega) (by omega) (by omega); skip)
  have ar208 := rng32 (((128 : Int32) ||| (cp &&& (63 : Int32))).toInt8.toInt32)
  first | have ar209 : (((128 : Int32) ||| (cp &&& (63 : Int32))).toInt8.toInt32).toInt = ((128 : Int32) ||| (cp &&& (63 : Int32))).toInt := (by have qw := c_i2b ((128 : Int32) ||| (cp &&& (63 : Int32))); omega) | (have ar209 := c_i2b ((128 : Int32) ||| (cp &&& (63 : Int32))); skip)
  have ar210 := rng32 ((((128 : Int32) ||| (cp &&& (63 : Int32))).toInt8.toInt32).toInt8.toInt32)
  first | have ar211 : ((((128 : Int32) ||| (cp &&& (63 : Int32))).toInt8.toInt32).toInt8.toInt32).toInt = (((128 : Int32) ||| (cp &&& (63 : Int32))).toInt8.toInt32).toInt := (by have qw := c_i2b (((128 : Int32) ||| (cp &&& (63 : Int32))).toInt8.toInt32); omega) | (have ar211 := c_i2b (((128 : Int32) ||| (cp &&& (63 : Int32))).toInt8.toInt32); skip)
  have ar212 : (255 : Int32).toInt = 255 := by decide
  have ar213 := c_mask ((((128 : Int32) ||| (cp &&& (63 : Int32))).toInt8.toInt32).toInt8.toInt32) (255 : Int32) 8 (by decide) (by decide)
  simp only [show (2 ^ 8 : Nat) = 256 from by decide, Int.cast_ofNat_Int] at ar213
  have ar214 := rng32 (((((128 : Int32) ||| (cp &&& (63 : Int32))).toInt8.toInt32).toInt8.toInt32) &&& (255 : Int32))
  omega
theorem pd_0 : parseMethodDescriptor "(I[BI)I" = some ⟨[.int, (.array .byte), .int], some .int⟩ := by decide +kernel
theorem pn_0 : plainName "com/example/benzer/benzer/FeatureHashEncodePinLaw" = true := by first | (simp [plainName, overriddenIn]; done) | decide +kernel
theorem ef_0 (m : MethodId) (x0 : Int32) (x1 : Int32) (x2 : Int32) : entryFrame m #[(.int x0), (.int x1), (.int x2)] maxLocals = mkF m 0 #[.val (.int x0), .val (.int x1), .val (.int x2), .unset, .unset, .unset, .unset, .unset, .unset, .unset, .unset, .unset, .unset, .unset, .unset] [] := by first | (simp [entryFrame, mkF, argsToLocals, Value.category, maxLocals]; done) | rfl
def Q0 (Z : State) (p0 : Int32) (p1 : Int32) (p2 : Int32) (h0 : Heap) (n0 : Nat) (rv_ : Option Value) (h : Heap) (LL_ : List Loc) : Prop := rv_ = some (.int 1) ∧ Fr n0 LL_
set_option maxRecDepth 65536 in
set_option maxHeartbeats 40000000 in
theorem rm0 (l : Launch) (Z : State) (a0 : Array Value) (hw : ∀ d ∈ tables_1, d.before a0 Z = true) (ws : List Jvm.Cond) (p0 : Int32) (p1 : Int32) (p2 : Int32) (h0 : Heap) (n0 : Nat) (Z0 : n0 ≤ h0.size) :
    MetFree l x (head1 (Jvm.Cond.code x code maxLocals ret :: ws) room_1) (fun aa UU => aa = #[(.int p0), (.int p1), (.int p2)] ∧ Z.Warmed39 UU.vm ∧ UU.heap = h0) (fun _ _ _ _ _ => True) (fun _ UU oo UV => ∃ vv LL, oo = .returned vv ∧ Q0 Z p0 p1 p2 h0 n0 vv UV.heap LL ∧ FrameEnd UU oo UV LL room_1.cells room_1.slots) := by
  refine MetFree.of_bodySF (plainFor_of_name pn_0) hisR ?_
  intro p e s m args below meth c s₁ Bd hml0 hP hK
  obtain ⟨rfl, hZ, hh⟩ := hP
  have hx := Bd.exec
  have hby := Bd.bytes
  have hml : c.maxLocals = 15 := hml0
  have hown : s.vm.findClass "com/example/benzer/benzer/FeatureHashEncodePinLaw" = some m.cls := findClass_of_methodNamed Bd.named
  have hnm := (name_of_methodNamed Bd.named Bd.method).1
  have X0 : Stand p l e room_1 s m #[(.int p0), (.int p1), (.int p2)] below meth c s₁ [] 0 0 := Stand.of_body Bd
  have e0 : s₁.heap = h0 := by rw [← hh, Bd.state]; rfl
  have N0 := Fr.nil n0
  have k0 : ∀ tg_, Steps p.tables e below (s₁.setTop (mkF m 0 #[.val (.int p0), .val (.int p1), .val (.int p2), .unset, .unset, .unset, .unset, .unset, .unset, .unset, .unset, .unset, .unset, .unset, .unset] [])) tg_ → Steps p.tables e below (s₁.setTop (entryFrame m #[(.int p0), (.int p1), (.int p2)] maxLocals)) tg_ := fun tg_ k => castTop (ef_0 m p0 p1 p2) k
  have k215 : ∀ tg_, Steps p.tables e below (s₁.setTop (mkF m 7 #[.val (.int p0), .val (.int p1), .val (.int p2), .unset, .unset, .unset, .unset, .unset, .unset, .unset, .unset, .unset, .unset, .unset, .unset] [(.int ((p0 &&& (2147483647 : Int32)) % (1114112 : Int32)))])) tg_ → Steps p.tables e below (s₁.setTop (entryFrame m #[(.int p0), (.int p1), (.int p2)] maxLocals)) tg_ := by
    intro tg_ kt
    refine k0 tg_ ?_
    refine XS.iloadN X0.here hx rfl (hb hby at_0) rfl ?_
    show Steps p.tables e below (s₁.setTop (mkF m 1 #[.val (.int p0), .val (.int p1), .val (.int p2), .unset, .unset, .unset, .unset, .unset, .unset, .unset, .unset, .unset, .unset, .unset, .unset] [(.int p0)])) _
    refine X0.ldcInt hx hown (mvT hZ (hw _ (List.mem_of_getElem? (i := 0) rfl))) (g := (mkF m 1 #[.val (.int p0), .val (.int p1), .val (.int p2), .unset, .unset, .unset, .unset, .unset, .unset, .unset, .unset, .unset, .unset, .unset, .unset] [(.int p0)])) rfl (hb hby at_1) _ ?_
    show Steps p.tables e below (s₁.setTop (mkF m 3 #[.val (.int p0), .val (.int p1), .val (.int p2), .unset, .unset, .unset, .unset, .unset, .unset, .unset, .unset, .unset, .unset, .unset, .unset] [(.int (2147483647 : Int32)), (.int p0)])) _
    refine XS.iand X0.here hx rfl (hb hby at_3) rfl ?_
    show Steps p.tables e below (s₁.setTop (mkF m 4 #[.val (.int p0), .val (.int p1), .val (.int p2), .unset, .unset, .unset, .unset, .unset, .unset, .unset, .unset, .unset, .unset, .unset, .unset] [(.int (p0 &&& (2147483647 : Int32)))])) _
    refine X0.ldcInt hx hown (mvT hZ (hw _ (List.mem_of_getElem? (i := 1) rfl))) (g := (mkF m 4 #[.val (.int p0), .val (.int p1), .val (.int p2), .unset, .unset, .unset, .unset, .unset, .unset, .unset, .unset, .unset, .unset, .unset, .unset] [(.int (p0 &&& (2147483647 : Int32)))])) rfl (hb hby at_4) _ ?_
    show Steps p.tables e below (s₁.setTop (mkF m 6 #[.val (.int p0), .val (.int p1), .val (.int p2), .unset, .unset, .unset, .unset, .unset, .unset, .unset, .unset, .unset, .unset, .unset, .unset] [(.int (1114112 : Int32)), (.int (p0 &&& (2147483647 : Int32)))])) _
    refine iremM X0 hx rfl (hb hby at_6) rfl (by decide) ?_
    show Steps p.tables e below (s₁.setTop (mkF m 7 #[.val (.int p0), .val (.int p1), .val (.int p2), .unset, .unset, .unset, .unset, .unset, .unset, .unset, .unset, .unset, .unset, .unset, .unset] [(.int ((p0 &&& (2147483647 : Int32)) % (1114112 : Int32)))])) _
    exact kt
  obtain ⟨vcp216, hvcp216⟩ : ∃ z : Int32, z = ((p0 &&& (2147483647 : Int32)) % (1114112 : Int32)) := ⟨_, rfl⟩
  rw [← hvcp216] at k215
  have k217 : ∀ tg_, Steps p.tables e below (s₁.setTop (mkF m 8 #[.val (.int p0), .val (.int p1), .val (.int p2), .val (.int vcp216), .unset, .unset, .unset, .unset, .unset, .unset, .unset, .unset, .unset, .unset, .unset] [])) tg_ → Steps p.tables e below (s₁.setTop (entryFrame m #[(.int p0), (.int p1), (.int p2)] maxLocals)) tg_ := by
    intro tg_ kt
    refine k215 tg_ ?_
    refine XS.istoreN X0.here hx rfl (hb hby at_7) rfl (l' := #[.val (.int p0), .val (.int p1), .val (.int p2), .val (.int vcp216), .unset, .unset, .unset, .unset, .unset, .unset, .unset, .unset, .unset, .unset, .unset]) rfl ?_
    show Steps p.tables e below (s₁.setTop (mkF m 8 #[.val (.int p0), .val (.int p1), .val (.int p2), .val (.int vcp216), .unset, .unset, .unset, .unset, .unset, .unset, .unset, .unset, .unset, .unset, .unset] [])) _
    exact kt
  have hcp : 0 ≤ vcp216.toInt ∧ vcp216.toInt < 1114112 := by
    have ar218 := rng32 vcp216
    have ar219 := rng32 p0
    have ar220 : (2147483647 : Int32).toInt = 2147483647 := by decide
    have ar221 := c_mask p0 (2147483647 : Int32) 31 (by decide) (by decide)
    simp only [show (2 ^ 31 : Nat) = 2147483648 from by decide, Int.cast_ofNat_Int] at ar221
    have ar222 := rng32 (p0 &&& (2147483647 : Int32))
    have ar223 : (1114112 : Int32).toInt = 1114112 := by decide
    first | have ar224 := (c_irem (p0 &&& (2147483647 : Int32)) (1114112 : Int32) 1114112 (by decide)).1 (by omega) | have ar224 := c_irem (p0 &&& (2147483647 : Int32)) (1114112 : Int32) 1114112 (by decide)
    have ar225 := rng32 ((p0 &&& (2147483647 : Int32)) % (1114112 : Int32))
    have ar226 := congrArg Int32.toInt hvcp216
    omega
  have k227 : ∀ tg_, Steps p.tables e below (s₁.setTop (mkF m 11 #[.val (.int p0), .val (.int p1), .val (.int p2), .val (.int vcp216), .unset, .unset, .unset, .unset, .unset, .unset, .unset, .unset, .unset, .unset, .unset] [(.int (55296 : Int32)), (.int vcp216)])) tg_ → Steps p.tables e below (s₁.setTop (entryFrame m #[(.int p0), (.int p1), (.int p2)] maxLocals)) tg_ := by
    intro tg_ kt
    refine k217 tg_ ?_
    refine XS.iloadN X0.here hx rfl (hb hby at_8) rfl ?_
    show Steps p.tables e below (s₁.setTop (mkF m 9 #[.val (.int p0), .val (.int p1), .val (.int p2), .val (.int vcp216), .unset, .unset, .unset, .unset, .unset, .unset, .unset, .unset, .unset, .unset, .unset] [(.int vcp216)])) _
    refine X0.ldcInt hx hown (mvT hZ (hw _ (List.mem_of_getElem? (i := 2) rfl))) (g := (mkF m 9 #[.val (.int p0), .val (.int p1), .val (.int p2), .val (.int vcp216), .unset, .unset, .unset, .unset, .unset, .unset, .unset, .unset, .unset, .unset, .unset] [(.int vcp216)])) rfl (hb hby at_9) _ ?_
    show Steps p.tables e below (s₁.setTop (mkF m 11 #[.val (.int p0), .val (.int p1), .val (.int p2), .val (.int vcp216), .unset, .unset, .unset, .unset, .unset, .unset, .unset, .unset, .unset, .unset, .unset] [(.int (55296 : Int32)), (.int vcp216)])) _
    exact kt
  by_cases hc11_228 : vcp216 < (55296 : Int32)
  · have k229 : ∀ tg_, Steps p.tables e below (s₁.setTop (mkF m 26 #[.val (.int p0), .val (.int p1), .val (.int p2), .val (.int vcp216), .unset, .unset, .unset, .unset, .unset, .unset, .unset, .unset, .unset, .unset, .unset] [(.int (p1 &&& (7 : Int32)))])) tg_ → Steps p.tables e below (s₁.setTop (entryFrame m #[(.int p0), (.int p1), (.int p2)] maxLocals)) tg_ := by
      intro tg_ kt
      refine k227 tg_ ?_
      refine XS.icmpYes X0.here hx rfl (pc0 := 11) (pc' := 22) rfl (hb hby at_11) rfl (tlt hc11_228).1 (by decide) (by decide) ?_
      show Steps p.tables e below (s₁.setTop (mkF m 22 #[.val (.int p0), .val (.int p1), .val (.int p2), .val (.int vcp216), .unset, .unset, .unset, .unset, .unset, .unset, .unset, .unset, .unset, .unset, .unset] [])) _
      refine XS.iloadN X0.here hx rfl (hb hby at_22) rfl ?_
      show Steps p.tables e below (s₁.setTop (mkF m 23 #[.val (.int p0), .val (.int p1), .val (.int p2), .val (.int vcp216), .unset, .unset, .unset, .unset, .unset, .unset, .unset, .unset, .unset, .unset, .unset] [(.int p1)])) _
      refine XS.bipush X0.here hx rfl (hb hby at_23) ?_
      show Steps p.tables e below (s₁.setTop (mkF m 25 #[.val (.int p0), .val (.int p1), .val (.int p2), .val (.int vcp216), .unset, .unset, .unset, .unset, .unset, .unset, .unset, .unset, .unset, .unset, .unset] [(.int (7 : Int32)), (.int p1)])) _
      refine XS.iand X0.here hx rfl (hb hby at_25) rfl ?_
      show Steps p.tables e below (s₁.setTop (mkF m 26 #[.val (.int p0), .val (.int p1), .val (.int p2), .val (.int vcp216), .unset, .unset, .unset, .unset, .unset, .unset, .unset, .unset, .unset, .unset, .unset] [(.int (p1 &&& (7 : Int32)))])) _
      exact kt
    obtain ⟨vat230, hvat230⟩ : ∃ z : Int32, z = (p1 &&& (7 : Int32)) := ⟨_, rfl⟩
    rw [← hvat230] at k229
    have k231 : ∀ tg_, Steps p.tables e below (s₁.setTop (mkF m 30 #[.val (.int p0), .val (.int p1), .val (.int p2), .val (.int vcp216), .val (.int vat230), .unset, .unset, .unset, .unset, .unset, .unset, .unset, .unset, .unset, .unset] [(.int (p2.toInt8.toInt32))])) tg_ → Steps p.tables e below (s₁.setTop (entryFrame m #[(.int p0), (.int p1), (.int p2)] maxLocals)) tg_ := by
      intro tg_ kt
      refine k229 tg_ ?_
      refine XS.istore X0.here hx rfl (hb hby at_26) rfl (l' := #[.val (.int p0), .val (.int p1), .val (.int p2), .val (.int vcp216), .val (.int vat230), .unset, .unset, .unset, .unset, .unset, .unset, .unset, .unset, .unset, .unset]) rfl ?_
      show Steps p.tables e below (s₁.setTop (mkF m 28 #[.val (.int p0), .val (.int p1), .val (.int p2), .val (.int vcp216), .val (.int vat230), .unset, .unset, .unset, .unset, .unset, .unset, .unset, .unset, .unset, .unset] [])) _
      refine XS.iloadN X0.here hx rfl (hb hby at_28) rfl ?_
      show Steps p.tables e below (s₁.setTop (mkF m 29 #[.val (.int p0), .val (.int p1), .val (.int p2), .val (.int vcp216), .val (.int vat230), .unset, .unset, .unset, .unset, .unset, .unset, .unset, .unset, .unset, .unset] [(.int p2)])) _
      refine XS.i2b X0.here hx rfl (hb hby at_29) rfl ?_
      show Steps p.tables e below (s₁.setTop (mkF m 30 #[.val (.int p0), .val (.int p1), .val (.int p2), .val (.int vcp216), .val (.int vat230), .unset, .unset, .unset, .unset, .unset, .unset, .unset, .unset, .unset, .unset] [(.int (p2.toInt8.toInt32))])) _
      exact kt
    obtain ⟨v232, hv232⟩ : ∃ z : Int32, z = (p2.toInt8.toInt32) := ⟨_, rfl⟩
    rw [← hv232] at k231
    obtain ⟨T233, h233, kA233, X233, e233, E233, A233, st233⟩ := newP X0 hx hZ (hw _ (List.mem_of_getElem? (i := 3) rfl)) e0 (g := (mkF m 34 #[.val (.int p0), .val (.int p1), .val (.int p2), .val (.int vcp216), .val (.int vat230), .val (.int v232), .unset, .unset, .unset, .unset, .unset, .unset, .unset, .unset, .unset] [(.int (12 : Int32))])) rfl (hb hby at_34) rfl (by decide) (cap := 12) (by decide) (by decide) (by decide) (by decide)
    obtain ⟨b233, g233⟩ : ∃ z, z = h0.size := ⟨_, rfl⟩
    rw [← g233] at A233 st233
    have ge_b233 : n0 ≤ b233 := Nat.le_trans Z0 (Nat.le_of_eq g233.symm)
    have V233 : own_AI Z h233 b233 .byte 12 (fun _ => 0) := own_newI (by decide : (12 : Int32).toInt = ((12 : Nat) : Int)) A233 rfl
    obtain ⟨T234, h234, X234, e234, W234, V234, st234⟩ := own_stB X233 hx hZ e233 V233 (i := 0) (by decide : (0 : Int32).toInt = ((0 : Nat) : Int)) (by decide) (g := (mkF m 40 #[.val (.int p0), .val (.int p1), .val (.int p2), .val (.int vcp216), .val (.int vat230), .val (.int v232), .unset, .unset, .unset, .unset, .unset, .unset, .unset, .unset, .unset] [(.int v232), (.int (0 : Int32)), (.ref b233), (.ref b233)])) rfl rfl (hb hby at_40)
    have N234 := Fr.snoc X234 N0 ge_b233
    obtain ⟨T235, h235, X235, e235, W235, V235, st235⟩ := own_stB X234 hx hZ e234 V234 (i := 1) (by decide : (1 : Int32).toInt = ((1 : Nat) : Int)) (by decide) (g := (mkF m 45 #[.val (.int p0), .val (.int p1), .val (.int p2), .val (.int vcp216), .val (.int vat230), .val (.int v232), .unset, .unset, .unset, .unset, .unset, .unset, .unset, .unset, .unset] [(.int v232), (.int (1 : Int32)), (.ref b233), (.ref b233)])) rfl rfl (hb hby at_45)
    have N235 := Fr.snoc X235 N234 ge_b233
    obtain ⟨T236, h236, X236, e236, W236, V236, st236⟩ := own_stB X235 hx hZ e235 V235 (i := 2) (by decide : (2 : Int32).toInt = ((2 : Nat) : Int)) (by decide) (g := (mkF m 50 #[.val (.int p0), .val (.int p1), .val (.int p2), .val (.int vcp216), .val (.int vat230), .val (.int v232), .unset, .unset, .unset, .unset, .unset, .unset, .unset, .unset, .unset] [(.int v232), (.int (2 : Int32)), (.ref b233), (.ref b233)])) rfl rfl (hb hby at_50)
    have N236 := Fr.snoc X236 N235 ge_b233
    obtain ⟨T237, h237, X237, e237, W237, V237, st237⟩ := own_stB X236 hx hZ e236 V236 (i := 3) (by decide : (3 : Int32).toInt = ((3 : Nat) : Int)) (by decide) (g := (mkF m 55 #[.val (.int p0), .val (.int p1), .val (.int p2), .val (.int vcp216), .val (.int vat230), .val (.int v232), .unset, .unset, .unset, .unset, .unset, .unset, .unset, .unset, .unset] [(.int v232), (.int (3 : Int32)), (.ref b233), (.ref b233)])) rfl rfl (hb hby at_55)
    have N237 := Fr.snoc X237 N236 ge_b233
    obtain ⟨T238, h238, X238, e238, W238, V238, st238⟩ := own_stB X237 hx hZ e237 V237 (i := 4) (by decide : (4 : Int32).toInt = ((4 : Nat) : Int)) (by decide) (g := (mkF m 60 #[.val (.int p0), .val (.int p1), .val (.int p2), .val (.int vcp216), .val (.int vat230), .val (.int v232), .unset, .unset, .unset, .unset, .unset, .unset, .unset, .unset, .unset] [(.int v232), (.int (4 : Int32)), (.ref b233), (.ref b233)])) rfl rfl (hb hby at_60)
    have N238 := Fr.snoc X238 N237 ge_b233
    have k239 : ∀ tg_, Steps p.tables e below (T238.setTop (mkF m 65 #[.val (.int p0), .val (.int p1), .val (.int p2), .val (.int vcp216), .val (.int vat230), .val (.int v232), .unset, .unset, .unset, .unset, .unset, .unset, .unset, .unset, .unset] [(.int v232), (.int (5 : Int32)), (.ref b233), (.ref b233)])) tg_ → Steps p.tables e below (s₁.setTop (entryFrame m #[(.int p0), (.int p1), (.int p2)] maxLocals)) tg_ := by
      intro tg_ kt
      refine k231 tg_ ?_
      refine XS.istore X0.here hx rfl (hb hby at_30) rfl (l' := #[.val (.int p0), .val (.int p1), .val (.int p2), .val (.int vcp216), .val (.int vat230), .val (.int v232), .unset, .unset, .unset, .unset, .unset, .unset, .unset, .unset, .unset]) rfl ?_
      show Steps p.tables e below (s₁.setTop (mkF m 32 #[.val (.int p0), .val (.int p1), .val (.int p2), .val (.int vcp216), .val (.int vat230), .val (.int v232), .unset, .unset, .unset, .unset, .unset, .unset, .unset, .unset, .unset] [])) _
      refine XS.bipush X0.here hx rfl (hb hby at_32) ?_
      show Steps p.tables e below (s₁.setTop (mkF m 34 #[.val (.int p0), .val (.int p1), .val (.int p2), .val (.int vcp216), .val (.int vat230), .val (.int v232), .unset, .unset, .unset, .unset, .unset, .unset, .unset, .unset, .unset] [(.int (12 : Int32))])) _
      refine st233 _ ?_
      show Steps p.tables e below (T233.setTop (mkF m 36 #[.val (.int p0), .val (.int p1), .val (.int p2), .val (.int vcp216), .val (.int vat230), .val (.int v232), .unset, .unset, .unset, .unset, .unset, .unset, .unset, .unset, .unset] [(.ref b233)])) _
      refine XS.dup X233.here hx rfl (hb hby at_36) rfl rfl ?_
      show Steps p.tables e below (T233.setTop (mkF m 37 #[.val (.int p0), .val (.int p1), .val (.int p2), .val (.int vcp216), .val (.int vat230), .val (.int v232), .unset, .unset, .unset, .unset, .unset, .unset, .unset, .unset, .unset] [(.ref b233), (.ref b233)])) _
      refine XS.iconst X233.here hx rfl (hb hby at_37) ?_
      show Steps p.tables e below (T233.setTop (mkF m 38 #[.val (.int p0), .val (.int p1), .val (.int p2), .val (.int vcp216), .val (.int vat230), .val (.int v232), .unset, .unset, .unset, .unset, .unset, .unset, .unset, .unset, .unset] [(.int (0 : Int32)), (.ref b233), (.ref b233)])) _
      refine XS.iload X233.here hx rfl (hb hby at_38) rfl ?_
      show Steps p.tables e below (T233.setTop (mkF m 40 #[.val (.int p0), .val (.int p1), .val (.int p2), .val (.int vcp216), .val (.int vat230), .val (.int v232), .unset, .unset, .unset, .unset, .unset, .unset, .unset, .unset, .unset] [(.int v232), (.int (0 : Int32)), (.ref b233), (.ref b233)])) _
      refine st234 _ ?_
      show Steps p.tables e below (T234.setTop (mkF m 41 #[.val (.int p0), .val (.int p1), .val (.int p2), .val (.int vcp216), .val (.int vat230), .val (.int v232), .unset, .unset, .unset, .unset, .unset, .unset, .unset, .unset, .unset] [(.ref b233)])) _
      refine XS.dup X234.here hx rfl (hb hby at_41) rfl rfl ?_
      show Steps p.tables e below (T234.setTop (mkF m 42 #[.val (.int p0), .val (.int p1), .val (.int p2), .val (.int vcp216), .val (.int vat230), .val (.int v232), .unset, .unset, .unset, .unset, .unset, .unset, .unset, .unset, .unset] [(.ref b233), (.ref b233)])) _
      refine XS.iconst X234.here hx rfl (hb hby at_42) ?_
      show Steps p.tables e below (T234.setTop (mkF m 43 #[.val (.int p0), .val (.int p1), .val (.int p2), .val (.int vcp216), .val (.int vat230), .val (.int v232), .unset, .unset, .unset, .unset, .unset, .unset, .unset, .unset, .unset] [(.int (1 : Int32)), (.ref b233), (.ref b233)])) _
      refine XS.iload X234.here hx rfl (hb hby at_43) rfl ?_
      show Steps p.tables e below (T234.setTop (mkF m 45 #[.val (.int p0), .val (.int p1), .val (.int p2), .val (.int vcp216), .val (.int vat230), .val (.int v232), .unset, .unset, .unset, .unset, .unset, .unset, .unset, .unset, .unset] [(.int v232), (.int (1 : Int32)), (.ref b233), (.ref b233)])) _
      refine st235 _ ?_
      show Steps p.tables e below (T235.setTop (mkF m 46 #[.val (.int p0), .val (.int p1), .val (.int p2), .val (.int vcp216), .val (.int vat230), .val (.int v232), .unset, .unset, .unset, .unset, .unset, .unset, .unset, .unset, .unset] [(.ref b233)])) _
      refine XS.dup X235.here hx rfl (hb hby at_46) rfl rfl ?_
      show Steps p.tables e below (T235.setTop (mkF m 47 #[.val (.int p0), .val (.int p1), .val (.int p2), .val (.int vcp216), .val (.int vat230), .val (.int v232), .unset, .unset, .unset, .unset, .unset, .unset, .unset, .unset, .unset] [(.ref b233), (.ref b233)])) _
      refine XS.iconst X235.here hx rfl (hb hby at_47) ?_
      show Steps p.tables e below (T235.setTop (mkF m 48 #[.val (.int p0), .val (.int p1), .val (.int p2), .val (.int vcp216), .val (.int vat230), .val (.int v232), .unset, .unset, .unset, .unset, .unset, .unset, .unset, .unset, .unset] [(.int (2 : Int32)), (.ref b233), (.ref b233)])) _
      refine XS.iload X235.here hx rfl (hb hby at_48) rfl ?_
      show Steps p.tables e below (T235.setTop (mkF m 50 #[.val (.int p0), .val (.int p1), .val (.int p2), .val (.int vcp216), .val (.int vat230), .val (.int v232), .unset, .unset, .unset, .unset, .unset, .unset, .unset, .unset, .unset] [(.int v232), (.int (2 : Int32)), (.ref b233), (.ref b233)])) _
      refine st236 _ ?_
      show Steps p.tables e below (T236.setTop (mkF m 51 #[.val (.int p0), .val (.int p1), .val (.int p2), .val (.int vcp216), .val (.int vat230), .val (.int v232), .unset, .unset, .unset, .unset, .unset, .unset, .unset, .unset, .unset] [(.ref b233)])) _
      refine XS.dup X236.here hx rfl (hb hby at_51) rfl rfl ?_
      show Steps p.tables e below (T236.setTop (mkF m 52 #[.val (.int p0), .val (.int p1), .val (.int p2), .val (.int vcp216), .val (.int vat230), .val (.int v232), .unset, .unset, .unset, .unset, .unset, .unset, .unset, .unset, .unset] [(.ref b233), (.ref b233)])) _
      refine XS.iconst X236.here hx rfl (hb hby at_52) ?_
      show Steps p.tables e below (T236.setTop (mkF m 53 #[.val (.int p0), .val (.int p1), .val (.int p2), .val (.int vcp216), .val (.int vat230), .val (.int v232), .unset, .unset, .unset, .unset, .unset, .unset, .unset, .unset, .unset] [(.int (3 : Int32)), (.ref b233), (.ref b233)])) _
      refine XS.iload X236.here hx rfl (hb hby at_53) rfl ?_
      show Steps p.tables e below (T236.setTop (mkF m 55 #[.val (.int p0), .val (.int p1), .val (.int p2), .val (.int vcp216), .val (.int vat230), .val (.int v232), .unset, .unset, .unset, .unset, .unset, .unset, .unset, .unset, .unset] [(.int v232), (.int (3 : Int32)), (.ref b233), (.ref b233)])) _
      refine st237 _ ?_
      show Steps p.tables e below (T237.setTop (mkF m 56 #[.val (.int p0), .val (.int p1), .val (.int p2), .val (.int vcp216), .val (.int vat230), .val (.int v232), .unset, .unset, .unset, .unset, .unset, .unset, .unset, .unset, .unset] [(.ref b233)])) _
      refine XS.dup X237.here hx rfl (hb hby at_56) rfl rfl ?_
      show Steps p.tables e below (T237.setTop (mkF m 57 #[.val (.int p0), .val (.int p1), .val (.int p2), .val (.int vcp216), .val (.int vat230), .val (.int v232), .unset, .unset, .unset, .unset, .unset, .unset, .unset, .unset, .unset] [(.ref b233), (.ref b233)])) _
      refine XS.iconst X237.here hx rfl (hb hby at_57) ?_
      show Steps p.tables e below (T237.setTop (mkF m 58 #[.val (.int p0), .val (.int p1), .val (.int p2), .val (.int vcp216), .val (.int vat230), .val (.int v232), .unset, .unset, .unset, .unset, .unset, .unset, .unset, .unset, .unset] [(.int (4 : Int32)), (.ref b233), (.ref b233)])) _
      refine XS.iload X237.here hx rfl (hb hby at_58) rfl ?_
      show Steps p.tables e below (T237.setTop (mkF m 60 #[.val (.int p0), .val (.int p1), .val (.int p2), .val (.int vcp216), .val (.int vat230), .val (.int v232), .unset, .unset, .unset, .unset, .unset, .unset, .unset, .unset, .unset] [(.int v232), (.int (4 : Int32)), (.ref b233), (.ref b233)])) _
      refine st238 _ ?_
      show Steps p.tables e below (T238.setTop (mkF m 61 #[.val (.int p0), .val (.int p1), .val (.int p2), .val (.int vcp216), .val (.int vat230), .val (.int v232), .unset, .unset, .unset, .unset, .unset, .unset, .unset, .unset, .unset] [(.ref b233)])) _
      refine XS.dup X238.here hx rfl (hb hby at_61) rfl rfl ?_
      show Steps p.tables e below (T238.setTop (mkF m 62 #[.val (.int p0), .val (.int p1), .val (.int p2), .val (.int vcp216), .val (.int vat230), .val (.int v232), .unset, .unset, .unset, .unset, .unset, .unset, .unset, .unset, .unset] [(.ref b233), (.ref b233)])) _
      refine XS.iconst X238.here hx rfl (hb hby at_62) ?_
      show Steps p.tables e below (T238.setTop (mkF m 63 #[.val (.int p0), .val (.int p1), .val (.int p2), .val (.int vcp216), .val (.int vat230), .val (.int v232), .unset, .unset, .unset, .unset, .unset, .unset, .unset, .unset, .unset] [(.int (5 : Int32)), (.ref b233), (.ref b233)])) _
      refine XS.iload X238.here hx rfl (hb hby at_63) rfl ?_
      show Steps p.tables e below (T238.setTop (mkF m 65 #[.val (.int p0), .val (.int p1), .val (.int p2), .val (.int vcp216), .val (.int vat230), .val (.int v232), .unset, .unset, .unset, .unset, .unset, .unset, .unset, .unset, .unset] [(.int v232), (.int (5 : Int32)), (.ref b233), (.ref b233)])) _
      exact kt
    obtain ⟨T240, h240, X240, e240, W240, V240, st240⟩ := own_stB X238 hx hZ e238 V238 (i := 5) (by decide : (5 : Int32).toInt = ((5 : Nat) : Int)) (by decide) (g := (mkF m 65 #[.val (.int p0), .val (.int p1), .val (.int p2), .val (.int vcp216), .val (.int vat230), .val (.int v232), .unset, .unset, .unset, .unset, .unset, .unset, .unset, .unset, .unset] [(.int v232), (.int (5 : Int32)), (.ref b233), (.ref b233)])) rfl rfl (hb hby at_65)
    have N240 := Fr.snoc X240 N238 ge_b233
    obtain ⟨T241, h241, X241, e241, W241, V241, st241⟩ := own_stB X240 hx hZ e240 V240 (i := 6) (by decide : (6 : Int32).toInt = ((6 : Nat) : Int)) (by decide) (g := (mkF m 71 #[.val (.int p0), .val (.int p1), .val (.int p2), .val (.int vcp216), .val (.int vat230), .val (.int v232), .unset, .unset, .unset, .unset, .unset, .unset, .unset, .unset, .unset] [(.int v232), (.int (6 : Int32)), (.ref b233), (.ref b233)])) rfl rfl (hb hby at_71)
    have N241 := Fr.snoc X241 N240 ge_b233
    obtain ⟨T242, h242, X242, e242, W242, V242, st242⟩ := own_stB X241 hx hZ e241 V241 (i := 7) (by decide : (7 : Int32).toInt = ((7 : Nat) : Int)) (by decide) (g := (mkF m 77 #[.val (.int p0), .val (.int p1), .val (.int p2), .val (.int vcp216), .val (.int vat230), .val (.int v232), .unset, .unset, .unset, .unset, .unset, .unset, .unset, .unset, .unset] [(.int v232), (.int (7 : Int32)), (.ref b233), (.ref b233)])) rfl rfl (hb hby at_77)
    have N242 := Fr.snoc X242 N241 ge_b233
    obtain ⟨T243, h243, X243, e243, W243, V243, st243⟩ := own_stB X242 hx hZ e242 V242 (i := 8) (by decide : (8 : Int32).toInt = ((8 : Nat) : Int)) (by decide) (g := (mkF m 83 #[.val (.int p0), .val (.int p1), .val (.int p2), .val (.int vcp216), .val (.int vat230), .val (.int v232), .unset, .unset, .unset, .unset, .unset, .unset, .unset, .unset, .unset] [(.int v232), (.int (8 : Int32)), (.ref b233), (.ref b233)])) rfl rfl (hb hby at_83)
    have N243 := Fr.snoc X243 N242 ge_b233
    obtain ⟨T244, h244, X244, e244, W244, V244, st244⟩ := own_stB X243 hx hZ e243 V243 (i := 9) (by decide : (9 : Int32).toInt = ((9 : Nat) : Int)) (by decide) (g := (mkF m 89 #[.val (.int p0), .val (.int p1), .val (.int p2), .val (.int vcp216), .val (.int vat230), .val (.int v232), .unset, .unset, .unset, .unset, .unset, .unset, .unset, .unset, .unset] [(.int v232), (.int (9 : Int32)), (.ref b233), (.ref b233)])) rfl rfl (hb hby at_89)
    have N244 := Fr.snoc X244 N243 ge_b233
    obtain ⟨T245, h245, X245, e245, W245, V245, st245⟩ := own_stB X244 hx hZ e244 V244 (i := 10) (by decide : (10 : Int32).toInt = ((10 : Nat) : Int)) (by decide) (g := (mkF m 95 #[.val (.int p0), .val (.int p1), .val (.int p2), .val (.int vcp216), .val (.int vat230), .val (.int v232), .unset, .unset, .unset, .unset, .unset, .unset, .unset, .unset, .unset] [(.int v232), (.int (10 : Int32)), (.ref b233), (.ref b233)])) rfl rfl (hb hby at_95)
    have N245 := Fr.snoc X245 N244 ge_b233
    obtain ⟨T246, h246, X246, e246, W246, V246, st246⟩ := own_stB X245 hx hZ e245 V245 (i := 11) (by decide : (11 : Int32).toInt = ((11 : Nat) : Int)) (by decide) (g := (mkF m 101 #[.val (.int p0), .val (.int p1), .val (.int p2), .val (.int vcp216), .val (.int vat230), .val (.int v232), .unset, .unset, .unset, .unset, .unset, .unset, .unset, .unset, .unset] [(.int v232), (.int (11 : Int32)), (.ref b233), (.ref b233)])) rfl rfl (hb hby at_101)
    have N246 := Fr.snoc X246 N245 ge_b233
    have k247 : ∀ tg_, Steps p.tables e below (T246.setTop (mkF m 104 #[.val (.int p0), .val (.int p1), .val (.int p2), .val (.int vcp216), .val (.int vat230), .val (.int v232), .val (.ref b233), .unset, .unset, .unset, .unset, .unset, .unset, .unset, .unset] [])) tg_ → Steps p.tables e below (s₁.setTop (entryFrame m #[(.int p0), (.int p1), (.int p2)] maxLocals)) tg_ := by
      intro tg_ kt
      refine k239 tg_ ?_
      refine st240 _ ?_
      show Steps p.tables e below (T240.setTop (mkF m 66 #[.val (.int p0), .val (.int p1), .val (.int p2), .val (.int vcp216), .val (.int vat230), .val (.int v232), .unset, .unset, .unset, .unset, .unset, .unset, .unset, .unset, .unset] [(.ref b233)])) _
      refine XS.dup X240.here hx rfl (hb hby at_66) rfl rfl ?_
      show Steps p.tables e below (T240.setTop (mkF m 67 #[.val (.int p0), .val (.int p1), .val (.int p2), .val (.int vcp216), .val (.int vat230), .val (.int v232), .unset, .unset, .unset, .unset, .unset, .unset, .unset, .unset, .unset] [(.ref b233), (.ref b233)])) _
      refine XS.bipush X240.here hx rfl (hb hby at_67) ?_
      show Steps p.tables e below (T240.setTop (mkF m 69 #[.val (.int p0), .val (.int p1), .val (.int p2), .val (.int vcp216), .val (.int vat230), .val (.int v232), .unset, .unset, .unset, .unset, .unset, .unset, .unset, .unset, .unset] [(.int (6 : Int32)), (.ref b233), (.ref b233)])) _
      refine XS.iload X240.here hx rfl (hb hby at_69) rfl ?_
      show Steps p.tables e below (T240.setTop (mkF m 71 #[.val (.int p0), .val (.int p1), .val (.int p2), .val (.int vcp216), .val (.int vat230), .val (.int v232), .unset, .unset, .unset, .unset, .unset, .unset, .unset, .unset, .unset] [(.int v232), (.int (6 : Int32)), (.ref b233), (.ref b233)])) _
      refine st241 _ ?_
      show Steps p.tables e below (T241.setTop (mkF m 72 #[.val (.int p0), .val (.int p1), .val (.int p2), .val (.int vcp216), .val (.int vat230), .val (.int v232), .unset, .unset, .unset, .unset, .unset, .unset, .unset, .unset, .unset] [(.ref b233)])) _
      refine XS.dup X241.here hx rfl (hb hby at_72) rfl rfl ?_
      show Steps p.tables e below (T241.setTop (mkF m 73 #[.val (.int p0), .val (.int p1), .val (.int p2), .val (.int vcp216), .val (.int vat230), .val (.int v232), .unset, .unset, .unset, .unset, .unset, .unset, .unset, .unset, .unset] [(.ref b233), (.ref b233)])) _
      refine XS.bipush X241.here hx rfl (hb hby at_73) ?_
      show Steps p.tables e below (T241.setTop (mkF m 75 #[.val (.int p0), .val (.int p1), .val (.int p2), .val (.int vcp216), .val (.int vat230), .val (.int v232), .unset, .unset, .unset, .unset, .unset, .unset, .unset, .unset, .unset] [(.int (7 : Int32)), (.ref b233), (.ref b233)])) _
      refine XS.iload X241.here hx rfl (hb hby at_75) rfl ?_
      show Steps p.tables e below (T241.setTop (mkF m 77 #[.val (.int p0), .val (.int p1), .val (.int p2), .val (.int vcp216), .val (.int vat230), .val (.int v232), .unset, .unset, .unset, .unset, .unset, .unset, .unset, .unset, .unset] [(.int v232), (.int (7 : Int32)), (.ref b233), (.ref b233)])) _
      refine st242 _ ?_
      show Steps p.tables e below (T242.setTop (mkF m 78 #[.val (.int p0), .val (.int p1), .val (.int p2), .val (.int vcp216), .val (.int vat230), .val (.int v232), .unset, .unset, .unset, .unset, .unset, .unset, .unset, .unset, .unset] [(.ref b233)])) _
      refine XS.dup X242.here hx rfl (hb hby at_78) rfl rfl ?_
      show Steps p.tables e below (T242.setTop (mkF m 79 #[.val (.int p0), .val (.int p1), .val (.int p2), .val (.int vcp216), .val (.int vat230), .val (.int v232), .unset, .unset, .unset, .unset, .unset, .unset, .unset, .unset, .unset] [(.ref b233), (.ref b233)])) _
      refine XS.bipush X242.here hx rfl (hb hby at_79) ?_
      show Steps p.tables e below (T242.setTop (mkF m 81 #[.val (.int p0), .val (.int p1), .val (.int p2), .val (.int vcp216), .val (.int vat230), .val (.int v232), .unset, .unset, .unset, .unset, .unset, .unset, .unset, .unset, .unset] [(.int (8 : Int32)), (.ref b233), (.ref b233)])) _
      refine XS.iload X242.here hx rfl (hb hby at_81) rfl ?_
      show Steps p.tables e below (T242.setTop (mkF m 83 #[.val (.int p0), .val (.int p1), .val (.int p2), .val (.int vcp216), .val (.int vat230), .val (.int v232), .unset, .unset, .unset, .unset, .unset, .unset, .unset, .unset, .unset] [(.int v232), (.int (8 : Int32)), (.ref b233), (.ref b233)])) _
      refine st243 _ ?_
      show Steps p.tables e below (T243.setTop (mkF m 84 #[.val (.int p0), .val (.int p1), .val (.int p2), .val (.int vcp216), .val (.int vat230), .val (.int v232), .unset, .unset, .unset, .unset, .unset, .unset, .unset, .unset, .unset] [(.ref b233)])) _
      refine XS.dup X243.here hx rfl (hb hby at_84) rfl rfl ?_
      show Steps p.tables e below (T243.setTop (mkF m 85 #[.val (.int p0), .val (.int p1), .val (.int p2), .val (.int vcp216), .val (.int vat230), .val (.int v232), .unset, .unset, .unset, .unset, .unset, .unset, .unset, .unset, .unset] [(.ref b233), (.ref b233)])) _
      refine XS.bipush X243.here hx rfl (hb hby at_85) ?_
      show Steps p.tables e below (T243.setTop (mkF m 87 #[.val (.int p0), .val (.int p1), .val (.int p2), .val (.int vcp216), .val (.int vat230), .val (.int v232), .unset, .unset, .unset, .unset, .unset, .unset, .unset, .unset, .unset] [(.int (9 : Int32)), (.ref b233), (.ref b233)])) _
      refine XS.iload X243.here hx rfl (hb hby at_87) rfl ?_
      show Steps p.tables e below (T243.setTop (mkF m 89 #[.val (.int p0), .val (.int p1), .val (.int p2), .val (.int vcp216), .val (.int vat230), .val (.int v232), .unset, .unset, .unset, .unset, .unset, .unset, .unset, .unset, .unset] [(.int v232), (.int (9 : Int32)), (.ref b233), (.ref b233)])) _
      refine st244 _ ?_
      show Steps p.tables e below (T244.setTop (mkF m 90 #[.val (.int p0), .val (.int p1), .val (.int p2), .val (.int vcp216), .val (.int vat230), .val (.int v232), .unset, .unset, .unset, .unset, .unset, .unset, .unset, .unset, .unset] [(.ref b233)])) _
      refine XS.dup X244.here hx rfl (hb hby at_90) rfl rfl ?_
      show Steps p.tables e below (T244.setTop (mkF m 91 #[.val (.int p0), .val (.int p1), .val (.int p2), .val (.int vcp216), .val (.int vat230), .val (.int v232), .unset, .unset, .unset, .unset, .unset, .unset, .unset, .unset, .unset] [(.ref b233), (.ref b233)])) _
      refine XS.bipush X244.here hx rfl (hb hby at_91) ?_
      show Steps p.tables e below (T244.setTop (mkF m 93 #[.val (.int p0), .val (.int p1), .val (.int p2), .val (.int vcp216), .val (.int vat230), .val (.int v232), .unset, .unset, .unset, .unset, .unset, .unset, .unset, .unset, .unset] [(.int (10 : Int32)), (.ref b233), (.ref b233)])) _
      refine XS.iload X244.here hx rfl (hb hby at_93) rfl ?_
      show Steps p.tables e below (T244.setTop (mkF m 95 #[.val (.int p0), .val (.int p1), .val (.int p2), .val (.int vcp216), .val (.int vat230), .val (.int v232), .unset, .unset, .unset, .unset, .unset, .unset, .unset, .unset, .unset] [(.int v232), (.int (10 : Int32)), (.ref b233), (.ref b233)])) _
      refine st245 _ ?_
      show Steps p.tables e below (T245.setTop (mkF m 96 #[.val (.int p0), .val (.int p1), .val (.int p2), .val (.int vcp216), .val (.int vat230), .val (.int v232), .unset, .unset, .unset, .unset, .unset, .unset, .unset, .unset, .unset] [(.ref b233)])) _
      refine XS.dup X245.here hx rfl (hb hby at_96) rfl rfl ?_
      show Steps p.tables e below (T245.setTop (mkF m 97 #[.val (.int p0), .val (.int p1), .val (.int p2), .val (.int vcp216), .val (.int vat230), .val (.int v232), .unset, .unset, .unset, .unset, .unset, .unset, .unset, .unset, .unset] [(.ref b233), (.ref b233)])) _
      refine XS.bipush X245.here hx rfl (hb hby at_97) ?_
      show Steps p.tables e below (T245.setTop (mkF m 99 #[.val (.int p0), .val (.int p1), .val (.int p2), .val (.int vcp216), .val (.int vat230), .val (.int v232), .unset, .unset, .unset, .unset, .unset, .unset, .unset, .unset, .unset] [(.int (11 : Int32)), (.ref b233), (.ref b233)])) _
      refine XS.iload X245.here hx rfl (hb hby at_99) rfl ?_
      show Steps p.tables e below (T245.setTop (mkF m 101 #[.val (.int p0), .val (.int p1), .val (.int p2), .val (.int vcp216), .val (.int vat230), .val (.int v232), .unset, .unset, .unset, .unset, .unset, .unset, .unset, .unset, .unset] [(.int v232), (.int (11 : Int32)), (.ref b233), (.ref b233)])) _
      refine st246 _ ?_
      show Steps p.tables e below (T246.setTop (mkF m 102 #[.val (.int p0), .val (.int p1), .val (.int p2), .val (.int vcp216), .val (.int vat230), .val (.int v232), .unset, .unset, .unset, .unset, .unset, .unset, .unset, .unset, .unset] [(.ref b233)])) _
      refine XS.astore X246.here hx rfl (hb hby at_102) rfl rfl (l' := #[.val (.int p0), .val (.int p1), .val (.int p2), .val (.int vcp216), .val (.int vat230), .val (.int v232), .val (.ref b233), .unset, .unset, .unset, .unset, .unset, .unset, .unset, .unset]) rfl ?_
      show Steps p.tables e below (T246.setTop (mkF m 104 #[.val (.int p0), .val (.int p1), .val (.int p2), .val (.int vcp216), .val (.int vat230), .val (.int v232), .val (.ref b233), .unset, .unset, .unset, .unset, .unset, .unset, .unset, .unset] [])) _
      exact kt
    have hbb : v232.toInt8.toInt32 = v232 := by rw [hv232]; exact own_bb _
    have V248 : own_AI Z h246 b233 .byte 12 (fun _ => v232) := by
      refine own_AI.congr V246 fun j hj => ?_
      rw [hbb]
      simp only [own_upd]
      repeat' split
      all_goals first | rfl | omega
    obtain ⟨k, hk, hk7⟩ : ∃ k : Nat, vat230.toInt = (k : Int) ∧ k ≤ 7 := by
      have ar249 := rng32 vat230
      have ar250 := rng32 p1
      have ar251 : (7 : Int32).toInt = 7 := by decide
      have ar252 := c_mask p1 (7 : Int32) 3 (by decide) (by decide)
      simp only [show (2 ^ 3 : Nat) = 8 from by decide, Int.cast_ofNat_Int] at ar252
      have ar253 := rng32 (p1 &&& (7 : Int32))
      have ar254 := congrArg Int32.toInt hvat230
      exact ⟨vat230.toInt.toNat, by omega, by omega⟩
    have k255 : ∀ tg_, Steps p.tables e below (T246.setTop (mkF m 109 #[.val (.int p0), .val (.int p1), .val (.int p2), .val (.int vcp216), .val (.int vat230), .val (.int v232), .val (.ref b233), .unset, .unset, .unset, .unset, .unset, .unset, .unset, .unset] [(.int vat230), (.ref b233), (.int vcp216)])) tg_ → Steps p.tables e below (s₁.setTop (entryFrame m #[(.int p0), (.int p1), (.int p2)] maxLocals)) tg_ := by
      intro tg_ kt
      refine k247 tg_ ?_
      refine XS.iloadN X246.here hx rfl (hb hby at_104) rfl ?_
      show Steps p.tables e below (T246.setTop (mkF m 105 #[.val (.int p0), .val (.int p1), .val (.int p2), .val (.int vcp216), .val (.int vat230), .val (.int v232), .val (.ref b233), .unset, .unset, .unset, .unset, .unset, .unset, .unset, .unset] [(.int vcp216)])) _
      refine XS.aload X246.here hx rfl (hb hby at_105) rfl rfl ?_
      show Steps p.tables e below (T246.setTop (mkF m 107 #[.val (.int p0), .val (.int p1), .val (.int p2), .val (.int vcp216), .val (.int vat230), .val (.int v232), .val (.ref b233), .unset, .unset, .unset, .unset, .unset, .unset, .unset, .unset] [(.ref b233), (.int vcp216)])) _
      refine XS.iload X246.here hx rfl (hb hby at_107) rfl ?_
      show Steps p.tables e below (T246.setTop (mkF m 109 #[.val (.int p0), .val (.int p1), .val (.int p2), .val (.int vcp216), .val (.int vat230), .val (.int v232), .val (.ref b233), .unset, .unset, .unset, .unset, .unset, .unset, .unset, .unset] [(.int vat230), (.ref b233), (.int vcp216)])) _
      exact kt
    by_cases hc109_256 : vcp216 < (128 : Int32)
    · have Lhc109_256 : vcp216.toInt < 128 := Int32.lt_iff_toInt_lt.mp hc109_256
      have f257 := (Nat.le_trans (Nat.le_trans (Nat.le_trans (Nat.le_trans (Nat.le_trans (Nat.le_trans (Nat.le_trans (Nat.le_trans (Nat.le_trans (Nat.le_trans (Nat.le_trans (Nat.le_trans (Nat.le_trans Z0 ((Keep.refl _ []).ext E233).1) (Keep.of_wr W234).1) (Keep.of_wr W235).1) (Keep.of_wr W236).1) (Keep.of_wr W237).1) (Keep.of_wr W238).1) (Keep.of_wr W240).1) (Keep.of_wr W241).1) (Keep.of_wr W242).1) (Keep.of_wr W243).1) (Keep.of_wr W244).1) (Keep.of_wr W245).1) (Keep.of_wr W246).1)
      obtain ⟨_, _, ⟨T258, L258, kc258, nc258⟩, -, X258, ⟨Lc258, hQ258, l258, y258, z258⟩, st258⟩ := Jvm.LawKit.callS X246 hx (y := (⟨"com/example/benzer/benzer/FeatureHash", "encode", "(I[BI)I"⟩ : MethodName)) hown (mvT hZ (hw _ (List.mem_of_getElem? (i := 4) rfl))) (mvT hZ (hw _ (List.mem_of_getElem? (i := 5) rfl))) (mvT hZ (hw _ (List.mem_of_getElem? (i := 6) rfl))) (mvT hZ (hw _ (List.mem_of_getElem? (i := 7) rfl))) (by decide) (backOf (W := 0) (rmenc1 l Z a0 hw [] vcp216 b233 vat230 k (fun _ => v232) h246 n0 f257 V248 ge_b233 hk hk7 hc109_256) hZ (hw _ (List.mem_of_getElem? (i := 7) rfl)) (hw _ (List.mem_of_getElem? (i := 6) rfl)) (by decide) (by decide)) (g := (mkF m 109 #[.val (.int p0), .val (.int p1), .val (.int p2), .val (.int vcp216), .val (.int vat230), .val (.int v232), .val (.ref b233), .unset, .unset, .unset, .unset, .unset, .unset, .unset, .unset] [(.int vat230), (.ref b233), (.int vcp216)])) rfl (by rw [hml]; rfl) (argsL := [(.int vcp216), (.ref b233), (.int vat230)]) (rest := []) (lenOf pd_0 rfl) rfl (by show 2 * 0 + _ ≤ _; exact Nat.le_of_eq rfl) (hb hby at_109) (fun _ _ => ⟨rfl, e246, (by decide : 1 + 0 ≤ _), (by decide : 12 + 0 ≤ _)⟩)
      dsimp only [Pt.U, Pt.locs, Pt.cells, Pt.slots] at X258 l258 y258 z258 st258 hQ258
      rw [l258, y258, z258] at X258
      replace X258 : Stand p l e room_1 s m #[(.int p0), (.int p1), (.int p2)] below meth c T258 _ 1 12 := X258
      obtain ⟨rfl, Nq258, oK258, oAa258⟩ := hQ258
      have N258 := Fr.app N246 Nq258
      have k259 : ∀ tg_, Steps p.tables e below (T258.setTop (mkF m 112 #[.val (.int p0), .val (.int p1), .val (.int p2), .val (.int vcp216), .val (.int vat230), .val (.int v232), .val (.ref b233), .unset, .unset, .unset, .unset, .unset, .unset, .unset, .unset] [(.int (vat230 + (1 : Int32)))])) tg_ → Steps p.tables e below (s₁.setTop (entryFrame m #[(.int p0), (.int p1), (.int p2)] maxLocals)) tg_ := by
        intro tg_ kt
        refine k255 tg_ ?_
        refine st258 _ ?_
        show Steps p.tables e below (T258.setTop (mkF m 112 #[.val (.int p0), .val (.int p1), .val (.int p2), .val (.int vcp216), .val (.int vat230), .val (.int v232), .val (.ref b233), .unset, .unset, .unset, .unset, .unset, .unset, .unset, .unset] [(.int (vat230 + (1 : Int32)))])) _
        exact kt
      obtain ⟨r260, hr260⟩ : ∃ z : Int32, z = (vat230 + (1 : Int32)) := ⟨_, rfl⟩
      rw [← hr260] at k259
      have k262 : ∀ tg_, Steps p.tables e below (T258.setTop (mkF m 114 #[.val (.int p0), .val (.int p1), .val (.int p2), .val (.int vcp216), .val (.int vat230), .val (.int v232), .val (.ref b233), .val (.int r260), .unset, .unset, .unset, .unset, .unset, .unset, .unset] [])) tg_ → Steps p.tables e below (s₁.setTop (entryFrame m #[(.int p0), (.int p1), (.int p2)] maxLocals)) tg_ := by
        intro tg_ kt
        refine k259 tg_ ?_
        show Steps p.tables e below (T258.setTop (mkF m 112 #[.val (.int p0), .val (.int p1), .val (.int p2), .val (.int vcp216), .val (.int vat230), .val (.int v232), .val (.ref b233), .unset, .unset, .unset, .unset, .unset, .unset, .unset, .unset] [(.int r260)])) _
        refine XS.istore X258.here hx rfl (hb hby at_112) rfl (l' := #[.val (.int p0), .val (.int p1), .val (.int p2), .val (.int vcp216), .val (.int vat230), .val (.int v232), .val (.ref b233), .val (.int r260), .unset, .unset, .unset, .unset, .unset, .unset, .unset]) rfl ?_
        show Steps p.tables e below (T258.setTop (mkF m 114 #[.val (.int p0), .val (.int p1), .val (.int p2), .val (.int vcp216), .val (.int vat230), .val (.int v232), .val (.ref b233), .val (.int r260), .unset, .unset, .unset, .unset, .unset, .unset, .unset] [])) _
        exact kt
      obtain ⟨g261, hg261⟩ : ∃ z : Nat → Int32, z = (own_upd (fun _ => v232) k ((vcp216.toInt8.toInt32).toInt8.toInt32)) := ⟨_, rfl⟩
      rw [← hg261] at oAa258
      have k263 : ∀ tg_, Steps p.tables e below (T258.setTop (mkF m 119 #[.val (.int p0), .val (.int p1), .val (.int p2), .val (.int vcp216), .val (.int vat230), .val (.int v232), .val (.ref b233), .val (.int r260), .unset, .unset, .unset, .unset, .unset, .unset, .unset] [(.int (r260 - vat230))])) tg_ → Steps p.tables e below (s₁.setTop (entryFrame m #[(.int p0), (.int p1), (.int p2)] maxLocals)) tg_ := by
        intro tg_ kt
        refine k262 tg_ ?_
        refine XS.iload X258.here hx rfl (hb hby at_114) rfl ?_
        show Steps p.tables e below (T258.setTop (mkF m 116 #[.val (.int p0), .val (.int p1), .val (.int p2), .val (.int vcp216), .val (.int vat230), .val (.int v232), .val (.ref b233), .val (.int r260), .unset, .unset, .unset, .unset, .unset, .unset, .unset] [(.int r260)])) _
        refine XS.iload X258.here hx rfl (hb hby at_116) rfl ?_
        show Steps p.tables e below (T258.setTop (mkF m 118 #[.val (.int p0), .val (.int p1), .val (.int p2), .val (.int vcp216), .val (.int vat230), .val (.int v232), .val (.ref b233), .val (.int r260), .unset, .unset, .unset, .unset, .unset, .unset, .unset] [(.int vat230), (.int r260)])) _
        refine XS.isub X258.here hx rfl (hb hby at_118) rfl ?_
        show Steps p.tables e below (T258.setTop (mkF m 119 #[.val (.int p0), .val (.int p1), .val (.int p2), .val (.int vcp216), .val (.int vat230), .val (.int v232), .val (.ref b233), .val (.int r260), .unset, .unset, .unset, .unset, .unset, .unset, .unset] [(.int (r260 - vat230))])) _
        exact kt
      obtain ⟨v264, hv264⟩ : ∃ z : Int32, z = (r260 - vat230) := ⟨_, rfl⟩
      rw [← hv264] at k263
      have hc124_275 : ¬ (v264 < (1 : Int32)) := (by
          have ar265 := rng32 v264
          have ar266 := rng32 r260
          have ar267 := rng32 vat230
          have ar268 : (1 : Int32).toInt = 1 := by decide
          have ar269 := rng32 (vat230 + (1 : Int32))
          first | have ar270 : (vat230 + (1 : Int32)).toInt = vat230.toInt + 1 := (by have qw := c_iadd vat230 (1 : Int32); omega) | (have ar270 := c_iadd vat230 (1 : Int32); skip)
          have ar271 := congrArg Int32.toInt hr260
          have ar272 := rng32 (r260 - vat230)
          first | have ar273 : (r260 - vat230).toInt = r260.toInt - vat230.toInt := (by have qw := c_isub r260 vat230; omega) | (have ar273 := c_isub r260 vat230; skip)
          have ar274 := congrArg Int32.toInt hv264
          exact fun qq_ => absurd (Int32.lt_iff_toInt_lt.mp qq_) (by omega))
      have hc130_287 : ¬ ((4 : Int32) < v264) := (by
          have ar276 : (4 : Int32).toInt = 4 := by decide
          have ar277 := rng32 v264
          have ar278 := rng32 r260
          have ar279 := rng32 vat230
          have ar280 : (1 : Int32).toInt = 1 := by decide
          have ar281 := rng32 (vat230 + (1 : Int32))
          first | have ar282 : (vat230 + (1 : Int32)).toInt = vat230.toInt + 1 := (by have qw := c_iadd vat230 (1 : Int32); omega) | (have ar282 := c_iadd vat230 (1 : Int32); skip)
          have ar283 := congrArg Int32.toInt hr260
          have ar284 := rng32 (r260 - vat230)
          first | have ar285 : (r260 - vat230).toInt = r260.toInt - vat230.toInt := (by have qw := c_isub r260 vat230; omega) | (have ar285 := c_isub r260 vat230; skip)
          have ar286 := congrArg Int32.toInt hv264
          exact fun qq_ => absurd (Int32.lt_iff_toInt_lt.mp qq_) (by omega))
      have k288 : ∀ tg_, Steps p.tables e below (T258.setTop (mkF m 137 #[.val (.int p0), .val (.int p1), .val (.int p2), .val (.int vcp216), .val (.int vat230), .val (.int v232), .val (.ref b233), .val (.int r260), .val (.int v264), .unset, .unset, .unset, .unset, .unset, .unset] [(.int vat230)])) tg_ → Steps p.tables e below (s₁.setTop (entryFrame m #[(.int p0), (.int p1), (.int p2)] maxLocals)) tg_ := by
        intro tg_ kt
        refine k263 tg_ ?_
        refine XS.istore X258.here hx rfl (hb hby at_119) rfl (l' := #[.val (.int p0), .val (.int p1), .val (.int p2), .val (.int vcp216), .val (.int vat230), .val (.int v232), .val (.ref b233), .val (.int r260), .val (.int v264), .unset, .unset, .unset, .unset, .unset, .unset]) rfl ?_
        show Steps p.tables e below (T258.setTop (mkF m 121 #[.val (.int p0), .val (.int p1), .val (.int p2), .val (.int vcp216), .val (.int vat230), .val (.int v232), .val (.ref b233), .val (.int r260), .val (.int v264), .unset, .unset, .unset, .unset, .unset, .unset] [])) _
        refine XS.iload X258.here hx rfl (hb hby at_121) rfl ?_
        show Steps p.tables e below (T258.setTop (mkF m 123 #[.val (.int p0), .val (.int p1), .val (.int p2), .val (.int vcp216), .val (.int vat230), .val (.int v232), .val (.ref b233), .val (.int r260), .val (.int v264), .unset, .unset, .unset, .unset, .unset, .unset] [(.int v264)])) _
        refine XS.iconst X258.here hx rfl (hb hby at_123) ?_
        show Steps p.tables e below (T258.setTop (mkF m 124 #[.val (.int p0), .val (.int p1), .val (.int p2), .val (.int vcp216), .val (.int vat230), .val (.int v232), .val (.ref b233), .val (.int r260), .val (.int v264), .unset, .unset, .unset, .unset, .unset, .unset] [(.int (1 : Int32)), (.int v264)])) _
        refine XS.icmpNo X258.here hx rfl (hb hby at_124) rfl (flt hc124_275).1 ?_
        show Steps p.tables e below (T258.setTop (mkF m 127 #[.val (.int p0), .val (.int p1), .val (.int p2), .val (.int vcp216), .val (.int vat230), .val (.int v232), .val (.ref b233), .val (.int r260), .val (.int v264), .unset, .unset, .unset, .unset, .unset, .unset] [])) _
        refine XS.iload X258.here hx rfl (hb hby at_127) rfl ?_
        show Steps p.tables e below (T258.setTop (mkF m 129 #[.val (.int p0), .val (.int p1), .val (.int p2), .val (.int vcp216), .val (.int vat230), .val (.int v232), .val (.ref b233), .val (.int r260), .val (.int v264), .unset, .unset, .unset, .unset, .unset, .unset] [(.int v264)])) _
        refine XS.iconst X258.here hx rfl (hb hby at_129) ?_
        show Steps p.tables e below (T258.setTop (mkF m 130 #[.val (.int p0), .val (.int p1), .val (.int p2), .val (.int vcp216), .val (.int vat230), .val (.int v232), .val (.ref b233), .val (.int r260), .val (.int v264), .unset, .unset, .unset, .unset, .unset, .unset] [(.int (4 : Int32)), (.int v264)])) _
        refine XS.icmpYes X258.here hx rfl (pc0 := 130) (pc' := 135) rfl (hb hby at_130) rfl (flt hc130_287).2.2.2 (by decide) (by decide) ?_
        show Steps p.tables e below (T258.setTop (mkF m 135 #[.val (.int p0), .val (.int p1), .val (.int p2), .val (.int vcp216), .val (.int vat230), .val (.int v232), .val (.ref b233), .val (.int r260), .val (.int v264), .unset, .unset, .unset, .unset, .unset, .unset] [])) _
        refine XS.iload X258.here hx rfl (hb hby at_135) rfl ?_
        show Steps p.tables e below (T258.setTop (mkF m 137 #[.val (.int p0), .val (.int p1), .val (.int p2), .val (.int vcp216), .val (.int vat230), .val (.int v232), .val (.ref b233), .val (.int r260), .val (.int v264), .unset, .unset, .unset, .unset, .unset, .unset] [(.int vat230)])) _
        exact kt
      have k302 : ∀ tg_, Steps p.tables e below (T258.setTop (mkF m 154 #[.val (.int p0), .val (.int p1), .val (.int p2), .val (.int vcp216), .val (.int vat230), .val (.int v232), .val (.ref b233), .val (.int r260), .val (.int v264), .unset, .unset, .unset, .unset, .unset, .unset] [])) tg_ → Steps p.tables e below (s₁.setTop (entryFrame m #[(.int p0), (.int p1), (.int p2)] maxLocals)) tg_ := by
        intro tg_ kt
        refine k288 tg_ ?_
        by_cases hj137_289 : (0 : Int32) < vat230
        · have hj290 : (vat230 - (1 : Int32)).toInt = (((k - 1) : Nat) : Int) := by
            have ar291 := rng32 vat230
            have ar292 : (1 : Int32).toInt = 1 := by decide
            have ar293 := rng32 (vat230 - (1 : Int32))
            first | have ar294 : (vat230 - (1 : Int32)).toInt = vat230.toInt - 1 := (by have qw := c_isub vat230 (1 : Int32); omega) | (have ar294 := c_isub vat230 (1 : Int32); skip)
            have ar295 : (0 : Int32).toInt = 0 := by decide
            have ar296 : (0 : Int32).toInt < vat230.toInt := Int32.lt_iff_toInt_lt.mp hj137_289
            omega
          have hv297 : g261 (k - 1) = v232 := by
            have hk1 : 1 ≤ k := by
              have ar298 : (0 : Int32).toInt = 0 := by decide
              have ar299 := rng32 vat230
              have ar300 : (0 : Int32).toInt < vat230.toInt := Int32.lt_iff_toInt_lt.mp hj137_289
              omega
            rw [hg261]; simp only [own_upd]
            rw [if_neg (by omega)]
          have hc149_301 : v232 = v232 := rfl
          refine XS.ifNo X258.here hx rfl (hb hby at_137) rfl ((if0 _ _).trans (tlt hj137_289).2.2.2) ?_
          show Steps p.tables e below (T258.setTop (mkF m 140 #[.val (.int p0), .val (.int p1), .val (.int p2), .val (.int vcp216), .val (.int vat230), .val (.int v232), .val (.ref b233), .val (.int r260), .val (.int v264), .unset, .unset, .unset, .unset, .unset, .unset] [])) _
          refine XS.aload X258.here hx rfl (hb hby at_140) rfl rfl ?_
          show Steps p.tables e below (T258.setTop (mkF m 142 #[.val (.int p0), .val (.int p1), .val (.int p2), .val (.int vcp216), .val (.int vat230), .val (.int v232), .val (.ref b233), .val (.int r260), .val (.int v264), .unset, .unset, .unset, .unset, .unset, .unset] [(.ref b233)])) _
          refine XS.iload X258.here hx rfl (hb hby at_142) rfl ?_
          show Steps p.tables e below (T258.setTop (mkF m 144 #[.val (.int p0), .val (.int p1), .val (.int p2), .val (.int vcp216), .val (.int vat230), .val (.int v232), .val (.ref b233), .val (.int r260), .val (.int v264), .unset, .unset, .unset, .unset, .unset, .unset] [(.int vat230), (.ref b233)])) _
          refine XS.iconst X258.here hx rfl (hb hby at_144) ?_
          show Steps p.tables e below (T258.setTop (mkF m 145 #[.val (.int p0), .val (.int p1), .val (.int p2), .val (.int vcp216), .val (.int vat230), .val (.int v232), .val (.ref b233), .val (.int r260), .val (.int v264), .unset, .unset, .unset, .unset, .unset, .unset] [(.int (1 : Int32)), (.int vat230), (.ref b233)])) _
          refine XS.isub X258.here hx rfl (hb hby at_145) rfl ?_
          show Steps p.tables e below (T258.setTop (mkF m 146 #[.val (.int p0), .val (.int p1), .val (.int p2), .val (.int vcp216), .val (.int vat230), .val (.int v232), .val (.ref b233), .val (.int r260), .val (.int v264), .unset, .unset, .unset, .unset, .unset, .unset] [(.int (vat230 - (1 : Int32))), (.ref b233)])) _
          refine own_ldB X258 hx hZ rfl oAa258 (i := (k - 1)) hj290 (by omega) hv297 (g := (mkF m 146 #[.val (.int p0), .val (.int p1), .val (.int p2), .val (.int vcp216), .val (.int vat230), .val (.int v232), .val (.ref b233), .val (.int r260), .val (.int v264), .unset, .unset, .unset, .unset, .unset, .unset] [(.int (vat230 - (1 : Int32))), (.ref b233)])) rfl rfl (hb hby at_146) _ ?_
          show Steps p.tables e below (T258.setTop (mkF m 147 #[.val (.int p0), .val (.int p1), .val (.int p2), .val (.int vcp216), .val (.int vat230), .val (.int v232), .val (.ref b233), .val (.int r260), .val (.int v264), .unset, .unset, .unset, .unset, .unset, .unset] [(.int v232)])) _
          refine XS.iload X258.here hx rfl (hb hby at_147) rfl ?_
          show Steps p.tables e below (T258.setTop (mkF m 149 #[.val (.int p0), .val (.int p1), .val (.int p2), .val (.int vcp216), .val (.int vat230), .val (.int v232), .val (.ref b233), .val (.int r260), .val (.int v264), .unset, .unset, .unset, .unset, .unset, .unset] [(.int v232), (.int v232)])) _
          refine XS.icmpYes X258.here hx rfl (pc0 := 149) (pc' := 154) rfl (hb hby at_149) rfl (teq hc149_301).1 (by decide) (by decide) ?_
          show Steps p.tables e below (T258.setTop (mkF m 154 #[.val (.int p0), .val (.int p1), .val (.int p2), .val (.int vcp216), .val (.int vat230), .val (.int v232), .val (.ref b233), .val (.int r260), .val (.int v264), .unset, .unset, .unset, .unset, .unset, .unset] [])) _
          simpa only [if_pos hj137_289] using kt
        · refine XS.ifYes X258.here hx rfl (pc0 := 137) (pc' := 154) rfl (hb hby at_137) rfl ((if0 _ _).trans (flt hj137_289).2.2.2) (by decide) (by decide) ?_
          show Steps p.tables e below (T258.setTop (mkF m 154 #[.val (.int p0), .val (.int p1), .val (.int p2), .val (.int vcp216), .val (.int vat230), .val (.int v232), .val (.ref b233), .val (.int r260), .val (.int v264), .unset, .unset, .unset, .unset, .unset, .unset] [])) _
          simpa only [if_neg hj137_289] using kt
      have hj303 : r260.toInt = (((k + 1) : Nat) : Int) := by
        have ar304 := rng32 r260
        have ar305 := rng32 vat230
        have ar306 : (1 : Int32).toInt = 1 := by decide
        have ar307 := rng32 (vat230 + (1 : Int32))
        first | have ar308 : (vat230 + (1 : Int32)).toInt = vat230.toInt + 1 := (by have qw := c_iadd vat230 (1 : Int32); omega) | (have ar308 := c_iadd vat230 (1 : Int32); skip)
        have ar309 := congrArg Int32.toInt hr260
        omega
      have hv310 : g261 (k + 1) = v232 := by
        rw [hg261]; simp only [own_upd]
        rw [if_neg (by omega)]
      have hc161_311 : v232 = v232 := rfl
      have hj312 : vat230.toInt = ((k : Nat) : Int) := by
        have ar313 := rng32 vat230
        omega
      have hv314 : g261 k = ((vcp216.toInt8.toInt32).toInt8.toInt32) := by
        rw [hg261]; simp only [own_upd]
        rw [if_pos (by omega)]
      have k315 : ∀ tg_, Steps p.tables e below (T258.setTop (mkF m 175 #[.val (.int p0), .val (.int p1), .val (.int p2), .val (.int vcp216), .val (.int vat230), .val (.int v232), .val (.ref b233), .val (.int r260), .val (.int v264), .unset, .unset, .unset, .unset, .unset, .unset] [(.int (((vcp216.toInt8.toInt32).toInt8.toInt32) &&& (255 : Int32)))])) tg_ → Steps p.tables e below (s₁.setTop (entryFrame m #[(.int p0), (.int p1), (.int p2)] maxLocals)) tg_ := by
        intro tg_ kt
        refine k302 tg_ ?_
        refine XS.aload X258.here hx rfl (hb hby at_154) rfl rfl ?_
        show Steps p.tables e below (T258.setTop (mkF m 156 #[.val (.int p0), .val (.int p1), .val (.int p2), .val (.int vcp216), .val (.int vat230), .val (.int v232), .val (.ref b233), .val (.int r260), .val (.int v264), .unset, .unset, .unset, .unset, .unset, .unset] [(.ref b233)])) _
        refine XS.iload X258.here hx rfl (hb hby at_156) rfl ?_
        show Steps p.tables e below (T258.setTop (mkF m 158 #[.val (.int p0), .val (.int p1), .val (.int p2), .val (.int vcp216), .val (.int vat230), .val (.int v232), .val (.ref b233), .val (.int r260), .val (.int v264), .unset, .unset, .unset, .unset, .unset, .unset] [(.int r260), (.ref b233)])) _
        refine own_ldB X258 hx hZ rfl oAa258 (i := (k + 1)) hj303 (by omega) hv310 (g := (mkF m 158 #[.val (.int p0), .val (.int p1), .val (.int p2), .val (.int vcp216), .val (.int vat230), .val (.int v232), .val (.ref b233), .val (.int r260), .val (.int v264), .unset, .unset, .unset, .unset, .unset, .unset] [(.int r260), (.ref b233)])) rfl rfl (hb hby at_158) _ ?_
        show Steps p.tables e below (T258.setTop (mkF m 159 #[.val (.int p0), .val (.int p1), .val (.int p2), .val (.int vcp216), .val (.int vat230), .val (.int v232), .val (.ref b233), .val (.int r260), .val (.int v264), .unset, .unset, .unset, .unset, .unset, .unset] [(.int v232)])) _
        refine XS.iload X258.here hx rfl (hb hby at_159) rfl ?_
        show Steps p.tables e below (T258.setTop (mkF m 161 #[.val (.int p0), .val (.int p1), .val (.int p2), .val (.int vcp216), .val (.int vat230), .val (.int v232), .val (.ref b233), .val (.int r260), .val (.int v264), .unset, .unset, .unset, .unset, .unset, .unset] [(.int v232), (.int v232)])) _
        refine XS.icmpYes X258.here hx rfl (pc0 := 161) (pc' := 166) rfl (hb hby at_161) rfl (teq hc161_311).1 (by decide) (by decide) ?_
        show Steps p.tables e below (T258.setTop (mkF m 166 #[.val (.int p0), .val (.int p1), .val (.int p2), .val (.int vcp216), .val (.int vat230), .val (.int v232), .val (.ref b233), .val (.int r260), .val (.int v264), .unset, .unset, .unset, .unset, .unset, .unset] [])) _
        refine XS.aload X258.here hx rfl (hb hby at_166) rfl rfl ?_
        show Steps p.tables e below (T258.setTop (mkF m 168 #[.val (.int p0), .val (.int p1), .val (.int p2), .val (.int vcp216), .val (.int vat230), .val (.int v232), .val (.ref b233), .val (.int r260), .val (.int v264), .unset, .unset, .unset, .unset, .unset, .unset] [(.ref b233)])) _
        refine XS.iload X258.here hx rfl (hb hby at_168) rfl ?_
        show Steps p.tables e below (T258.setTop (mkF m 170 #[.val (.int p0), .val (.int p1), .val (.int p2), .val (.int vcp216), .val (.int vat230), .val (.int v232), .val (.ref b233), .val (.int r260), .val (.int v264), .unset, .unset, .unset, .unset, .unset, .unset] [(.int vat230), (.ref b233)])) _
        refine own_ldB X258 hx hZ rfl oAa258 (i := k) hj312 (by omega) hv314 (g := (mkF m 170 #[.val (.int p0), .val (.int p1), .val (.int p2), .val (.int vcp216), .val (.int vat230), .val (.int v232), .val (.ref b233), .val (.int r260), .val (.int v264), .unset, .unset, .unset, .unset, .unset, .unset] [(.int vat230), (.ref b233)])) rfl rfl (hb hby at_170) _ ?_
        show Steps p.tables e below (T258.setTop (mkF m 171 #[.val (.int p0), .val (.int p1), .val (.int p2), .val (.int vcp216), .val (.int vat230), .val (.int v232), .val (.ref b233), .val (.int r260), .val (.int v264), .unset, .unset, .unset, .unset, .unset, .unset] [(.int ((vcp216.toInt8.toInt32).toInt8.toInt32))])) _
        refine XS.sipush X258.here hx rfl (hb hby at_171) ?_
        show Steps p.tables e below (T258.setTop (mkF m 174 #[.val (.int p0), .val (.int p1), .val (.int p2), .val (.int vcp216), .val (.int vat230), .val (.int v232), .val (.ref b233), .val (.int r260), .val (.int v264), .unset, .unset, .unset, .unset, .unset, .unset] [(.int (255 : Int32)), (.int ((vcp216.toInt8.toInt32).toInt8.toInt32))])) _
        refine XS.iand X258.here hx rfl (hb hby at_174) rfl ?_
        show Steps p.tables e below (T258.setTop (mkF m 175 #[.val (.int p0), .val (.int p1), .val (.int p2), .val (.int vcp216), .val (.int vat230), .val (.int v232), .val (.ref b233), .val (.int r260), .val (.int v264), .unset, .unset, .unset, .unset, .unset, .unset] [(.int (((vcp216.toInt8.toInt32).toInt8.toInt32) &&& (255 : Int32)))])) _
        exact kt
      obtain ⟨vb316, hvb316⟩ : ∃ z : Int32, z = (((vcp216.toInt8.toInt32).toInt8.toInt32) &&& (255 : Int32)) := ⟨_, rfl⟩
      rw [← hvb316] at k315
      have k317 : ∀ tg_, Steps p.tables e below (T258.setTop (mkF m 177 #[.val (.int p0), .val (.int p1), .val (.int p2), .val (.int vcp216), .val (.int vat230), .val (.int v232), .val (.ref b233), .val (.int r260), .val (.int v264), .val (.int vb316), .unset, .unset, .unset, .unset, .unset] [])) tg_ → Steps p.tables e below (s₁.setTop (entryFrame m #[(.int p0), (.int p1), (.int p2)] maxLocals)) tg_ := by
        intro tg_ kt
        refine k315 tg_ ?_
        refine XS.istore X258.here hx rfl (hb hby at_175) rfl (l' := #[.val (.int p0), .val (.int p1), .val (.int p2), .val (.int vcp216), .val (.int vat230), .val (.int v232), .val (.ref b233), .val (.int r260), .val (.int v264), .val (.int vb316), .unset, .unset, .unset, .unset, .unset]) rfl ?_
        show Steps p.tables e below (T258.setTop (mkF m 177 #[.val (.int p0), .val (.int p1), .val (.int p2), .val (.int vcp216), .val (.int vat230), .val (.int v232), .val (.ref b233), .val (.int r260), .val (.int v264), .val (.int vb316), .unset, .unset, .unset, .unset, .unset] [])) _
        exact kt
      have hbv_vb316 : vb316.toInt = vcp216.toInt := by rw [hvb316]; exact own_e1_0 vcp216 (by omega) (by omega)
      have hc180_328 : v264 = (1 : Int32) := (by
          have ar318 := rng32 v264
          have ar319 := rng32 r260
          have ar320 := rng32 vat230
          have ar321 : (1 : Int32).toInt = 1 := by decide
          have ar322 := rng32 (vat230 + (1 : Int32))
          first | have ar323 : (vat230 + (1 : Int32)).toInt = vat230.toInt + 1 := (by have qw := c_iadd vat230 (1 : Int32); omega) | (have ar323 := c_iadd vat230 (1 : Int32); skip)
          have ar324 := congrArg Int32.toInt hr260
          have ar325 := rng32 (r260 - vat230)
          first | have ar326 : (r260 - vat230).toInt = r260.toInt - vat230.toInt := (by have qw := c_isub r260 vat230; omega) | (have ar326 := c_isub r260 vat230; skip)
          have ar327 := congrArg Int32.toInt hv264
          exact Int32.toInt_inj.mp (by omega))
      have hc188_331 : vb316 < (128 : Int32) := (by
          have ar329 := rng32 vb316
          have ar330 : (128 : Int32).toInt = 128 := by decide
          exact Int32.lt_iff_toInt_lt.mpr (by omega))
      have hc437_334 : ¬ (vb316 < (0 : Int32)) := (by
          have ar332 := rng32 vb316
          have ar333 : (0 : Int32).toInt = 0 := by decide
          exact fun qq_ => absurd (Int32.lt_iff_toInt_lt.mp qq_) (by omega))
      have hc443_337 : vb316 = vcp216 := (by
          have ar335 := rng32 vb316
          have ar336 := rng32 vcp216
          exact Int32.toInt_inj.mp (by omega))
      have k338 : ∀ tg_, Steps p.tables e below (T258.setTop (mkF m 451 #[.val (.int p0), .val (.int p1), .val (.int p2), .val (.int vcp216), .val (.int vat230), .val (.int v232), .val (.ref b233), .val (.int r260), .val (.int v264), .val (.int vb316), .val (.int vb316), .val (.int (0 : Int32)), .unset, .unset, .unset] [(.int (1 : Int32))])) tg_ → Steps p.tables e below (s₁.setTop (entryFrame m #[(.int p0), (.int p1), (.int p2)] maxLocals)) tg_ := by
        intro tg_ kt
        refine k317 tg_ ?_
        refine XS.iload X258.here hx rfl (hb hby at_177) rfl ?_
        show Steps p.tables e below (T258.setTop (mkF m 179 #[.val (.int p0), .val (.int p1), .val (.int p2), .val (.int vcp216), .val (.int vat230), .val (.int v232), .val (.ref b233), .val (.int r260), .val (.int v264), .val (.int vb316), .unset, .unset, .unset, .unset, .unset] [(.int v264)])) _
        refine XS.iconst X258.here hx rfl (hb hby at_179) ?_
        show Steps p.tables e below (T258.setTop (mkF m 180 #[.val (.int p0), .val (.int p1), .val (.int p2), .val (.int vcp216), .val (.int vat230), .val (.int v232), .val (.ref b233), .val (.int r260), .val (.int v264), .val (.int vb316), .unset, .unset, .unset, .unset, .unset] [(.int (1 : Int32)), (.int v264)])) _
        refine XS.icmpNo X258.here hx rfl (hb hby at_180) rfl (teq hc180_328).2 ?_
        show Steps p.tables e below (T258.setTop (mkF m 183 #[.val (.int p0), .val (.int p1), .val (.int p2), .val (.int vcp216), .val (.int vat230), .val (.int v232), .val (.ref b233), .val (.int r260), .val (.int v264), .val (.int vb316), .unset, .unset, .unset, .unset, .unset] [])) _
        refine XS.iload X258.here hx rfl (hb hby at_183) rfl ?_
        show Steps p.tables e below (T258.setTop (mkF m 185 #[.val (.int p0), .val (.int p1), .val (.int p2), .val (.int vcp216), .val (.int vat230), .val (.int v232), .val (.ref b233), .val (.int r260), .val (.int v264), .val (.int vb316), .unset, .unset, .unset, .unset, .unset] [(.int vb316)])) _
        refine XS.sipush X258.here hx rfl (hb hby at_185) ?_
        show Steps p.tables e below (T258.setTop (mkF m 188 #[.val (.int p0), .val (.int p1), .val (.int p2), .val (.int vcp216), .val (.int vat230), .val (.int v232), .val (.ref b233), .val (.int r260), .val (.int v264), .val (.int vb316), .unset, .unset, .unset, .unset, .unset] [(.int (128 : Int32)), (.int vb316)])) _
        refine XS.icmpYes X258.here hx rfl (pc0 := 188) (pc' := 193) rfl (hb hby at_188) rfl (tlt hc188_331).1 (by decide) (by decide) ?_
        show Steps p.tables e below (T258.setTop (mkF m 193 #[.val (.int p0), .val (.int p1), .val (.int p2), .val (.int vcp216), .val (.int vat230), .val (.int v232), .val (.ref b233), .val (.int r260), .val (.int v264), .val (.int vb316), .unset, .unset, .unset, .unset, .unset] [])) _
        refine XS.iload X258.here hx rfl (hb hby at_193) rfl ?_
        show Steps p.tables e below (T258.setTop (mkF m 195 #[.val (.int p0), .val (.int p1), .val (.int p2), .val (.int vcp216), .val (.int vat230), .val (.int v232), .val (.ref b233), .val (.int r260), .val (.int v264), .val (.int vb316), .unset, .unset, .unset, .unset, .unset] [(.int vb316)])) _
        refine XS.istore X258.here hx rfl (hb hby at_195) rfl (l' := #[.val (.int p0), .val (.int p1), .val (.int p2), .val (.int vcp216), .val (.int vat230), .val (.int v232), .val (.ref b233), .val (.int r260), .val (.int v264), .val (.int vb316), .val (.int vb316), .unset, .unset, .unset, .unset]) rfl ?_
        show Steps p.tables e below (T258.setTop (mkF m 197 #[.val (.int p0), .val (.int p1), .val (.int p2), .val (.int vcp216), .val (.int vat230), .val (.int v232), .val (.ref b233), .val (.int r260), .val (.int v264), .val (.int vb316), .val (.int vb316), .unset, .unset, .unset, .unset] [])) _
        refine XS.iconst X258.here hx rfl (hb hby at_197) ?_
        show Steps p.tables e below (T258.setTop (mkF m 198 #[.val (.int p0), .val (.int p1), .val (.int p2), .val (.int vcp216), .val (.int vat230), .val (.int v232), .val (.ref b233), .val (.int r260), .val (.int v264), .val (.int vb316), .val (.int vb316), .unset, .unset, .unset, .unset] [(.int (0 : Int32))])) _
        refine XS.istore X258.here hx rfl (hb hby at_198) rfl (l' := #[.val (.int p0), .val (.int p1), .val (.int p2), .val (.int vcp216), .val (.int vat230), .val (.int v232), .val (.ref b233), .val (.int r260), .val (.int v264), .val (.int vb316), .val (.int vb316), .val (.int (0 : Int32)), .unset, .unset, .unset]) rfl ?_
        show Steps p.tables e below (T258.setTop (mkF m 200 #[.val (.int p0), .val (.int p1), .val (.int p2), .val (.int vcp216), .val (.int vat230), .val (.int v232), .val (.ref b233), .val (.int r260), .val (.int v264), .val (.int vb316), .val (.int vb316), .val (.int (0 : Int32)), .unset, .unset, .unset] [])) _
        refine XS.goto X258.here hx rfl (pc0 := 200) (pc' := 433) rfl (hb hby at_200) (by decide) (by decide) ?_
        show Steps p.tables e below (T258.setTop (mkF m 433 #[.val (.int p0), .val (.int p1), .val (.int p2), .val (.int vcp216), .val (.int vat230), .val (.int v232), .val (.ref b233), .val (.int r260), .val (.int v264), .val (.int vb316), .val (.int vb316), .val (.int (0 : Int32)), .unset, .unset, .unset] [])) _
        refine XS.iload X258.here hx rfl (hb hby at_433) rfl ?_
        show Steps p.tables e below (T258.setTop (mkF m 435 #[.val (.int p0), .val (.int p1), .val (.int p2), .val (.int vcp216), .val (.int vat230), .val (.int v232), .val (.ref b233), .val (.int r260), .val (.int v264), .val (.int vb316), .val (.int vb316), .val (.int (0 : Int32)), .unset, .unset, .unset] [(.int vb316)])) _
        refine XS.iload X258.here hx rfl (hb hby at_435) rfl ?_
        show Steps p.tables e below (T258.setTop (mkF m 437 #[.val (.int p0), .val (.int p1), .val (.int p2), .val (.int vcp216), .val (.int vat230), .val (.int v232), .val (.ref b233), .val (.int r260), .val (.int v264), .val (.int vb316), .val (.int vb316), .val (.int (0 : Int32)), .unset, .unset, .unset] [(.int (0 : Int32)), (.int vb316)])) _
        refine XS.icmpNo X258.here hx rfl (hb hby at_437) rfl (flt hc437_334).1 ?_
        show Steps p.tables e below (T258.setTop (mkF m 440 #[.val (.int p0), .val (.int p1), .val (.int p2), .val (.int vcp216), .val (.int vat230), .val (.int v232), .val (.ref b233), .val (.int r260), .val (.int v264), .val (.int vb316), .val (.int vb316), .val (.int (0 : Int32)), .unset, .unset, .unset] [])) _
        refine XS.iload X258.here hx rfl (hb hby at_440) rfl ?_
        show Steps p.tables e below (T258.setTop (mkF m 442 #[.val (.int p0), .val (.int p1), .val (.int p2), .val (.int vcp216), .val (.int vat230), .val (.int v232), .val (.ref b233), .val (.int r260), .val (.int v264), .val (.int vb316), .val (.int vb316), .val (.int (0 : Int32)), .unset, .unset, .unset] [(.int vb316)])) _
        refine XS.iloadN X258.here hx rfl (hb hby at_442) rfl ?_
        show Steps p.tables e below (T258.setTop (mkF m 443 #[.val (.int p0), .val (.int p1), .val (.int p2), .val (.int vcp216), .val (.int vat230), .val (.int v232), .val (.ref b233), .val (.int r260), .val (.int v264), .val (.int vb316), .val (.int vb316), .val (.int (0 : Int32)), .unset, .unset, .unset] [(.int vcp216), (.int vb316)])) _
        refine XS.icmpNo X258.here hx rfl (hb hby at_443) rfl (teq hc443_337).2 ?_
        show Steps p.tables e below (T258.setTop (mkF m 446 #[.val (.int p0), .val (.int p1), .val (.int p2), .val (.int vcp216), .val (.int vat230), .val (.int v232), .val (.ref b233), .val (.int r260), .val (.int v264), .val (.int vb316), .val (.int vb316), .val (.int (0 : Int32)), .unset, .unset, .unset] [])) _
        refine XS.iconst X258.here hx rfl (hb hby at_446) ?_
        show Steps p.tables e below (T258.setTop (mkF m 447 #[.val (.int p0), .val (.int p1), .val (.int p2), .val (.int vcp216), .val (.int vat230), .val (.int v232), .val (.ref b233), .val (.int r260), .val (.int v264), .val (.int vb316), .val (.int vb316), .val (.int (0 : Int32)), .unset, .unset, .unset] [(.int (1 : Int32))])) _
        refine XS.goto X258.here hx rfl (pc0 := 447) (pc' := 451) rfl (hb hby at_447) (by decide) (by decide) ?_
        show Steps p.tables e below (T258.setTop (mkF m 451 #[.val (.int p0), .val (.int p1), .val (.int p2), .val (.int vcp216), .val (.int vat230), .val (.int v232), .val (.ref b233), .val (.int r260), .val (.int v264), .val (.int vb316), .val (.int vb316), .val (.int (0 : Int32)), .unset, .unset, .unset] [(.int (1 : Int32))])) _
        exact kt
      obtain ⟨fs, hr, hrun, hended, hW, hsame⟩ := X258.leave (v := some (.int (1 : Int32))) (fun h => by rw [Bd.returns] at h; cases h)
      refine ⟨_, _, k338 _ (retN X258 hx (t := .boolean) Bd.returns (by simp) (hb hby at_451) hr), hrun, hended, _, _, rfl, ?_, ⟨_, rfl⟩, hW, hsame.mono (by decide) (by decide)⟩
      show Q0 Z p0 p1 p2 h0 n0 _ T258.heap _
      exact ⟨rfl, N258⟩
    · by_cases hc109_339 : vcp216 < (2048 : Int32)
      · have Lhc109_256 : ¬ (vcp216.toInt < 128) := fun q => hc109_256 (Int32.lt_iff_toInt_lt.mpr q)
        have Lhc109_339 : vcp216.toInt < 2048 := Int32.lt_iff_toInt_lt.mp hc109_339
        have f340 := (Nat.le_trans (Nat.le_trans (Nat.le_trans (Nat.le_trans (Nat.le_trans (Nat.le_trans (Nat.le_trans (Nat.le_trans (Nat.le_trans (Nat.le_trans (Nat.le_trans (Nat.le_trans (Nat.le_trans Z0 ((Keep.refl _ []).ext E233).1) (Keep.of_wr W234).1) (Keep.of_wr W235).1) (Keep.of_wr W236).1) (Keep.of_wr W237).1) (Keep.of_wr W238).1) (Keep.of_wr W240).1) (Keep.of_wr W241).1) (Keep.of_wr W242).1) (Keep.of_wr W243).1) (Keep.of_wr W244).1) (Keep.of_wr W245).1) (Keep.of_wr W246).1)
        obtain ⟨_, _, ⟨T341, L341, kc341, nc341⟩, -, X341, ⟨Lc341, hQ341, l341, y341, z341⟩, st341⟩ := Jvm.LawKit.callS X246 hx (y := (⟨"com/example/benzer/benzer/FeatureHash", "encode", "(I[BI)I"⟩ : MethodName)) hown (mvT hZ (hw _ (List.mem_of_getElem? (i := 4) rfl))) (mvT hZ (hw _ (List.mem_of_getElem? (i := 5) rfl))) (mvT hZ (hw _ (List.mem_of_getElem? (i := 6) rfl))) (mvT hZ (hw _ (List.mem_of_getElem? (i := 7) rfl))) (by decide) (backOf (W := 0) (rmenc2 l Z a0 hw [] vcp216 b233 vat230 k (fun _ => v232) h246 n0 f340 V248 ge_b233 hk hk7 hc109_256 hc109_339) hZ (hw _ (List.mem_of_getElem? (i := 7) rfl)) (hw _ (List.mem_of_getElem? (i := 6) rfl)) (by decide) (by decide)) (g := (mkF m 109 #[.val (.int p0), .val (.int p1), .val (.int p2), .val (.int vcp216), .val (.int vat230), .val (.int v232), .val (.ref b233), .unset, .unset, .unset, .unset, .unset, .unset, .unset, .unset] [(.int vat230), (.ref b233), (.int vcp216)])) rfl (by rw [hml]; rfl) (argsL := [(.int vcp216), (.ref b233), (.int vat230)]) (rest := []) (lenOf pd_0 rfl) rfl (by show 2 * 0 + _ ≤ _; exact Nat.le_of_eq rfl) (hb hby at_109) (fun _ _ => ⟨rfl, e246, (by decide : 1 + 0 ≤ _), (by decide : 12 + 0 ≤ _)⟩)
        dsimp only [Pt.U, Pt.locs, Pt.cells, Pt.slots] at X341 l341 y341 z341 st341 hQ341
        rw [l341, y341, z341] at X341
        replace X341 : Stand p l e room_1 s m #[(.int p0), (.int p1), (.int p2)] below meth c T341 _ 1 12 := X341
        obtain ⟨rfl, Nq341, oK341, oAa341⟩ := hQ341
        have N341 := Fr.app N246 Nq341
        have k342 : ∀ tg_, Steps p.tables e below (T341.setTop (mkF m 112 #[.val (.int p0), .val (.int p1), .val (.int p2), .val (.int vcp216), .val (.int vat230), .val (.int v232), .val (.ref b233), .unset, .unset, .unset, .unset, .unset, .unset, .unset, .unset] [(.int ((vat230 + (1 : Int32)) + (1 : Int32)))])) tg_ → Steps p.tables e below (s₁.setTop (entryFrame m #[(.int p0), (.int p1), (.int p2)] maxLocals)) tg_ := by
          intro tg_ kt
          refine k255 tg_ ?_
          refine st341 _ ?_
          show Steps p.tables e below (T341.setTop (mkF m 112 #[.val (.int p0), .val (.int p1), .val (.int p2), .val (.int vcp216), .val (.int vat230), .val (.int v232), .val (.ref b233), .unset, .unset, .unset, .unset, .unset, .unset, .unset, .unset] [(.int ((vat230 + (1 : Int32)) + (1 : Int32)))])) _
          exact kt
        obtain ⟨r343, hr343⟩ : ∃ z : Int32, z = ((vat230 + (1 : Int32)) + (1 : Int32)) := ⟨_, rfl⟩
        rw [← hr343] at k342
        have k345 : ∀ tg_, Steps p.tables e below (T341.setTop (mkF m 114 #[.val (.int p0), .val (.int p1), .val (.int p2), .val (.int vcp216), .val (.int vat230), .val (.int v232), .val (.ref b233), .val (.int r343), .unset, .unset, .unset, .unset, .unset, .unset, .unset] [])) tg_ → Steps p.tables e below (s₁.setTop (entryFrame m #[(.int p0), (.int p1), (.int p2)] maxLocals)) tg_ := by
          intro tg_ kt
          refine k342 tg_ ?_
          show Steps p.tables e below (T341.setTop (mkF m 112 #[.val (.int p0), .val (.int p1), .val (.int p2), .val (.int vcp216), .val (.int vat230), .val (.int v232), .val (.ref b233), .unset, .unset, .unset, .unset, .unset, .unset, .unset, .unset] [(.int r343)])) _
          refine XS.istore X341.here hx rfl (hb hby at_112) rfl (l' := #[.val (.int p0), .val (.int p1), .val (.int p2), .val (.int vcp216), .val (.int vat230), .val (.int v232), .val (.ref b233), .val (.int r343), .unset, .unset, .unset, .unset, .unset, .unset, .unset]) rfl ?_
          show Steps p.tables e below (T341.setTop (mkF m 114 #[.val (.int p0), .val (.int p1), .val (.int p2), .val (.int vcp216), .val (.int vat230), .val (.int v232), .val (.ref b233), .val (.int r343), .unset, .unset, .unset, .unset, .unset, .unset, .unset] [])) _
          exact kt
        obtain ⟨g344, hg344⟩ : ∃ z : Nat → Int32, z = (own_upd (own_upd (fun _ => v232) k ((((192 : Int32) ||| ((vcp216.toUInt32 >>> ((6 : Int32) &&& 31).toUInt32).toInt32)).toInt8.toInt32).toInt8.toInt32)) (k + 1) ((((128 : Int32) ||| (vcp216 &&& (63 : Int32))).toInt8.toInt32).toInt8.toInt32)) := ⟨_, rfl⟩
        rw [← hg344] at oAa341
        have k346 : ∀ tg_, Steps p.tables e below (T341.setTop (mkF m 119 #[.val (.int p0), .val (.int p1), .val (.int p2), .val (.int vcp216), .val (.int vat230), .val (.int v232), .val (.ref b233), .val (.int r343), .unset, .unset, .unset, .unset, .unset, .unset, .unset] [(.int (r343 - vat230))])) tg_ → Steps p.tables e below (s₁.setTop (entryFrame m #[(.int p0), (.int p1), (.int p2)] maxLocals)) tg_ := by
          intro tg_ kt
          refine k345 tg_ ?_
          refine XS.iload X341.here hx rfl (hb hby at_114) rfl ?_
          show Steps p.tables e below (T341.setTop (mkF m 116 #[.val (.int p0), .val (.int p1), .val (.int p2), .val (.int vcp216), .val (.int vat230), .val (.int v232), .val (.ref b233), .val (.int r343), .unset, .unset, .unset, .unset, .unset, .unset, .unset] [(.int r343)])) _
          refine XS.iload X341.here hx rfl (hb hby at_116) rfl ?_
          show Steps p.tables e below (T341.setTop (mkF m 118 #[.val (.int p0), .val (.int p1), .val (.int p2), .val (.int vcp216), .val (.int vat230), .val (.int v232), .val (.ref b233), .val (.int r343), .unset, .unset, .unset, .unset, .unset, .unset, .unset] [(.int vat230), (.int r343)])) _
          refine XS.isub X341.here hx rfl (hb hby at_118) rfl ?_
          show Steps p.tables e below (T341.setTop (mkF m 119 #[.val (.int p0), .val (.int p1), .val (.int p2), .val (.int vcp216), .val (.int vat230), .val (.int v232), .val (.ref b233), .val (.int r343), .unset, .unset, .unset, .unset, .unset, .unset, .unset] [(.int (r343 - vat230))])) _
          exact kt
        obtain ⟨v347, hv347⟩ : ∃ z : Int32, z = (r343 - vat230) := ⟨_, rfl⟩
        rw [← hv347] at k346
        have hc124_360 : ¬ (v347 < (1 : Int32)) := (by
            have ar348 := rng32 v347
            have ar349 := rng32 r343
            have ar350 := rng32 vat230
            have ar351 : (1 : Int32).toInt = 1 := by decide
            have ar352 := rng32 (vat230 + (1 : Int32))
            first | have ar353 : (vat230 + (1 : Int32)).toInt = vat230.toInt + 1 := (by have qw := c_iadd vat230 (1 : Int32); omega) | (have ar353 := c_iadd vat230 (1 : Int32); skip)
            have ar354 := rng32 ((vat230 + (1 : Int32)) + (1 : Int32))
            first | have ar355 : ((vat230 + (1 : Int32)) + (1 : Int32)).toInt = (vat230 + (1 : Int32)).toInt + 1 := (by have qw := c_iadd (vat230 + (1 : Int32)) (1 : Int32); omega) | (have ar355 := c_iadd (vat230 + (1 : Int32)) (1 : Int32); skip)
            have ar356 := congrArg Int32.toInt hr343
            have ar357 := rng32 (r343 - vat230)
            first | have ar358 : (r343 - vat230).toInt = r343.toInt - vat230.toInt := (by have qw := c_isub r343 vat230; omega) | (have ar358 := c_isub r343 vat230; skip)
            have ar359 := congrArg Int32.toInt hv347
            exact fun qq_ => absurd (Int32.lt_iff_toInt_lt.mp qq_) (by omega))
        have hc130_374 : ¬ ((4 : Int32) < v347) := (by
            have ar361 : (4 : Int32).toInt = 4 := by decide
            have ar362 := rng32 v347
            have ar363 := rng32 r343
            have ar364 := rng32 vat230
            have ar365 : (1 : Int32).toInt = 1 := by decide
            have ar366 := rng32 (vat230 + (1 : Int32))
            first | have ar367 : (vat230 + (1 : Int32)).toInt = vat230.toInt + 1 := (by have qw := c_iadd vat230 (1 : Int32); omega) | (have ar367 := c_iadd vat230 (1 : Int32); skip)
            have ar368 := rng32 ((vat230 + (1 : Int32)) + (1 : Int32))
            first | have ar369 : ((vat230 + (1 : Int32)) + (1 : Int32)).toInt = (vat230 + (1 : Int32)).toInt + 1 := (by have qw := c_iadd (vat230 + (1 : Int32)) (1 : Int32); omega) | (have ar369 := c_iadd (vat230 + (1 : Int32)) (1 : Int32); skip)
            have ar370 := congrArg Int32.toInt hr343
            have ar371 := rng32 (r343 - vat230)
            first | have ar372 : (r343 - vat230).toInt = r343.toInt - vat230.toInt := (by have qw := c_isub r343 vat230; omega) | (have ar372 := c_isub r343 vat230; skip)
            have ar373 := congrArg Int32.toInt hv347
            exact fun qq_ => absurd (Int32.lt_iff_toInt_lt.mp qq_) (by omega))
        have k375 : ∀ tg_, Steps p.tables e below (T341.setTop (mkF m 137 #[.val (.int p0), .val (.int p1), .val (.int p2), .val (.int vcp216), .val (.int vat230), .val (.int v232), .val (.ref b233), .val (.int r343), .val (.int v347), .unset, .unset, .unset, .unset, .unset, .unset] [(.int vat230)])) tg_ → Steps p.tables e below (s₁.setTop (entryFrame m #[(.int p0), (.int p1), (.int p2)] maxLocals)) tg_ := by
          intro tg_ kt
          refine k346 tg_ ?_
          refine XS.istore X341.here hx rfl (hb hby at_119) rfl (l' := #[.val (.int p0), .val (.int p1), .val (.int p2), .val (.int vcp216), .val (.int vat230), .val (.int v232), .val (.ref b233), .val (.int r343), .val (.int v347), .unset, .unset, .unset, .unset, .unset, .unset]) rfl ?_
          show Steps p.tables e below (T341.setTop (mkF m 121 #[.val (.int p0), .val (.int p1), .val (.int p2), .val (.int vcp216), .val (.int vat230), .val (.int v232), .val (.ref b233), .val (.int r343), .val (.int v347), .unset, .unset, .unset, .unset, .unset, .unset] [])) _
          refine XS.iload X341.here hx rfl (hb hby at_121) rfl ?_
          show Steps p.tables e below (T341.setTop (mkF m 123 #[.val (.int p0), .val (.int p1), .val (.int p2), .val (.int vcp216), .val (.int vat230), .val (.int v232), .val (.ref b233), .val (.int r343), .val (.int v347), .unset, .unset, .unset, .unset, .unset, .unset] [(.int v347)])) _
          refine XS.iconst X341.here hx rfl (hb hby at_123) ?_
          show Steps p.tables e below (T341.setTop (mkF m 124 #[.val (.int p0), .val (.int p1), .val (.int p2), .val (.int vcp216), .val (.int vat230), .val (.int v232), .val (.ref b233), .val (.int r343), .val (.int v347), .unset, .unset, .unset, .unset, .unset, .unset] [(.int (1 : Int32)), (.int v347)])) _
          refine XS.icmpNo X341.here hx rfl (hb hby at_124) rfl (flt hc124_360).1 ?_
          show Steps p.tables e below (T341.setTop (mkF m 127 #[.val (.int p0), .val (.int p1), .val (.int p2), .val (.int vcp216), .val (.int vat230), .val (.int v232), .val (.ref b233), .val (.int r343), .val (.int v347), .unset, .unset, .unset, .unset, .unset, .unset] [])) _
          refine XS.iload X341.here hx rfl (hb hby at_127) rfl ?_
          show Steps p.tables e below (T341.setTop (mkF m 129 #[.val (.int p0), .val (.int p1), .val (.int p2), .val (.int vcp216), .val (.int vat230), .val (.int v232), .val (.ref b233), .val (.int r343), .val (.int v347), .unset, .unset, .unset, .unset, .unset, .unset] [(.int v347)])) _
          refine XS.iconst X341.here hx rfl (hb hby at_129) ?_
          show Steps p.tables e below (T341.setTop (mkF m 130 #[.val (.int p0), .val (.int p1), .val (.int p2), .val (.int vcp216), .val (.int vat230), .val (.int v232), .val (.ref b233), .val (.int r343), .val (.int v347), .unset, .unset, .unset, .unset, .unset, .unset] [(.int (4 : Int32)), (.int v347)])) _
          refine XS.icmpYes X341.here hx rfl (pc0 := 130) (pc' := 135) rfl (hb hby at_130) rfl (flt hc130_374).2.2.2 (by decide) (by decide) ?_
          show Steps p.tables e below (T341.setTop (mkF m 135 #[.val (.int p0), .val (.int p1), .val (.int p2), .val (.int vcp216), .val (.int vat230), .val (.int v232), .val (.ref b233), .val (.int r343), .val (.int v347), .unset, .unset, .unset, .unset, .unset, .unset] [])) _
          refine XS.iload X341.here hx rfl (hb hby at_135) rfl ?_
          show Steps p.tables e below (T341.setTop (mkF m 137 #[.val (.int p0), .val (.int p1), .val (.int p2), .val (.int vcp216), .val (.int vat230), .val (.int v232), .val (.ref b233), .val (.int r343), .val (.int v347), .unset, .unset, .unset, .unset, .unset, .unset] [(.int vat230)])) _
          exact kt
        have k389 : ∀ tg_, Steps p.tables e below (T341.setTop (mkF m 154 #[.val (.int p0), .val (.int p1), .val (.int p2), .val (.int vcp216), .val (.int vat230), .val (.int v232), .val (.ref b233), .val (.int r343), .val (.int v347), .unset, .unset, .unset, .unset, .unset, .unset] [])) tg_ → Steps p.tables e below (s₁.setTop (entryFrame m #[(.int p0), (.int p1), (.int p2)] maxLocals)) tg_ := by
          intro tg_ kt
          refine k375 tg_ ?_
          by_cases hj137_376 : (0 : Int32) < vat230
          · have hj377 : (vat230 - (1 : Int32)).toInt = (((k - 1) : Nat) : Int) := by
              have ar378 := rng32 vat230
              have ar379 : (1 : Int32).toInt = 1 := by decide
              have ar380 := rng32 (vat230 - (1 : Int32))
              first | have ar381 : (vat230 - (1 : Int32)).toInt = vat230.toInt - 1 := (by have qw := c_isub vat230 (1 : Int32); omega) | (have ar381 := c_isub vat230 (1 : Int32); skip)
              have ar382 : (0 : Int32).toInt = 0 := by decide
              have ar383 : (0 : Int32).toInt < vat230.toInt := Int32.lt_iff_toInt_lt.mp hj137_376
              omega
            have hv384 : g344 (k - 1) = v232 := by
              have hk1 : 1 ≤ k := by
                have ar385 : (0 : Int32).toInt = 0 := by decide
                have ar386 := rng32 vat230
                have ar387 : (0 : Int32).toInt < vat230.toInt := Int32.lt_iff_toInt_lt.mp hj137_376
                omega
              rw [hg344]; simp only [own_upd]
              rw [if_neg (by omega)]
              rw [if_neg (by omega)]
            have hc149_388 : v232 = v232 := rfl
            refine XS.ifNo X341.here hx rfl (hb hby at_137) rfl ((if0 _ _).trans (tlt hj137_376).2.2.2) ?_
            show Steps p.tables e below (T341.setTop (mkF m 140 #[.val (.int p0), .val (.int p1), .val (.int p2), .val (.int vcp216), .val (.int vat230), .val (.int v232), .val (.ref b233), .val (.int r343), .val (.int v347), .unset, .unset, .unset, .unset, .unset, .unset] [])) _
            refine XS.aload X341.here hx rfl (hb hby at_140) rfl rfl ?_
            show Steps p.tables e below (T341.setTop (mkF m 142 #[.val (.int p0), .val (.int p1), .val (.int p2), .val (.int vcp216), .val (.int vat230), .val (.int v232), .val (.ref b233), .val (.int r343), .val (.int v347), .unset, .unset, .unset, .unset, .unset, .unset] [(.ref b233)])) _
            refine XS.iload X341.here hx rfl (hb hby at_142) rfl ?_
            show Steps p.tables e below (T341.setTop (mkF m 144 #[.val (.int p0), .val (.int p1), .val (.int p2), .val (.int vcp216), .val (.int vat230), .val (.int v232), .val (.ref b233), .val (.int r343), .val (.int v347), .unset, .unset, .unset, .unset, .unset, .unset] [(.int vat230), (.ref b233)])) _
            refine XS.iconst X341.here hx rfl (hb hby at_144) ?_
            show Steps p.tables e below (T341.setTop (mkF m 145 #[.val (.int p0), .val (.int p1), .val (.int p2), .val (.int vcp216), .val (.int vat230), .val (.int v232), .val (.ref b233), .val (.int r343), .val (.int v347), .unset, .unset, .unset, .unset, .unset, .unset] [(.int (1 : Int32)), (.int vat230), (.ref b233)])) _
            refine XS.isub X341.here hx rfl (hb hby at_145) rfl ?_
            show Steps p.tables e below (T341.setTop (mkF m 146 #[.val (.int p0), .val (.int p1), .val (.int p2), .val (.int vcp216), .val (.int vat230), .val (.int v232), .val (.ref b233), .val (.int r343), .val (.int v347), .unset, .unset, .unset, .unset, .unset, .unset] [(.int (vat230 - (1 : Int32))), (.ref b233)])) _
            refine own_ldB X341 hx hZ rfl oAa341 (i := (k - 1)) hj377 (by omega) hv384 (g := (mkF m 146 #[.val (.int p0), .val (.int p1), .val (.int p2), .val (.int vcp216), .val (.int vat230), .val (.int v232), .val (.ref b233), .val (.int r343), .val (.int v347), .unset, .unset, .unset, .unset, .unset, .unset] [(.int (vat230 - (1 : Int32))), (.ref b233)])) rfl rfl (hb hby at_146) _ ?_
            show Steps p.tables e below (T341.setTop (mkF m 147 #[.val (.int p0), .val (.int p1), .val (.int p2), .val (.int vcp216), .val (.int vat230), .val (.int v232), .val (.ref b233), .val (.int r343), .val (.int v347), .unset, .unset, .unset, .unset, .unset, .unset] [(.int v232)])) _
            refine XS.iload X341.here hx rfl (hb hby at_147) rfl ?_
            show Steps p.tables e below (T341.setTop (mkF m 149 #[.val (.int p0), .val (.int p1), .val (.int p2), .val (.int vcp216), .val (.int vat230), .val (.int v232), .val (.ref b233), .val (.int r343), .val (.int v347), .unset, .unset, .unset, .unset, .unset, .unset] [(.int v232), (.int v232)])) _
            refine XS.icmpYes X341.here hx rfl (pc0 := 149) (pc' := 154) rfl (hb hby at_149) rfl (teq hc149_388).1 (by decide) (by decide) ?_
            show Steps p.tables e below (T341.setTop (mkF m 154 #[.val (.int p0), .val (.int p1), .val (.int p2), .val (.int vcp216), .val (.int vat230), .val (.int v232), .val (.ref b233), .val (.int r343), .val (.int v347), .unset, .unset, .unset, .unset, .unset, .unset] [])) _
            simpa only [if_pos hj137_376] using kt
          · refine XS.ifYes X341.here hx rfl (pc0 := 137) (pc' := 154) rfl (hb hby at_137) rfl ((if0 _ _).trans (flt hj137_376).2.2.2) (by decide) (by decide) ?_
            show Steps p.tables e below (T341.setTop (mkF m 154 #[.val (.int p0), .val (.int p1), .val (.int p2), .val (.int vcp216), .val (.int vat230), .val (.int v232), .val (.ref b233), .val (.int r343), .val (.int v347), .unset, .unset, .unset, .unset, .unset, .unset] [])) _
            simpa only [if_neg hj137_376] using kt
        have hj390 : r343.toInt = (((k + 2) : Nat) : Int) := by
          have ar391 := rng32 r343
          have ar392 := rng32 vat230
          have ar393 : (1 : Int32).toInt = 1 := by decide
          have ar394 := rng32 (vat230 + (1 : Int32))
          first | have ar395 : (vat230 + (1 : Int32)).toInt = vat230.toInt + 1 := (by have qw := c_iadd vat230 (1 : Int32); omega) | (have ar395 := c_iadd vat230 (1 : Int32); skip)
          have ar396 := rng32 ((vat230 + (1 : Int32)) + (1 : Int32))
          first | have ar397 : ((vat230 + (1 : Int32)) + (1 : Int32)).toInt = (vat230 + (1 : Int32)).toInt + 1 := (by have qw := c_iadd (vat230 + (1 : Int32)) (1 : Int32); omega) | (have ar397 := c_iadd (vat230 + (1 : Int32)) (1 : Int32); skip)
          have ar398 := congrArg Int32.toInt hr343
          omega
        have hv399 : g344 (k + 2) = v232 := by
          rw [hg344]; simp only [own_upd]
          rw [if_neg (by omega)]
          rw [if_neg (by omega)]
        have hc161_400 : v232 = v232 := rfl
        have hj401 : vat230.toInt = ((k : Nat) : Int) := by
          have ar402 := rng32 vat230
          omega
        have hv403 : g344 k = ((((192 : Int32) ||| ((vcp216.toUInt32 >>> ((6 : Int32) &&& 31).toUInt32).toInt32)).toInt8.toInt32).toInt8.toInt32) := by
          rw [hg344]; simp only [own_upd]
          rw [if_neg (by omega)]
          rw [if_pos (by omega)]
        have k404 : ∀ tg_, Steps p.tables e below (T341.setTop (mkF m 175 #[.val (.int p0), .val (.int p1), .val (.int p2), .val (.int vcp216), .val (.int vat230), .val (.int v232), .val (.ref b233), .val (.int r343), .val (.int v347), .unset, .unset, .unset, .unset, .unset, .unset] [(.int (((((192 : Int32) ||| ((vcp216.toUInt32 >>> ((6 : Int32) &&& 31).toUInt32).toInt32)).toInt8.toInt32).toInt8.toInt32) &&& (255 : Int32)))])) tg_ → Steps p.tables e below (s₁.setTop (entryFrame m #[(.int p0), (.int p1), (.int p2)] maxLocals)) tg_ := by
          intro tg_ kt
          refine k389 tg_ ?_
          refine XS.aload X341.here hx rfl (hb hby at_154) rfl rfl ?_
          show Steps p.tables e below (T341.setTop (mkF m 156 #[.val (.int p0), .val (.int p1), .val (.int p2), .val (.int vcp216), .val (.int vat230), .val (.int v232), .val (.ref b233), .val (.int r343), .val (.int v347), .unset, .unset, .unset, .unset, .unset, .unset] [(.ref b233)])) _
          refine XS.iload X341.here hx rfl (hb hby at_156) rfl ?_
          show Steps p.tables e below (T341.setTop (mkF m 158 #[.val (.int p0), .val (.int p1), .val (.int p2), .val (.int vcp216), .val (.int vat230), .val (.int v232), .val (.ref b233), .val (.int r343), .val (.int v347), .unset, .unset, .unset, .unset, .unset, .unset] [(.int r343), (.ref b233)])) _
          refine own_ldB X341 hx hZ rfl oAa341 (i := (k + 2)) hj390 (by omega) hv399 (g := (mkF m 158 #[.val (.int p0), .val (.int p1), .val (.int p2), .val (.int vcp216), .val (.int vat230), .val (.int v232), .val (.ref b233), .val (.int r343), .val (.int v347), .unset, .unset, .unset, .unset, .unset, .unset] [(.int r343), (.ref b233)])) rfl rfl (hb hby at_158) _ ?_
          show Steps p.tables e below (T341.setTop (mkF m 159 #[.val (.int p0), .val (.int p1), .val (.int p2), .val (.int vcp216), .val (.int vat230), .val (.int v232), .val (.ref b233), .val (.int r343), .val (.int v347), .unset, .unset, .unset, .unset, .unset, .unset] [(.int v232)])) _
          refine XS.iload X341.here hx rfl (hb hby at_159) rfl ?_
          show Steps p.tables e below (T341.setTop (mkF m 161 #[.val (.int p0), .val (.int p1), .val (.int p2), .val (.int vcp216), .val (.int vat230), .val (.int v232), .val (.ref b233), .val (.int r343), .val (.int v347), .unset, .unset, .unset, .unset, .unset, .unset] [(.int v232), (.int v232)])) _
          refine XS.icmpYes X341.here hx rfl (pc0 := 161) (pc' := 166) rfl (hb hby at_161) rfl (teq hc161_400).1 (by decide) (by decide) ?_
          show Steps p.tables e below (T341.setTop (mkF m 166 #[.val (.int p0), .val (.int p1), .val (.int p2), .val (.int vcp216), .val (.int vat230), .val (.int v232), .val (.ref b233), .val (.int r343), .val (.int v347), .unset, .unset, .unset, .unset, .unset, .unset] [])) _
          refine XS.aload X341.here hx rfl (hb hby at_166) rfl rfl ?_
          show Steps p.tables e below (T341.setTop (mkF m 168 #[.val (.int p0), .val (.int p1), .val (.int p2), .val (.int vcp216), .val (.int vat230), .val (.int v232), .val (.ref b233), .val (.int r343), .val (.int v347), .unset, .unset, .unset, .unset, .unset, .unset] [(.ref b233)])) _
          refine XS.iload X341.here hx rfl (hb hby at_168) rfl ?_
          show Steps p.tables e below (T341.setTop (mkF m 170 #[.val (.int p0), .val (.int p1), .val (.int p2), .val (.int vcp216), .val (.int vat230), .val (.int v232), .val (.ref b233), .val (.int r343), .val (.int v347), .unset, .unset, .unset, .unset, .unset, .unset] [(.int vat230), (.ref b233)])) _
          refine own_ldB X341 hx hZ rfl oAa341 (i := k) hj401 (by omega) hv403 (g := (mkF m 170 #[.val (.int p0), .val (.int p1), .val (.int p2), .val (.int vcp216), .val (.int vat230), .val (.int v232), .val (.ref b233), .val (.int r343), .val (.int v347), .unset, .unset, .unset, .unset, .unset, .unset] [(.int vat230), (.ref b233)])) rfl rfl (hb hby at_170) _ ?_
          show Steps p.tables e below (T341.setTop (mkF m 171 #[.val (.int p0), .val (.int p1), .val (.int p2), .val (.int vcp216), .val (.int vat230), .val (.int v232), .val (.ref b233), .val (.int r343), .val (.int v347), .unset, .unset, .unset, .unset, .unset, .unset] [(.int ((((192 : Int32) ||| ((vcp216.toUInt32 >>> ((6 : Int32) &&& 31).toUInt32).toInt32)).toInt8.toInt32).toInt8.toInt32))])) _
          refine XS.sipush X341.here hx rfl (hb hby at_171) ?_
          show Steps p.tables e below (T341.setTop (mkF m 174 #[.val (.int p0), .val (.int p1), .val (.int p2), .val (.int vcp216), .val (.int vat230), .val (.int v232), .val (.ref b233), .val (.int r343), .val (.int v347), .unset, .unset, .unset, .unset, .unset, .unset] [(.int (255 : Int32)), (.int ((((192 : Int32) ||| ((vcp216.toUInt32 >>> ((6 : Int32) &&& 31).toUInt32).toInt32)).toInt8.toInt32).toInt8.toInt32))])) _
          refine XS.iand X341.here hx rfl (hb hby at_174) rfl ?_
          show Steps p.tables e below (T341.setTop (mkF m 175 #[.val (.int p0), .val (.int p1), .val (.int p2), .val (.int vcp216), .val (.int vat230), .val (.int v232), .val (.ref b233), .val (.int r343), .val (.int v347), .unset, .unset, .unset, .unset, .unset, .unset] [(.int (((((192 : Int32) ||| ((vcp216.toUInt32 >>> ((6 : Int32) &&& 31).toUInt32).toInt32)).toInt8.toInt32).toInt8.toInt32) &&& (255 : Int32)))])) _
          exact kt
        obtain ⟨vb405, hvb405⟩ : ∃ z : Int32, z = (((((192 : Int32) ||| ((vcp216.toUInt32 >>> ((6 : Int32) &&& 31).toUInt32).toInt32)).toInt8.toInt32).toInt8.toInt32) &&& (255 : Int32)) := ⟨_, rfl⟩
        rw [← hvb405] at k404
        have k406 : ∀ tg_, Steps p.tables e below (T341.setTop (mkF m 177 #[.val (.int p0), .val (.int p1), .val (.int p2), .val (.int vcp216), .val (.int vat230), .val (.int v232), .val (.ref b233), .val (.int r343), .val (.int v347), .val (.int vb405), .unset, .unset, .unset, .unset, .unset] [])) tg_ → Steps p.tables e below (s₁.setTop (entryFrame m #[(.int p0), (.int p1), (.int p2)] maxLocals)) tg_ := by
          intro tg_ kt
          refine k404 tg_ ?_
          refine XS.istore X341.here hx rfl (hb hby at_175) rfl (l' := #[.val (.int p0), .val (.int p1), .val (.int p2), .val (.int vcp216), .val (.int vat230), .val (.int v232), .val (.ref b233), .val (.int r343), .val (.int v347), .val (.int vb405), .unset, .unset, .unset, .unset, .unset]) rfl ?_
          show Steps p.tables e below (T341.setTop (mkF m 177 #[.val (.int p0), .val (.int p1), .val (.int p2), .val (.int vcp216), .val (.int vat230), .val (.int v232), .val (.ref b233), .val (.int r343), .val (.int v347), .val (.int vb405), .unset, .unset, .unset, .unset, .unset] [])) _
          exact kt
        have hbv_vb405 : vb405.toInt = 192 + vcp216.toInt / 64 := by rw [hvb405]; exact own_e2_0 vcp216 (by omega) (by omega)
        have hc180_419 : ¬ (v347 = (1 : Int32)) := (by
            have ar407 := rng32 v347
            have ar408 := rng32 r343
            have ar409 := rng32 vat230
            have ar410 : (1 : Int32).toInt = 1 := by decide
            have ar411 := rng32 (vat230 + (1 : Int32))
            first | have ar412 : (vat230 + (1 : Int32)).toInt = vat230.toInt + 1 := (by have qw := c_iadd vat230 (1 : Int32); omega) | (have ar412 := c_iadd vat230 (1 : Int32); skip)
            have ar413 := rng32 ((vat230 + (1 : Int32)) + (1 : Int32))
            first | have ar414 : ((vat230 + (1 : Int32)) + (1 : Int32)).toInt = (vat230 + (1 : Int32)).toInt + 1 := (by have qw := c_iadd (vat230 + (1 : Int32)) (1 : Int32); omega) | (have ar414 := c_iadd (vat230 + (1 : Int32)) (1 : Int32); skip)
            have ar415 := congrArg Int32.toInt hr343
            have ar416 := rng32 (r343 - vat230)
            first | have ar417 : (r343 - vat230).toInt = r343.toInt - vat230.toInt := (by have qw := c_isub r343 vat230; omega) | (have ar417 := c_isub r343 vat230; skip)
            have ar418 := congrArg Int32.toInt hv347
            exact fun qq_ => absurd (congrArg Int32.toInt qq_) (by omega))
        have hj420 : (vat230 + (1 : Int32)).toInt = (((k + 1) : Nat) : Int) := by
          have ar421 := rng32 vat230
          have ar422 : (1 : Int32).toInt = 1 := by decide
          have ar423 := rng32 (vat230 + (1 : Int32))
          first | have ar424 : (vat230 + (1 : Int32)).toInt = vat230.toInt + 1 := (by have qw := c_iadd vat230 (1 : Int32); omega) | (have ar424 := c_iadd vat230 (1 : Int32); skip)
          omega
        have hv425 : g344 (k + 1) = ((((128 : Int32) ||| (vcp216 &&& (63 : Int32))).toInt8.toInt32).toInt8.toInt32) := by
          rw [hg344]; simp only [own_upd]
          rw [if_pos (by omega)]
        have k426 : ∀ tg_, Steps p.tables e below (T341.setTop (mkF m 214 #[.val (.int p0), .val (.int p1), .val (.int p2), .val (.int vcp216), .val (.int vat230), .val (.int v232), .val (.ref b233), .val (.int r343), .val (.int v347), .val (.int vb405), .unset, .unset, .unset, .unset, .unset] [(.int (((((128 : Int32) ||| (vcp216 &&& (63 : Int32))).toInt8.toInt32).toInt8.toInt32) &&& (255 : Int32)))])) tg_ → Steps p.tables e below (s₁.setTop (entryFrame m #[(.int p0), (.int p1), (.int p2)] maxLocals)) tg_ := by
          intro tg_ kt
          refine k406 tg_ ?_
          refine XS.iload X341.here hx rfl (hb hby at_177) rfl ?_
          show Steps p.tables e below (T341.setTop (mkF m 179 #[.val (.int p0), .val (.int p1), .val (.int p2), .val (.int vcp216), .val (.int vat230), .val (.int v232), .val (.ref b233), .val (.int r343), .val (.int v347), .val (.int vb405), .unset, .unset, .unset, .unset, .unset] [(.int v347)])) _
          refine XS.iconst X341.here hx rfl (hb hby at_179) ?_
          show Steps p.tables e below (T341.setTop (mkF m 180 #[.val (.int p0), .val (.int p1), .val (.int p2), .val (.int vcp216), .val (.int vat230), .val (.int v232), .val (.ref b233), .val (.int r343), .val (.int v347), .val (.int vb405), .unset, .unset, .unset, .unset, .unset] [(.int (1 : Int32)), (.int v347)])) _
          refine XS.icmpYes X341.here hx rfl (pc0 := 180) (pc' := 203) rfl (hb hby at_180) rfl (feq hc180_419).2 (by decide) (by decide) ?_
          show Steps p.tables e below (T341.setTop (mkF m 203 #[.val (.int p0), .val (.int p1), .val (.int p2), .val (.int vcp216), .val (.int vat230), .val (.int v232), .val (.ref b233), .val (.int r343), .val (.int v347), .val (.int vb405), .unset, .unset, .unset, .unset, .unset] [])) _
          refine XS.aload X341.here hx rfl (hb hby at_203) rfl rfl ?_
          show Steps p.tables e below (T341.setTop (mkF m 205 #[.val (.int p0), .val (.int p1), .val (.int p2), .val (.int vcp216), .val (.int vat230), .val (.int v232), .val (.ref b233), .val (.int r343), .val (.int v347), .val (.int vb405), .unset, .unset, .unset, .unset, .unset] [(.ref b233)])) _
          refine XS.iload X341.here hx rfl (hb hby at_205) rfl ?_
          show Steps p.tables e below (T341.setTop (mkF m 207 #[.val (.int p0), .val (.int p1), .val (.int p2), .val (.int vcp216), .val (.int vat230), .val (.int v232), .val (.ref b233), .val (.int r343), .val (.int v347), .val (.int vb405), .unset, .unset, .unset, .unset, .unset] [(.int vat230), (.ref b233)])) _
          refine XS.iconst X341.here hx rfl (hb hby at_207) ?_
          show Steps p.tables e below (T341.setTop (mkF m 208 #[.val (.int p0), .val (.int p1), .val (.int p2), .val (.int vcp216), .val (.int vat230), .val (.int v232), .val (.ref b233), .val (.int r343), .val (.int v347), .val (.int vb405), .unset, .unset, .unset, .unset, .unset] [(.int (1 : Int32)), (.int vat230), (.ref b233)])) _
          refine XS.iadd X341.here hx rfl (hb hby at_208) rfl ?_
          show Steps p.tables e below (T341.setTop (mkF m 209 #[.val (.int p0), .val (.int p1), .val (.int p2), .val (.int vcp216), .val (.int vat230), .val (.int v232), .val (.ref b233), .val (.int r343), .val (.int v347), .val (.int vb405), .unset, .unset, .unset, .unset, .unset] [(.int (vat230 + (1 : Int32))), (.ref b233)])) _
          refine own_ldB X341 hx hZ rfl oAa341 (i := (k + 1)) hj420 (by omega) hv425 (g := (mkF m 209 #[.val (.int p0), .val (.int p1), .val (.int p2), .val (.int vcp216), .val (.int vat230), .val (.int v232), .val (.ref b233), .val (.int r343), .val (.int v347), .val (.int vb405), .unset, .unset, .unset, .unset, .unset] [(.int (vat230 + (1 : Int32))), (.ref b233)])) rfl rfl (hb hby at_209) _ ?_
          show Steps p.tables e below (T341.setTop (mkF m 210 #[.val (.int p0), .val (.int p1), .val (.int p2), .val (.int vcp216), .val (.int vat230), .val (.int v232), .val (.ref b233), .val (.int r343), .val (.int v347), .val (.int vb405), .unset, .unset, .unset, .unset, .unset] [(.int ((((128 : Int32) ||| (vcp216 &&& (63 : Int32))).toInt8.toInt32).toInt8.toInt32))])) _
          refine XS.sipush X341.here hx rfl (hb hby at_210) ?_
          show Steps p.tables e below (T341.setTop (mkF m 213 #[.val (.int p0), .val (.int p1), .val (.int p2), .val (.int vcp216), .val (.int vat230), .val (.int v232), .val (.ref b233), .val (.int r343), .val (.int v347), .val (.int vb405), .unset, .unset, .unset, .unset, .unset] [(.int (255 : Int32)), (.int ((((128 : Int32) ||| (vcp216 &&& (63 : Int32))).toInt8.toInt32).toInt8.toInt32))])) _
          refine XS.iand X341.here hx rfl (hb hby at_213) rfl ?_
          show Steps p.tables e below (T341.setTop (mkF m 214 #[.val (.int p0), .val (.int p1), .val (.int p2), .val (.int vcp216), .val (.int vat230), .val (.int v232), .val (.ref b233), .val (.int r343), .val (.int v347), .val (.int vb405), .unset, .unset, .unset, .unset, .unset] [(.int (((((128 : Int32) ||| (vcp216 &&& (63 : Int32))).toInt8.toInt32).toInt8.toInt32) &&& (255 : Int32)))])) _
          exact kt
        obtain ⟨vb427, hvb427⟩ : ∃ z : Int32, z = (((((128 : Int32) ||| (vcp216 &&& (63 : Int32))).toInt8.toInt32).toInt8.toInt32) &&& (255 : Int32)) := ⟨_, rfl⟩
        rw [← hvb427] at k426
        have k428 : ∀ tg_, Steps p.tables e below (T341.setTop (mkF m 216 #[.val (.int p0), .val (.int p1), .val (.int p2), .val (.int vcp216), .val (.int vat230), .val (.int v232), .val (.ref b233), .val (.int r343), .val (.int v347), .val (.int vb405), .unset, .unset, .val (.int vb427), .unset, .unset] [])) tg_ → Steps p.tables e below (s₁.setTop (entryFrame m #[(.int p0), (.int p1), (.int p2)] maxLocals)) tg_ := by
          intro tg_ kt
          refine k426 tg_ ?_
          refine XS.istore X341.here hx rfl (hb hby at_214) rfl (l' := #[.val (.int p0), .val (.int p1), .val (.int p2), .val (.int vcp216), .val (.int vat230), .val (.int v232), .val (.ref b233), .val (.int r343), .val (.int v347), .val (.int vb405), .unset, .unset, .val (.int vb427), .unset, .unset]) rfl ?_
          show Steps p.tables e below (T341.setTop (mkF m 216 #[.val (.int p0), .val (.int p1), .val (.int p2), .val (.int vcp216), .val (.int vat230), .val (.int v232), .val (.ref b233), .val (.int r343), .val (.int v347), .val (.int vb405), .unset, .unset, .val (.int vb427), .unset, .unset] [])) _
          exact kt
        have hbv_vb427 : vb427.toInt = 128 + vcp216.toInt % 64 := by rw [hvb427]; exact own_e2_1 vcp216 (by omega) (by omega)
        have hc225_435 : (vb427 &&& (192 : Int32)) = (128 : Int32) := (by
            have ar429 := rng32 vb427
            have ar430 : (192 : Int32).toInt = 192 := by decide
            first | have ar431 := own_hi192 vb427 (by omega) (by omega) | have ar431 := own_hi192 vb427
            have ar432 := c_and vb427 (192 : Int32) (by decide)
            have ar433 := rng32 (vb427 &&& (192 : Int32))
            have ar434 : (128 : Int32).toInt = 128 := by decide
            exact Int32.toInt_inj.mp (by omega))
        have hc233_449 : v347 = (2 : Int32) := (by
            have ar436 := rng32 v347
            have ar437 := rng32 r343
            have ar438 := rng32 vat230
            have ar439 : (1 : Int32).toInt = 1 := by decide
            have ar440 := rng32 (vat230 + (1 : Int32))
            first | have ar441 : (vat230 + (1 : Int32)).toInt = vat230.toInt + 1 := (by have qw := c_iadd vat230 (1 : Int32); omega) | (have ar441 := c_iadd vat230 (1 : Int32); skip)
            have ar442 := rng32 ((vat230 + (1 : Int32)) + (1 : Int32))
            first | have ar443 : ((vat230 + (1 : Int32)) + (1 : Int32)).toInt = (vat230 + (1 : Int32)).toInt + 1 := (by have qw := c_iadd (vat230 + (1 : Int32)) (1 : Int32); omega) | (have ar443 := c_iadd (vat230 + (1 : Int32)) (1 : Int32); skip)
            have ar444 := congrArg Int32.toInt hr343
            have ar445 := rng32 (r343 - vat230)
            first | have ar446 : (r343 - vat230).toInt = r343.toInt - vat230.toInt := (by have qw := c_isub r343 vat230; omega) | (have ar446 := c_isub r343 vat230; skip)
            have ar447 := congrArg Int32.toInt hv347
            have ar448 : (2 : Int32).toInt = 2 := by decide
            exact Int32.toInt_inj.mp (by omega))
        have hc245_456 : (vb405 &&& (224 : Int32)) = (192 : Int32) := (by
            have ar450 := rng32 vb405
            have ar451 : (224 : Int32).toInt = 224 := by decide
            first | have ar452 := own_hi224 vb405 (by omega) (by omega) | have ar452 := own_hi224 vb405
            have ar453 := c_and vb405 (224 : Int32) (by decide)
            have ar454 := rng32 (vb405 &&& (224 : Int32))
            have ar455 : (192 : Int32).toInt = 192 := by decide
            exact Int32.toInt_inj.mp (by omega))
        have k457 : ∀ tg_, Steps p.tables e below (T341.setTop (mkF m 264 #[.val (.int p0), .val (.int p1), .val (.int p2), .val (.int vcp216), .val (.int vat230), .val (.int v232), .val (.ref b233), .val (.int r343), .val (.int v347), .val (.int vb405), .unset, .unset, .val (.int vb427), .unset, .unset] [(.int (((vb405 &&& (31 : Int32)) <<< ((6 : Int32) &&& 31)) ||| (vb427 &&& (63 : Int32))))])) tg_ → Steps p.tables e below (s₁.setTop (entryFrame m #[(.int p0), (.int p1), (.int p2)] maxLocals)) tg_ := by
          intro tg_ kt
          refine k428 tg_ ?_
          refine XS.iload X341.here hx rfl (hb hby at_216) rfl ?_
          show Steps p.tables e below (T341.setTop (mkF m 218 #[.val (.int p0), .val (.int p1), .val (.int p2), .val (.int vcp216), .val (.int vat230), .val (.int v232), .val (.ref b233), .val (.int r343), .val (.int v347), .val (.int vb405), .unset, .unset, .val (.int vb427), .unset, .unset] [(.int vb427)])) _
          refine XS.sipush X341.here hx rfl (hb hby at_218) ?_
          show Steps p.tables e below (T341.setTop (mkF m 221 #[.val (.int p0), .val (.int p1), .val (.int p2), .val (.int vcp216), .val (.int vat230), .val (.int v232), .val (.ref b233), .val (.int r343), .val (.int v347), .val (.int vb405), .unset, .unset, .val (.int vb427), .unset, .unset] [(.int (192 : Int32)), (.int vb427)])) _
          refine XS.iand X341.here hx rfl (hb hby at_221) rfl ?_
          show Steps p.tables e below (T341.setTop (mkF m 222 #[.val (.int p0), .val (.int p1), .val (.int p2), .val (.int vcp216), .val (.int vat230), .val (.int v232), .val (.ref b233), .val (.int r343), .val (.int v347), .val (.int vb405), .unset, .unset, .val (.int vb427), .unset, .unset] [(.int (vb427 &&& (192 : Int32)))])) _
          refine XS.sipush X341.here hx rfl (hb hby at_222) ?_
          show Steps p.tables e below (T341.setTop (mkF m 225 #[.val (.int p0), .val (.int p1), .val (.int p2), .val (.int vcp216), .val (.int vat230), .val (.int v232), .val (.ref b233), .val (.int r343), .val (.int v347), .val (.int vb405), .unset, .unset, .val (.int vb427), .unset, .unset] [(.int (128 : Int32)), (.int (vb427 &&& (192 : Int32)))])) _
          refine XS.icmpYes X341.here hx rfl (pc0 := 225) (pc' := 230) rfl (hb hby at_225) rfl (teq hc225_435).1 (by decide) (by decide) ?_
          show Steps p.tables e below (T341.setTop (mkF m 230 #[.val (.int p0), .val (.int p1), .val (.int p2), .val (.int vcp216), .val (.int vat230), .val (.int v232), .val (.ref b233), .val (.int r343), .val (.int v347), .val (.int vb405), .unset, .unset, .val (.int vb427), .unset, .unset] [])) _
          refine XS.iload X341.here hx rfl (hb hby at_230) rfl ?_
          show Steps p.tables e below (T341.setTop (mkF m 232 #[.val (.int p0), .val (.int p1), .val (.int p2), .val (.int vcp216), .val (.int vat230), .val (.int v232), .val (.ref b233), .val (.int r343), .val (.int v347), .val (.int vb405), .unset, .unset, .val (.int vb427), .unset, .unset] [(.int v347)])) _
          refine XS.iconst X341.here hx rfl (hb hby at_232) ?_
          show Steps p.tables e below (T341.setTop (mkF m 233 #[.val (.int p0), .val (.int p1), .val (.int p2), .val (.int vcp216), .val (.int vat230), .val (.int v232), .val (.ref b233), .val (.int r343), .val (.int v347), .val (.int vb405), .unset, .unset, .val (.int vb427), .unset, .unset] [(.int (2 : Int32)), (.int v347)])) _
          refine XS.icmpNo X341.here hx rfl (hb hby at_233) rfl (teq hc233_449).2 ?_
          show Steps p.tables e below (T341.setTop (mkF m 236 #[.val (.int p0), .val (.int p1), .val (.int p2), .val (.int vcp216), .val (.int vat230), .val (.int v232), .val (.ref b233), .val (.int r343), .val (.int v347), .val (.int vb405), .unset, .unset, .val (.int vb427), .unset, .unset] [])) _
          refine XS.iload X341.here hx rfl (hb hby at_236) rfl ?_
          show Steps p.tables e below (T341.setTop (mkF m 238 #[.val (.int p0), .val (.int p1), .val (.int p2), .val (.int vcp216), .val (.int vat230), .val (.int v232), .val (.ref b233), .val (.int r343), .val (.int v347), .val (.int vb405), .unset, .unset, .val (.int vb427), .unset, .unset] [(.int vb405)])) _
          refine XS.sipush X341.here hx rfl (hb hby at_238) ?_
          show Steps p.tables e below (T341.setTop (mkF m 241 #[.val (.int p0), .val (.int p1), .val (.int p2), .val (.int vcp216), .val (.int vat230), .val (.int v232), .val (.ref b233), .val (.int r343), .val (.int v347), .val (.int vb405), .unset, .unset, .val (.int vb427), .unset, .unset] [(.int (224 : Int32)), (.int vb405)])) _
          refine XS.iand X341.here hx rfl (hb hby at_241) rfl ?_
          show Steps p.tables e below (T341.setTop (mkF m 242 #[.val (.int p0), .val (.int p1), .val (.int p2), .val (.int vcp216), .val (.int vat230), .val (.int v232), .val (.ref b233), .val (.int r343), .val (.int v347), .val (.int vb405), .unset, .unset, .val (.int vb427), .unset, .unset] [(.int (vb405 &&& (224 : Int32)))])) _
          refine XS.sipush X341.here hx rfl (hb hby at_242) ?_
          show Steps p.tables e below (T341.setTop (mkF m 245 #[.val (.int p0), .val (.int p1), .val (.int p2), .val (.int vcp216), .val (.int vat230), .val (.int v232), .val (.ref b233), .val (.int r343), .val (.int v347), .val (.int vb405), .unset, .unset, .val (.int vb427), .unset, .unset] [(.int (192 : Int32)), (.int (vb405 &&& (224 : Int32)))])) _
          refine XS.icmpYes X341.here hx rfl (pc0 := 245) (pc' := 250) rfl (hb hby at_245) rfl (teq hc245_456).1 (by decide) (by decide) ?_
          show Steps p.tables e below (T341.setTop (mkF m 250 #[.val (.int p0), .val (.int p1), .val (.int p2), .val (.int vcp216), .val (.int vat230), .val (.int v232), .val (.ref b233), .val (.int r343), .val (.int v347), .val (.int vb405), .unset, .unset, .val (.int vb427), .unset, .unset] [])) _
          refine XS.iload X341.here hx rfl (hb hby at_250) rfl ?_
          show Steps p.tables e below (T341.setTop (mkF m 252 #[.val (.int p0), .val (.int p1), .val (.int p2), .val (.int vcp216), .val (.int vat230), .val (.int v232), .val (.ref b233), .val (.int r343), .val (.int v347), .val (.int vb405), .unset, .unset, .val (.int vb427), .unset, .unset] [(.int vb405)])) _
          refine XS.bipush X341.here hx rfl (hb hby at_252) ?_
          show Steps p.tables e below (T341.setTop (mkF m 254 #[.val (.int p0), .val (.int p1), .val (.int p2), .val (.int vcp216), .val (.int vat230), .val (.int v232), .val (.ref b233), .val (.int r343), .val (.int v347), .val (.int vb405), .unset, .unset, .val (.int vb427), .unset, .unset] [(.int (31 : Int32)), (.int vb405)])) _
          refine XS.iand X341.here hx rfl (hb hby at_254) rfl ?_
          show Steps p.tables e below (T341.setTop (mkF m 255 #[.val (.int p0), .val (.int p1), .val (.int p2), .val (.int vcp216), .val (.int vat230), .val (.int v232), .val (.ref b233), .val (.int r343), .val (.int v347), .val (.int vb405), .unset, .unset, .val (.int vb427), .unset, .unset] [(.int (vb405 &&& (31 : Int32)))])) _
          refine XS.bipush X341.here hx rfl (hb hby at_255) ?_
          show Steps p.tables e below (T341.setTop (mkF m 257 #[.val (.int p0), .val (.int p1), .val (.int p2), .val (.int vcp216), .val (.int vat230), .val (.int v232), .val (.ref b233), .val (.int r343), .val (.int v347), .val (.int vb405), .unset, .unset, .val (.int vb427), .unset, .unset] [(.int (6 : Int32)), (.int (vb405 &&& (31 : Int32)))])) _
          refine XS.ishl X341.here hx rfl (hb hby at_257) rfl ?_
          show Steps p.tables e below (T341.setTop (mkF m 258 #[.val (.int p0), .val (.int p1), .val (.int p2), .val (.int vcp216), .val (.int vat230), .val (.int v232), .val (.ref b233), .val (.int r343), .val (.int v347), .val (.int vb405), .unset, .unset, .val (.int vb427), .unset, .unset] [(.int ((vb405 &&& (31 : Int32)) <<< ((6 : Int32) &&& 31)))])) _
          refine XS.iload X341.here hx rfl (hb hby at_258) rfl ?_
          show Steps p.tables e below (T341.setTop (mkF m 260 #[.val (.int p0), .val (.int p1), .val (.int p2), .val (.int vcp216), .val (.int vat230), .val (.int v232), .val (.ref b233), .val (.int r343), .val (.int v347), .val (.int vb405), .unset, .unset, .val (.int vb427), .unset, .unset] [(.int vb427), (.int ((vb405 &&& (31 : Int32)) <<< ((6 : Int32) &&& 31)))])) _
          refine XS.bipush X341.here hx rfl (hb hby at_260) ?_
          show Steps p.tables e below (T341.setTop (mkF m 262 #[.val (.int p0), .val (.int p1), .val (.int p2), .val (.int vcp216), .val (.int vat230), .val (.int v232), .val (.ref b233), .val (.int r343), .val (.int v347), .val (.int vb405), .unset, .unset, .val (.int vb427), .unset, .unset] [(.int (63 : Int32)), (.int vb427), (.int ((vb405 &&& (31 : Int32)) <<< ((6 : Int32) &&& 31)))])) _
          refine XS.iand X341.here hx rfl (hb hby at_262) rfl ?_
          show Steps p.tables e below (T341.setTop (mkF m 263 #[.val (.int p0), .val (.int p1), .val (.int p2), .val (.int vcp216), .val (.int vat230), .val (.int v232), .val (.ref b233), .val (.int r343), .val (.int v347), .val (.int vb405), .unset, .unset, .val (.int vb427), .unset, .unset] [(.int (vb427 &&& (63 : Int32))), (.int ((vb405 &&& (31 : Int32)) <<< ((6 : Int32) &&& 31)))])) _
          refine XS.ior X341.here hx rfl (hb hby at_263) rfl ?_
          show Steps p.tables e below (T341.setTop (mkF m 264 #[.val (.int p0), .val (.int p1), .val (.int p2), .val (.int vcp216), .val (.int vat230), .val (.int v232), .val (.ref b233), .val (.int r343), .val (.int v347), .val (.int vb405), .unset, .unset, .val (.int vb427), .unset, .unset] [(.int (((vb405 &&& (31 : Int32)) <<< ((6 : Int32) &&& 31)) ||| (vb427 &&& (63 : Int32))))])) _
          exact kt
        obtain ⟨v458, hv458⟩ : ∃ z : Int32, z = (((vb405 &&& (31 : Int32)) <<< ((6 : Int32) &&& 31)) ||| (vb427 &&& (63 : Int32))) := ⟨_, rfl⟩
        rw [← hv458] at k457
        have hc437_474 : ¬ (v458 < (128 : Int32)) := (by
            have ar459 := rng32 v458
            have ar460 := rng32 vb405
            have ar461 : (31 : Int32).toInt = 31 := by decide
            have ar462 := c_mask vb405 (31 : Int32) 5 (by decide) (by decide)
            simp only [show (2 ^ 5 : Nat) = 32 from by decide, Int.cast_ofNat_Int] at ar462
            have ar463 := rng32 (vb405 &&& (31 : Int32))
            have ar464 := rng32 ((vb405 &&& (31 : Int32)) <<< ((6 : Int32) &&& 31))
            first | have ar465 : ((vb405 &&& (31 : Int32)) <<< ((6 : Int32) &&& 31)).toInt = (vb405 &&& (31 : Int32)).toInt * 64 := (by have qw := c_ishl (vb405 &&& (31 : Int32)) (6 : Int32) 6 (by decide); simp only [show (2 ^ 6 : Nat) = 64 from by decide, Int.cast_ofNat_Int] at qw; omega) | (have ar465 := c_ishl (vb405 &&& (31 : Int32)) (6 : Int32) 6 (by decide); simp only [show (2 ^ 6 : Nat) = 64 from by decide, Int.cast_ofNat_Int] at ar465)
            have ar466 := rng32 vb427
            have ar467 : (63 : Int32).toInt = 63 := by decide
            have ar468 := c_mask vb427 (63 : Int32) 6 (by decide) (by decide)
            simp only [show (2 ^ 6 : Nat) = 64 from by decide, Int.cast_ofNat_Int] at ar468
            have ar469 := rng32 (vb427 &&& (63 : Int32))
            have ar470 := rng32 (((vb405 &&& (31 : Int32)) <<< ((6 : Int32) &&& 31)) ||| (vb427 &&& (63 : Int32)))
            first | have ar471 : (((vb405 &&& (31 : Int32)) <<< ((6 : Int32) &&& 31)) ||| (vb427 &&& (63 : Int32))).toInt = ((vb405 &&& (31 : Int32)) <<< ((6 : Int32) &&& 31)).toInt + (vb427 &&& (63 : Int32)).toInt := (by have qw := c_or ((vb405 &&& (31 : Int32)) <<< ((6 : Int32) &&& 31)) (vb427 &&& (63 : Int32)) 6 (by decide) 64 (by decide) (by omega) (by omega) (by omega); omega) | (have ar471 := c_or ((vb405 &&& (31 : Int32)) <<< ((6 : Int32) &&& 31)) (vb427 &&& (63 : Int32)) 6 (by decide) 64 (by decide) (by omega) (by omega) (by omega); skip)
            have ar472 := congrArg Int32.toInt hv458
            have ar473 : (128 : Int32).toInt = 128 := by decide
            exact fun qq_ => absurd (Int32.lt_iff_toInt_lt.mp qq_) (by omega))
        have hc443_490 : v458 = vcp216 := (by
            have ar475 := rng32 v458
            have ar476 := rng32 vb405
            have ar477 : (31 : Int32).toInt = 31 := by decide
            have ar478 := c_mask vb405 (31 : Int32) 5 (by decide) (by decide)
            simp only [show (2 ^ 5 : Nat) = 32 from by decide, Int.cast_ofNat_Int] at ar478
            have ar479 := rng32 (vb405 &&& (31 : Int32))
            have ar480 := rng32 ((vb405 &&& (31 : Int32)) <<< ((6 : Int32) &&& 31))
            first | have ar481 : ((vb405 &&& (31 : Int32)) <<< ((6 : Int32) &&& 31)).toInt = (vb405 &&& (31 : Int32)).toInt * 64 := (by have qw := c_ishl (vb405 &&& (31 : Int32)) (6 : Int32) 6 (by decide); simp only [show (2 ^ 6 : Nat) = 64 from by decide, Int.cast_ofNat_Int] at qw; omega) | (have ar481 := c_ishl (vb405 &&& (31 : Int32)) (6 : Int32) 6 (by decide); simp only [show (2 ^ 6 : Nat) = 64 from by decide, Int.cast_ofNat_Int] at ar481)
            have ar482 := rng32 vb427
            have ar483 : (63 : Int32).toInt = 63 := by decide
            have ar484 := c_mask vb427 (63 : Int32) 6 (by decide) (by decide)
            simp only [show (2 ^ 6 : Nat) = 64 from by decide, Int.cast_ofNat_Int] at ar484
            have ar485 := rng32 (vb427 &&& (63 : Int32))
            have ar486 := rng32 (((vb405 &&& (31 : Int32)) <<< ((6 : Int32) &&& 31)) ||| (vb427 &&& (63 : Int32)))
            first | have ar487 : (((vb405 &&& (31 : Int32)) <<< ((6 : Int32) &&& 31)) ||| (vb427 &&& (63 : Int32))).toInt = ((vb405 &&& (31 : Int32)) <<< ((6 : Int32) &&& 31)).toInt + (vb427 &&& (63 : Int32)).toInt := (by have qw := c_or ((vb405 &&& (31 : Int32)) <<< ((6 : Int32) &&& 31)) (vb427 &&& (63 : Int32)) 6 (by decide) 64 (by decide) (by omega) (by omega) (by omega); omega) | (have ar487 := c_or ((vb405 &&& (31 : Int32)) <<< ((6 : Int32) &&& 31)) (vb427 &&& (63 : Int32)) 6 (by decide) 64 (by decide) (by omega) (by omega) (by omega); skip)
            have ar488 := congrArg Int32.toInt hv458
            have ar489 := rng32 vcp216
            exact Int32.toInt_inj.mp (by omega))
        have k491 : ∀ tg_, Steps p.tables e below (T341.setTop (mkF m 451 #[.val (.int p0), .val (.int p1), .val (.int p2), .val (.int vcp216), .val (.int vat230), .val (.int v232), .val (.ref b233), .val (.int r343), .val (.int v347), .val (.int vb405), .val (.int v458), .val (.int (128 : Int32)), .val (.int vb427), .unset, .unset] [(.int (1 : Int32))])) tg_ → Steps p.tables e below (s₁.setTop (entryFrame m #[(.int p0), (.int p1), (.int p2)] maxLocals)) tg_ := by
          intro tg_ kt
          refine k457 tg_ ?_
          refine XS.istore X341.here hx rfl (hb hby at_264) rfl (l' := #[.val (.int p0), .val (.int p1), .val (.int p2), .val (.int vcp216), .val (.int vat230), .val (.int v232), .val (.ref b233), .val (.int r343), .val (.int v347), .val (.int vb405), .val (.int v458), .unset, .val (.int vb427), .unset, .unset]) rfl ?_
          show Steps p.tables e below (T341.setTop (mkF m 266 #[.val (.int p0), .val (.int p1), .val (.int p2), .val (.int vcp216), .val (.int vat230), .val (.int v232), .val (.ref b233), .val (.int r343), .val (.int v347), .val (.int vb405), .val (.int v458), .unset, .val (.int vb427), .unset, .unset] [])) _
          refine XS.sipush X341.here hx rfl (hb hby at_266) ?_
          show Steps p.tables e below (T341.setTop (mkF m 269 #[.val (.int p0), .val (.int p1), .val (.int p2), .val (.int vcp216), .val (.int vat230), .val (.int v232), .val (.ref b233), .val (.int r343), .val (.int v347), .val (.int vb405), .val (.int v458), .unset, .val (.int vb427), .unset, .unset] [(.int (128 : Int32))])) _
          refine XS.istore X341.here hx rfl (hb hby at_269) rfl (l' := #[.val (.int p0), .val (.int p1), .val (.int p2), .val (.int vcp216), .val (.int vat230), .val (.int v232), .val (.ref b233), .val (.int r343), .val (.int v347), .val (.int vb405), .val (.int v458), .val (.int (128 : Int32)), .val (.int vb427), .unset, .unset]) rfl ?_
          show Steps p.tables e below (T341.setTop (mkF m 271 #[.val (.int p0), .val (.int p1), .val (.int p2), .val (.int vcp216), .val (.int vat230), .val (.int v232), .val (.ref b233), .val (.int r343), .val (.int v347), .val (.int vb405), .val (.int v458), .val (.int (128 : Int32)), .val (.int vb427), .unset, .unset] [])) _
          refine XS.goto X341.here hx rfl (pc0 := 271) (pc' := 433) rfl (hb hby at_271) (by decide) (by decide) ?_
          show Steps p.tables e below (T341.setTop (mkF m 433 #[.val (.int p0), .val (.int p1), .val (.int p2), .val (.int vcp216), .val (.int vat230), .val (.int v232), .val (.ref b233), .val (.int r343), .val (.int v347), .val (.int vb405), .val (.int v458), .val (.int (128 : Int32)), .val (.int vb427), .unset, .unset] [])) _
          refine XS.iload X341.here hx rfl (hb hby at_433) rfl ?_
          show Steps p.tables e below (T341.setTop (mkF m 435 #[.val (.int p0), .val (.int p1), .val (.int p2), .val (.int vcp216), .val (.int vat230), .val (.int v232), .val (.ref b233), .val (.int r343), .val (.int v347), .val (.int vb405), .val (.int v458), .val (.int (128 : Int32)), .val (.int vb427), .unset, .unset] [(.int v458)])) _
          refine XS.iload X341.here hx rfl (hb hby at_435) rfl ?_
          show Steps p.tables e below (T341.setTop (mkF m 437 #[.val (.int p0), .val (.int p1), .val (.int p2), .val (.int vcp216), .val (.int vat230), .val (.int v232), .val (.ref b233), .val (.int r343), .val (.int v347), .val (.int vb405), .val (.int v458), .val (.int (128 : Int32)), .val (.int vb427), .unset, .unset] [(.int (128 : Int32)), (.int v458)])) _
          refine XS.icmpNo X341.here hx rfl (hb hby at_437) rfl (flt hc437_474).1 ?_
          show Steps p.tables e below (T341.setTop (mkF m 440 #[.val (.int p0), .val (.int p1), .val (.int p2), .val (.int vcp216), .val (.int vat230), .val (.int v232), .val (.ref b233), .val (.int r343), .val (.int v347), .val (.int vb405), .val (.int v458), .val (.int (128 : Int32)), .val (.int vb427), .unset, .unset] [])) _
          refine XS.iload X341.here hx rfl (hb hby at_440) rfl ?_
          show Steps p.tables e below (T341.setTop (mkF m 442 #[.val (.int p0), .val (.int p1), .val (.int p2), .val (.int vcp216), .val (.int vat230), .val (.int v232), .val (.ref b233), .val (.int r343), .val (.int v347), .val (.int vb405), .val (.int v458), .val (.int (128 : Int32)), .val (.int vb427), .unset, .unset] [(.int v458)])) _
          refine XS.iloadN X341.here hx rfl (hb hby at_442) rfl ?_
          show Steps p.tables e below (T341.setTop (mkF m 443 #[.val (.int p0), .val (.int p1), .val (.int p2), .val (.int vcp216), .val (.int vat230), .val (.int v232), .val (.ref b233), .val (.int r343), .val (.int v347), .val (.int vb405), .val (.int v458), .val (.int (128 : Int32)), .val (.int vb427), .unset, .unset] [(.int vcp216), (.int v458)])) _
          refine XS.icmpNo X341.here hx rfl (hb hby at_443) rfl (teq hc443_490).2 ?_
          show Steps p.tables e below (T341.setTop (mkF m 446 #[.val (.int p0), .val (.int p1), .val (.int p2), .val (.int vcp216), .val (.int vat230), .val (.int v232), .val (.ref b233), .val (.int r343), .val (.int v347), .val (.int vb405), .val (.int v458), .val (.int (128 : Int32)), .val (.int vb427), .unset, .unset] [])) _
          refine XS.iconst X341.here hx rfl (hb hby at_446) ?_
          show Steps p.tables e below (T341.setTop (mkF m 447 #[.val (.int p0), .val (.int p1), .val (.int p2), .val (.int vcp216), .val (.int vat230), .val (.int v232), .val (.ref b233), .val (.int r343), .val (.int v347), .val (.int vb405), .val (.int v458), .val (.int (128 : Int32)), .val (.int vb427), .unset, .unset] [(.int (1 : Int32))])) _
          refine XS.goto X341.here hx rfl (pc0 := 447) (pc' := 451) rfl (hb hby at_447) (by decide) (by decide) ?_
          show Steps p.tables e below (T341.setTop (mkF m 451 #[.val (.int p0), .val (.int p1), .val (.int p2), .val (.int vcp216), .val (.int vat230), .val (.int v232), .val (.ref b233), .val (.int r343), .val (.int v347), .val (.int vb405), .val (.int v458), .val (.int (128 : Int32)), .val (.int vb427), .unset, .unset] [(.int (1 : Int32))])) _
          exact kt
        obtain ⟨fs, hr, hrun, hended, hW, hsame⟩ := X341.leave (v := some (.int (1 : Int32))) (fun h => by rw [Bd.returns] at h; cases h)
        refine ⟨_, _, k491 _ (retN X341 hx (t := .boolean) Bd.returns (by simp) (hb hby at_451) hr), hrun, hended, _, _, rfl, ?_, ⟨_, rfl⟩, hW, hsame.mono (by decide) (by decide)⟩
        show Q0 Z p0 p1 p2 h0 n0 _ T341.heap _
        exact ⟨rfl, N341⟩
      · by_cases hc109_492 : vcp216 < (65536 : Int32)
        · have Lhc109_256 : ¬ (vcp216.toInt < 128) := fun q => hc109_256 (Int32.lt_iff_toInt_lt.mpr q)
          have Lhc109_339 : ¬ (vcp216.toInt < 2048) := fun q => hc109_339 (Int32.lt_iff_toInt_lt.mpr q)
          have Lhc109_492 : vcp216.toInt < 65536 := Int32.lt_iff_toInt_lt.mp hc109_492
          have f493 := (Nat.le_trans (Nat.le_trans (Nat.le_trans (Nat.le_trans (Nat.le_trans (Nat.le_trans (Nat.le_trans (Nat.le_trans (Nat.le_trans (Nat.le_trans (Nat.le_trans (Nat.le_trans (Nat.le_trans Z0 ((Keep.refl _ []).ext E233).1) (Keep.of_wr W234).1) (Keep.of_wr W235).1) (Keep.of_wr W236).1) (Keep.of_wr W237).1) (Keep.of_wr W238).1) (Keep.of_wr W240).1) (Keep.of_wr W241).1) (Keep.of_wr W242).1) (Keep.of_wr W243).1) (Keep.of_wr W244).1) (Keep.of_wr W245).1) (Keep.of_wr W246).1)
          obtain ⟨_, _, ⟨T494, L494, kc494, nc494⟩, -, X494, ⟨Lc494, hQ494, l494, y494, z494⟩, st494⟩ := Jvm.LawKit.callS X246 hx (y := (⟨"com/example/benzer/benzer/FeatureHash", "encode", "(I[BI)I"⟩ : MethodName)) hown (mvT hZ (hw _ (List.mem_of_getElem? (i := 4) rfl))) (mvT hZ (hw _ (List.mem_of_getElem? (i := 5) rfl))) (mvT hZ (hw _ (List.mem_of_getElem? (i := 6) rfl))) (mvT hZ (hw _ (List.mem_of_getElem? (i := 7) rfl))) (by decide) (backOf (W := 0) (rmenc3 l Z a0 hw [] vcp216 b233 vat230 k (fun _ => v232) h246 n0 f493 V248 ge_b233 hk hk7 hc109_256 hc109_339 hc109_492) hZ (hw _ (List.mem_of_getElem? (i := 7) rfl)) (hw _ (List.mem_of_getElem? (i := 6) rfl)) (by decide) (by decide)) (g := (mkF m 109 #[.val (.int p0), .val (.int p1), .val (.int p2), .val (.int vcp216), .val (.int vat230), .val (.int v232), .val (.ref b233), .unset, .unset, .unset, .unset, .unset, .unset, .unset, .unset] [(.int vat230), (.ref b233), (.int vcp216)])) rfl (by rw [hml]; rfl) (argsL := [(.int vcp216), (.ref b233), (.int vat230)]) (rest := []) (lenOf pd_0 rfl) rfl (by show 2 * 0 + _ ≤ _; exact Nat.le_of_eq rfl) (hb hby at_109) (fun _ _ => ⟨rfl, e246, (by decide : 1 + 0 ≤ _), (by decide : 12 + 0 ≤ _)⟩)
          dsimp only [Pt.U, Pt.locs, Pt.cells, Pt.slots] at X494 l494 y494 z494 st494 hQ494
          rw [l494, y494, z494] at X494
          replace X494 : Stand p l e room_1 s m #[(.int p0), (.int p1), (.int p2)] below meth c T494 _ 1 12 := X494
          obtain ⟨rfl, Nq494, oK494, oAa494⟩ := hQ494
          have N494 := Fr.app N246 Nq494
          have k495 : ∀ tg_, Steps p.tables e below (T494.setTop (mkF m 112 #[.val (.int p0), .val (.int p1), .val (.int p2), .val (.int vcp216), .val (.int vat230), .val (.int v232), .val (.ref b233), .unset, .unset, .unset, .unset, .unset, .unset, .unset, .unset] [(.int (((vat230 + (1 : Int32)) + (1 : Int32)) + (1 : Int32)))])) tg_ → Steps p.tables e below (s₁.setTop (entryFrame m #[(.int p0), (.int p1), (.int p2)] maxLocals)) tg_ := by
            intro tg_ kt
            refine k255 tg_ ?_
            refine st494 _ ?_
            show Steps p.tables e below (T494.setTop (mkF m 112 #[.val (.int p0), .val (.int p1), .val (.int p2), .val (.int vcp216), .val (.int vat230), .val (.int v232), .val (.ref b233), .unset, .unset, .unset, .unset, .unset, .unset, .unset, .unset] [(.int (((vat230 + (1 : Int32)) + (1 : Int32)) + (1 : Int32)))])) _
            exact kt
          obtain ⟨r496, hr496⟩ : ∃ z : Int32, z = (((vat230 + (1 : Int32)) + (1 : Int32)) + (1 : Int32)) := ⟨_, rfl⟩
          rw [← hr496] at k495
          have k498 : ∀ tg_, Steps p.tables e below (T494.setTop (mkF m 114 #[.val (.int p0), .val (.int p1), .val (.int p2), .val (.int vcp216), .val (.int vat230), .val (.int v232), .val (.ref b233), .val (.int r496), .unset, .unset, .unset, .unset, .unset, .unset, .unset] [])) tg_ → Steps p.tables e below (s₁.setTop (entryFrame m #[(.int p0), (.int p1), (.int p2)] maxLocals)) tg_ := by
            intro tg_ kt
            refine k495 tg_ ?_
            show Steps p.tables e below (T494.setTop (mkF m 112 #[.val (.int p0), .val (.int p1), .val (.int p2), .val (.int vcp216), .val (.int vat230), .val (.int v232), .val (.ref b233), .unset, .unset, .unset, .unset, .unset, .unset, .unset, .unset] [(.int r496)])) _
            refine XS.istore X494.here hx rfl (hb hby at_112) rfl (l' := #[.val (.int p0), .val (.int p1), .val (.int p2), .val (.int vcp216), .val (.int vat230), .val (.int v232), .val (.ref b233), .val (.int r496), .unset, .unset, .unset, .unset, .unset, .unset, .unset]) rfl ?_
            show Steps p.tables e below (T494.setTop (mkF m 114 #[.val (.int p0), .val (.int p1), .val (.int p2), .val (.int vcp216), .val (.int vat230), .val (.int v232), .val (.ref b233), .val (.int r496), .unset, .unset, .unset, .unset, .unset, .unset, .unset] [])) _
            exact kt
          obtain ⟨g497, hg497⟩ : ∃ z : Nat → Int32, z = (own_upd (own_upd (own_upd (fun _ => v232) k ((((224 : Int32) ||| ((vcp216.toUInt32 >>> ((12 : Int32) &&& 31).toUInt32).toInt32)).toInt8.toInt32).toInt8.toInt32)) (k + 1) ((((128 : Int32) ||| (((vcp216.toUInt32 >>> ((6 : Int32) &&& 31).toUInt32).toInt32) &&& (63 : Int32))).toInt8.toInt32).toInt8.toInt32)) (k + 2) ((((128 : Int32) ||| (vcp216 &&& (63 : Int32))).toInt8.toInt32).toInt8.toInt32)) := ⟨_, rfl⟩
          rw [← hg497] at oAa494
          have k499 : ∀ tg_, Steps p.tables e below (T494.setTop (mkF m 119 #[.val (.int p0), .val (.int p1), .val (.int p2), .val (.int vcp216), .val (.int vat230), .val (.int v232), .val (.ref b233), .val (.int r496), .unset, .unset, .unset, .unset, .unset, .unset, .unset] [(.int (r496 - vat230))])) tg_ → Steps p.tables e below (s₁.setTop (entryFrame m #[(.int p0), (.int p1), (.int p2)] maxLocals)) tg_ := by
            intro tg_ kt
            refine k498 tg_ ?_
            refine XS.iload X494.here hx rfl (hb hby at_114) rfl ?_
            show Steps p.tables e below (T494.setTop (mkF m 116 #[.val (.int p0), .val (.int p1), .val (.int p2), .val (.int vcp216), .val (.int vat230), .val (.int v232), .val (.ref b233), .val (.int r496), .unset, .unset, .unset, .unset, .unset, .unset, .unset] [(.int r496)])) _
            refine XS.iload X494.here hx rfl (hb hby at_116) rfl ?_
            show Steps p.tables e below (T494.setTop (mkF m 118 #[.val (.int p0), .val (.int p1), .val (.int p2), .val (.int vcp216), .val (.int vat230), .val (.int v232), .val (.ref b233), .val (.int r496), .unset, .unset, .unset, .unset, .unset, .unset, .unset] [(.int vat230), (.int r496)])) _
            refine XS.isub X494.here hx rfl (hb hby at_118) rfl ?_
            show Steps p.tables e below (T494.setTop (mkF m 119 #[.val (.int p0), .val (.int p1), .val (.int p2), .val (.int vcp216), .val (.int vat230), .val (.int v232), .val (.ref b233), .val (.int r496), .unset, .unset, .unset, .unset, .unset, .unset, .unset] [(.int (r496 - vat230))])) _
            exact kt
          obtain ⟨v500, hv500⟩ : ∃ z : Int32, z = (r496 - vat230) := ⟨_, rfl⟩
          rw [← hv500] at k499
          have hc124_515 : ¬ (v500 < (1 : Int32)) := (by
              have ar501 := rng32 v500
              have ar502 := rng32 r496
              have ar503 := rng32 vat230
              have ar504 : (1 : Int32).toInt = 1 := by decide
              have ar505 := rng32 (vat230 + (1 : Int32))
              first | have ar506 : (vat230 + (1 : Int32)).toInt = vat230.toInt + 1 := (by have qw := c_iadd vat230 (1 : Int32); omega) | (have ar506 := c_iadd vat230 (1 : Int32); skip)
              have ar507 := rng32 ((vat230 + (1 : Int32)) + (1 : Int32))
              first | have ar508 : ((vat230 + (1 : Int32)) + (1 : Int32)).toInt = (vat230 + (1 : Int32)).toInt + 1 := (by have qw := c_iadd (vat230 + (1 : Int32)) (1 : Int32); omega) | (have ar508 := c_iadd (vat230 + (1 : Int32)) (1 : Int32); skip)
              have ar509 := rng32 (((vat230 + (1 : Int32)) + (1 : Int32)) + (1 : Int32))
              first | have ar510 : (((vat230 + (1 : Int32)) + (1 : Int32)) + (1 : Int32)).toInt = ((vat230 + (1 : Int32)) + (1 : Int32)).toInt + 1 := (by have qw := c_iadd ((vat230 + (1 : Int32)) + (1 : Int32)) (1 : Int32); omega) | (have ar510 := c_iadd ((vat230 + (1 : Int32)) + (1 : Int32)) (1 : Int32); skip)
              have ar511 := congrArg Int32.toInt hr496
              have ar512 := rng32 (r496 - vat230)
              first | have ar513 : (r496 - vat230).toInt = r496.toInt - vat230.toInt := (by have qw := c_isub r496 vat230; omega) | (have ar513 := c_isub r496 vat230; skip)
              have ar514 := congrArg Int32.toInt hv500
              exact fun qq_ => absurd (Int32.lt_iff_toInt_lt.mp qq_) (by omega))
          have hc130_531 : ¬ ((4 : Int32) < v500) := (by
              have ar516 : (4 : Int32).toInt = 4 := by decide
              have ar517 := rng32 v500
              have ar518 := rng32 r496
              have ar519 := rng32 vat230
              have ar520 : (1 : Int32).toInt = 1 := by decide
              have ar521 := rng32 (vat230 + (1 : Int32))
              first | have ar522 : (vat230 + (1 : Int32)).toInt = vat230.toInt + 1 := (by have qw := c_iadd vat230 (1 : Int32); omega) | (have ar522 := c_iadd vat230 (1 : Int32); skip)
              have ar523 := rng32 ((vat230 + (1 : Int32)) + (1 : Int32))
              first | have ar524 : ((vat230 + (1 : Int32)) + (1 : Int32)).toInt = (vat230 + (1 : Int32)).toInt + 1 := (by have qw := c_iadd (vat230 + (1 : Int32)) (1 : Int32); omega) | (have ar524 := c_iadd (vat230 + (1 : Int32)) (1 : Int32); skip)
              have ar525 := rng32 (((vat230 + (1 : Int32)) + (1 : Int32)) + (1 : Int32))
              first | have ar526 : (((vat230 + (1 : Int32)) + (1 : Int32)) + (1 : Int32)).toInt = ((vat230 + (1 : Int32)) + (1 : Int32)).toInt + 1 := (by have qw := c_iadd ((vat230 + (1 : Int32)) + (1 : Int32)) (1 : Int32); omega) | (have ar526 := c_iadd ((vat230 + (1 : Int32)) + (1 : Int32)) (1 : Int32); skip)
              have ar527 := congrArg Int32.toInt hr496
              have ar528 := rng32 (r496 - vat230)
              first | have ar529 : (r496 - vat230).toInt = r496.toInt - vat230.toInt := (by have qw := c_isub r496 vat230; omega) | (have ar529 := c_isub r496 vat230; skip)
              have ar530 := congrArg Int32.toInt hv500
              exact fun qq_ => absurd (Int32.lt_iff_toInt_lt.mp qq_) (by omega))
          have k532 : ∀ tg_, Steps p.tables e below (T494.setTop (mkF m 137 #[.val (.int p0), .val (.int p1), .val (.int p2), .val (.int vcp216), .val (.int vat230), .val (.int v232), .val (.ref b233), .val (.int r496), .val (.int v500), .unset, .unset, .unset, .unset, .unset, .unset] [(.int vat230)])) tg_ → Steps p.tables e below (s₁.setTop (entryFrame m #[(.int p0), (.int p1), (.int p2)] maxLocals)) tg_ := by
            intro tg_ kt
            refine k499 tg_ ?_
            refine XS.istore X494.here hx rfl (hb hby at_119) rfl (l' := #[.val (.int p0), .val (.int p1), .val (.int p2), .val (.int vcp216), .val (.int vat230), .val (.int v232), .val (.ref b233), .val (.int r496), .val (.int v500), .unset, .unset, .unset, .unset, .unset, .unset]) rfl ?_
            show Steps p.tables e below (T494.setTop (mkF m 121 #[.val (.int p0), .val (.int p1), .val (.int p2), .val (.int vcp216), .val (.int vat230), .val (.int v232), .val (.ref b233), .val (.int r496), .val (.int v500), .unset, .unset, .unset, .unset, .unset, .unset] [])) _
            refine XS.iload X494.here hx rfl (hb hby at_121) rfl ?_
            show Steps p.tables e below (T494.setTop (mkF m 123 #[.val (.int p0), .val (.int p1), .val (.int p2), .val (.int vcp216), .val (.int vat230), .val (.int v232), .val (.ref b233), .val (.int r496), .val (.int v500), .unset, .unset, .unset, .unset, .unset, .unset] [(.int v500)])) _
            refine XS.iconst X494.here hx rfl (hb hby at_123) ?_
            show Steps p.tables e below (T494.setTop (mkF m 124 #[.val (.int p0), .val (.int p1), .val (.int p2), .val (.int vcp216), .val (.int vat230), .val (.int v232), .val (.ref b233), .val (.int r496), .val (.int v500), .unset, .unset, .unset, .unset, .unset, .unset] [(.int (1 : Int32)), (.int v500)])) _
            refine XS.icmpNo X494.here hx rfl (hb hby at_124) rfl (flt hc124_515).1 ?_
            show Steps p.tables e below (T494.setTop (mkF m 127 #[.val (.int p0), .val (.int p1), .val (.int p2), .val (.int vcp216), .val (.int vat230), .val (.int v232), .val (.ref b233), .val (.int r496), .val (.int v500), .unset, .unset, .unset, .unset, .unset, .unset] [])) _
            refine XS.iload X494.here hx rfl (hb hby at_127) rfl ?_
            show Steps p.tables e below (T494.setTop (mkF m 129 #[.val (.int p0), .val (.int p1), .val (.int p2), .val (.int vcp216), .val (.int vat230), .val (.int v232), .val (.ref b233), .val (.int r496), .val (.int v500), .unset, .unset, .unset, .unset, .unset, .unset] [(.int v500)])) _
            refine XS.iconst X494.here hx rfl (hb hby at_129) ?_
            show Steps p.tables e below (T494.setTop (mkF m 130 #[.val (.int p0), .val (.int p1), .val (.int p2), .val (.int vcp216), .val (.int vat230), .val (.int v232), .val (.ref b233), .val (.int r496), .val (.int v500), .unset, .unset, .unset, .unset, .unset, .unset] [(.int (4 : Int32)), (.int v500)])) _
            refine XS.icmpYes X494.here hx rfl (pc0 := 130) (pc' := 135) rfl (hb hby at_130) rfl (flt hc130_531).2.2.2 (by decide) (by decide) ?_
            show Steps p.tables e below (T494.setTop (mkF m 135 #[.val (.int p0), .val (.int p1), .val (.int p2), .val (.int vcp216), .val (.int vat230), .val (.int v232), .val (.ref b233), .val (.int r496), .val (.int v500), .unset, .unset, .unset, .unset, .unset, .unset] [])) _
            refine XS.iload X494.here hx rfl (hb hby at_135) rfl ?_
            show Steps p.tables e below (T494.setTop (mkF m 137 #[.val (.int p0), .val (.int p1), .val (.int p2), .val (.int vcp216), .val (.int vat230), .val (.int v232), .val (.ref b233), .val (.int r496), .val (.int v500), .unset, .unset, .unset, .unset, .unset, .unset] [(.int vat230)])) _
            exact kt
          have k546 : ∀ tg_, Steps p.tables e below (T494.setTop (mkF m 154 #[.val (.int p0), .val (.int p1), .val (.int p2), .val (.int vcp216), .val (.int vat230), .val (.int v232), .val (.ref b233), .val (.int r496), .val (.int v500), .unset, .unset, .unset, .unset, .unset, .unset] [])) tg_ → Steps p.tables e below (s₁.setTop (entryFrame m #[(.int p0), (.int p1), (.int p2)] maxLocals)) tg_ := by
            intro tg_ kt
            refine k532 tg_ ?_
            by_cases hj137_533 : (0 : Int32) < vat230
            · have hj534 : (vat230 - (1 : Int32)).toInt = (((k - 1) : Nat) : Int) := by
                have ar535 := rng32 vat230
                have ar536 : (1 : Int32).toInt = 1 := by decide
                have ar537 := rng32 (vat230 - (1 : Int32))
                first | have ar538 : (vat230 - (1 : Int32)).toInt = vat230.toInt - 1 := (by have qw := c_isub vat230 (1 : Int32); omega) | (have ar538 := c_isub vat230 (1 : Int32); skip)
                have ar539 : (0 : Int32).toInt = 0 := by decide
                have ar540 : (0 : Int32).toInt < vat230.toInt := Int32.lt_iff_toInt_lt.mp hj137_533
                omega
              have hv541 : g497 (k - 1) = v232 := by
                have hk1 : 1 ≤ k := by
                  have ar542 : (0 : Int32).toInt = 0 := by decide
                  have ar543 := rng32 vat230
                  have ar544 : (0 : Int32).toInt < vat230.toInt := Int32.lt_iff_toInt_lt.mp hj137_533
                  omega
                rw [hg497]; simp only [own_upd]
                rw [if_neg (by omega)]
                rw [if_neg (by omega)]
                rw [if_neg (by omega)]
              have hc149_545 : v232 = v232 := rfl
              refine XS.ifNo X494.here hx rfl (hb hby at_137) rfl ((if0 _ _).trans (tlt hj137_533).2.2.2) ?_
              show Steps p.tables e below (T494.setTop (mkF m 140 #[.val (.int p0), .val (.int p1), .val (.int p2), .val (.int vcp216), .val (.int vat230), .val (.int v232), .val (.ref b233), .val (.int r496), .val (.int v500), .unset, .unset, .unset, .unset, .unset, .unset] [])) _
              refine XS.aload X494.here hx rfl (hb hby at_140) rfl rfl ?_
              show Steps p.tables e below (T494.setTop (mkF m 142 #[.val (.int p0), .val (.int p1), .val (.int p2), .val (.int vcp216), .val (.int vat230), .val (.int v232), .val (.ref b233), .val (.int r496), .val (.int v500), .unset, .unset, .unset, .unset, .unset, .unset] [(.ref b233)])) _
              refine XS.iload X494.here hx rfl (hb hby at_142) rfl ?_
              show Steps p.tables e below (T494.setTop (mkF m 144 #[.val (.int p0), .val (.int p1), .val (.int p2), .val (.int vcp216), .val (.int vat230), .val (.int v232), .val (.ref b233), .val (.int r496), .val (.int v500), .unset, .unset, .unset, .unset, .unset, .unset] [(.int vat230), (.ref b233)])) _
              refine XS.iconst X494.here hx rfl (hb hby at_144) ?_
              show Steps p.tables e below (T494.setTop (mkF m 145 #[.val (.int p0), .val (.int p1), .val (.int p2), .val (.int vcp216), .val (.int vat230), .val (.int v232), .val (.ref b233), .val (.int r496), .val (.int v500), .unset, .unset, .unset, .unset, .unset, .unset] [(.int (1 : Int32)), (.int vat230), (.ref b233)])) _
              refine XS.isub X494.here hx rfl (hb hby at_145) rfl ?_
              show Steps p.tables e below (T494.setTop (mkF m 146 #[.val (.int p0), .val (.int p1), .val (.int p2), .val (.int vcp216), .val (.int vat230), .val (.int v232), .val (.ref b233), .val (.int r496), .val (.int v500), .unset, .unset, .unset, .unset, .unset, .unset] [(.int (vat230 - (1 : Int32))), (.ref b233)])) _
              refine own_ldB X494 hx hZ rfl oAa494 (i := (k - 1)) hj534 (by omega) hv541 (g := (mkF m 146 #[.val (.int p0), .val (.int p1), .val (.int p2), .val (.int vcp216), .val (.int vat230), .val (.int v232), .val (.ref b233), .val (.int r496), .val (.int v500), .unset, .unset, .unset, .unset, .unset, .unset] [(.int (vat230 - (1 : Int32))), (.ref b233)])) rfl rfl (hb hby at_146) _ ?_
              show Steps p.tables e below (T494.setTop (mkF m 147 #[.val (.int p0), .val (.int p1), .val (.int p2), .val (.int vcp216), .val (.int vat230), .val (.int v232), .val (.ref b233), .val (.int r496), .val (.int v500), .unset, .unset, .unset, .unset, .unset, .unset] [(.int v232)])) _
              refine XS.iload X494.here hx rfl (hb hby at_147) rfl ?_
              show Steps p.tables e below (T494.setTop (mkF m 149 #[.val (.int p0), .val (.int p1), .val (.int p2), .val (.int vcp216), .val (.int vat230), .val (.int v232), .val (.ref b233), .val (.int r496), .val (.int v500), .unset, .unset, .unset, .unset, .unset, .unset] [(.int v232), (.int v232)])) _
              refine XS.icmpYes X494.here hx rfl (pc0 := 149) (pc' := 154) rfl (hb hby at_149) rfl (teq hc149_545).1 (by decide) (by decide) ?_
              show Steps p.tables e below (T494.setTop (mkF m 154 #[.val (.int p0), .val (.int p1), .val (.int p2), .val (.int vcp216), .val (.int vat230), .val (.int v232), .val (.ref b233), .val (.int r496), .val (.int v500), .unset, .unset, .unset, .unset, .unset, .unset] [])) _
              simpa only [if_pos hj137_533] using kt
            · refine XS.ifYes X494.here hx rfl (pc0 := 137) (pc' := 154) rfl (hb hby at_137) rfl ((if0 _ _).trans (flt hj137_533).2.2.2) (by decide) (by decide) ?_
              show Steps p.tables e below (T494.setTop (mkF m 154 #[.val (.int p0), .val (.int p1), .val (.int p2), .val (.int vcp216), .val (.int vat230), .val (.int v232), .val (.ref b233), .val (.int r496), .val (.int v500), .unset, .unset, .unset, .unset, .unset, .unset] [])) _
              simpa only [if_neg hj137_533] using kt
          have hj547 : r496.toInt = (((k + 3) : Nat) : Int) := by
            have ar548 := rng32 r496
            have ar549 := rng32 vat230
            have ar550 : (1 : Int32).toInt = 1 := by decide
            have ar551 := rng32 (vat230 + (1 : Int32))
            first | have ar552 : (vat230 + (1 : Int32)).toInt = vat230.toInt + 1 := (by have qw := c_iadd vat230 (1 : Int32); omega) | (have ar552 := c_iadd vat230 (1 : Int32); skip)
            have ar553 := rng32 ((vat230 + (1 : Int32)) + (1 : Int32))
            first | have ar554 : ((vat230 + (1 : Int32)) + (1 : Int32)).toInt = (vat230 + (1 : Int32)).toInt + 1 := (by have qw := c_iadd (vat230 + (1 : Int32)) (1 : Int32); omega) | (have ar554 := c_iadd (vat230 + (1 : Int32)) (1 : Int32); skip)
            have ar555 := rng32 (((vat230 + (1 : Int32)) + (1 : Int32)) + (1 : Int32))
            first | have ar556 : (((vat230 + (1 : Int32)) + (1 : Int32)) + (1 : Int32)).toInt = ((vat230 + (1 : Int32)) + (1 : Int32)).toInt + 1 := (by have qw := c_iadd ((vat230 + (1 : Int32)) + (1 : Int32)) (1 : Int32); omega) | (have ar556 := c_iadd ((vat230 + (1 : Int32)) + (1 : Int32)) (1 : Int32); skip)
            have ar557 := congrArg Int32.toInt hr496
            omega
          have hv558 : g497 (k + 3) = v232 := by
            rw [hg497]; simp only [own_upd]
            rw [if_neg (by omega)]
            rw [if_neg (by omega)]
            rw [if_neg (by omega)]
          have hc161_559 : v232 = v232 := rfl
          have hj560 : vat230.toInt = ((k : Nat) : Int) := by
            have ar561 := rng32 vat230
            omega
          have hv562 : g497 k = ((((224 : Int32) ||| ((vcp216.toUInt32 >>> ((12 : Int32) &&& 31).toUInt32).toInt32)).toInt8.toInt32).toInt8.toInt32) := by
            rw [hg497]; simp only [own_upd]
            rw [if_neg (by omega)]
            rw [if_neg (by omega)]
            rw [if_pos (by omega)]
          have k563 : ∀ tg_, Steps p.tables e below (T494.setTop (mkF m 175 #[.val (.int p0), .val (.int p1), .val (.int p2), .val (.int vcp216), .val (.int vat230), .val (.int v232), .val (.ref b233), .val (.int r496), .val (.int v500), .unset, .unset, .unset, .unset, .unset, .unset] [(.int (((((224 : Int32) ||| ((vcp216.toUInt32 >>> ((12 : Int32) &&& 31).toUInt32).toInt32)).toInt8.toInt32).toInt8.toInt32) &&& (255 : Int32)))])) tg_ → Steps p.tables e below (s₁.setTop (entryFrame m #[(.int p0), (.int p1), (.int p2)] maxLocals)) tg_ := by
            intro tg_ kt
            refine k546 tg_ ?_
            refine XS.aload X494.here hx rfl (hb hby at_154) rfl rfl ?_
            show Steps p.tables e below (T494.setTop (mkF m 156 #[.val (.int p0), .val (.int p1), .val (.int p2), .val (.int vcp216), .val (.int vat230), .val (.int v232), .val (.ref b233), .val (.int r496), .val (.int v500), .unset, .unset, .unset, .unset, .unset, .unset] [(.ref b233)])) _
            refine XS.iload X494.here hx rfl (hb hby at_156) rfl ?_
            show Steps p.tables e below (T494.setTop (mkF m 158 #[.val (.int p0), .val (.int p1), .val (.int p2), .val (.int vcp216), .val (.int vat230), .val (.int v232), .val (.ref b233), .val (.int r496), .val (.int v500), .unset, .unset, .unset, .unset, .unset, .unset] [(.int r496), (.ref b233)])) _
            refine own_ldB X494 hx hZ rfl oAa494 (i := (k + 3)) hj547 (by omega) hv558 (g := (mkF m 158 #[.val (.int p0), .val (.int p1), .val (.int p2), .val (.int vcp216), .val (.int vat230), .val (.int v232), .val (.ref b233), .val (.int r496), .val (.int v500), .unset, .unset, .unset, .unset, .unset, .unset] [(.int r496), (.ref b233)])) rfl rfl (hb hby at_158) _ ?_
            show Steps p.tables e below (T494.setTop (mkF m 159 #[.val (.int p0), .val (.int p1), .val (.int p2), .val (.int vcp216), .val (.int vat230), .val (.int v232), .val (.ref b233), .val (.int r496), .val (.int v500), .unset, .unset, .unset, .unset, .unset, .unset] [(.int v232)])) _
            refine XS.iload X494.here hx rfl (hb hby at_159) rfl ?_
            show Steps p.tables e below (T494.setTop (mkF m 161 #[.val (.int p0), .val (.int p1), .val (.int p2), .val (.int vcp216), .val (.int vat230), .val (.int v232), .val (.ref b233), .val (.int r496), .val (.int v500), .unset, .unset, .unset, .unset, .unset, .unset] [(.int v232), (.int v232)])) _
            refine XS.icmpYes X494.here hx rfl (pc0 := 161) (pc' := 166) rfl (hb hby at_161) rfl (teq hc161_559).1 (by decide) (by decide) ?_
            show Steps p.tables e below (T494.setTop (mkF m 166 #[.val (.int p0), .val (.int p1), .val (.int p2), .val (.int vcp216), .val (.int vat230), .val (.int v232), .val (.ref b233), .val (.int r496), .val (.int v500), .unset, .unset, .unset, .unset, .unset, .unset] [])) _
            refine XS.aload X494.here hx rfl (hb hby at_166) rfl rfl ?_
            show Steps p.tables e below (T494.setTop (mkF m 168 #[.val (.int p0), .val (.int p1), .val (.int p2), .val (.int vcp216), .val (.int vat230), .val (.int v232), .val (.ref b233), .val (.int r496), .val (.int v500), .unset, .unset, .unset, .unset, .unset, .unset] [(.ref b233)])) _
            refine XS.iload X494.here hx rfl (hb hby at_168) rfl ?_
            show Steps p.tables e below (T494.setTop (mkF m 170 #[.val (.int p0), .val (.int p1), .val (.int p2), .val (.int vcp216), .val (.int vat230), .val (.int v232), .val (.ref b233), .val (.int r496), .val (.int v500), .unset, .unset, .unset, .unset, .unset, .unset] [(.int vat230), (.ref b233)])) _
            refine own_ldB X494 hx hZ rfl oAa494 (i := k) hj560 (by omega) hv562 (g := (mkF m 170 #[.val (.int p0), .val (.int p1), .val (.int p2), .val (.int vcp216), .val (.int vat230), .val (.int v232), .val (.ref b233), .val (.int r496), .val (.int v500), .unset, .unset, .unset, .unset, .unset, .unset] [(.int vat230), (.ref b233)])) rfl rfl (hb hby at_170) _ ?_
            show Steps p.tables e below (T494.setTop (mkF m 171 #[.val (.int p0), .val (.int p1), .val (.int p2), .val (.int vcp216), .val (.int vat230), .val (.int v232), .val (.ref b233), .val (.int r496), .val (.int v500), .unset, .unset, .unset, .unset, .unset, .unset] [(.int ((((224 : Int32) ||| ((vcp216.toUInt32 >>> ((12 : Int32) &&& 31).toUInt32).toInt32)).toInt8.toInt32).toInt8.toInt32))])) _
            refine XS.sipush X494.here hx rfl (hb hby at_171) ?_
            show Steps p.tables e below (T494.setTop (mkF m 174 #[.val (.int p0), .val (.int p1), .val (.int p2), .val (.int vcp216), .val (.int vat230), .val (.int v232), .val (.ref b233), .val (.int r496), .val (.int v500), .unset, .unset, .unset, .unset, .unset, .unset] [(.int (255 : Int32)), (.int ((((224 : Int32) ||| ((vcp216.toUInt32 >>> ((12 : Int32) &&& 31).toUInt32).toInt32)).toInt8.toInt32).toInt8.toInt32))])) _
            refine XS.iand X494.here hx rfl (hb hby at_174) rfl ?_
            show Steps p.tables e below (T494.setTop (mkF m 175 #[.val (.int p0), .val (.int p1), .val (.int p2), .val (.int vcp216), .val (.int vat230), .val (.int v232), .val (.ref b233), .val (.int r496), .val (.int v500), .unset, .unset, .unset, .unset, .unset, .unset] [(.int (((((224 : Int32) ||| ((vcp216.toUInt32 >>> ((12 : Int32) &&& 31).toUInt32).toInt32)).toInt8.toInt32).toInt8.toInt32) &&& (255 : Int32)))])) _
            exact kt
          obtain ⟨vb564, hvb564⟩ : ∃ z : Int32, z = (((((224 : Int32) ||| ((vcp216.toUInt32 >>> ((12 : Int32) &&& 31).toUInt32).toInt32)).toInt8.toInt32).toInt8.toInt32) &&& (255 : Int32)) := ⟨_, rfl⟩
          rw [← hvb564] at k563
          have k565 : ∀ tg_, Steps p.tables e below (T494.setTop (mkF m 177 #[.val (.int p0), .val (.int p1), .val (.int p2), .val (.int vcp216), .val (.int vat230), .val (.int v232), .val (.ref b233), .val (.int r496), .val (.int v500), .val (.int vb564), .unset, .unset, .unset, .unset, .unset] [])) tg_ → Steps p.tables e below (s₁.setTop (entryFrame m #[(.int p0), (.int p1), (.int p2)] maxLocals)) tg_ := by
            intro tg_ kt
            refine k563 tg_ ?_
            refine XS.istore X494.here hx rfl (hb hby at_175) rfl (l' := #[.val (.int p0), .val (.int p1), .val (.int p2), .val (.int vcp216), .val (.int vat230), .val (.int v232), .val (.ref b233), .val (.int r496), .val (.int v500), .val (.int vb564), .unset, .unset, .unset, .unset, .unset]) rfl ?_
            show Steps p.tables e below (T494.setTop (mkF m 177 #[.val (.int p0), .val (.int p1), .val (.int p2), .val (.int vcp216), .val (.int vat230), .val (.int v232), .val (.ref b233), .val (.int r496), .val (.int v500), .val (.int vb564), .unset, .unset, .unset, .unset, .unset] [])) _
            exact kt
          have hbv_vb564 : vb564.toInt = 224 + vcp216.toInt / 4096 := by rw [hvb564]; exact own_e3_0 vcp216 (by omega) (by omega)
          have hc180_580 : ¬ (v500 = (1 : Int32)) := (by
              have ar566 := rng32 v500
              have ar567 := rng32 r496
              have ar568 := rng32 vat230
              have ar569 : (1 : Int32).toInt = 1 := by decide
              have ar570 := rng32 (vat230 + (1 : Int32))
              first | have ar571 : (vat230 + (1 : Int32)).toInt = vat230.toInt + 1 := (by have qw := c_iadd vat230 (1 : Int32); omega) | (have ar571 := c_iadd vat230 (1 : Int32); skip)
              have ar572 := rng32 ((vat230 + (1 : Int32)) + (1 : Int32))
              first | have ar573 : ((vat230 + (1 : Int32)) + (1 : Int32)).toInt = (vat230 + (1 : Int32)).toInt + 1 := (by have qw := c_iadd (vat230 + (1 : Int32)) (1 : Int32); omega) | (have ar573 := c_iadd (vat230 + (1 : Int32)) (1 : Int32); skip)
              have ar574 := rng32 (((vat230 + (1 : Int32)) + (1 : Int32)) + (1 : Int32))
              first | have ar575 : (((vat230 + (1 : Int32)) + (1 : Int32)) + (1 : Int32)).toInt = ((vat230 + (1 : Int32)) + (1 : Int32)).toInt + 1 := (by have qw := c_iadd ((vat230 + (1 : Int32)) + (1 : Int32)) (1 : Int32); omega) | (have ar575 := c_iadd ((vat230 + (1 : Int32)) + (1 : Int32)) (1 : Int32); skip)
              have ar576 := congrArg Int32.toInt hr496
              have ar577 := rng32 (r496 - vat230)
              first | have ar578 : (r496 - vat230).toInt = r496.toInt - vat230.toInt := (by have qw := c_isub r496 vat230; omega) | (have ar578 := c_isub r496 vat230; skip)
              have ar579 := congrArg Int32.toInt hv500
              exact fun qq_ => absurd (congrArg Int32.toInt qq_) (by omega))
          have hj581 : (vat230 + (1 : Int32)).toInt = (((k + 1) : Nat) : Int) := by
            have ar582 := rng32 vat230
            have ar583 : (1 : Int32).toInt = 1 := by decide
            have ar584 := rng32 (vat230 + (1 : Int32))
            first | have ar585 : (vat230 + (1 : Int32)).toInt = vat230.toInt + 1 := (by have qw := c_iadd vat230 (1 : Int32); omega) | (have ar585 := c_iadd vat230 (1 : Int32); skip)
            omega
          have hv586 : g497 (k + 1) = ((((128 : Int32) ||| (((vcp216.toUInt32 >>> ((6 : Int32) &&& 31).toUInt32).toInt32) &&& (63 : Int32))).toInt8.toInt32).toInt8.toInt32) := by
            rw [hg497]; simp only [own_upd]
            rw [if_neg (by omega)]
            rw [if_pos (by omega)]
          have k587 : ∀ tg_, Steps p.tables e below (T494.setTop (mkF m 214 #[.val (.int p0), .val (.int p1), .val (.int p2), .val (.int vcp216), .val (.int vat230), .val (.int v232), .val (.ref b233), .val (.int r496), .val (.int v500), .val (.int vb564), .unset, .unset, .unset, .unset, .unset] [(.int (((((128 : Int32) ||| (((vcp216.toUInt32 >>> ((6 : Int32) &&& 31).toUInt32).toInt32) &&& (63 : Int32))).toInt8.toInt32).toInt8.toInt32) &&& (255 : Int32)))])) tg_ → Steps p.tables e below (s₁.setTop (entryFrame m #[(.int p0), (.int p1), (.int p2)] maxLocals)) tg_ := by
            intro tg_ kt
            refine k565 tg_ ?_
            refine XS.iload X494.here hx rfl (hb hby at_177) rfl ?_
            show Steps p.tables e below (T494.setTop (mkF m 179 #[.val (.int p0), .val (.int p1), .val (.int p2), .val (.int vcp216), .val (.int vat230), .val (.int v232), .val (.ref b233), .val (.int r496), .val (.int v500), .val (.int vb564), .unset, .unset, .unset, .unset, .unset] [(.int v500)])) _
            refine XS.iconst X494.here hx rfl (hb hby at_179) ?_
            show Steps p.tables e below (T494.setTop (mkF m 180 #[.val (.int p0), .val (.int p1), .val (.int p2), .val (.int vcp216), .val (.int vat230), .val (.int v232), .val (.ref b233), .val (.int r496), .val (.int v500), .val (.int vb564), .unset, .unset, .unset, .unset, .unset] [(.int (1 : Int32)), (.int v500)])) _
            refine XS.icmpYes X494.here hx rfl (pc0 := 180) (pc' := 203) rfl (hb hby at_180) rfl (feq hc180_580).2 (by decide) (by decide) ?_
            show Steps p.tables e below (T494.setTop (mkF m 203 #[.val (.int p0), .val (.int p1), .val (.int p2), .val (.int vcp216), .val (.int vat230), .val (.int v232), .val (.ref b233), .val (.int r496), .val (.int v500), .val (.int vb564), .unset, .unset, .unset, .unset, .unset] [])) _
            refine XS.aload X494.here hx rfl (hb hby at_203) rfl rfl ?_
            show Steps p.tables e below (T494.setTop (mkF m 205 #[.val (.int p0), .val (.int p1), .val (.int p2), .val (.int vcp216), .val (.int vat230), .val (.int v232), .val (.ref b233), .val (.int r496), .val (.int v500), .val (.int vb564), .unset, .unset, .unset, .unset, .unset] [(.ref b233)])) _
            refine XS.iload X494.here hx rfl (hb hby at_205) rfl ?_
            show Steps p.tables e below (T494.setTop (mkF m 207 #[.val (.int p0), .val (.int p1), .val (.int p2), .val (.int vcp216), .val (.int vat230), .val (.int v232), .val (.ref b233), .val (.int r496), .val (.int v500), .val (.int vb564), .unset, .unset, .unset, .unset, .unset] [(.int vat230), (.ref b233)])) _
            refine XS.iconst X494.here hx rfl (hb hby at_207) ?_
            show Steps p.tables e below (T494.setTop (mkF m 208 #[.val (.int p0), .val (.int p1), .val (.int p2), .val (.int vcp216), .val (.int vat230), .val (.int v232), .val (.ref b233), .val (.int r496), .val (.int v500), .val (.int vb564), .unset, .unset, .unset, .unset, .unset] [(.int (1 : Int32)), (.int vat230), (.ref b233)])) _
            refine XS.iadd X494.here hx rfl (hb hby at_208) rfl ?_
            show Steps p.tables e below (T494.setTop (mkF m 209 #[.val (.int p0), .val (.int p1), .val (.int p2), .val (.int vcp216), .val (.int vat230), .val (.int v232), .val (.ref b233), .val (.int r496), .val (.int v500), .val (.int vb564), .unset, .unset, .unset, .unset, .unset] [(.int (vat230 + (1 : Int32))), (.ref b233)])) _
            refine own_ldB X494 hx hZ rfl oAa494 (i := (k + 1)) hj581 (by omega) hv586 (g := (mkF m 209 #[.val (.int p0), .val (.int p1), .val (.int p2), .val (.int vcp216), .val (.int vat230), .val (.int v232), .val (.ref b233), .val (.int r496), .val (.int v500), .val (.int vb564), .unset, .unset, .unset, .unset, .unset] [(.int (vat230 + (1 : Int32))), (.ref b233)])) rfl rfl (hb hby at_209) _ ?_
            show Steps p.tables e below (T494.setTop (mkF m 210 #[.val (.int p0), .val (.int p1), .val (.int p2), .val (.int vcp216), .val (.int vat230), .val (.int v232), .val (.ref b233), .val (.int r496), .val (.int v500), .val (.int vb564), .unset, .unset, .unset, .unset, .unset] [(.int ((((128 : Int32) ||| (((vcp216.toUInt32 >>> ((6 : Int32) &&& 31).toUInt32).toInt32) &&& (63 : Int32))).toInt8.toInt32).toInt8.toInt32))])) _
            refine XS.sipush X494.here hx rfl (hb hby at_210) ?_
            show Steps p.tables e below (T494.setTop (mkF m 213 #[.val (.int p0), .val (.int p1), .val (.int p2), .val (.int vcp216), .val (.int vat230), .val (.int v232), .val (.ref b233), .val (.int r496), .val (.int v500), .val (.int vb564), .unset, .unset, .unset, .unset, .unset] [(.int (255 : Int32)), (.int ((((128 : Int32) ||| (((vcp216.toUInt32 >>> ((6 : Int32) &&& 31).toUInt32).toInt32) &&& (63 : Int32))).toInt8.toInt32).toInt8.toInt32))])) _
            refine XS.iand X494.here hx rfl (hb hby at_213) rfl ?_
            show Steps p.tables e below (T494.setTop (mkF m 214 #[.val (.int p0), .val (.int p1), .val (.int p2), .val (.int vcp216), .val (.int vat230), .val (.int v232), .val (.ref b233), .val (.int r496), .val (.int v500), .val (.int vb564), .unset, .unset, .unset, .unset, .unset] [(.int (((((128 : Int32) ||| (((vcp216.toUInt32 >>> ((6 : Int32) &&& 31).toUInt32).toInt32) &&& (63 : Int32))).toInt8.toInt32).toInt8.toInt32) &&& (255 : Int32)))])) _
            exact kt
          obtain ⟨vb588, hvb588⟩ : ∃ z : Int32, z = (((((128 : Int32) ||| (((vcp216.toUInt32 >>> ((6 : Int32) &&& 31).toUInt32).toInt32) &&& (63 : Int32))).toInt8.toInt32).toInt8.toInt32) &&& (255 : Int32)) := ⟨_, rfl⟩
          rw [← hvb588] at k587
          have k589 : ∀ tg_, Steps p.tables e below (T494.setTop (mkF m 216 #[.val (.int p0), .val (.int p1), .val (.int p2), .val (.int vcp216), .val (.int vat230), .val (.int v232), .val (.ref b233), .val (.int r496), .val (.int v500), .val (.int vb564), .unset, .unset, .val (.int vb588), .unset, .unset] [])) tg_ → Steps p.tables e below (s₁.setTop (entryFrame m #[(.int p0), (.int p1), (.int p2)] maxLocals)) tg_ := by
            intro tg_ kt
            refine k587 tg_ ?_
            refine XS.istore X494.here hx rfl (hb hby at_214) rfl (l' := #[.val (.int p0), .val (.int p1), .val (.int p2), .val (.int vcp216), .val (.int vat230), .val (.int v232), .val (.ref b233), .val (.int r496), .val (.int v500), .val (.int vb564), .unset, .unset, .val (.int vb588), .unset, .unset]) rfl ?_
            show Steps p.tables e below (T494.setTop (mkF m 216 #[.val (.int p0), .val (.int p1), .val (.int p2), .val (.int vcp216), .val (.int vat230), .val (.int v232), .val (.ref b233), .val (.int r496), .val (.int v500), .val (.int vb564), .unset, .unset, .val (.int vb588), .unset, .unset] [])) _
            exact kt
          have hbv_vb588 : vb588.toInt = 128 + vcp216.toInt / 64 % 64 := by rw [hvb588]; exact own_e3_1 vcp216 (by omega) (by omega)
          have hc225_596 : (vb588 &&& (192 : Int32)) = (128 : Int32) := (by
              have ar590 := rng32 vb588
              have ar591 : (192 : Int32).toInt = 192 := by decide
              first | have ar592 := own_hi192 vb588 (by omega) (by omega) | have ar592 := own_hi192 vb588
              have ar593 := c_and vb588 (192 : Int32) (by decide)
              have ar594 := rng32 (vb588 &&& (192 : Int32))
              have ar595 : (128 : Int32).toInt = 128 := by decide
              exact Int32.toInt_inj.mp (by omega))
          have hc233_612 : ¬ (v500 = (2 : Int32)) := (by
              have ar597 := rng32 v500
              have ar598 := rng32 r496
              have ar599 := rng32 vat230
              have ar600 : (1 : Int32).toInt = 1 := by decide
              have ar601 := rng32 (vat230 + (1 : Int32))
              first | have ar602 : (vat230 + (1 : Int32)).toInt = vat230.toInt + 1 := (by have qw := c_iadd vat230 (1 : Int32); omega) | (have ar602 := c_iadd vat230 (1 : Int32); skip)
              have ar603 := rng32 ((vat230 + (1 : Int32)) + (1 : Int32))
              first | have ar604 : ((vat230 + (1 : Int32)) + (1 : Int32)).toInt = (vat230 + (1 : Int32)).toInt + 1 := (by have qw := c_iadd (vat230 + (1 : Int32)) (1 : Int32); omega) | (have ar604 := c_iadd (vat230 + (1 : Int32)) (1 : Int32); skip)
              have ar605 := rng32 (((vat230 + (1 : Int32)) + (1 : Int32)) + (1 : Int32))
              first | have ar606 : (((vat230 + (1 : Int32)) + (1 : Int32)) + (1 : Int32)).toInt = ((vat230 + (1 : Int32)) + (1 : Int32)).toInt + 1 := (by have qw := c_iadd ((vat230 + (1 : Int32)) + (1 : Int32)) (1 : Int32); omega) | (have ar606 := c_iadd ((vat230 + (1 : Int32)) + (1 : Int32)) (1 : Int32); skip)
              have ar607 := congrArg Int32.toInt hr496
              have ar608 := rng32 (r496 - vat230)
              first | have ar609 : (r496 - vat230).toInt = r496.toInt - vat230.toInt := (by have qw := c_isub r496 vat230; omega) | (have ar609 := c_isub r496 vat230; skip)
              have ar610 := congrArg Int32.toInt hv500
              have ar611 : (2 : Int32).toInt = 2 := by decide
              exact fun qq_ => absurd (congrArg Int32.toInt qq_) (by omega))
          have hj613 : (vat230 + (2 : Int32)).toInt = (((k + 2) : Nat) : Int) := by
            have ar614 := rng32 vat230
            have ar615 : (2 : Int32).toInt = 2 := by decide
            have ar616 := rng32 (vat230 + (2 : Int32))
            first | have ar617 : (vat230 + (2 : Int32)).toInt = vat230.toInt + 2 := (by have qw := c_iadd vat230 (2 : Int32); omega) | (have ar617 := c_iadd vat230 (2 : Int32); skip)
            omega
          have hv618 : g497 (k + 2) = ((((128 : Int32) ||| (vcp216 &&& (63 : Int32))).toInt8.toInt32).toInt8.toInt32) := by
            rw [hg497]; simp only [own_upd]
            rw [if_pos (by omega)]
          have k619 : ∀ tg_, Steps p.tables e below (T494.setTop (mkF m 285 #[.val (.int p0), .val (.int p1), .val (.int p2), .val (.int vcp216), .val (.int vat230), .val (.int v232), .val (.ref b233), .val (.int r496), .val (.int v500), .val (.int vb564), .unset, .unset, .val (.int vb588), .unset, .unset] [(.int (((((128 : Int32) ||| (vcp216 &&& (63 : Int32))).toInt8.toInt32).toInt8.toInt32) &&& (255 : Int32)))])) tg_ → Steps p.tables e below (s₁.setTop (entryFrame m #[(.int p0), (.int p1), (.int p2)] maxLocals)) tg_ := by
            intro tg_ kt
            refine k589 tg_ ?_
            refine XS.iload X494.here hx rfl (hb hby at_216) rfl ?_
            show Steps p.tables e below (T494.setTop (mkF m 218 #[.val (.int p0), .val (.int p1), .val (.int p2), .val (.int vcp216), .val (.int vat230), .val (.int v232), .val (.ref b233), .val (.int r496), .val (.int v500), .val (.int vb564), .unset, .unset, .val (.int vb588), .unset, .unset] [(.int vb588)])) _
            refine XS.sipush X494.here hx rfl (hb hby at_218) ?_
            show Steps p.tables e below (T494.setTop (mkF m 221 #[.val (.int p0), .val (.int p1), .val (.int p2), .val (.int vcp216), .val (.int vat230), .val (.int v232), .val (.ref b233), .val (.int r496), .val (.int v500), .val (.int vb564), .unset, .unset, .val (.int vb588), .unset, .unset] [(.int (192 : Int32)), (.int vb588)])) _
            refine XS.iand X494.here hx rfl (hb hby at_221) rfl ?_
            show Steps p.tables e below (T494.setTop (mkF m 222 #[.val (.int p0), .val (.int p1), .val (.int p2), .val (.int vcp216), .val (.int vat230), .val (.int v232), .val (.ref b233), .val (.int r496), .val (.int v500), .val (.int vb564), .unset, .unset, .val (.int vb588), .unset, .unset] [(.int (vb588 &&& (192 : Int32)))])) _
            refine XS.sipush X494.here hx rfl (hb hby at_222) ?_
            show Steps p.tables e below (T494.setTop (mkF m 225 #[.val (.int p0), .val (.int p1), .val (.int p2), .val (.int vcp216), .val (.int vat230), .val (.int v232), .val (.ref b233), .val (.int r496), .val (.int v500), .val (.int vb564), .unset, .unset, .val (.int vb588), .unset, .unset] [(.int (128 : Int32)), (.int (vb588 &&& (192 : Int32)))])) _
            refine XS.icmpYes X494.here hx rfl (pc0 := 225) (pc' := 230) rfl (hb hby at_225) rfl (teq hc225_596).1 (by decide) (by decide) ?_
            show Steps p.tables e below (T494.setTop (mkF m 230 #[.val (.int p0), .val (.int p1), .val (.int p2), .val (.int vcp216), .val (.int vat230), .val (.int v232), .val (.ref b233), .val (.int r496), .val (.int v500), .val (.int vb564), .unset, .unset, .val (.int vb588), .unset, .unset] [])) _
            refine XS.iload X494.here hx rfl (hb hby at_230) rfl ?_
            show Steps p.tables e below (T494.setTop (mkF m 232 #[.val (.int p0), .val (.int p1), .val (.int p2), .val (.int vcp216), .val (.int vat230), .val (.int v232), .val (.ref b233), .val (.int r496), .val (.int v500), .val (.int vb564), .unset, .unset, .val (.int vb588), .unset, .unset] [(.int v500)])) _
            refine XS.iconst X494.here hx rfl (hb hby at_232) ?_
            show Steps p.tables e below (T494.setTop (mkF m 233 #[.val (.int p0), .val (.int p1), .val (.int p2), .val (.int vcp216), .val (.int vat230), .val (.int v232), .val (.ref b233), .val (.int r496), .val (.int v500), .val (.int vb564), .unset, .unset, .val (.int vb588), .unset, .unset] [(.int (2 : Int32)), (.int v500)])) _
            refine XS.icmpYes X494.here hx rfl (pc0 := 233) (pc' := 274) rfl (hb hby at_233) rfl (feq hc233_612).2 (by decide) (by decide) ?_
            show Steps p.tables e below (T494.setTop (mkF m 274 #[.val (.int p0), .val (.int p1), .val (.int p2), .val (.int vcp216), .val (.int vat230), .val (.int v232), .val (.ref b233), .val (.int r496), .val (.int v500), .val (.int vb564), .unset, .unset, .val (.int vb588), .unset, .unset] [])) _
            refine XS.aload X494.here hx rfl (hb hby at_274) rfl rfl ?_
            show Steps p.tables e below (T494.setTop (mkF m 276 #[.val (.int p0), .val (.int p1), .val (.int p2), .val (.int vcp216), .val (.int vat230), .val (.int v232), .val (.ref b233), .val (.int r496), .val (.int v500), .val (.int vb564), .unset, .unset, .val (.int vb588), .unset, .unset] [(.ref b233)])) _
            refine XS.iload X494.here hx rfl (hb hby at_276) rfl ?_
            show Steps p.tables e below (T494.setTop (mkF m 278 #[.val (.int p0), .val (.int p1), .val (.int p2), .val (.int vcp216), .val (.int vat230), .val (.int v232), .val (.ref b233), .val (.int r496), .val (.int v500), .val (.int vb564), .unset, .unset, .val (.int vb588), .unset, .unset] [(.int vat230), (.ref b233)])) _
            refine XS.iconst X494.here hx rfl (hb hby at_278) ?_
            show Steps p.tables e below (T494.setTop (mkF m 279 #[.val (.int p0), .val (.int p1), .val (.int p2), .val (.int vcp216), .val (.int vat230), .val (.int v232), .val (.ref b233), .val (.int r496), .val (.int v500), .val (.int vb564), .unset, .unset, .val (.int vb588), .unset, .unset] [(.int (2 : Int32)), (.int vat230), (.ref b233)])) _
            refine XS.iadd X494.here hx rfl (hb hby at_279) rfl ?_
            show Steps p.tables e below (T494.setTop (mkF m 280 #[.val (.int p0), .val (.int p1), .val (.int p2), .val (.int vcp216), .val (.int vat230), .val (.int v232), .val (.ref b233), .val (.int r496), .val (.int v500), .val (.int vb564), .unset, .unset, .val (.int vb588), .unset, .unset] [(.int (vat230 + (2 : Int32))), (.ref b233)])) _
            refine own_ldB X494 hx hZ rfl oAa494 (i := (k + 2)) hj613 (by omega) hv618 (g := (mkF m 280 #[.val (.int p0), .val (.int p1), .val (.int p2), .val (.int vcp216), .val (.int vat230), .val (.int v232), .val (.ref b233), .val (.int r496), .val (.int v500), .val (.int vb564), .unset, .unset, .val (.int vb588), .unset, .unset] [(.int (vat230 + (2 : Int32))), (.ref b233)])) rfl rfl (hb hby at_280) _ ?_
            show Steps p.tables e below (T494.setTop (mkF m 281 #[.val (.int p0), .val (.int p1), .val (.int p2), .val (.int vcp216), .val (.int vat230), .val (.int v232), .val (.ref b233), .val (.int r496), .val (.int v500), .val (.int vb564), .unset, .unset, .val (.int vb588), .unset, .unset] [(.int ((((128 : Int32) ||| (vcp216 &&& (63 : Int32))).toInt8.toInt32).toInt8.toInt32))])) _
            refine XS.sipush X494.here hx rfl (hb hby at_281) ?_
            show Steps p.tables e below (T494.setTop (mkF m 284 #[.val (.int p0), .val (.int p1), .val (.int p2), .val (.int vcp216), .val (.int vat230), .val (.int v232), .val (.ref b233), .val (.int r496), .val (.int v500), .val (.int vb564), .unset, .unset, .val (.int vb588), .unset, .unset] [(.int (255 : Int32)), (.int ((((128 : Int32) ||| (vcp216 &&& (63 : Int32))).toInt8.toInt32).toInt8.toInt32))])) _
            refine XS.iand X494.here hx rfl (hb hby at_284) rfl ?_
            show Steps p.tables e below (T494.setTop (mkF m 285 #[.val (.int p0), .val (.int p1), .val (.int p2), .val (.int vcp216), .val (.int vat230), .val (.int v232), .val (.ref b233), .val (.int r496), .val (.int v500), .val (.int vb564), .unset, .unset, .val (.int vb588), .unset, .unset] [(.int (((((128 : Int32) ||| (vcp216 &&& (63 : Int32))).toInt8.toInt32).toInt8.toInt32) &&& (255 : Int32)))])) _
            exact kt
          obtain ⟨vb620, hvb620⟩ : ∃ z : Int32, z = (((((128 : Int32) ||| (vcp216 &&& (63 : Int32))).toInt8.toInt32).toInt8.toInt32) &&& (255 : Int32)) := ⟨_, rfl⟩
          rw [← hvb620] at k619
          have k621 : ∀ tg_, Steps p.tables e below (T494.setTop (mkF m 287 #[.val (.int p0), .val (.int p1), .val (.int p2), .val (.int vcp216), .val (.int vat230), .val (.int v232), .val (.ref b233), .val (.int r496), .val (.int v500), .val (.int vb564), .unset, .unset, .val (.int vb588), .val (.int vb620), .unset] [])) tg_ → Steps p.tables e below (s₁.setTop (entryFrame m #[(.int p0), (.int p1), (.int p2)] maxLocals)) tg_ := by
            intro tg_ kt
            refine k619 tg_ ?_
            refine XS.istore X494.here hx rfl (hb hby at_285) rfl (l' := #[.val (.int p0), .val (.int p1), .val (.int p2), .val (.int vcp216), .val (.int vat230), .val (.int v232), .val (.ref b233), .val (.int r496), .val (.int v500), .val (.int vb564), .unset, .unset, .val (.int vb588), .val (.int vb620), .unset]) rfl ?_
            show Steps p.tables e below (T494.setTop (mkF m 287 #[.val (.int p0), .val (.int p1), .val (.int p2), .val (.int vcp216), .val (.int vat230), .val (.int v232), .val (.ref b233), .val (.int r496), .val (.int v500), .val (.int vb564), .unset, .unset, .val (.int vb588), .val (.int vb620), .unset] [])) _
            exact kt
          have hbv_vb620 : vb620.toInt = 128 + vcp216.toInt % 64 := by rw [hvb620]; exact own_e3_2 vcp216 (by omega) (by omega)
          have hc296_628 : (vb620 &&& (192 : Int32)) = (128 : Int32) := (by
              have ar622 := rng32 vb620
              have ar623 : (192 : Int32).toInt = 192 := by decide
              first | have ar624 := own_hi192 vb620 (by omega) (by omega) | have ar624 := own_hi192 vb620
              have ar625 := c_and vb620 (192 : Int32) (by decide)
              have ar626 := rng32 (vb620 &&& (192 : Int32))
              have ar627 : (128 : Int32).toInt = 128 := by decide
              exact Int32.toInt_inj.mp (by omega))
          have hc304_644 : v500 = (3 : Int32) := (by
              have ar629 := rng32 v500
              have ar630 := rng32 r496
              have ar631 := rng32 vat230
              have ar632 : (1 : Int32).toInt = 1 := by decide
              have ar633 := rng32 (vat230 + (1 : Int32))
              first | have ar634 : (vat230 + (1 : Int32)).toInt = vat230.toInt + 1 := (by have qw := c_iadd vat230 (1 : Int32); omega) | (have ar634 := c_iadd vat230 (1 : Int32); skip)
              have ar635 := rng32 ((vat230 + (1 : Int32)) + (1 : Int32))
              first | have ar636 : ((vat230 + (1 : Int32)) + (1 : Int32)).toInt = (vat230 + (1 : Int32)).toInt + 1 := (by have qw := c_iadd (vat230 + (1 : Int32)) (1 : Int32); omega) | (have ar636 := c_iadd (vat230 + (1 : Int32)) (1 : Int32); skip)
              have ar637 := rng32 (((vat230 + (1 : Int32)) + (1 : Int32)) + (1 : Int32))
              first | have ar638 : (((vat230 + (1 : Int32)) + (1 : Int32)) + (1 : Int32)).toInt = ((vat230 + (1 : Int32)) + (1 : Int32)).toInt + 1 := (by have qw := c_iadd ((vat230 + (1 : Int32)) + (1 : Int32)) (1 : Int32); omega) | (have ar638 := c_iadd ((vat230 + (1 : Int32)) + (1 : Int32)) (1 : Int32); skip)
              have ar639 := congrArg Int32.toInt hr496
              have ar640 := rng32 (r496 - vat230)
              first | have ar641 : (r496 - vat230).toInt = r496.toInt - vat230.toInt := (by have qw := c_isub r496 vat230; omega) | (have ar641 := c_isub r496 vat230; skip)
              have ar642 := congrArg Int32.toInt hv500
              have ar643 : (3 : Int32).toInt = 3 := by decide
              exact Int32.toInt_inj.mp (by omega))
          have hc316_651 : (vb564 &&& (240 : Int32)) = (224 : Int32) := (by
              have ar645 := rng32 vb564
              have ar646 : (240 : Int32).toInt = 240 := by decide
              first | have ar647 := own_hi240 vb564 (by omega) (by omega) | have ar647 := own_hi240 vb564
              have ar648 := c_and vb564 (240 : Int32) (by decide)
              have ar649 := rng32 (vb564 &&& (240 : Int32))
              have ar650 : (224 : Int32).toInt = 224 := by decide
              exact Int32.toInt_inj.mp (by omega))
          have k652 : ∀ tg_, Steps p.tables e below (T494.setTop (mkF m 342 #[.val (.int p0), .val (.int p1), .val (.int p2), .val (.int vcp216), .val (.int vat230), .val (.int v232), .val (.ref b233), .val (.int r496), .val (.int v500), .val (.int vb564), .unset, .unset, .val (.int vb588), .val (.int vb620), .unset] [(.int (63 : Int32)), (.int vb620), (.int (((vb564 &&& (15 : Int32)) <<< ((12 : Int32) &&& 31)) ||| ((vb588 &&& (63 : Int32)) <<< ((6 : Int32) &&& 31))))])) tg_ → Steps p.tables e below (s₁.setTop (entryFrame m #[(.int p0), (.int p1), (.int p2)] maxLocals)) tg_ := by
            intro tg_ kt
            refine k621 tg_ ?_
            refine XS.iload X494.here hx rfl (hb hby at_287) rfl ?_
            show Steps p.tables e below (T494.setTop (mkF m 289 #[.val (.int p0), .val (.int p1), .val (.int p2), .val (.int vcp216), .val (.int vat230), .val (.int v232), .val (.ref b233), .val (.int r496), .val (.int v500), .val (.int vb564), .unset, .unset, .val (.int vb588), .val (.int vb620), .unset] [(.int vb620)])) _
            refine XS.sipush X494.here hx rfl (hb hby at_289) ?_
            show Steps p.tables e below (T494.setTop (mkF m 292 #[.val (.int p0), .val (.int p1), .val (.int p2), .val (.int vcp216), .val (.int vat230), .val (.int v232), .val (.ref b233), .val (.int r496), .val (.int v500), .val (.int vb564), .unset, .unset, .val (.int vb588), .val (.int vb620), .unset] [(.int (192 : Int32)), (.int vb620)])) _
            refine XS.iand X494.here hx rfl (hb hby at_292) rfl ?_
            show Steps p.tables e below (T494.setTop (mkF m 293 #[.val (.int p0), .val (.int p1), .val (.int p2), .val (.int vcp216), .val (.int vat230), .val (.int v232), .val (.ref b233), .val (.int r496), .val (.int v500), .val (.int vb564), .unset, .unset, .val (.int vb588), .val (.int vb620), .unset] [(.int (vb620 &&& (192 : Int32)))])) _
            refine XS.sipush X494.here hx rfl (hb hby at_293) ?_
            show Steps p.tables e below (T494.setTop (mkF m 296 #[.val (.int p0), .val (.int p1), .val (.int p2), .val (.int vcp216), .val (.int vat230), .val (.int v232), .val (.ref b233), .val (.int r496), .val (.int v500), .val (.int vb564), .unset, .unset, .val (.int vb588), .val (.int vb620), .unset] [(.int (128 : Int32)), (.int (vb620 &&& (192 : Int32)))])) _
            refine XS.icmpYes X494.here hx rfl (pc0 := 296) (pc' := 301) rfl (hb hby at_296) rfl (teq hc296_628).1 (by decide) (by decide) ?_
            show Steps p.tables e below (T494.setTop (mkF m 301 #[.val (.int p0), .val (.int p1), .val (.int p2), .val (.int vcp216), .val (.int vat230), .val (.int v232), .val (.ref b233), .val (.int r496), .val (.int v500), .val (.int vb564), .unset, .unset, .val (.int vb588), .val (.int vb620), .unset] [])) _
            refine XS.iload X494.here hx rfl (hb hby at_301) rfl ?_
            show Steps p.tables e below (T494.setTop (mkF m 303 #[.val (.int p0), .val (.int p1), .val (.int p2), .val (.int vcp216), .val (.int vat230), .val (.int v232), .val (.ref b233), .val (.int r496), .val (.int v500), .val (.int vb564), .unset, .unset, .val (.int vb588), .val (.int vb620), .unset] [(.int v500)])) _
            refine XS.iconst X494.here hx rfl (hb hby at_303) ?_
            show Steps p.tables e below (T494.setTop (mkF m 304 #[.val (.int p0), .val (.int p1), .val (.int p2), .val (.int vcp216), .val (.int vat230), .val (.int v232), .val (.ref b233), .val (.int r496), .val (.int v500), .val (.int vb564), .unset, .unset, .val (.int vb588), .val (.int vb620), .unset] [(.int (3 : Int32)), (.int v500)])) _
            refine XS.icmpNo X494.here hx rfl (hb hby at_304) rfl (teq hc304_644).2 ?_
            show Steps p.tables e below (T494.setTop (mkF m 307 #[.val (.int p0), .val (.int p1), .val (.int p2), .val (.int vcp216), .val (.int vat230), .val (.int v232), .val (.ref b233), .val (.int r496), .val (.int v500), .val (.int vb564), .unset, .unset, .val (.int vb588), .val (.int vb620), .unset] [])) _
            refine XS.iload X494.here hx rfl (hb hby at_307) rfl ?_
            show Steps p.tables e below (T494.setTop (mkF m 309 #[.val (.int p0), .val (.int p1), .val (.int p2), .val (.int vcp216), .val (.int vat230), .val (.int v232), .val (.ref b233), .val (.int r496), .val (.int v500), .val (.int vb564), .unset, .unset, .val (.int vb588), .val (.int vb620), .unset] [(.int vb564)])) _
            refine XS.sipush X494.here hx rfl (hb hby at_309) ?_
            show Steps p.tables e below (T494.setTop (mkF m 312 #[.val (.int p0), .val (.int p1), .val (.int p2), .val (.int vcp216), .val (.int vat230), .val (.int v232), .val (.ref b233), .val (.int r496), .val (.int v500), .val (.int vb564), .unset, .unset, .val (.int vb588), .val (.int vb620), .unset] [(.int (240 : Int32)), (.int vb564)])) _
            refine XS.iand X494.here hx rfl (hb hby at_312) rfl ?_
            show Steps p.tables e below (T494.setTop (mkF m 313 #[.val (.int p0), .val (.int p1), .val (.int p2), .val (.int vcp216), .val (.int vat230), .val (.int v232), .val (.ref b233), .val (.int r496), .val (.int v500), .val (.int vb564), .unset, .unset, .val (.int vb588), .val (.int vb620), .unset] [(.int (vb564 &&& (240 : Int32)))])) _
            refine XS.sipush X494.here hx rfl (hb hby at_313) ?_
            show Steps p.tables e below (T494.setTop (mkF m 316 #[.val (.int p0), .val (.int p1), .val (.int p2), .val (.int vcp216), .val (.int vat230), .val (.int v232), .val (.ref b233), .val (.int r496), .val (.int v500), .val (.int vb564), .unset, .unset, .val (.int vb588), .val (.int vb620), .unset] [(.int (224 : Int32)), (.int (vb564 &&& (240 : Int32)))])) _
            refine XS.icmpYes X494.here hx rfl (pc0 := 316) (pc' := 321) rfl (hb hby at_316) rfl (teq hc316_651).1 (by decide) (by decide) ?_
            show Steps p.tables e below (T494.setTop (mkF m 321 #[.val (.int p0), .val (.int p1), .val (.int p2), .val (.int vcp216), .val (.int vat230), .val (.int v232), .val (.ref b233), .val (.int r496), .val (.int v500), .val (.int vb564), .unset, .unset, .val (.int vb588), .val (.int vb620), .unset] [])) _
            refine XS.iload X494.here hx rfl (hb hby at_321) rfl ?_
            show Steps p.tables e below (T494.setTop (mkF m 323 #[.val (.int p0), .val (.int p1), .val (.int p2), .val (.int vcp216), .val (.int vat230), .val (.int v232), .val (.ref b233), .val (.int r496), .val (.int v500), .val (.int vb564), .unset, .unset, .val (.int vb588), .val (.int vb620), .unset] [(.int vb564)])) _
            refine XS.bipush X494.here hx rfl (hb hby at_323) ?_
            show Steps p.tables e below (T494.setTop (mkF m 325 #[.val (.int p0), .val (.int p1), .val (.int p2), .val (.int vcp216), .val (.int vat230), .val (.int v232), .val (.ref b233), .val (.int r496), .val (.int v500), .val (.int vb564), .unset, .unset, .val (.int vb588), .val (.int vb620), .unset] [(.int (15 : Int32)), (.int vb564)])) _
            refine XS.iand X494.here hx rfl (hb hby at_325) rfl ?_
            show Steps p.tables e below (T494.setTop (mkF m 326 #[.val (.int p0), .val (.int p1), .val (.int p2), .val (.int vcp216), .val (.int vat230), .val (.int v232), .val (.ref b233), .val (.int r496), .val (.int v500), .val (.int vb564), .unset, .unset, .val (.int vb588), .val (.int vb620), .unset] [(.int (vb564 &&& (15 : Int32)))])) _
            refine XS.bipush X494.here hx rfl (hb hby at_326) ?_
            show Steps p.tables e below (T494.setTop (mkF m 328 #[.val (.int p0), .val (.int p1), .val (.int p2), .val (.int vcp216), .val (.int vat230), .val (.int v232), .val (.ref b233), .val (.int r496), .val (.int v500), .val (.int vb564), .unset, .unset, .val (.int vb588), .val (.int vb620), .unset] [(.int (12 : Int32)), (.int (vb564 &&& (15 : Int32)))])) _
            refine XS.ishl X494.here hx rfl (hb hby at_328) rfl ?_
            show Steps p.tables e below (T494.setTop (mkF m 329 #[.val (.int p0), .val (.int p1), .val (.int p2), .val (.int vcp216), .val (.int vat230), .val (.int v232), .val (.ref b233), .val (.int r496), .val (.int v500), .val (.int vb564), .unset, .unset, .val (.int vb588), .val (.int vb620), .unset] [(.int ((vb564 &&& (15 : Int32)) <<< ((12 : Int32) &&& 31)))])) _
            refine XS.iload X494.here hx rfl (hb hby at_329) rfl ?_
            show Steps p.tables e below (T494.setTop (mkF m 331 #[.val (.int p0), .val (.int p1), .val (.int p2), .val (.int vcp216), .val (.int vat230), .val (.int v232), .val (.ref b233), .val (.int r496), .val (.int v500), .val (.int vb564), .unset, .unset, .val (.int vb588), .val (.int vb620), .unset] [(.int vb588), (.int ((vb564 &&& (15 : Int32)) <<< ((12 : Int32) &&& 31)))])) _
            refine XS.bipush X494.here hx rfl (hb hby at_331) ?_
            show Steps p.tables e below (T494.setTop (mkF m 333 #[.val (.int p0), .val (.int p1), .val (.int p2), .val (.int vcp216), .val (.int vat230), .val (.int v232), .val (.ref b233), .val (.int r496), .val (.int v500), .val (.int vb564), .unset, .unset, .val (.int vb588), .val (.int vb620), .unset] [(.int (63 : Int32)), (.int vb588), (.int ((vb564 &&& (15 : Int32)) <<< ((12 : Int32) &&& 31)))])) _
            refine XS.iand X494.here hx rfl (hb hby at_333) rfl ?_
            show Steps p.tables e below (T494.setTop (mkF m 334 #[.val (.int p0), .val (.int p1), .val (.int p2), .val (.int vcp216), .val (.int vat230), .val (.int v232), .val (.ref b233), .val (.int r496), .val (.int v500), .val (.int vb564), .unset, .unset, .val (.int vb588), .val (.int vb620), .unset] [(.int (vb588 &&& (63 : Int32))), (.int ((vb564 &&& (15 : Int32)) <<< ((12 : Int32) &&& 31)))])) _
            refine XS.bipush X494.here hx rfl (hb hby at_334) ?_
            show Steps p.tables e below (T494.setTop (mkF m 336 #[.val (.int p0), .val (.int p1), .val (.int p2), .val (.int vcp216), .val (.int vat230), .val (.int v232), .val (.ref b233), .val (.int r496), .val (.int v500), .val (.int vb564), .unset, .unset, .val (.int vb588), .val (.int vb620), .unset] [(.int (6 : Int32)), (.int (vb588 &&& (63 : Int32))), (.int ((vb564 &&& (15 : Int32)) <<< ((12 : Int32) &&& 31)))])) _
            refine XS.ishl X494.here hx rfl (hb hby at_336) rfl ?_
            show Steps p.tables e below (T494.setTop (mkF m 337 #[.val (.int p0), .val (.int p1), .val (.int p2), .val (.int vcp216), .val (.int vat230), .val (.int v232), .val (.ref b233), .val (.int r496), .val (.int v500), .val (.int vb564), .unset, .unset, .val (.int vb588), .val (.int vb620), .unset] [(.int ((vb588 &&& (63 : Int32)) <<< ((6 : Int32) &&& 31))), (.int ((vb564 &&& (15 : Int32)) <<< ((12 : Int32) &&& 31)))])) _
            refine XS.ior X494.here hx rfl (hb hby at_337) rfl ?_
            show Steps p.tables e below (T494.setTop (mkF m 338 #[.val (.int p0), .val (.int p1), .val (.int p2), .val (.int vcp216), .val (.int vat230), .val (.int v232), .val (.ref b233), .val (.int r496), .val (.int v500), .val (.int vb564), .unset, .unset, .val (.int vb588), .val (.int vb620), .unset] [(.int (((vb564 &&& (15 : Int32)) <<< ((12 : Int32) &&& 31)) ||| ((vb588 &&& (63 : Int32)) <<< ((6 : Int32) &&& 31))))])) _
            refine XS.iload X494.here hx rfl (hb hby at_338) rfl ?_
            show Steps p.tables e below (T494.setTop (mkF m 340 #[.val (.int p0), .val (.int p1), .val (.int p2), .val (.int vcp216), .val (.int vat230), .val (.int v232), .val (.ref b233), .val (.int r496), .val (.int v500), .val (.int vb564), .unset, .unset, .val (.int vb588), .val (.int vb620), .unset] [(.int vb620), (.int (((vb564 &&& (15 : Int32)) <<< ((12 : Int32) &&& 31)) ||| ((vb588 &&& (63 : Int32)) <<< ((6 : Int32) &&& 31))))])) _
            refine XS.bipush X494.here hx rfl (hb hby at_340) ?_
            show Steps p.tables e below (T494.setTop (mkF m 342 #[.val (.int p0), .val (.int p1), .val (.int p2), .val (.int vcp216), .val (.int vat230), .val (.int v232), .val (.ref b233), .val (.int r496), .val (.int v500), .val (.int vb564), .unset, .unset, .val (.int vb588), .val (.int vb620), .unset] [(.int (63 : Int32)), (.int vb620), (.int (((vb564 &&& (15 : Int32)) <<< ((12 : Int32) &&& 31)) ||| ((vb588 &&& (63 : Int32)) <<< ((6 : Int32) &&& 31))))])) _
            exact kt
          have k653 : ∀ tg_, Steps p.tables e below (T494.setTop (mkF m 344 #[.val (.int p0), .val (.int p1), .val (.int p2), .val (.int vcp216), .val (.int vat230), .val (.int v232), .val (.ref b233), .val (.int r496), .val (.int v500), .val (.int vb564), .unset, .unset, .val (.int vb588), .val (.int vb620), .unset] [(.int ((((vb564 &&& (15 : Int32)) <<< ((12 : Int32) &&& 31)) ||| ((vb588 &&& (63 : Int32)) <<< ((6 : Int32) &&& 31))) ||| (vb620 &&& (63 : Int32))))])) tg_ → Steps p.tables e below (s₁.setTop (entryFrame m #[(.int p0), (.int p1), (.int p2)] maxLocals)) tg_ := by
            intro tg_ kt
            refine k652 tg_ ?_
            refine XS.iand X494.here hx rfl (hb hby at_342) rfl ?_
            show Steps p.tables e below (T494.setTop (mkF m 343 #[.val (.int p0), .val (.int p1), .val (.int p2), .val (.int vcp216), .val (.int vat230), .val (.int v232), .val (.ref b233), .val (.int r496), .val (.int v500), .val (.int vb564), .unset, .unset, .val (.int vb588), .val (.int vb620), .unset] [(.int (vb620 &&& (63 : Int32))), (.int (((vb564 &&& (15 : Int32)) <<< ((12 : Int32) &&& 31)) ||| ((vb588 &&& (63 : Int32)) <<< ((6 : Int32) &&& 31))))])) _
            refine XS.ior X494.here hx rfl (hb hby at_343) rfl ?_
            show Steps p.tables e below (T494.setTop (mkF m 344 #[.val (.int p0), .val (.int p1), .val (.int p2), .val (.int vcp216), .val (.int vat230), .val (.int v232), .val (.ref b233), .val (.int r496), .val (.int v500), .val (.int vb564), .unset, .unset, .val (.int vb588), .val (.int vb620), .unset] [(.int ((((vb564 &&& (15 : Int32)) <<< ((12 : Int32) &&& 31)) ||| ((vb588 &&& (63 : Int32)) <<< ((6 : Int32) &&& 31))) ||| (vb620 &&& (63 : Int32))))])) _
            exact kt
          obtain ⟨v654, hv654⟩ : ∃ z : Int32, z = ((((vb564 &&& (15 : Int32)) <<< ((12 : Int32) &&& 31)) ||| ((vb588 &&& (63 : Int32)) <<< ((6 : Int32) &&& 31))) ||| (vb620 &&& (63 : Int32))) := ⟨_, rfl⟩
          rw [← hv654] at k653
          have hc437_677 : ¬ (v654 < (2048 : Int32)) := (by
              have ar655 := rng32 v654
              have ar656 := rng32 vb564
              have ar657 : (15 : Int32).toInt = 15 := by decide
              have ar658 := c_mask vb564 (15 : Int32) 4 (by decide) (by decide)
              simp only [show (2 ^ 4 : Nat) = 16 from by decide, Int.cast_ofNat_Int] at ar658
              have ar659 := rng32 (vb564 &&& (15 : Int32))
              have ar660 := rng32 ((vb564 &&& (15 : Int32)) <<< ((12 : Int32) &&& 31))
              first | have ar661 : ((vb564 &&& (15 : Int32)) <<< ((12 : Int32) &&& 31)).toInt = (vb564 &&& (15 : Int32)).toInt * 4096 := (by have qw := c_ishl (vb564 &&& (15 : Int32)) (12 : Int32) 12 (by decide); simp only [show (2 ^ 12 : Nat) = 4096 from by decide, Int.cast_ofNat_Int] at qw; omega) | (have ar661 := c_ishl (vb564 &&& (15 : Int32)) (12 : Int32) 12 (by decide); simp only [show (2 ^ 12 : Nat) = 4096 from by decide, Int.cast_ofNat_Int] at ar661)
              have ar662 := rng32 vb588
              have ar663 : (63 : Int32).toInt = 63 := by decide
              have ar664 := c_mask vb588 (63 : Int32) 6 (by decide) (by decide)
              simp only [show (2 ^ 6 : Nat) = 64 from by decide, Int.cast_ofNat_Int] at ar664
              have ar665 := rng32 (vb588 &&& (63 : Int32))
              have ar666 := rng32 ((vb588 &&& (63 : Int32)) <<< ((6 : Int32) &&& 31))
              first | have ar667 : ((vb588 &&& (63 : Int32)) <<< ((6 : Int32) &&& 31)).toInt = (vb588 &&& (63 : Int32)).toInt * 64 := (by have qw := c_ishl (vb588 &&& (63 : Int32)) (6 : Int32) 6 (by decide); simp only [show (2 ^ 6 : Nat) = 64 from by decide, Int.cast_ofNat_Int] at qw; omega) | (have ar667 := c_ishl (vb588 &&& (63 : Int32)) (6 : Int32) 6 (by decide); simp only [show (2 ^ 6 : Nat) = 64 from by decide, Int.cast_ofNat_Int] at ar667)
              have ar668 := rng32 (((vb564 &&& (15 : Int32)) <<< ((12 : Int32) &&& 31)) ||| ((vb588 &&& (63 : Int32)) <<< ((6 : Int32) &&& 31)))
              first | have ar669 : (((vb564 &&& (15 : Int32)) <<< ((12 : Int32) &&& 31)) ||| ((vb588 &&& (63 : Int32)) <<< ((6 : Int32) &&& 31))).toInt = ((vb564 &&& (15 : Int32)) <<< ((12 : Int32) &&& 31)).toInt + ((vb588 &&& (63 : Int32)) <<< ((6 : Int32) &&& 31)).toInt := (by have qw := c_or ((vb564 &&& (15 : Int32)) <<< ((12 : Int32) &&& 31)) ((vb588 &&& (63 : Int32)) <<< ((6 : Int32) &&& 31)) 12 (by decide) 4096 (by decide) (by omega) (by omega) (by omega); omega) | (have ar669 := c_or ((vb564 &&& (15 : Int32)) <<< ((12 : Int32) &&& 31)) ((vb588 &&& (63 : Int32)) <<< ((6 : Int32) &&& 31)) 12 (by decide) 4096 (by decide) (by omega) (by omega) (by omega); skip)
              have ar670 := rng32 vb620
              have ar671 := c_mask vb620 (63 : Int32) 6 (by decide) (by decide)
              simp only [show (2 ^ 6 : Nat) = 64 from by decide, Int.cast_ofNat_Int] at ar671
              have ar672 := rng32 (vb620 &&& (63 : Int32))
              have ar673 := rng32 ((((vb564 &&& (15 : Int32)) <<< ((12 : Int32) &&& 31)) ||| ((vb588 &&& (63 : Int32)) <<< ((6 : Int32) &&& 31))) ||| (vb620 &&& (63 : Int32)))
              first | have ar674 : ((((vb564 &&& (15 : Int32)) <<< ((12 : Int32) &&& 31)) ||| ((vb588 &&& (63 : Int32)) <<< ((6 : Int32) &&& 31))) ||| (vb620 &&& (63 : Int32))).toInt = (((vb564 &&& (15 : Int32)) <<< ((12 : Int32) &&& 31)) ||| ((vb588 &&& (63 : Int32)) <<< ((6 : Int32) &&& 31))).toInt + (vb620 &&& (63 : Int32)).toInt := (by have qw := c_or (((vb564 &&& (15 : Int32)) <<< ((12 : Int32) &&& 31)) ||| ((vb588 &&& (63 : Int32)) <<< ((6 : Int32) &&& 31))) (vb620 &&& (63 : Int32)) 6 (by decide) 64 (by decide) (by omega) (by omega) (by omega); omega) | (have ar674 := c_or (((vb564 &&& (15 : Int32)) <<< ((12 : Int32) &&& 31)) ||| ((vb588 &&& (63 : Int32)) <<< ((6 : Int32) &&& 31))) (vb620 &&& (63 : Int32)) 6 (by decide) 64 (by decide) (by omega) (by omega) (by omega); skip)
              have ar675 := congrArg Int32.toInt hv654
              have ar676 : (2048 : Int32).toInt = 2048 := by decide
              exact fun qq_ => absurd (Int32.lt_iff_toInt_lt.mp qq_) (by omega))
          have hc443_700 : v654 = vcp216 := (by
              have ar678 := rng32 v654
              have ar679 := rng32 vb564
              have ar680 : (15 : Int32).toInt = 15 := by decide
              have ar681 := c_mask vb564 (15 : Int32) 4 (by decide) (by decide)
              simp only [show (2 ^ 4 : Nat) = 16 from by decide, Int.cast_ofNat_Int] at ar681
              have ar682 := rng32 (vb564 &&& (15 : Int32))
              have ar683 := rng32 ((vb564 &&& (15 : Int32)) <<< ((12 : Int32) &&& 31))
              first | have ar684 : ((vb564 &&& (15 : Int32)) <<< ((12 : Int32) &&& 31)).toInt = (vb564 &&& (15 : Int32)).toInt * 4096 := (by have qw := c_ishl (vb564 &&& (15 : Int32)) (12 : Int32) 12 (by decide); simp only [show (2 ^ 12 : Nat) = 4096 from by decide, Int.cast_ofNat_Int] at qw; omega) | (have ar684 := c_ishl (vb564 &&& (15 : Int32)) (12 : Int32) 12 (by decide); simp only [show (2 ^ 12 : Nat) = 4096 from by decide, Int.cast_ofNat_Int] at ar684)
              have ar685 := rng32 vb588
              have ar686 : (63 : Int32).toInt = 63 := by decide
              have ar687 := c_mask vb588 (63 : Int32) 6 (by decide) (by decide)
              simp only [show (2 ^ 6 : Nat) = 64 from by decide, Int.cast_ofNat_Int] at ar687
              have ar688 := rng32 (vb588 &&& (63 : Int32))
              have ar689 := rng32 ((vb588 &&& (63 : Int32)) <<< ((6 : Int32) &&& 31))
              first | have ar690 : ((vb588 &&& (63 : Int32)) <<< ((6 : Int32) &&& 31)).toInt = (vb588 &&& (63 : Int32)).toInt * 64 := (by have qw := c_ishl (vb588 &&& (63 : Int32)) (6 : Int32) 6 (by decide); simp only [show (2 ^ 6 : Nat) = 64 from by decide, Int.cast_ofNat_Int] at qw; omega) | (have ar690 := c_ishl (vb588 &&& (63 : Int32)) (6 : Int32) 6 (by decide); simp only [show (2 ^ 6 : Nat) = 64 from by decide, Int.cast_ofNat_Int] at ar690)
              have ar691 := rng32 (((vb564 &&& (15 : Int32)) <<< ((12 : Int32) &&& 31)) ||| ((vb588 &&& (63 : Int32)) <<< ((6 : Int32) &&& 31)))
              first | have ar692 : (((vb564 &&& (15 : Int32)) <<< ((12 : Int32) &&& 31)) ||| ((vb588 &&& (63 : Int32)) <<< ((6 : Int32) &&& 31))).toInt = ((vb564 &&& (15 : Int32)) <<< ((12 : Int32) &&& 31)).toInt + ((vb588 &&& (63 : Int32)) <<< ((6 : Int32) &&& 31)).toInt := (by have qw := c_or ((vb564 &&& (15 : Int32)) <<< ((12 : Int32) &&& 31)) ((vb588 &&& (63 : Int32)) <<< ((6 : Int32) &&& 31)) 12 (by decide) 4096 (by decide) (by omega) (by omega) (by omega); omega) | (have ar692 := c_or ((vb564 &&& (15 : Int32)) <<< ((12 : Int32) &&& 31)) ((vb588 &&& (63 : Int32)) <<< ((6 : Int32) &&& 31)) 12 (by decide) 4096 (by decide) (by omega) (by omega) (by omega); skip)
              have ar693 := rng32 vb620
              have ar694 := c_mask vb620 (63 : Int32) 6 (by decide) (by decide)
              simp only [show (2 ^ 6 : Nat) = 64 from by decide, Int.cast_ofNat_Int] at ar694
              have ar695 := rng32 (vb620 &&& (63 : Int32))
              have ar696 := rng32 ((((vb564 &&& (15 : Int32)) <<< ((12 : Int32) &&& 31)) ||| ((vb588 &&& (63 : Int32)) <<< ((6 : Int32) &&& 31))) ||| (vb620 &&& (63 : Int32)))
              first | have ar697 : ((((vb564 &&& (15 : Int32)) <<< ((12 : Int32) &&& 31)) ||| ((vb588 &&& (63 : Int32)) <<< ((6 : Int32) &&& 31))) ||| (vb620 &&& (63 : Int32))).toInt = (((vb564 &&& (15 : Int32)) <<< ((12 : Int32) &&& 31)) ||| ((vb588 &&& (63 : Int32)) <<< ((6 : Int32) &&& 31))).toInt + (vb620 &&& (63 : Int32)).toInt := (by have qw := c_or (((vb564 &&& (15 : Int32)) <<< ((12 : Int32) &&& 31)) ||| ((vb588 &&& (63 : Int32)) <<< ((6 : Int32) &&& 31))) (vb620 &&& (63 : Int32)) 6 (by decide) 64 (by decide) (by omega) (by omega) (by omega); omega) | (have ar697 := c_or (((vb564 &&& (15 : Int32)) <<< ((12 : Int32) &&& 31)) ||| ((vb588 &&& (63 : Int32)) <<< ((6 : Int32) &&& 31))) (vb620 &&& (63 : Int32)) 6 (by decide) 64 (by decide) (by omega) (by omega) (by omega); skip)
              have ar698 := congrArg Int32.toInt hv654
              have ar699 := rng32 vcp216
              exact Int32.toInt_inj.mp (by omega))
          have k701 : ∀ tg_, Steps p.tables e below (T494.setTop (mkF m 451 #[.val (.int p0), .val (.int p1), .val (.int p2), .val (.int vcp216), .val (.int vat230), .val (.int v232), .val (.ref b233), .val (.int r496), .val (.int v500), .val (.int vb564), .val (.int v654), .val (.int (2048 : Int32)), .val (.int vb588), .val (.int vb620), .unset] [(.int (1 : Int32))])) tg_ → Steps p.tables e below (s₁.setTop (entryFrame m #[(.int p0), (.int p1), (.int p2)] maxLocals)) tg_ := by
            intro tg_ kt
            refine k653 tg_ ?_
            refine XS.istore X494.here hx rfl (hb hby at_344) rfl (l' := #[.val (.int p0), .val (.int p1), .val (.int p2), .val (.int vcp216), .val (.int vat230), .val (.int v232), .val (.ref b233), .val (.int r496), .val (.int v500), .val (.int vb564), .val (.int v654), .unset, .val (.int vb588), .val (.int vb620), .unset]) rfl ?_
            show Steps p.tables e below (T494.setTop (mkF m 346 #[.val (.int p0), .val (.int p1), .val (.int p2), .val (.int vcp216), .val (.int vat230), .val (.int v232), .val (.ref b233), .val (.int r496), .val (.int v500), .val (.int vb564), .val (.int v654), .unset, .val (.int vb588), .val (.int vb620), .unset] [])) _
            refine XS.sipush X494.here hx rfl (hb hby at_346) ?_
            show Steps p.tables e below (T494.setTop (mkF m 349 #[.val (.int p0), .val (.int p1), .val (.int p2), .val (.int vcp216), .val (.int vat230), .val (.int v232), .val (.ref b233), .val (.int r496), .val (.int v500), .val (.int vb564), .val (.int v654), .unset, .val (.int vb588), .val (.int vb620), .unset] [(.int (2048 : Int32))])) _
            refine XS.istore X494.here hx rfl (hb hby at_349) rfl (l' := #[.val (.int p0), .val (.int p1), .val (.int p2), .val (.int vcp216), .val (.int vat230), .val (.int v232), .val (.ref b233), .val (.int r496), .val (.int v500), .val (.int vb564), .val (.int v654), .val (.int (2048 : Int32)), .val (.int vb588), .val (.int vb620), .unset]) rfl ?_
            show Steps p.tables e below (T494.setTop (mkF m 351 #[.val (.int p0), .val (.int p1), .val (.int p2), .val (.int vcp216), .val (.int vat230), .val (.int v232), .val (.ref b233), .val (.int r496), .val (.int v500), .val (.int vb564), .val (.int v654), .val (.int (2048 : Int32)), .val (.int vb588), .val (.int vb620), .unset] [])) _
            refine XS.goto X494.here hx rfl (pc0 := 351) (pc' := 433) rfl (hb hby at_351) (by decide) (by decide) ?_
            show Steps p.tables e below (T494.setTop (mkF m 433 #[.val (.int p0), .val (.int p1), .val (.int p2), .val (.int vcp216), .val (.int vat230), .val (.int v232), .val (.ref b233), .val (.int r496), .val (.int v500), .val (.int vb564), .val (.int v654), .val (.int (2048 : Int32)), .val (.int vb588), .val (.int vb620), .unset] [])) _
            refine XS.iload X494.here hx rfl (hb hby at_433) rfl ?_
            show Steps p.tables e below (T494.setTop (mkF m 435 #[.val (.int p0), .val (.int p1), .val (.int p2), .val (.int vcp216), .val (.int vat230), .val (.int v232), .val (.ref b233), .val (.int r496), .val (.int v500), .val (.int vb564), .val (.int v654), .val (.int (2048 : Int32)), .val (.int vb588), .val (.int vb620), .unset] [(.int v654)])) _
            refine XS.iload X494.here hx rfl (hb hby at_435) rfl ?_
            show Steps p.tables e below (T494.setTop (mkF m 437 #[.val (.int p0), .val (.int p1), .val (.int p2), .val (.int vcp216), .val (.int vat230), .val (.int v232), .val (.ref b233), .val (.int r496), .val (.int v500), .val (.int vb564), .val (.int v654), .val (.int (2048 : Int32)), .val (.int vb588), .val (.int vb620), .unset] [(.int (2048 : Int32)), (.int v654)])) _
            refine XS.icmpNo X494.here hx rfl (hb hby at_437) rfl (flt hc437_677).1 ?_
            show Steps p.tables e below (T494.setTop (mkF m 440 #[.val (.int p0), .val (.int p1), .val (.int p2), .val (.int vcp216), .val (.int vat230), .val (.int v232), .val (.ref b233), .val (.int r496), .val (.int v500), .val (.int vb564), .val (.int v654), .val (.int (2048 : Int32)), .val (.int vb588), .val (.int vb620), .unset] [])) _
            refine XS.iload X494.here hx rfl (hb hby at_440) rfl ?_
            show Steps p.tables e below (T494.setTop (mkF m 442 #[.val (.int p0), .val (.int p1), .val (.int p2), .val (.int vcp216), .val (.int vat230), .val (.int v232), .val (.ref b233), .val (.int r496), .val (.int v500), .val (.int vb564), .val (.int v654), .val (.int (2048 : Int32)), .val (.int vb588), .val (.int vb620), .unset] [(.int v654)])) _
            refine XS.iloadN X494.here hx rfl (hb hby at_442) rfl ?_
            show Steps p.tables e below (T494.setTop (mkF m 443 #[.val (.int p0), .val (.int p1), .val (.int p2), .val (.int vcp216), .val (.int vat230), .val (.int v232), .val (.ref b233), .val (.int r496), .val (.int v500), .val (.int vb564), .val (.int v654), .val (.int (2048 : Int32)), .val (.int vb588), .val (.int vb620), .unset] [(.int vcp216), (.int v654)])) _
            refine XS.icmpNo X494.here hx rfl (hb hby at_443) rfl (teq hc443_700).2 ?_
            show Steps p.tables e below (T494.setTop (mkF m 446 #[.val (.int p0), .val (.int p1), .val (.int p2), .val (.int vcp216), .val (.int vat230), .val (.int v232), .val (.ref b233), .val (.int r496), .val (.int v500), .val (.int vb564), .val (.int v654), .val (.int (2048 : Int32)), .val (.int vb588), .val (.int vb620), .unset] [])) _
            refine XS.iconst X494.here hx rfl (hb hby at_446) ?_
            show Steps p.tables e below (T494.setTop (mkF m 447 #[.val (.int p0), .val (.int p1), .val (.int p2), .val (.int vcp216), .val (.int vat230), .val (.int v232), .val (.ref b233), .val (.int r496), .val (.int v500), .val (.int vb564), .val (.int v654), .val (.int (2048 : Int32)), .val (.int vb588), .val (.int vb620), .unset] [(.int (1 : Int32))])) _
            refine XS.goto X494.here hx rfl (pc0 := 447) (pc' := 451) rfl (hb hby at_447) (by decide) (by decide) ?_
            show Steps p.tables e below (T494.setTop (mkF m 451 #[.val (.int p0), .val (.int p1), .val (.int p2), .val (.int vcp216), .val (.int vat230), .val (.int v232), .val (.ref b233), .val (.int r496), .val (.int v500), .val (.int vb564), .val (.int v654), .val (.int (2048 : Int32)), .val (.int vb588), .val (.int vb620), .unset] [(.int (1 : Int32))])) _
            exact kt
          obtain ⟨fs, hr, hrun, hended, hW, hsame⟩ := X494.leave (v := some (.int (1 : Int32))) (fun h => by rw [Bd.returns] at h; cases h)
          refine ⟨_, _, k701 _ (retN X494 hx (t := .boolean) Bd.returns (by simp) (hb hby at_451) hr), hrun, hended, _, _, rfl, ?_, ⟨_, rfl⟩, hW, hsame.mono (by decide) (by decide)⟩
          show Q0 Z p0 p1 p2 h0 n0 _ T494.heap _
          exact ⟨rfl, N494⟩
        · have Lhc109_256 : ¬ (vcp216.toInt < 128) := fun q => hc109_256 (Int32.lt_iff_toInt_lt.mpr q)
          have Lhc109_339 : ¬ (vcp216.toInt < 2048) := fun q => hc109_339 (Int32.lt_iff_toInt_lt.mpr q)
          have Lhc109_492 : ¬ (vcp216.toInt < 65536) := fun q => hc109_492 (Int32.lt_iff_toInt_lt.mpr q)
          have f702 := (Nat.le_trans (Nat.le_trans (Nat.le_trans (Nat.le_trans (Nat.le_trans (Nat.le_trans (Nat.le_trans (Nat.le_trans (Nat.le_trans (Nat.le_trans (Nat.le_trans (Nat.le_trans (Nat.le_trans Z0 ((Keep.refl _ []).ext E233).1) (Keep.of_wr W234).1) (Keep.of_wr W235).1) (Keep.of_wr W236).1) (Keep.of_wr W237).1) (Keep.of_wr W238).1) (Keep.of_wr W240).1) (Keep.of_wr W241).1) (Keep.of_wr W242).1) (Keep.of_wr W243).1) (Keep.of_wr W244).1) (Keep.of_wr W245).1) (Keep.of_wr W246).1)
          obtain ⟨_, _, ⟨T703, L703, kc703, nc703⟩, -, X703, ⟨Lc703, hQ703, l703, y703, z703⟩, st703⟩ := Jvm.LawKit.callS X246 hx (y := (⟨"com/example/benzer/benzer/FeatureHash", "encode", "(I[BI)I"⟩ : MethodName)) hown (mvT hZ (hw _ (List.mem_of_getElem? (i := 4) rfl))) (mvT hZ (hw _ (List.mem_of_getElem? (i := 5) rfl))) (mvT hZ (hw _ (List.mem_of_getElem? (i := 6) rfl))) (mvT hZ (hw _ (List.mem_of_getElem? (i := 7) rfl))) (by decide) (backOf (W := 0) (rmenc4 l Z a0 hw [] vcp216 b233 vat230 k (fun _ => v232) h246 n0 f702 V248 ge_b233 hk hk7 hc109_256 hc109_339 hc109_492) hZ (hw _ (List.mem_of_getElem? (i := 7) rfl)) (hw _ (List.mem_of_getElem? (i := 6) rfl)) (by decide) (by decide)) (g := (mkF m 109 #[.val (.int p0), .val (.int p1), .val (.int p2), .val (.int vcp216), .val (.int vat230), .val (.int v232), .val (.ref b233), .unset, .unset, .unset, .unset, .unset, .unset, .unset, .unset] [(.int vat230), (.ref b233), (.int vcp216)])) rfl (by rw [hml]; rfl) (argsL := [(.int vcp216), (.ref b233), (.int vat230)]) (rest := []) (lenOf pd_0 rfl) rfl (by show 2 * 0 + _ ≤ _; exact Nat.le_of_eq rfl) (hb hby at_109) (fun _ _ => ⟨rfl, e246, (by decide : 1 + 0 ≤ _), (by decide : 12 + 0 ≤ _)⟩)
          dsimp only [Pt.U, Pt.locs, Pt.cells, Pt.slots] at X703 l703 y703 z703 st703 hQ703
          rw [l703, y703, z703] at X703
          replace X703 : Stand p l e room_1 s m #[(.int p0), (.int p1), (.int p2)] below meth c T703 _ 1 12 := X703
          obtain ⟨rfl, Nq703, oK703, oAa703⟩ := hQ703
          have N703 := Fr.app N246 Nq703
          have k704 : ∀ tg_, Steps p.tables e below (T703.setTop (mkF m 112 #[.val (.int p0), .val (.int p1), .val (.int p2), .val (.int vcp216), .val (.int vat230), .val (.int v232), .val (.ref b233), .unset, .unset, .unset, .unset, .unset, .unset, .unset, .unset] [(.int ((((vat230 + (1 : Int32)) + (1 : Int32)) + (1 : Int32)) + (1 : Int32)))])) tg_ → Steps p.tables e below (s₁.setTop (entryFrame m #[(.int p0), (.int p1), (.int p2)] maxLocals)) tg_ := by
            intro tg_ kt
            refine k255 tg_ ?_
            refine st703 _ ?_
            show Steps p.tables e below (T703.setTop (mkF m 112 #[.val (.int p0), .val (.int p1), .val (.int p2), .val (.int vcp216), .val (.int vat230), .val (.int v232), .val (.ref b233), .unset, .unset, .unset, .unset, .unset, .unset, .unset, .unset] [(.int ((((vat230 + (1 : Int32)) + (1 : Int32)) + (1 : Int32)) + (1 : Int32)))])) _
            exact kt
          obtain ⟨r705, hr705⟩ : ∃ z : Int32, z = ((((vat230 + (1 : Int32)) + (1 : Int32)) + (1 : Int32)) + (1 : Int32)) := ⟨_, rfl⟩
          rw [← hr705] at k704
          have k707 : ∀ tg_, Steps p.tables e below (T703.setTop (mkF m 114 #[.val (.int p0), .val (.int p1), .val (.int p2), .val (.int vcp216), .val (.int vat230), .val (.int v232), .val (.ref b233), .val (.int r705), .unset, .unset, .unset, .unset, .unset, .unset, .unset] [])) tg_ → Steps p.tables e below (s₁.setTop (entryFrame m #[(.int p0), (.int p1), (.int p2)] maxLocals)) tg_ := by
            intro tg_ kt
            refine k704 tg_ ?_
            show Steps p.tables e below (T703.setTop (mkF m 112 #[.val (.int p0), .val (.int p1), .val (.int p2), .val (.int vcp216), .val (.int vat230), .val (.int v232), .val (.ref b233), .unset, .unset, .unset, .unset, .unset, .unset, .unset, .unset] [(.int r705)])) _
            refine XS.istore X703.here hx rfl (hb hby at_112) rfl (l' := #[.val (.int p0), .val (.int p1), .val (.int p2), .val (.int vcp216), .val (.int vat230), .val (.int v232), .val (.ref b233), .val (.int r705), .unset, .unset, .unset, .unset, .unset, .unset, .unset]) rfl ?_
            show Steps p.tables e below (T703.setTop (mkF m 114 #[.val (.int p0), .val (.int p1), .val (.int p2), .val (.int vcp216), .val (.int vat230), .val (.int v232), .val (.ref b233), .val (.int r705), .unset, .unset, .unset, .unset, .unset, .unset, .unset] [])) _
            exact kt
          obtain ⟨g706, hg706⟩ : ∃ z : Nat → Int32, z = (own_upd (own_upd (own_upd (own_upd (fun _ => v232) k ((((240 : Int32) ||| ((vcp216.toUInt32 >>> ((18 : Int32) &&& 31).toUInt32).toInt32)).toInt8.toInt32).toInt8.toInt32)) (k + 1) ((((128 : Int32) ||| (((vcp216.toUInt32 >>> ((12 : Int32) &&& 31).toUInt32).toInt32) &&& (63 : Int32))).toInt8.toInt32).toInt8.toInt32)) (k + 2) ((((128 : Int32) ||| (((vcp216.toUInt32 >>> ((6 : Int32) &&& 31).toUInt32).toInt32) &&& (63 : Int32))).toInt8.toInt32).toInt8.toInt32)) (k + 3) ((((128 : Int32) ||| (vcp216 &&& (63 : Int32))).toInt8.toInt32).toInt8.toInt32)) := ⟨_, rfl⟩
          rw [← hg706] at oAa703
          have k708 : ∀ tg_, Steps p.tables e below (T703.setTop (mkF m 119 #[.val (.int p0), .val (.int p1), .val (.int p2), .val (.int vcp216), .val (.int vat230), .val (.int v232), .val (.ref b233), .val (.int r705), .unset, .unset, .unset, .unset, .unset, .unset, .unset] [(.int (r705 - vat230))])) tg_ → Steps p.tables e below (s₁.setTop (entryFrame m #[(.int p0), (.int p1), (.int p2)] maxLocals)) tg_ := by
            intro tg_ kt
            refine k707 tg_ ?_
            refine XS.iload X703.here hx rfl (hb hby at_114) rfl ?_
            show Steps p.tables e below (T703.setTop (mkF m 116 #[.val (.int p0), .val (.int p1), .val (.int p2), .val (.int vcp216), .val (.int vat230), .val (.int v232), .val (.ref b233), .val (.int r705), .unset, .unset, .unset, .unset, .unset, .unset, .unset] [(.int r705)])) _
            refine XS.iload X703.here hx rfl (hb hby at_116) rfl ?_
            show Steps p.tables e below (T703.setTop (mkF m 118 #[.val (.int p0), .val (.int p1), .val (.int p2), .val (.int vcp216), .val (.int vat230), .val (.int v232), .val (.ref b233), .val (.int r705), .unset, .unset, .unset, .unset, .unset, .unset, .unset] [(.int vat230), (.int r705)])) _
            refine XS.isub X703.here hx rfl (hb hby at_118) rfl ?_
            show Steps p.tables e below (T703.setTop (mkF m 119 #[.val (.int p0), .val (.int p1), .val (.int p2), .val (.int vcp216), .val (.int vat230), .val (.int v232), .val (.ref b233), .val (.int r705), .unset, .unset, .unset, .unset, .unset, .unset, .unset] [(.int (r705 - vat230))])) _
            exact kt
          obtain ⟨v709, hv709⟩ : ∃ z : Int32, z = (r705 - vat230) := ⟨_, rfl⟩
          rw [← hv709] at k708
          have hc124_726 : ¬ (v709 < (1 : Int32)) := (by
              have ar710 := rng32 v709
              have ar711 := rng32 r705
              have ar712 := rng32 vat230
              have ar713 : (1 : Int32).toInt = 1 := by decide
              have ar714 := rng32 (vat230 + (1 : Int32))
              first | have ar715 : (vat230 + (1 : Int32)).toInt = vat230.toInt + 1 := (by have qw := c_iadd vat230 (1 : Int32); omega) | (have ar715 := c_iadd vat230 (1 : Int32); skip)
              have ar716 := rng32 ((vat230 + (1 : Int32)) + (1 : Int32))
              first | have ar717 : ((vat230 + (1 : Int32)) + (1 : Int32)).toInt = (vat230 + (1 : Int32)).toInt + 1 := (by have qw := c_iadd (vat230 + (1 : Int32)) (1 : Int32); omega) | (have ar717 := c_iadd (vat230 + (1 : Int32)) (1 : Int32); skip)
              have ar718 := rng32 (((vat230 + (1 : Int32)) + (1 : Int32)) + (1 : Int32))
              first | have ar719 : (((vat230 + (1 : Int32)) + (1 : Int32)) + (1 : Int32)).toInt = ((vat230 + (1 : Int32)) + (1 : Int32)).toInt + 1 := (by have qw := c_iadd ((vat230 + (1 : Int32)) + (1 : Int32)) (1 : Int32); omega) | (have ar719 := c_iadd ((vat230 + (1 : Int32)) + (1 : Int32)) (1 : Int32); skip)
              have ar720 := rng32 ((((vat230 + (1 : Int32)) + (1 : Int32)) + (1 : Int32)) + (1 : Int32))
              first | have ar721 : ((((vat230 + (1 : Int32)) + (1 : Int32)) + (1 : Int32)) + (1 : Int32)).toInt = (((vat230 + (1 : Int32)) + (1 : Int32)) + (1 : Int32)).toInt + 1 := (by have qw := c_iadd (((vat230 + (1 : Int32)) + (1 : Int32)) + (1 : Int32)) (1 : Int32); omega) | (have ar721 := c_iadd (((vat230 + (1 : Int32)) + (1 : Int32)) + (1 : Int32)) (1 : Int32); skip)
              have ar722 := congrArg Int32.toInt hr705
              have ar723 := rng32 (r705 - vat230)
              first | have ar724 : (r705 - vat230).toInt = r705.toInt - vat230.toInt := (by have qw := c_isub r705 vat230; omega) | (have ar724 := c_isub r705 vat230; skip)
              have ar725 := congrArg Int32.toInt hv709
              exact fun qq_ => absurd (Int32.lt_iff_toInt_lt.mp qq_) (by omega))
          have hc130_744 : ¬ ((4 : Int32) < v709) := (by
              have ar727 : (4 : Int32).toInt = 4 := by decide
              have ar728 := rng32 v709
              have ar729 := rng32 r705
              have ar730 := rng32 vat230
              have ar731 : (1 : Int32).toInt = 1 := by decide
              have ar732 := rng32 (vat230 + (1 : Int32))
              first | have ar733 : (vat230 + (1 : Int32)).toInt = vat230.toInt + 1 := (by have qw := c_iadd vat230 (1 : Int32); omega) | (have ar733 := c_iadd vat230 (1 : Int32); skip)
              have ar734 := rng32 ((vat230 + (1 : Int32)) + (1 : Int32))
              first | have ar735 : ((vat230 + (1 : Int32)) + (1 : Int32)).toInt = (vat230 + (1 : Int32)).toInt + 1 := (by have qw := c_iadd (vat230 + (1 : Int32)) (1 : Int32); omega) | (have ar735 := c_iadd (vat230 + (1 : Int32)) (1 : Int32); skip)
              have ar736 := rng32 (((vat230 + (1 : Int32)) + (1 : Int32)) + (1 : Int32))
              first | have ar737 : (((vat230 + (1 : Int32)) + (1 : Int32)) + (1 : Int32)).toInt = ((vat230 + (1 : Int32)) + (1 : Int32)).toInt + 1 := (by have qw := c_iadd ((vat230 + (1 : Int32)) + (1 : Int32)) (1 : Int32); omega) | (have ar737 := c_iadd ((vat230 + (1 : Int32)) + (1 : Int32)) (1 : Int32); skip)
              have ar738 := rng32 ((((vat230 + (1 : Int32)) + (1 : Int32)) + (1 : Int32)) + (1 : Int32))
              first | have ar739 : ((((vat230 + (1 : Int32)) + (1 : Int32)) + (1 : Int32)) + (1 : Int32)).toInt = (((vat230 + (1 : Int32)) + (1 : Int32)) + (1 : Int32)).toInt + 1 := (by have qw := c_iadd (((vat230 + (1 : Int32)) + (1 : Int32)) + (1 : Int32)) (1 : Int32); omega) | (have ar739 := c_iadd (((vat230 + (1 : Int32)) + (1 : Int32)) + (1 : Int32)) (1 : Int32); skip)
              have ar740 := congrArg Int32.toInt hr705
              have ar741 := rng32 (r705 - vat230)
              first | have ar742 : (r705 - vat230).toInt = r705.toInt - vat230.toInt := (by have qw := c_isub r705 vat230; omega) | (have ar742 := c_isub r705 vat230; skip)
              have ar743 := congrArg Int32.toInt hv709
              exact fun qq_ => absurd (Int32.lt_iff_toInt_lt.mp qq_) (by omega))
          have k745 : ∀ tg_, Steps p.tables e below (T703.setTop (mkF m 137 #[.val (.int p0), .val (.int p1), .val (.int p2), .val (.int vcp216), .val (.int vat230), .val (.int v232), .val (.ref b233), .val (.int r705), .val (.int v709), .unset, .unset, .unset, .unset, .unset, .unset] [(.int vat230)])) tg_ → Steps p.tables e below (s₁.setTop (entryFrame m #[(.int p0), (.int p1), (.int p2)] maxLocals)) tg_ := by
            intro tg_ kt
            refine k708 tg_ ?_
            refine XS.istore X703.here hx rfl (hb hby at_119) rfl (l' := #[.val (.int p0), .val (.int p1), .val (.int p2), .val (.int vcp216), .val (.int vat230), .val (.int v232), .val (.ref b233), .val (.int r705), .val (.int v709), .unset, .unset, .unset, .unset, .unset, .unset]) rfl ?_
            show Steps p.tables e below (T703.setTop (mkF m 121 #[.val (.int p0), .val (.int p1), .val (.int p2), .val (.int vcp216), .val (.int vat230), .val (.int v232), .val (.ref b233), .val (.int r705), .val (.int v709), .unset, .unset, .unset, .unset, .unset, .unset] [])) _
            refine XS.iload X703.here hx rfl (hb hby at_121) rfl ?_
            show Steps p.tables e below (T703.setTop (mkF m 123 #[.val (.int p0), .val (.int p1), .val (.int p2), .val (.int vcp216), .val (.int vat230), .val (.int v232), .val (.ref b233), .val (.int r705), .val (.int v709), .unset, .unset, .unset, .unset, .unset, .unset] [(.int v709)])) _
            refine XS.iconst X703.here hx rfl (hb hby at_123) ?_
            show Steps p.tables e below (T703.setTop (mkF m 124 #[.val (.int p0), .val (.int p1), .val (.int p2), .val (.int vcp216), .val (.int vat230), .val (.int v232), .val (.ref b233), .val (.int r705), .val (.int v709), .unset, .unset, .unset, .unset, .unset, .unset] [(.int (1 : Int32)), (.int v709)])) _
            refine XS.icmpNo X703.here hx rfl (hb hby at_124) rfl (flt hc124_726).1 ?_
            show Steps p.tables e below (T703.setTop (mkF m 127 #[.val (.int p0), .val (.int p1), .val (.int p2), .val (.int vcp216), .val (.int vat230), .val (.int v232), .val (.ref b233), .val (.int r705), .val (.int v709), .unset, .unset, .unset, .unset, .unset, .unset] [])) _
            refine XS.iload X703.here hx rfl (hb hby at_127) rfl ?_
            show Steps p.tables e below (T703.setTop (mkF m 129 #[.val (.int p0), .val (.int p1), .val (.int p2), .val (.int vcp216), .val (.int vat230), .val (.int v232), .val (.ref b233), .val (.int r705), .val (.int v709), .unset, .unset, .unset, .unset, .unset, .unset] [(.int v709)])) _
            refine XS.iconst X703.here hx rfl (hb hby at_129) ?_
            show Steps p.tables e below (T703.setTop (mkF m 130 #[.val (.int p0), .val (.int p1), .val (.int p2), .val (.int vcp216), .val (.int vat230), .val (.int v232), .val (.ref b233), .val (.int r705), .val (.int v709), .unset, .unset, .unset, .unset, .unset, .unset] [(.int (4 : Int32)), (.int v709)])) _
            refine XS.icmpYes X703.here hx rfl (pc0 := 130) (pc' := 135) rfl (hb hby at_130) rfl (flt hc130_744).2.2.2 (by decide) (by decide) ?_
            show Steps p.tables e below (T703.setTop (mkF m 135 #[.val (.int p0), .val (.int p1), .val (.int p2), .val (.int vcp216), .val (.int vat230), .val (.int v232), .val (.ref b233), .val (.int r705), .val (.int v709), .unset, .unset, .unset, .unset, .unset, .unset] [])) _
            refine XS.iload X703.here hx rfl (hb hby at_135) rfl ?_
            show Steps p.tables e below (T703.setTop (mkF m 137 #[.val (.int p0), .val (.int p1), .val (.int p2), .val (.int vcp216), .val (.int vat230), .val (.int v232), .val (.ref b233), .val (.int r705), .val (.int v709), .unset, .unset, .unset, .unset, .unset, .unset] [(.int vat230)])) _
            exact kt
          have k759 : ∀ tg_, Steps p.tables e below (T703.setTop (mkF m 154 #[.val (.int p0), .val (.int p1), .val (.int p2), .val (.int vcp216), .val (.int vat230), .val (.int v232), .val (.ref b233), .val (.int r705), .val (.int v709), .unset, .unset, .unset, .unset, .unset, .unset] [])) tg_ → Steps p.tables e below (s₁.setTop (entryFrame m #[(.int p0), (.int p1), (.int p2)] maxLocals)) tg_ := by
            intro tg_ kt
            refine k745 tg_ ?_
            by_cases hj137_746 : (0 : Int32) < vat230
            · have hj747 : (vat230 - (1 : Int32)).toInt = (((k - 1) : Nat) : Int) := by
                have ar748 := rng32 vat230
                have ar749 : (1 : Int32).toInt = 1 := by decide
                have ar750 := rng32 (vat230 - (1 : Int32))
                first | have ar751 : (vat230 - (1 : Int32)).toInt = vat230.toInt - 1 := (by have qw := c_isub vat230 (1 : Int32); omega) | (have ar751 := c_isub vat230 (1 : Int32); skip)
                have ar752 : (0 : Int32).toInt = 0 := by decide
                have ar753 : (0 : Int32).toInt < vat230.toInt := Int32.lt_iff_toInt_lt.mp hj137_746
                omega
              have hv754 : g706 (k - 1) = v232 := by
                have hk1 : 1 ≤ k := by
                  have ar755 : (0 : Int32).toInt = 0 := by decide
                  have ar756 := rng32 vat230
                  have ar757 : (0 : Int32).toInt < vat230.toInt := Int32.lt_iff_toInt_lt.mp hj137_746
                  omega
                rw [hg706]; simp only [own_upd]
                rw [if_neg (by omega)]
                rw [if_neg (by omega)]
                rw [if_neg (by omega)]
                rw [if_neg (by omega)]
              have hc149_758 : v232 = v232 := rfl
              refine XS.ifNo X703.here hx rfl (hb hby at_137) rfl ((if0 _ _).trans (tlt hj137_746).2.2.2) ?_
              show Steps p.tables e below (T703.setTop (mkF m 140 #[.val (.int p0), .val (.int p1), .val (.int p2), .val (.int vcp216), .val (.int vat230), .val (.int v232), .val (.ref b233), .val (.int r705), .val (.int v709), .unset, .unset, .unset, .unset, .unset, .unset] [])) _
              refine XS.aload X703.here hx rfl (hb hby at_140) rfl rfl ?_
              show Steps p.tables e below (T703.setTop (mkF m 142 #[.val (.int p0), .val (.int p1), .val (.int p2), .val (.int vcp216), .val (.int vat230), .val (.int v232), .val (.ref b233), .val (.int r705), .val (.int v709), .unset, .unset, .unset, .unset, .unset, .unset] [(.ref b233)])) _
              refine XS.iload X703.here hx rfl (hb hby at_142) rfl ?_
              show Steps p.tables e below (T703.setTop (mkF m 144 #[.val (.int p0), .val (.int p1), .val (.int p2), .val (.int vcp216), .val (.int vat230), .val (.int v232), .val (.ref b233), .val (.int r705), .val (.int v709), .unset, .unset, .unset, .unset, .unset, .unset] [(.int vat230), (.ref b233)])) _
              refine XS.iconst X703.here hx rfl (hb hby at_144) ?_
              show Steps p.tables e below (T703.setTop (mkF m 145 #[.val (.int p0), .val (.int p1), .val (.int p2), .val (.int vcp216), .val (.int vat230), .val (.int v232), .val (.ref b233), .val (.int r705), .val (.int v709), .unset, .unset, .unset, .unset, .unset, .unset] [(.int (1 : Int32)), (.int vat230), (.ref b233)])) _
              refine XS.isub X703.here hx rfl (hb hby at_145) rfl ?_
              show Steps p.tables e below (T703.setTop (mkF m 146 #[.val (.int p0), .val (.int p1), .val (.int p2), .val (.int vcp216), .val (.int vat230), .val (.int v232), .val (.ref b233), .val (.int r705), .val (.int v709), .unset, .unset, .unset, .unset, .unset, .unset] [(.int (vat230 - (1 : Int32))), (.ref b233)])) _
              refine own_ldB X703 hx hZ rfl oAa703 (i := (k - 1)) hj747 (by omega) hv754 (g := (mkF m 146 #[.val (.int p0), .val (.int p1), .val (.int p2), .val (.int vcp216), .val (.int vat230), .val (.int v232), .val (.ref b233), .val (.int r705), .val (.int v709), .unset, .unset, .unset, .unset, .unset, .unset] [(.int (vat230 - (1 : Int32))), (.ref b233)])) rfl rfl (hb hby at_146) _ ?_
              show Steps p.tables e below (T703.setTop (mkF m 147 #[.val (.int p0), .val (.int p1), .val (.int p2), .val (.int vcp216), .val (.int vat230), .val (.int v232), .val (.ref b233), .val (.int r705), .val (.int v709), .unset, .unset, .unset, .unset, .unset, .unset] [(.int v232)])) _
              refine XS.iload X703.here hx rfl (hb hby at_147) rfl ?_
              show Steps p.tables e below (T703.setTop (mkF m 149 #[.val (.int p0), .val (.int p1), .val (.int p2), .val (.int vcp216), .val (.int vat230), .val (.int v232), .val (.ref b233), .val (.int r705), .val (.int v709), .unset, .unset, .unset, .unset, .unset, .unset] [(.int v232), (.int v232)])) _
              refine XS.icmpYes X703.here hx rfl (pc0 := 149) (pc' := 154) rfl (hb hby at_149) rfl (teq hc149_758).1 (by decide) (by decide) ?_
              show Steps p.tables e below (T703.setTop (mkF m 154 #[.val (.int p0), .val (.int p1), .val (.int p2), .val (.int vcp216), .val (.int vat230), .val (.int v232), .val (.ref b233), .val (.int r705), .val (.int v709), .unset, .unset, .unset, .unset, .unset, .unset] [])) _
              simpa only [if_pos hj137_746] using kt
            · refine XS.ifYes X703.here hx rfl (pc0 := 137) (pc' := 154) rfl (hb hby at_137) rfl ((if0 _ _).trans (flt hj137_746).2.2.2) (by decide) (by decide) ?_
              show Steps p.tables e below (T703.setTop (mkF m 154 #[.val (.int p0), .val (.int p1), .val (.int p2), .val (.int vcp216), .val (.int vat230), .val (.int v232), .val (.ref b233), .val (.int r705), .val (.int v709), .unset, .unset, .unset, .unset, .unset, .unset] [])) _
              simpa only [if_neg hj137_746] using kt
          have hj760 : r705.toInt = (((k + 4) : Nat) : Int) := by
            have ar761 := rng32 r705
            have ar762 := rng32 vat230
            have ar763 : (1 : Int32).toInt = 1 := by decide
            have ar764 := rng32 (vat230 + (1 : Int32))
            first | have ar765 : (vat230 + (1 : Int32)).toInt = vat230.toInt + 1 := (by have qw := c_iadd vat230 (1 : Int32); omega) | (have ar765 := c_iadd vat230 (1 : Int32); skip)
            have ar766 := rng32 ((vat230 + (1 : Int32)) + (1 : Int32))
            first | have ar767 : ((vat230 + (1 : Int32)) + (1 : Int32)).toInt = (vat230 + (1 : Int32)).toInt + 1 := (by have qw := c_iadd (vat230 + (1 : Int32)) (1 : Int32); omega) | (have ar767 := c_iadd (vat230 + (1 : Int32)) (1 : Int32); skip)
            have ar768 := rng32 (((vat230 + (1 : Int32)) + (1 : Int32)) + (1 : Int32))
            first | have ar769 : (((vat230 + (1 : Int32)) + (1 : Int32)) + (1 : Int32)).toInt = ((vat230 + (1 : Int32)) + (1 : Int32)).toInt + 1 := (by have qw := c_iadd ((vat230 + (1 : Int32)) + (1 : Int32)) (1 : Int32); omega) | (have ar769 := c_iadd ((vat230 + (1 : Int32)) + (1 : Int32)) (1 : Int32); skip)
            have ar770 := rng32 ((((vat230 + (1 : Int32)) + (1 : Int32)) + (1 : Int32)) + (1 : Int32))
            first | have ar771 : ((((vat230 + (1 : Int32)) + (1 : Int32)) + (1 : Int32)) + (1 : Int32)).toInt = (((vat230 + (1 : Int32)) + (1 : Int32)) + (1 : Int32)).toInt + 1 := (by have qw := c_iadd (((vat230 + (1 : Int32)) + (1 : Int32)) + (1 : Int32)) (1 : Int32); omega) | (have ar771 := c_iadd (((vat230 + (1 : Int32)) + (1 : Int32)) + (1 : Int32)) (1 : Int32); skip)
            have ar772 := congrArg Int32.toInt hr705
            omega
          have hv773 : g706 (k + 4) = v232 := by
            rw [hg706]; simp only [own_upd]
            rw [if_neg (by omega)]
            rw [if_neg (by omega)]
            rw [if_neg (by omega)]
            rw [if_neg (by omega)]
          have hc161_774 : v232 = v232 := rfl
          have hj775 : vat230.toInt = ((k : Nat) : Int) := by
            have ar776 := rng32 vat230
            omega
          have hv777 : g706 k = ((((240 : Int32) ||| ((vcp216.toUInt32 >>> ((18 : Int32) &&& 31).toUInt32).toInt32)).toInt8.toInt32).toInt8.toInt32) := by
            rw [hg706]; simp only [own_upd]
            rw [if_neg (by omega)]
            rw [if_neg (by omega)]
            rw [if_neg (by omega)]
            rw [if_pos (by omega)]
          have k778 : ∀ tg_, Steps p.tables e below (T703.setTop (mkF m 175 #[.val (.int p0), .val (.int p1), .val (.int p2), .val (.int vcp216), .val (.int vat230), .val (.int v232), .val (.ref b233), .val (.int r705), .val (.int v709), .unset, .unset, .unset, .unset, .unset, .unset] [(.int (((((240 : Int32) ||| ((vcp216.toUInt32 >>> ((18 : Int32) &&& 31).toUInt32).toInt32)).toInt8.toInt32).toInt8.toInt32) &&& (255 : Int32)))])) tg_ → Steps p.tables e below (s₁.setTop (entryFrame m #[(.int p0), (.int p1), (.int p2)] maxLocals)) tg_ := by
            intro tg_ kt
            refine k759 tg_ ?_
            refine XS.aload X703.here hx rfl (hb hby at_154) rfl rfl ?_
            show Steps p.tables e below (T703.setTop (mkF m 156 #[.val (.int p0), .val (.int p1), .val (.int p2), .val (.int vcp216), .val (.int vat230), .val (.int v232), .val (.ref b233), .val (.int r705), .val (.int v709), .unset, .unset, .unset, .unset, .unset, .unset] [(.ref b233)])) _
            refine XS.iload X703.here hx rfl (hb hby at_156) rfl ?_
            show Steps p.tables e below (T703.setTop (mkF m 158 #[.val (.int p0), .val (.int p1), .val (.int p2), .val (.int vcp216), .val (.int vat230), .val (.int v232), .val (.ref b233), .val (.int r705), .val (.int v709), .unset, .unset, .unset, .unset, .unset, .unset] [(.int r705), (.ref b233)])) _
            refine own_ldB X703 hx hZ rfl oAa703 (i := (k + 4)) hj760 (by omega) hv773 (g := (mkF m 158 #[.val (.int p0), .val (.int p1), .val (.int p2), .val (.int vcp216), .val (.int vat230), .val (.int v232), .val (.ref b233), .val (.int r705), .val (.int v709), .unset, .unset, .unset, .unset, .unset, .unset] [(.int r705), (.ref b233)])) rfl rfl (hb hby at_158) _ ?_
            show Steps p.tables e below (T703.setTop (mkF m 159 #[.val (.int p0), .val (.int p1), .val (.int p2), .val (.int vcp216), .val (.int vat230), .val (.int v232), .val (.ref b233), .val (.int r705), .val (.int v709), .unset, .unset, .unset, .unset, .unset, .unset] [(.int v232)])) _
            refine XS.iload X703.here hx rfl (hb hby at_159) rfl ?_
            show Steps p.tables e below (T703.setTop (mkF m 161 #[.val (.int p0), .val (.int p1), .val (.int p2), .val (.int vcp216), .val (.int vat230), .val (.int v232), .val (.ref b233), .val (.int r705), .val (.int v709), .unset, .unset, .unset, .unset, .unset, .unset] [(.int v232), (.int v232)])) _
            refine XS.icmpYes X703.here hx rfl (pc0 := 161) (pc' := 166) rfl (hb hby at_161) rfl (teq hc161_774).1 (by decide) (by decide) ?_
            show Steps p.tables e below (T703.setTop (mkF m 166 #[.val (.int p0), .val (.int p1), .val (.int p2), .val (.int vcp216), .val (.int vat230), .val (.int v232), .val (.ref b233), .val (.int r705), .val (.int v709), .unset, .unset, .unset, .unset, .unset, .unset] [])) _
            refine XS.aload X703.here hx rfl (hb hby at_166) rfl rfl ?_
            show Steps p.tables e below (T703.setTop (mkF m 168 #[.val (.int p0), .val (.int p1), .val (.int p2), .val (.int vcp216), .val (.int vat230), .val (.int v232), .val (.ref b233), .val (.int r705), .val (.int v709), .unset, .unset, .unset, .unset, .unset, .unset] [(.ref b233)])) _
            refine XS.iload X703.here hx rfl (hb hby at_168) rfl ?_
            show Steps p.tables e below (T703.setTop (mkF m 170 #[.val (.int p0), .val (.int p1), .val (.int p2), .val (.int vcp216), .val (.int vat230), .val (.int v232), .val (.ref b233), .val (.int r705), .val (.int v709), .unset, .unset, .unset, .unset, .unset, .unset] [(.int vat230), (.ref b233)])) _
            refine own_ldB X703 hx hZ rfl oAa703 (i := k) hj775 (by omega) hv777 (g := (mkF m 170 #[.val (.int p0), .val (.int p1), .val (.int p2), .val (.int vcp216), .val (.int vat230), .val (.int v232), .val (.ref b233), .val (.int r705), .val (.int v709), .unset, .unset, .unset, .unset, .unset, .unset] [(.int vat230), (.ref b233)])) rfl rfl (hb hby at_170) _ ?_
            show Steps p.tables e below (T703.setTop (mkF m 171 #[.val (.int p0), .val (.int p1), .val (.int p2), .val (.int vcp216), .val (.int vat230), .val (.int v232), .val (.ref b233), .val (.int r705), .val (.int v709), .unset, .unset, .unset, .unset, .unset, .unset] [(.int ((((240 : Int32) ||| ((vcp216.toUInt32 >>> ((18 : Int32) &&& 31).toUInt32).toInt32)).toInt8.toInt32).toInt8.toInt32))])) _
            refine XS.sipush X703.here hx rfl (hb hby at_171) ?_
            show Steps p.tables e below (T703.setTop (mkF m 174 #[.val (.int p0), .val (.int p1), .val (.int p2), .val (.int vcp216), .val (.int vat230), .val (.int v232), .val (.ref b233), .val (.int r705), .val (.int v709), .unset, .unset, .unset, .unset, .unset, .unset] [(.int (255 : Int32)), (.int ((((240 : Int32) ||| ((vcp216.toUInt32 >>> ((18 : Int32) &&& 31).toUInt32).toInt32)).toInt8.toInt32).toInt8.toInt32))])) _
            refine XS.iand X703.here hx rfl (hb hby at_174) rfl ?_
            show Steps p.tables e below (T703.setTop (mkF m 175 #[.val (.int p0), .val (.int p1), .val (.int p2), .val (.int vcp216), .val (.int vat230), .val (.int v232), .val (.ref b233), .val (.int r705), .val (.int v709), .unset, .unset, .unset, .unset, .unset, .unset] [(.int (((((240 : Int32) ||| ((vcp216.toUInt32 >>> ((18 : Int32) &&& 31).toUInt32).toInt32)).toInt8.toInt32).toInt8.toInt32) &&& (255 : Int32)))])) _
            exact kt
          obtain ⟨vb779, hvb779⟩ : ∃ z : Int32, z = (((((240 : Int32) ||| ((vcp216.toUInt32 >>> ((18 : Int32) &&& 31).toUInt32).toInt32)).toInt8.toInt32).toInt8.toInt32) &&& (255 : Int32)) := ⟨_, rfl⟩
          rw [← hvb779] at k778
          have k780 : ∀ tg_, Steps p.tables e below (T703.setTop (mkF m 177 #[.val (.int p0), .val (.int p1), .val (.int p2), .val (.int vcp216), .val (.int vat230), .val (.int v232), .val (.ref b233), .val (.int r705), .val (.int v709), .val (.int vb779), .unset, .unset, .unset, .unset, .unset] [])) tg_ → Steps p.tables e below (s₁.setTop (entryFrame m #[(.int p0), (.int p1), (.int p2)] maxLocals)) tg_ := by
            intro tg_ kt
            refine k778 tg_ ?_
            refine XS.istore X703.here hx rfl (hb hby at_175) rfl (l' := #[.val (.int p0), .val (.int p1), .val (.int p2), .val (.int vcp216), .val (.int vat230), .val (.int v232), .val (.ref b233), .val (.int r705), .val (.int v709), .val (.int vb779), .unset, .unset, .unset, .unset, .unset]) rfl ?_
            show Steps p.tables e below (T703.setTop (mkF m 177 #[.val (.int p0), .val (.int p1), .val (.int p2), .val (.int vcp216), .val (.int vat230), .val (.int v232), .val (.ref b233), .val (.int r705), .val (.int v709), .val (.int vb779), .unset, .unset, .unset, .unset, .unset] [])) _
            exact kt
          have hbv_vb779 : vb779.toInt = 240 + vcp216.toInt / 262144 := by rw [hvb779]; exact own_e4_0 vcp216 (by omega) (by omega)
          have hc180_797 : ¬ (v709 = (1 : Int32)) := (by
              have ar781 := rng32 v709
              have ar782 := rng32 r705
              have ar783 := rng32 vat230
              have ar784 : (1 : Int32).toInt = 1 := by decide
              have ar785 := rng32 (vat230 + (1 : Int32))
              first | have ar786 : (vat230 + (1 : Int32)).toInt = vat230.toInt + 1 := (by have qw := c_iadd vat230 (1 : Int32); omega) | (have ar786 := c_iadd vat230 (1 : Int32); skip)
              have ar787 := rng32 ((vat230 + (1 : Int32)) + (1 : Int32))
              first | have ar788 : ((vat230 + (1 : Int32)) + (1 : Int32)).toInt = (vat230 + (1 : Int32)).toInt + 1 := (by have qw := c_iadd (vat230 + (1 : Int32)) (1 : Int32); omega) | (have ar788 := c_iadd (vat230 + (1 : Int32)) (1 : Int32); skip)
              have ar789 := rng32 (((vat230 + (1 : Int32)) + (1 : Int32)) + (1 : Int32))
              first | have ar790 : (((vat230 + (1 : Int32)) + (1 : Int32)) + (1 : Int32)).toInt = ((vat230 + (1 : Int32)) + (1 : Int32)).toInt + 1 := (by have qw := c_iadd ((vat230 + (1 : Int32)) + (1 : Int32)) (1 : Int32); omega) | (have ar790 := c_iadd ((vat230 + (1 : Int32)) + (1 : Int32)) (1 : Int32); skip)
              have ar791 := rng32 ((((vat230 + (1 : Int32)) + (1 : Int32)) + (1 : Int32)) + (1 : Int32))
              first | have ar792 : ((((vat230 + (1 : Int32)) + (1 : Int32)) + (1 : Int32)) + (1 : Int32)).toInt = (((vat230 + (1 : Int32)) + (1 : Int32)) + (1 : Int32)).toInt + 1 := (by have qw := c_iadd (((vat230 + (1 : Int32)) + (1 : Int32)) + (1 : Int32)) (1 : Int32); omega) | (have ar792 := c_iadd (((vat230 + (1 : Int32)) + (1 : Int32)) + (1 : Int32)) (1 : Int32); skip)
              have ar793 := congrArg Int32.toInt hr705
              have ar794 := rng32 (r705 - vat230)
              first | have ar795 : (r705 - vat230).toInt = r705.toInt - vat230.toInt := (by have qw := c_isub r705 vat230; omega) | (have ar795 := c_isub r705 vat230; skip)
              have ar796 := congrArg Int32.toInt hv709
              exact fun qq_ => absurd (congrArg Int32.toInt qq_) (by omega))
          have hj798 : (vat230 + (1 : Int32)).toInt = (((k + 1) : Nat) : Int) := by
            have ar799 := rng32 vat230
            have ar800 : (1 : Int32).toInt = 1 := by decide
            have ar801 := rng32 (vat230 + (1 : Int32))
            first | have ar802 : (vat230 + (1 : Int32)).toInt = vat230.toInt + 1 := (by have qw := c_iadd vat230 (1 : Int32); omega) | (have ar802 := c_iadd vat230 (1 : Int32); skip)
            omega
          have hv803 : g706 (k + 1) = ((((128 : Int32) ||| (((vcp216.toUInt32 >>> ((12 : Int32) &&& 31).toUInt32).toInt32) &&& (63 : Int32))).toInt8.toInt32).toInt8.toInt32) := by
            rw [hg706]; simp only [own_upd]
            rw [if_neg (by omega)]
            rw [if_neg (by omega)]
            rw [if_pos (by omega)]
          have k804 : ∀ tg_, Steps p.tables e below (T703.setTop (mkF m 214 #[.val (.int p0), .val (.int p1), .val (.int p2), .val (.int vcp216), .val (.int vat230), .val (.int v232), .val (.ref b233), .val (.int r705), .val (.int v709), .val (.int vb779), .unset, .unset, .unset, .unset, .unset] [(.int (((((128 : Int32) ||| (((vcp216.toUInt32 >>> ((12 : Int32) &&& 31).toUInt32).toInt32) &&& (63 : Int32))).toInt8.toInt32).toInt8.toInt32) &&& (255 : Int32)))])) tg_ → Steps p.tables e below (s₁.setTop (entryFrame m #[(.int p0), (.int p1), (.int p2)] maxLocals)) tg_ := by
            intro tg_ kt
            refine k780 tg_ ?_
            refine XS.iload X703.here hx rfl (hb hby at_177) rfl ?_
            show Steps p.tables e below (T703.setTop (mkF m 179 #[.val (.int p0), .val (.int p1), .val (.int p2), .val (.int vcp216), .val (.int vat230), .val (.int v232), .val (.ref b233), .val (.int r705), .val (.int v709), .val (.int vb779), .unset, .unset, .unset, .unset, .unset] [(.int v709)])) _
            refine XS.iconst X703.here hx rfl (hb hby at_179) ?_
            show Steps p.tables e below (T703.setTop (mkF m 180 #[.val (.int p0), .val (.int p1), .val (.int p2), .val (.int vcp216), .val (.int vat230), .val (.int v232), .val (.ref b233), .val (.int r705), .val (.int v709), .val (.int vb779), .unset, .unset, .unset, .unset, .unset] [(.int (1 : Int32)), (.int v709)])) _
            refine XS.icmpYes X703.here hx rfl (pc0 := 180) (pc' := 203) rfl (hb hby at_180) rfl (feq hc180_797).2 (by decide) (by decide) ?_
            show Steps p.tables e below (T703.setTop (mkF m 203 #[.val (.int p0), .val (.int p1), .val (.int p2), .val (.int vcp216), .val (.int vat230), .val (.int v232), .val (.ref b233), .val (.int r705), .val (.int v709), .val (.int vb779), .unset, .unset, .unset, .unset, .unset] [])) _
            refine XS.aload X703.here hx rfl (hb hby at_203) rfl rfl ?_
            show Steps p.tables e below (T703.setTop (mkF m 205 #[.val (.int p0), .val (.int p1), .val (.int p2), .val (.int vcp216), .val (.int vat230), .val (.int v232), .val (.ref b233), .val (.int r705), .val (.int v709), .val (.int vb779), .unset, .unset, .unset, .unset, .unset] [(.ref b233)])) _
            refine XS.iload X703.here hx rfl (hb hby at_205) rfl ?_
            show Steps p.tables e below (T703.setTop (mkF m 207 #[.val (.int p0), .val (.int p1), .val (.int p2), .val (.int vcp216), .val (.int vat230), .val (.int v232), .val (.ref b233), .val (.int r705), .val (.int v709), .val (.int vb779), .unset, .unset, .unset, .unset, .unset] [(.int vat230), (.ref b233)])) _
            refine XS.iconst X703.here hx rfl (hb hby at_207) ?_
            show Steps p.tables e below (T703.setTop (mkF m 208 #[.val (.int p0), .val (.int p1), .val (.int p2), .val (.int vcp216), .val (.int vat230), .val (.int v232), .val (.ref b233), .val (.int r705), .val (.int v709), .val (.int vb779), .unset, .unset, .unset, .unset, .unset] [(.int (1 : Int32)), (.int vat230), (.ref b233)])) _
            refine XS.iadd X703.here hx rfl (hb hby at_208) rfl ?_
            show Steps p.tables e below (T703.setTop (mkF m 209 #[.val (.int p0), .val (.int p1), .val (.int p2), .val (.int vcp216), .val (.int vat230), .val (.int v232), .val (.ref b233), .val (.int r705), .val (.int v709), .val (.int vb779), .unset, .unset, .unset, .unset, .unset] [(.int (vat230 + (1 : Int32))), (.ref b233)])) _
            refine own_ldB X703 hx hZ rfl oAa703 (i := (k + 1)) hj798 (by omega) hv803 (g := (mkF m 209 #[.val (.int p0), .val (.int p1), .val (.int p2), .val (.int vcp216), .val (.int vat230), .val (.int v232), .val (.ref b233), .val (.int r705), .val (.int v709), .val (.int vb779), .unset, .unset, .unset, .unset, .unset] [(.int (vat230 + (1 : Int32))), (.ref b233)])) rfl rfl (hb hby at_209) _ ?_
            show Steps p.tables e below (T703.setTop (mkF m 210 #[.val (.int p0), .val (.int p1), .val (.int p2), .val (.int vcp216), .val (.int vat230), .val (.int v232), .val (.ref b233), .val (.int r705), .val (.int v709), .val (.int vb779), .unset, .unset, .unset, .unset, .unset] [(.int ((((128 : Int32) ||| (((vcp216.toUInt32 >>> ((12 : Int32) &&& 31).toUInt32).toInt32) &&& (63 : Int32))).toInt8.toInt32).toInt8.toInt32))])) _
            refine XS.sipush X703.here hx rfl (hb hby at_210) ?_
            show Steps p.tables e below (T703.setTop (mkF m 213 #[.val (.int p0), .val (.int p1), .val (.int p2), .val (.int vcp216), .val (.int vat230), .val (.int v232), .val (.ref b233), .val (.int r705), .val (.int v709), .val (.int vb779), .unset, .unset, .unset, .unset, .unset] [(.int (255 : Int32)), (.int ((((128 : Int32) ||| (((vcp216.toUInt32 >>> ((12 : Int32) &&& 31).toUInt32).toInt32) &&& (63 : Int32))).toInt8.toInt32).toInt8.toInt32))])) _
            refine XS.iand X703.here hx rfl (hb hby at_213) rfl ?_
            show Steps p.tables e below (T703.setTop (mkF m 214 #[.val (.int p0), .val (.int p1), .val (.int p2), .val (.int vcp216), .val (.int vat230), .val (.int v232), .val (.ref b233), .val (.int r705), .val (.int v709), .val (.int vb779), .unset, .unset, .unset, .unset, .unset] [(.int (((((128 : Int32) ||| (((vcp216.toUInt32 >>> ((12 : Int32) &&& 31).toUInt32).toInt32) &&& (63 : Int32))).toInt8.toInt32).toInt8.toInt32) &&& (255 : Int32)))])) _
            exact kt
          obtain ⟨vb805, hvb805⟩ : ∃ z : Int32, z = (((((128 : Int32) ||| (((vcp216.toUInt32 >>> ((12 : Int32) &&& 31).toUInt32).toInt32) &&& (63 : Int32))).toInt8.toInt32).toInt8.toInt32) &&& (255 : Int32)) := ⟨_, rfl⟩
          rw [← hvb805] at k804
          have k806 : ∀ tg_, Steps p.tables e below (T703.setTop (mkF m 216 #[.val (.int p0), .val (.int p1), .val (.int p2), .val (.int vcp216), .val (.int vat230), .val (.int v232), .val (.ref b233), .val (.int r705), .val (.int v709), .val (.int vb779), .unset, .unset, .val (.int vb805), .unset, .unset] [])) tg_ → Steps p.tables e below (s₁.setTop (entryFrame m #[(.int p0), (.int p1), (.int p2)] maxLocals)) tg_ := by
            intro tg_ kt
            refine k804 tg_ ?_
            refine XS.istore X703.here hx rfl (hb hby at_214) rfl (l' := #[.val (.int p0), .val (.int p1), .val (.int p2), .val (.int vcp216), .val (.int vat230), .val (.int v232), .val (.ref b233), .val (.int r705), .val (.int v709), .val (.int vb779), .unset, .unset, .val (.int vb805), .unset, .unset]) rfl ?_
            show Steps p.tables e below (T703.setTop (mkF m 216 #[.val (.int p0), .val (.int p1), .val (.int p2), .val (.int vcp216), .val (.int vat230), .val (.int v232), .val (.ref b233), .val (.int r705), .val (.int v709), .val (.int vb779), .unset, .unset, .val (.int vb805), .unset, .unset] [])) _
            exact kt
          have hbv_vb805 : vb805.toInt = 128 + vcp216.toInt / 4096 % 64 := by rw [hvb805]; exact own_e4_1 vcp216 (by omega) (by omega)
          have hc225_813 : (vb805 &&& (192 : Int32)) = (128 : Int32) := (by
              have ar807 := rng32 vb805
              have ar808 : (192 : Int32).toInt = 192 := by decide
              first | have ar809 := own_hi192 vb805 (by omega) (by omega) | have ar809 := own_hi192 vb805
              have ar810 := c_and vb805 (192 : Int32) (by decide)
              have ar811 := rng32 (vb805 &&& (192 : Int32))
              have ar812 : (128 : Int32).toInt = 128 := by decide
              exact Int32.toInt_inj.mp (by omega))
          have hc233_831 : ¬ (v709 = (2 : Int32)) := (by
              have ar814 := rng32 v709
              have ar815 := rng32 r705
              have ar816 := rng32 vat230
              have ar817 : (1 : Int32).toInt = 1 := by decide
              have ar818 := rng32 (vat230 + (1 : Int32))
              first | have ar819 : (vat230 + (1 : Int32)).toInt = vat230.toInt + 1 := (by have qw := c_iadd vat230 (1 : Int32); omega) | (have ar819 := c_iadd vat230 (1 : Int32); skip)
              have ar820 := rng32 ((vat230 + (1 : Int32)) + (1 : Int32))
              first | have ar821 : ((vat230 + (1 : Int32)) + (1 : Int32)).toInt = (vat230 + (1 : Int32)).toInt + 1 := (by have qw := c_iadd (vat230 + (1 : Int32)) (1 : Int32); omega) | (have ar821 := c_iadd (vat230 + (1 : Int32)) (1 : Int32); skip)
              have ar822 := rng32 (((vat230 + (1 : Int32)) + (1 : Int32)) + (1 : Int32))
              first | have ar823 : (((vat230 + (1 : Int32)) + (1 : Int32)) + (1 : Int32)).toInt = ((vat230 + (1 : Int32)) + (1 : Int32)).toInt + 1 := (by have qw := c_iadd ((vat230 + (1 : Int32)) + (1 : Int32)) (1 : Int32); omega) | (have ar823 := c_iadd ((vat230 + (1 : Int32)) + (1 : Int32)) (1 : Int32); skip)
              have ar824 := rng32 ((((vat230 + (1 : Int32)) + (1 : Int32)) + (1 : Int32)) + (1 : Int32))
              first | have ar825 : ((((vat230 + (1 : Int32)) + (1 : Int32)) + (1 : Int32)) + (1 : Int32)).toInt = (((vat230 + (1 : Int32)) + (1 : Int32)) + (1 : Int32)).toInt + 1 := (by have qw := c_iadd (((vat230 + (1 : Int32)) + (1 : Int32)) + (1 : Int32)) (1 : Int32); omega) | (have ar825 := c_iadd (((vat230 + (1 : Int32)) + (1 : Int32)) + (1 : Int32)) (1 : Int32); skip)
              have ar826 := congrArg Int32.toInt hr705
              have ar827 := rng32 (r705 - vat230)
              first | have ar828 : (r705 - vat230).toInt = r705.toInt - vat230.toInt := (by have qw := c_isub r705 vat230; omega) | (have ar828 := c_isub r705 vat230; skip)
              have ar829 := congrArg Int32.toInt hv709
              have ar830 : (2 : Int32).toInt = 2 := by decide
              exact fun qq_ => absurd (congrArg Int32.toInt qq_) (by omega))
          have hj832 : (vat230 + (2 : Int32)).toInt = (((k + 2) : Nat) : Int) := by
            have ar833 := rng32 vat230
            have ar834 : (2 : Int32).toInt = 2 := by decide
            have ar835 := rng32 (vat230 + (2 : Int32))
            first | have ar836 : (vat230 + (2 : Int32)).toInt = vat230.toInt + 2 := (by have qw := c_iadd vat230 (2 : Int32); omega) | (have ar836 := c_iadd vat230 (2 : Int32); skip)
            omega
          have hv837 : g706 (k + 2) = ((((128 : Int32) ||| (((vcp216.toUInt32 >>> ((6 : Int32) &&& 31).toUInt32).toInt32) &&& (63 : Int32))).toInt8.toInt32).toInt8.toInt32) := by
            rw [hg706]; simp only [own_upd]
            rw [if_neg (by omega)]
            rw [if_pos (by omega)]
          have k838 : ∀ tg_, Steps p.tables e below (T703.setTop (mkF m 285 #[.val (.int p0), .val (.int p1), .val (.int p2), .val (.int vcp216), .val (.int vat230), .val (.int v232), .val (.ref b233), .val (.int r705), .val (.int v709), .val (.int vb779), .unset, .unset, .val (.int vb805), .unset, .unset] [(.int (((((128 : Int32) ||| (((vcp216.toUInt32 >>> ((6 : Int32) &&& 31).toUInt32).toInt32) &&& (63 : Int32))).toInt8.toInt32).toInt8.toInt32) &&& (255 : Int32)))])) tg_ → Steps p.tables e below (s₁.setTop (entryFrame m #[(.int p0), (.int p1), (.int p2)] maxLocals)) tg_ := by
            intro tg_ kt
            refine k806 tg_ ?_
            refine XS.iload X703.here hx rfl (hb hby at_216) rfl ?_
            show Steps p.tables e below (T703.setTop (mkF m 218 #[.val (.int p0), .val (.int p1), .val (.int p2), .val (.int vcp216), .val (.int vat230), .val (.int v232), .val (.ref b233), .val (.int r705), .val (.int v709), .val (.int vb779), .unset, .unset, .val (.int vb805), .unset, .unset] [(.int vb805)])) _
            refine XS.sipush X703.here hx rfl (hb hby at_218) ?_
            show Steps p.tables e below (T703.setTop (mkF m 221 #[.val (.int p0), .val (.int p1), .val (.int p2), .val (.int vcp216), .val (.int vat230), .val (.int v232), .val (.ref b233), .val (.int r705), .val (.int v709), .val (.int vb779), .unset, .unset, .val (.int vb805), .unset, .unset] [(.int (192 : Int32)), (.int vb805)])) _
            refine XS.iand X703.here hx rfl (hb hby at_221) rfl ?_
            show Steps p.tables e below (T703.setTop (mkF m 222 #[.val (.int p0), .val (.int p1), .val (.int p2), .val (.int vcp216), .val (.int vat230), .val (.int v232), .val (.ref b233), .val (.int r705), .val (.int v709), .val (.int vb779), .unset, .unset, .val (.int vb805), .unset, .unset] [(.int (vb805 &&& (192 : Int32)))])) _
            refine XS.sipush X703.here hx rfl (hb hby at_222) ?_
            show Steps p.tables e below (T703.setTop (mkF m 225 #[.val (.int p0), .val (.int p1), .val (.int p2), .val (.int vcp216), .val (.int vat230), .val (.int v232), .val (.ref b233), .val (.int r705), .val (.int v709), .val (.int vb779), .unset, .unset, .val (.int vb805), .unset, .unset] [(.int (128 : Int32)), (.int (vb805 &&& (192 : Int32)))])) _
            refine XS.icmpYes X703.here hx rfl (pc0 := 225) (pc' := 230) rfl (hb hby at_225) rfl (teq hc225_813).1 (by decide) (by decide) ?_
            show Steps p.tables e below (T703.setTop (mkF m 230 #[.val (.int p0), .val (.int p1), .val (.int p2), .val (.int vcp216), .val (.int vat230), .val (.int v232), .val (.ref b233), .val (.int r705), .val (.int v709), .val (.int vb779), .unset, .unset, .val (.int vb805), .unset, .unset] [])) _
            refine XS.iload X703.here hx rfl (hb hby at_230) rfl ?_
            show Steps p.tables e below (T703.setTop (mkF m 232 #[.val (.int p0), .val (.int p1), .val (.int p2), .val (.int vcp216), .val (.int vat230), .val (.int v232), .val (.ref b233), .val (.int r705), .val (.int v709), .val (.int vb779), .unset, .unset, .val (.int vb805), .unset, .unset] [(.int v709)])) _
            refine XS.iconst X703.here hx rfl (hb hby at_232) ?_
            show Steps p.tables e below (T703.setTop (mkF m 233 #[.val (.int p0), .val (.int p1), .val (.int p2), .val (.int vcp216), .val (.int vat230), .val (.int v232), .val (.ref b233), .val (.int r705), .val (.int v709), .val (.int vb779), .unset, .unset, .val (.int vb805), .unset, .unset] [(.int (2 : Int32)), (.int v709)])) _
            refine XS.icmpYes X703.here hx rfl (pc0 := 233) (pc' := 274) rfl (hb hby at_233) rfl (feq hc233_831).2 (by decide) (by decide) ?_
            show Steps p.tables e below (T703.setTop (mkF m 274 #[.val (.int p0), .val (.int p1), .val (.int p2), .val (.int vcp216), .val (.int vat230), .val (.int v232), .val (.ref b233), .val (.int r705), .val (.int v709), .val (.int vb779), .unset, .unset, .val (.int vb805), .unset, .unset] [])) _
            refine XS.aload X703.here hx rfl (hb hby at_274) rfl rfl ?_
            show Steps p.tables e below (T703.setTop (mkF m 276 #[.val (.int p0), .val (.int p1), .val (.int p2), .val (.int vcp216), .val (.int vat230), .val (.int v232), .val (.ref b233), .val (.int r705), .val (.int v709), .val (.int vb779), .unset, .unset, .val (.int vb805), .unset, .unset] [(.ref b233)])) _
            refine XS.iload X703.here hx rfl (hb hby at_276) rfl ?_
            show Steps p.tables e below (T703.setTop (mkF m 278 #[.val (.int p0), .val (.int p1), .val (.int p2), .val (.int vcp216), .val (.int vat230), .val (.int v232), .val (.ref b233), .val (.int r705), .val (.int v709), .val (.int vb779), .unset, .unset, .val (.int vb805), .unset, .unset] [(.int vat230), (.ref b233)])) _
            refine XS.iconst X703.here hx rfl (hb hby at_278) ?_
            show Steps p.tables e below (T703.setTop (mkF m 279 #[.val (.int p0), .val (.int p1), .val (.int p2), .val (.int vcp216), .val (.int vat230), .val (.int v232), .val (.ref b233), .val (.int r705), .val (.int v709), .val (.int vb779), .unset, .unset, .val (.int vb805), .unset, .unset] [(.int (2 : Int32)), (.int vat230), (.ref b233)])) _
            refine XS.iadd X703.here hx rfl (hb hby at_279) rfl ?_
            show Steps p.tables e below (T703.setTop (mkF m 280 #[.val (.int p0), .val (.int p1), .val (.int p2), .val (.int vcp216), .val (.int vat230), .val (.int v232), .val (.ref b233), .val (.int r705), .val (.int v709), .val (.int vb779), .unset, .unset, .val (.int vb805), .unset, .unset] [(.int (vat230 + (2 : Int32))), (.ref b233)])) _
            refine own_ldB X703 hx hZ rfl oAa703 (i := (k + 2)) hj832 (by omega) hv837 (g := (mkF m 280 #[.val (.int p0), .val (.int p1), .val (.int p2), .val (.int vcp216), .val (.int vat230), .val (.int v232), .val (.ref b233), .val (.int r705), .val (.int v709), .val (.int vb779), .unset, .unset, .val (.int vb805), .unset, .unset] [(.int (vat230 + (2 : Int32))), (.ref b233)])) rfl rfl (hb hby at_280) _ ?_
            show Steps p.tables e below (T703.setTop (mkF m 281 #[.val (.int p0), .val (.int p1), .val (.int p2), .val (.int vcp216), .val (.int vat230), .val (.int v232), .val (.ref b233), .val (.int r705), .val (.int v709), .val (.int vb779), .unset, .unset, .val (.int vb805), .unset, .unset] [(.int ((((128 : Int32) ||| (((vcp216.toUInt32 >>> ((6 : Int32) &&& 31).toUInt32).toInt32) &&& (63 : Int32))).toInt8.toInt32).toInt8.toInt32))])) _
            refine XS.sipush X703.here hx rfl (hb hby at_281) ?_
            show Steps p.tables e below (T703.setTop (mkF m 284 #[.val (.int p0), .val (.int p1), .val (.int p2), .val (.int vcp216), .val (.int vat230), .val (.int v232), .val (.ref b233), .val (.int r705), .val (.int v709), .val (.int vb779), .unset, .unset, .val (.int vb805), .unset, .unset] [(.int (255 : Int32)), (.int ((((128 : Int32) ||| (((vcp216.toUInt32 >>> ((6 : Int32) &&& 31).toUInt32).toInt32) &&& (63 : Int32))).toInt8.toInt32).toInt8.toInt32))])) _
            refine XS.iand X703.here hx rfl (hb hby at_284) rfl ?_
            show Steps p.tables e below (T703.setTop (mkF m 285 #[.val (.int p0), .val (.int p1), .val (.int p2), .val (.int vcp216), .val (.int vat230), .val (.int v232), .val (.ref b233), .val (.int r705), .val (.int v709), .val (.int vb779), .unset, .unset, .val (.int vb805), .unset, .unset] [(.int (((((128 : Int32) ||| (((vcp216.toUInt32 >>> ((6 : Int32) &&& 31).toUInt32).toInt32) &&& (63 : Int32))).toInt8.toInt32).toInt8.toInt32) &&& (255 : Int32)))])) _
            exact kt
          obtain ⟨vb839, hvb839⟩ : ∃ z : Int32, z = (((((128 : Int32) ||| (((vcp216.toUInt32 >>> ((6 : Int32) &&& 31).toUInt32).toInt32) &&& (63 : Int32))).toInt8.toInt32).toInt8.toInt32) &&& (255 : Int32)) := ⟨_, rfl⟩
          rw [← hvb839] at k838
          have k840 : ∀ tg_, Steps p.tables e below (T703.setTop (mkF m 287 #[.val (.int p0), .val (.int p1), .val (.int p2), .val (.int vcp216), .val (.int vat230), .val (.int v232), .val (.ref b233), .val (.int r705), .val (.int v709), .val (.int vb779), .unset, .unset, .val (.int vb805), .val (.int vb839), .unset] [])) tg_ → Steps p.tables e below (s₁.setTop (entryFrame m #[(.int p0), (.int p1), (.int p2)] maxLocals)) tg_ := by
            intro tg_ kt
            refine k838 tg_ ?_
            refine XS.istore X703.here hx rfl (hb hby at_285) rfl (l' := #[.val (.int p0), .val (.int p1), .val (.int p2), .val (.int vcp216), .val (.int vat230), .val (.int v232), .val (.ref b233), .val (.int r705), .val (.int v709), .val (.int vb779), .unset, .unset, .val (.int vb805), .val (.int vb839), .unset]) rfl ?_
            show Steps p.tables e below (T703.setTop (mkF m 287 #[.val (.int p0), .val (.int p1), .val (.int p2), .val (.int vcp216), .val (.int vat230), .val (.int v232), .val (.ref b233), .val (.int r705), .val (.int v709), .val (.int vb779), .unset, .unset, .val (.int vb805), .val (.int vb839), .unset] [])) _
            exact kt
          have hbv_vb839 : vb839.toInt = 128 + vcp216.toInt / 64 % 64 := by rw [hvb839]; exact own_e4_2 vcp216 (by omega) (by omega)
          have hc296_847 : (vb839 &&& (192 : Int32)) = (128 : Int32) := (by
              have ar841 := rng32 vb839
              have ar842 : (192 : Int32).toInt = 192 := by decide
              first | have ar843 := own_hi192 vb839 (by omega) (by omega) | have ar843 := own_hi192 vb839
              have ar844 := c_and vb839 (192 : Int32) (by decide)
              have ar845 := rng32 (vb839 &&& (192 : Int32))
              have ar846 : (128 : Int32).toInt = 128 := by decide
              exact Int32.toInt_inj.mp (by omega))
          have hc304_865 : ¬ (v709 = (3 : Int32)) := (by
              have ar848 := rng32 v709
              have ar849 := rng32 r705
              have ar850 := rng32 vat230
              have ar851 : (1 : Int32).toInt = 1 := by decide
              have ar852 := rng32 (vat230 + (1 : Int32))
              first | have ar853 : (vat230 + (1 : Int32)).toInt = vat230.toInt + 1 := (by have qw := c_iadd vat230 (1 : Int32); omega) | (have ar853 := c_iadd vat230 (1 : Int32); skip)
              have ar854 := rng32 ((vat230 + (1 : Int32)) + (1 : Int32))
              first | have ar855 : ((vat230 + (1 : Int32)) + (1 : Int32)).toInt = (vat230 + (1 : Int32)).toInt + 1 := (by have qw := c_iadd (vat230 + (1 : Int32)) (1 : Int32); omega) | (have ar855 := c_iadd (vat230 + (1 : Int32)) (1 : Int32); skip)
              have ar856 := rng32 (((vat230 + (1 : Int32)) + (1 : Int32)) + (1 : Int32))
              first | have ar857 : (((vat230 + (1 : Int32)) + (1 : Int32)) + (1 : Int32)).toInt = ((vat230 + (1 : Int32)) + (1 : Int32)).toInt + 1 := (by have qw := c_iadd ((vat230 + (1 : Int32)) + (1 : Int32)) (1 : Int32); omega) | (have ar857 := c_iadd ((vat230 + (1 : Int32)) + (1 : Int32)) (1 : Int32); skip)
              have ar858 := rng32 ((((vat230 + (1 : Int32)) + (1 : Int32)) + (1 : Int32)) + (1 : Int32))
              first | have ar859 : ((((vat230 + (1 : Int32)) + (1 : Int32)) + (1 : Int32)) + (1 : Int32)).toInt = (((vat230 + (1 : Int32)) + (1 : Int32)) + (1 : Int32)).toInt + 1 := (by have qw := c_iadd (((vat230 + (1 : Int32)) + (1 : Int32)) + (1 : Int32)) (1 : Int32); omega) | (have ar859 := c_iadd (((vat230 + (1 : Int32)) + (1 : Int32)) + (1 : Int32)) (1 : Int32); skip)
              have ar860 := congrArg Int32.toInt hr705
              have ar861 := rng32 (r705 - vat230)
              first | have ar862 : (r705 - vat230).toInt = r705.toInt - vat230.toInt := (by have qw := c_isub r705 vat230; omega) | (have ar862 := c_isub r705 vat230; skip)
              have ar863 := congrArg Int32.toInt hv709
              have ar864 : (3 : Int32).toInt = 3 := by decide
              exact fun qq_ => absurd (congrArg Int32.toInt qq_) (by omega))
          have hj866 : (vat230 + (3 : Int32)).toInt = (((k + 3) : Nat) : Int) := by
            have ar867 := rng32 vat230
            have ar868 : (3 : Int32).toInt = 3 := by decide
            have ar869 := rng32 (vat230 + (3 : Int32))
            first | have ar870 : (vat230 + (3 : Int32)).toInt = vat230.toInt + 3 := (by have qw := c_iadd vat230 (3 : Int32); omega) | (have ar870 := c_iadd vat230 (3 : Int32); skip)
            omega
          have hv871 : g706 (k + 3) = ((((128 : Int32) ||| (vcp216 &&& (63 : Int32))).toInt8.toInt32).toInt8.toInt32) := by
            rw [hg706]; simp only [own_upd]
            rw [if_pos (by omega)]
          have k872 : ∀ tg_, Steps p.tables e below (T703.setTop (mkF m 365 #[.val (.int p0), .val (.int p1), .val (.int p2), .val (.int vcp216), .val (.int vat230), .val (.int v232), .val (.ref b233), .val (.int r705), .val (.int v709), .val (.int vb779), .unset, .unset, .val (.int vb805), .val (.int vb839), .unset] [(.int (((((128 : Int32) ||| (vcp216 &&& (63 : Int32))).toInt8.toInt32).toInt8.toInt32) &&& (255 : Int32)))])) tg_ → Steps p.tables e below (s₁.setTop (entryFrame m #[(.int p0), (.int p1), (.int p2)] maxLocals)) tg_ := by
            intro tg_ kt
            refine k840 tg_ ?_
            refine XS.iload X703.here hx rfl (hb hby at_287) rfl ?_
            show Steps p.tables e below (T703.setTop (mkF m 289 #[.val (.int p0), .val (.int p1), .val (.int p2), .val (.int vcp216), .val (.int vat230), .val (.int v232), .val (.ref b233), .val (.int r705), .val (.int v709), .val (.int vb779), .unset, .unset, .val (.int vb805), .val (.int vb839), .unset] [(.int vb839)])) _
            refine XS.sipush X703.here hx rfl (hb hby at_289) ?_
            show Steps p.tables e below (T703.setTop (mkF m 292 #[.val (.int p0), .val (.int p1), .val (.int p2), .val (.int vcp216), .val (.int vat230), .val (.int v232), .val (.ref b233), .val (.int r705), .val (.int v709), .val (.int vb779), .unset, .unset, .val (.int vb805), .val (.int vb839), .unset] [(.int (192 : Int32)), (.int vb839)])) _
            refine XS.iand X703.here hx rfl (hb hby at_292) rfl ?_
            show Steps p.tables e below (T703.setTop (mkF m 293 #[.val (.int p0), .val (.int p1), .val (.int p2), .val (.int vcp216), .val (.int vat230), .val (.int v232), .val (.ref b233), .val (.int r705), .val (.int v709), .val (.int vb779), .unset, .unset, .val (.int vb805), .val (.int vb839), .unset] [(.int (vb839 &&& (192 : Int32)))])) _
            refine XS.sipush X703.here hx rfl (hb hby at_293) ?_
            show Steps p.tables e below (T703.setTop (mkF m 296 #[.val (.int p0), .val (.int p1), .val (.int p2), .val (.int vcp216), .val (.int vat230), .val (.int v232), .val (.ref b233), .val (.int r705), .val (.int v709), .val (.int vb779), .unset, .unset, .val (.int vb805), .val (.int vb839), .unset] [(.int (128 : Int32)), (.int (vb839 &&& (192 : Int32)))])) _
            refine XS.icmpYes X703.here hx rfl (pc0 := 296) (pc' := 301) rfl (hb hby at_296) rfl (teq hc296_847).1 (by decide) (by decide) ?_
            show Steps p.tables e below (T703.setTop (mkF m 301 #[.val (.int p0), .val (.int p1), .val (.int p2), .val (.int vcp216), .val (.int vat230), .val (.int v232), .val (.ref b233), .val (.int r705), .val (.int v709), .val (.int vb779), .unset, .unset, .val (.int vb805), .val (.int vb839), .unset] [])) _
            refine XS.iload X703.here hx rfl (hb hby at_301) rfl ?_
            show Steps p.tables e below (T703.setTop (mkF m 303 #[.val (.int p0), .val (.int p1), .val (.int p2), .val (.int vcp216), .val (.int vat230), .val (.int v232), .val (.ref b233), .val (.int r705), .val (.int v709), .val (.int vb779), .unset, .unset, .val (.int vb805), .val (.int vb839), .unset] [(.int v709)])) _
            refine XS.iconst X703.here hx rfl (hb hby at_303) ?_
            show Steps p.tables e below (T703.setTop (mkF m 304 #[.val (.int p0), .val (.int p1), .val (.int p2), .val (.int vcp216), .val (.int vat230), .val (.int v232), .val (.ref b233), .val (.int r705), .val (.int v709), .val (.int vb779), .unset, .unset, .val (.int vb805), .val (.int vb839), .unset] [(.int (3 : Int32)), (.int v709)])) _
            refine XS.icmpYes X703.here hx rfl (pc0 := 304) (pc' := 354) rfl (hb hby at_304) rfl (feq hc304_865).2 (by decide) (by decide) ?_
            show Steps p.tables e below (T703.setTop (mkF m 354 #[.val (.int p0), .val (.int p1), .val (.int p2), .val (.int vcp216), .val (.int vat230), .val (.int v232), .val (.ref b233), .val (.int r705), .val (.int v709), .val (.int vb779), .unset, .unset, .val (.int vb805), .val (.int vb839), .unset] [])) _
            refine XS.aload X703.here hx rfl (hb hby at_354) rfl rfl ?_
            show Steps p.tables e below (T703.setTop (mkF m 356 #[.val (.int p0), .val (.int p1), .val (.int p2), .val (.int vcp216), .val (.int vat230), .val (.int v232), .val (.ref b233), .val (.int r705), .val (.int v709), .val (.int vb779), .unset, .unset, .val (.int vb805), .val (.int vb839), .unset] [(.ref b233)])) _
            refine XS.iload X703.here hx rfl (hb hby at_356) rfl ?_
            show Steps p.tables e below (T703.setTop (mkF m 358 #[.val (.int p0), .val (.int p1), .val (.int p2), .val (.int vcp216), .val (.int vat230), .val (.int v232), .val (.ref b233), .val (.int r705), .val (.int v709), .val (.int vb779), .unset, .unset, .val (.int vb805), .val (.int vb839), .unset] [(.int vat230), (.ref b233)])) _
            refine XS.iconst X703.here hx rfl (hb hby at_358) ?_
            show Steps p.tables e below (T703.setTop (mkF m 359 #[.val (.int p0), .val (.int p1), .val (.int p2), .val (.int vcp216), .val (.int vat230), .val (.int v232), .val (.ref b233), .val (.int r705), .val (.int v709), .val (.int vb779), .unset, .unset, .val (.int vb805), .val (.int vb839), .unset] [(.int (3 : Int32)), (.int vat230), (.ref b233)])) _
            refine XS.iadd X703.here hx rfl (hb hby at_359) rfl ?_
            show Steps p.tables e below (T703.setTop (mkF m 360 #[.val (.int p0), .val (.int p1), .val (.int p2), .val (.int vcp216), .val (.int vat230), .val (.int v232), .val (.ref b233), .val (.int r705), .val (.int v709), .val (.int vb779), .unset, .unset, .val (.int vb805), .val (.int vb839), .unset] [(.int (vat230 + (3 : Int32))), (.ref b233)])) _
            refine own_ldB X703 hx hZ rfl oAa703 (i := (k + 3)) hj866 (by omega) hv871 (g := (mkF m 360 #[.val (.int p0), .val (.int p1), .val (.int p2), .val (.int vcp216), .val (.int vat230), .val (.int v232), .val (.ref b233), .val (.int r705), .val (.int v709), .val (.int vb779), .unset, .unset, .val (.int vb805), .val (.int vb839), .unset] [(.int (vat230 + (3 : Int32))), (.ref b233)])) rfl rfl (hb hby at_360) _ ?_
            show Steps p.tables e below (T703.setTop (mkF m 361 #[.val (.int p0), .val (.int p1), .val (.int p2), .val (.int vcp216), .val (.int vat230), .val (.int v232), .val (.ref b233), .val (.int r705), .val (.int v709), .val (.int vb779), .unset, .unset, .val (.int vb805), .val (.int vb839), .unset] [(.int ((((128 : Int32) ||| (vcp216 &&& (63 : Int32))).toInt8.toInt32).toInt8.toInt32))])) _
            refine XS.sipush X703.here hx rfl (hb hby at_361) ?_
            show Steps p.tables e below (T703.setTop (mkF m 364 #[.val (.int p0), .val (.int p1), .val (.int p2), .val (.int vcp216), .val (.int vat230), .val (.int v232), .val (.ref b233), .val (.int r705), .val (.int v709), .val (.int vb779), .unset, .unset, .val (.int vb805), .val (.int vb839), .unset] [(.int (255 : Int32)), (.int ((((128 : Int32) ||| (vcp216 &&& (63 : Int32))).toInt8.toInt32).toInt8.toInt32))])) _
            refine XS.iand X703.here hx rfl (hb hby at_364) rfl ?_
            show Steps p.tables e below (T703.setTop (mkF m 365 #[.val (.int p0), .val (.int p1), .val (.int p2), .val (.int vcp216), .val (.int vat230), .val (.int v232), .val (.ref b233), .val (.int r705), .val (.int v709), .val (.int vb779), .unset, .unset, .val (.int vb805), .val (.int vb839), .unset] [(.int (((((128 : Int32) ||| (vcp216 &&& (63 : Int32))).toInt8.toInt32).toInt8.toInt32) &&& (255 : Int32)))])) _
            exact kt
          obtain ⟨vb873, hvb873⟩ : ∃ z : Int32, z = (((((128 : Int32) ||| (vcp216 &&& (63 : Int32))).toInt8.toInt32).toInt8.toInt32) &&& (255 : Int32)) := ⟨_, rfl⟩
          rw [← hvb873] at k872
          have k874 : ∀ tg_, Steps p.tables e below (T703.setTop (mkF m 367 #[.val (.int p0), .val (.int p1), .val (.int p2), .val (.int vcp216), .val (.int vat230), .val (.int v232), .val (.ref b233), .val (.int r705), .val (.int v709), .val (.int vb779), .unset, .unset, .val (.int vb805), .val (.int vb839), .val (.int vb873)] [])) tg_ → Steps p.tables e below (s₁.setTop (entryFrame m #[(.int p0), (.int p1), (.int p2)] maxLocals)) tg_ := by
            intro tg_ kt
            refine k872 tg_ ?_
            refine XS.istore X703.here hx rfl (hb hby at_365) rfl (l' := #[.val (.int p0), .val (.int p1), .val (.int p2), .val (.int vcp216), .val (.int vat230), .val (.int v232), .val (.ref b233), .val (.int r705), .val (.int v709), .val (.int vb779), .unset, .unset, .val (.int vb805), .val (.int vb839), .val (.int vb873)]) rfl ?_
            show Steps p.tables e below (T703.setTop (mkF m 367 #[.val (.int p0), .val (.int p1), .val (.int p2), .val (.int vcp216), .val (.int vat230), .val (.int v232), .val (.ref b233), .val (.int r705), .val (.int v709), .val (.int vb779), .unset, .unset, .val (.int vb805), .val (.int vb839), .val (.int vb873)] [])) _
            exact kt
          have hbv_vb873 : vb873.toInt = 128 + vcp216.toInt % 64 := by rw [hvb873]; exact own_e4_3 vcp216 (by omega) (by omega)
          have hc376_881 : (vb873 &&& (192 : Int32)) = (128 : Int32) := (by
              have ar875 := rng32 vb873
              have ar876 : (192 : Int32).toInt = 192 := by decide
              first | have ar877 := own_hi192 vb873 (by omega) (by omega) | have ar877 := own_hi192 vb873
              have ar878 := c_and vb873 (192 : Int32) (by decide)
              have ar879 := rng32 (vb873 &&& (192 : Int32))
              have ar880 : (128 : Int32).toInt = 128 := by decide
              exact Int32.toInt_inj.mp (by omega))
          have hc390_888 : (vb779 &&& (248 : Int32)) = (240 : Int32) := (by
              have ar882 := rng32 vb779
              have ar883 : (248 : Int32).toInt = 248 := by decide
              first | have ar884 := own_hi248 vb779 (by omega) (by omega) | have ar884 := own_hi248 vb779
              have ar885 := c_and vb779 (248 : Int32) (by decide)
              have ar886 := rng32 (vb779 &&& (248 : Int32))
              have ar887 : (240 : Int32).toInt = 240 := by decide
              exact Int32.toInt_inj.mp (by omega))
          have k889 : ∀ tg_, Steps p.tables e below (T703.setTop (mkF m 420 #[.val (.int p0), .val (.int p1), .val (.int p2), .val (.int vcp216), .val (.int vat230), .val (.int v232), .val (.ref b233), .val (.int r705), .val (.int v709), .val (.int vb779), .unset, .unset, .val (.int vb805), .val (.int vb839), .val (.int vb873)] [(.int ((vb839 &&& (63 : Int32)) <<< ((6 : Int32) &&& 31))), (.int (((vb779 &&& (7 : Int32)) <<< ((18 : Int32) &&& 31)) ||| ((vb805 &&& (63 : Int32)) <<< ((12 : Int32) &&& 31))))])) tg_ → Steps p.tables e below (s₁.setTop (entryFrame m #[(.int p0), (.int p1), (.int p2)] maxLocals)) tg_ := by
            intro tg_ kt
            refine k874 tg_ ?_
            refine XS.iload X703.here hx rfl (hb hby at_367) rfl ?_
            show Steps p.tables e below (T703.setTop (mkF m 369 #[.val (.int p0), .val (.int p1), .val (.int p2), .val (.int vcp216), .val (.int vat230), .val (.int v232), .val (.ref b233), .val (.int r705), .val (.int v709), .val (.int vb779), .unset, .unset, .val (.int vb805), .val (.int vb839), .val (.int vb873)] [(.int vb873)])) _
            refine XS.sipush X703.here hx rfl (hb hby at_369) ?_
            show Steps p.tables e below (T703.setTop (mkF m 372 #[.val (.int p0), .val (.int p1), .val (.int p2), .val (.int vcp216), .val (.int vat230), .val (.int v232), .val (.ref b233), .val (.int r705), .val (.int v709), .val (.int vb779), .unset, .unset, .val (.int vb805), .val (.int vb839), .val (.int vb873)] [(.int (192 : Int32)), (.int vb873)])) _
            refine XS.iand X703.here hx rfl (hb hby at_372) rfl ?_
            show Steps p.tables e below (T703.setTop (mkF m 373 #[.val (.int p0), .val (.int p1), .val (.int p2), .val (.int vcp216), .val (.int vat230), .val (.int v232), .val (.ref b233), .val (.int r705), .val (.int v709), .val (.int vb779), .unset, .unset, .val (.int vb805), .val (.int vb839), .val (.int vb873)] [(.int (vb873 &&& (192 : Int32)))])) _
            refine XS.sipush X703.here hx rfl (hb hby at_373) ?_
            show Steps p.tables e below (T703.setTop (mkF m 376 #[.val (.int p0), .val (.int p1), .val (.int p2), .val (.int vcp216), .val (.int vat230), .val (.int v232), .val (.ref b233), .val (.int r705), .val (.int v709), .val (.int vb779), .unset, .unset, .val (.int vb805), .val (.int vb839), .val (.int vb873)] [(.int (128 : Int32)), (.int (vb873 &&& (192 : Int32)))])) _
            refine XS.icmpYes X703.here hx rfl (pc0 := 376) (pc' := 381) rfl (hb hby at_376) rfl (teq hc376_881).1 (by decide) (by decide) ?_
            show Steps p.tables e below (T703.setTop (mkF m 381 #[.val (.int p0), .val (.int p1), .val (.int p2), .val (.int vcp216), .val (.int vat230), .val (.int v232), .val (.ref b233), .val (.int r705), .val (.int v709), .val (.int vb779), .unset, .unset, .val (.int vb805), .val (.int vb839), .val (.int vb873)] [])) _
            refine XS.iload X703.here hx rfl (hb hby at_381) rfl ?_
            show Steps p.tables e below (T703.setTop (mkF m 383 #[.val (.int p0), .val (.int p1), .val (.int p2), .val (.int vcp216), .val (.int vat230), .val (.int v232), .val (.ref b233), .val (.int r705), .val (.int v709), .val (.int vb779), .unset, .unset, .val (.int vb805), .val (.int vb839), .val (.int vb873)] [(.int vb779)])) _
            refine XS.sipush X703.here hx rfl (hb hby at_383) ?_
            show Steps p.tables e below (T703.setTop (mkF m 386 #[.val (.int p0), .val (.int p1), .val (.int p2), .val (.int vcp216), .val (.int vat230), .val (.int v232), .val (.ref b233), .val (.int r705), .val (.int v709), .val (.int vb779), .unset, .unset, .val (.int vb805), .val (.int vb839), .val (.int vb873)] [(.int (248 : Int32)), (.int vb779)])) _
            refine XS.iand X703.here hx rfl (hb hby at_386) rfl ?_
            show Steps p.tables e below (T703.setTop (mkF m 387 #[.val (.int p0), .val (.int p1), .val (.int p2), .val (.int vcp216), .val (.int vat230), .val (.int v232), .val (.ref b233), .val (.int r705), .val (.int v709), .val (.int vb779), .unset, .unset, .val (.int vb805), .val (.int vb839), .val (.int vb873)] [(.int (vb779 &&& (248 : Int32)))])) _
            refine XS.sipush X703.here hx rfl (hb hby at_387) ?_
            show Steps p.tables e below (T703.setTop (mkF m 390 #[.val (.int p0), .val (.int p1), .val (.int p2), .val (.int vcp216), .val (.int vat230), .val (.int v232), .val (.ref b233), .val (.int r705), .val (.int v709), .val (.int vb779), .unset, .unset, .val (.int vb805), .val (.int vb839), .val (.int vb873)] [(.int (240 : Int32)), (.int (vb779 &&& (248 : Int32)))])) _
            refine XS.icmpYes X703.here hx rfl (pc0 := 390) (pc' := 395) rfl (hb hby at_390) rfl (teq hc390_888).1 (by decide) (by decide) ?_
            show Steps p.tables e below (T703.setTop (mkF m 395 #[.val (.int p0), .val (.int p1), .val (.int p2), .val (.int vcp216), .val (.int vat230), .val (.int v232), .val (.ref b233), .val (.int r705), .val (.int v709), .val (.int vb779), .unset, .unset, .val (.int vb805), .val (.int vb839), .val (.int vb873)] [])) _
            refine XS.iload X703.here hx rfl (hb hby at_395) rfl ?_
            show Steps p.tables e below (T703.setTop (mkF m 397 #[.val (.int p0), .val (.int p1), .val (.int p2), .val (.int vcp216), .val (.int vat230), .val (.int v232), .val (.ref b233), .val (.int r705), .val (.int v709), .val (.int vb779), .unset, .unset, .val (.int vb805), .val (.int vb839), .val (.int vb873)] [(.int vb779)])) _
            refine XS.bipush X703.here hx rfl (hb hby at_397) ?_
            show Steps p.tables e below (T703.setTop (mkF m 399 #[.val (.int p0), .val (.int p1), .val (.int p2), .val (.int vcp216), .val (.int vat230), .val (.int v232), .val (.ref b233), .val (.int r705), .val (.int v709), .val (.int vb779), .unset, .unset, .val (.int vb805), .val (.int vb839), .val (.int vb873)] [(.int (7 : Int32)), (.int vb779)])) _
            refine XS.iand X703.here hx rfl (hb hby at_399) rfl ?_
            show Steps p.tables e below (T703.setTop (mkF m 400 #[.val (.int p0), .val (.int p1), .val (.int p2), .val (.int vcp216), .val (.int vat230), .val (.int v232), .val (.ref b233), .val (.int r705), .val (.int v709), .val (.int vb779), .unset, .unset, .val (.int vb805), .val (.int vb839), .val (.int vb873)] [(.int (vb779 &&& (7 : Int32)))])) _
            refine XS.bipush X703.here hx rfl (hb hby at_400) ?_
            show Steps p.tables e below (T703.setTop (mkF m 402 #[.val (.int p0), .val (.int p1), .val (.int p2), .val (.int vcp216), .val (.int vat230), .val (.int v232), .val (.ref b233), .val (.int r705), .val (.int v709), .val (.int vb779), .unset, .unset, .val (.int vb805), .val (.int vb839), .val (.int vb873)] [(.int (18 : Int32)), (.int (vb779 &&& (7 : Int32)))])) _
            refine XS.ishl X703.here hx rfl (hb hby at_402) rfl ?_
            show Steps p.tables e below (T703.setTop (mkF m 403 #[.val (.int p0), .val (.int p1), .val (.int p2), .val (.int vcp216), .val (.int vat230), .val (.int v232), .val (.ref b233), .val (.int r705), .val (.int v709), .val (.int vb779), .unset, .unset, .val (.int vb805), .val (.int vb839), .val (.int vb873)] [(.int ((vb779 &&& (7 : Int32)) <<< ((18 : Int32) &&& 31)))])) _
            refine XS.iload X703.here hx rfl (hb hby at_403) rfl ?_
            show Steps p.tables e below (T703.setTop (mkF m 405 #[.val (.int p0), .val (.int p1), .val (.int p2), .val (.int vcp216), .val (.int vat230), .val (.int v232), .val (.ref b233), .val (.int r705), .val (.int v709), .val (.int vb779), .unset, .unset, .val (.int vb805), .val (.int vb839), .val (.int vb873)] [(.int vb805), (.int ((vb779 &&& (7 : Int32)) <<< ((18 : Int32) &&& 31)))])) _
            refine XS.bipush X703.here hx rfl (hb hby at_405) ?_
            show Steps p.tables e below (T703.setTop (mkF m 407 #[.val (.int p0), .val (.int p1), .val (.int p2), .val (.int vcp216), .val (.int vat230), .val (.int v232), .val (.ref b233), .val (.int r705), .val (.int v709), .val (.int vb779), .unset, .unset, .val (.int vb805), .val (.int vb839), .val (.int vb873)] [(.int (63 : Int32)), (.int vb805), (.int ((vb779 &&& (7 : Int32)) <<< ((18 : Int32) &&& 31)))])) _
            refine XS.iand X703.here hx rfl (hb hby at_407) rfl ?_
            show Steps p.tables e below (T703.setTop (mkF m 408 #[.val (.int p0), .val (.int p1), .val (.int p2), .val (.int vcp216), .val (.int vat230), .val (.int v232), .val (.ref b233), .val (.int r705), .val (.int v709), .val (.int vb779), .unset, .unset, .val (.int vb805), .val (.int vb839), .val (.int vb873)] [(.int (vb805 &&& (63 : Int32))), (.int ((vb779 &&& (7 : Int32)) <<< ((18 : Int32) &&& 31)))])) _
            refine XS.bipush X703.here hx rfl (hb hby at_408) ?_
            show Steps p.tables e below (T703.setTop (mkF m 410 #[.val (.int p0), .val (.int p1), .val (.int p2), .val (.int vcp216), .val (.int vat230), .val (.int v232), .val (.ref b233), .val (.int r705), .val (.int v709), .val (.int vb779), .unset, .unset, .val (.int vb805), .val (.int vb839), .val (.int vb873)] [(.int (12 : Int32)), (.int (vb805 &&& (63 : Int32))), (.int ((vb779 &&& (7 : Int32)) <<< ((18 : Int32) &&& 31)))])) _
            refine XS.ishl X703.here hx rfl (hb hby at_410) rfl ?_
            show Steps p.tables e below (T703.setTop (mkF m 411 #[.val (.int p0), .val (.int p1), .val (.int p2), .val (.int vcp216), .val (.int vat230), .val (.int v232), .val (.ref b233), .val (.int r705), .val (.int v709), .val (.int vb779), .unset, .unset, .val (.int vb805), .val (.int vb839), .val (.int vb873)] [(.int ((vb805 &&& (63 : Int32)) <<< ((12 : Int32) &&& 31))), (.int ((vb779 &&& (7 : Int32)) <<< ((18 : Int32) &&& 31)))])) _
            refine XS.ior X703.here hx rfl (hb hby at_411) rfl ?_
            show Steps p.tables e below (T703.setTop (mkF m 412 #[.val (.int p0), .val (.int p1), .val (.int p2), .val (.int vcp216), .val (.int vat230), .val (.int v232), .val (.ref b233), .val (.int r705), .val (.int v709), .val (.int vb779), .unset, .unset, .val (.int vb805), .val (.int vb839), .val (.int vb873)] [(.int (((vb779 &&& (7 : Int32)) <<< ((18 : Int32) &&& 31)) ||| ((vb805 &&& (63 : Int32)) <<< ((12 : Int32) &&& 31))))])) _
            refine XS.iload X703.here hx rfl (hb hby at_412) rfl ?_
            show Steps p.tables e below (T703.setTop (mkF m 414 #[.val (.int p0), .val (.int p1), .val (.int p2), .val (.int vcp216), .val (.int vat230), .val (.int v232), .val (.ref b233), .val (.int r705), .val (.int v709), .val (.int vb779), .unset, .unset, .val (.int vb805), .val (.int vb839), .val (.int vb873)] [(.int vb839), (.int (((vb779 &&& (7 : Int32)) <<< ((18 : Int32) &&& 31)) ||| ((vb805 &&& (63 : Int32)) <<< ((12 : Int32) &&& 31))))])) _
            refine XS.bipush X703.here hx rfl (hb hby at_414) ?_
            show Steps p.tables e below (T703.setTop (mkF m 416 #[.val (.int p0), .val (.int p1), .val (.int p2), .val (.int vcp216), .val (.int vat230), .val (.int v232), .val (.ref b233), .val (.int r705), .val (.int v709), .val (.int vb779), .unset, .unset, .val (.int vb805), .val (.int vb839), .val (.int vb873)] [(.int (63 : Int32)), (.int vb839), (.int (((vb779 &&& (7 : Int32)) <<< ((18 : Int32) &&& 31)) ||| ((vb805 &&& (63 : Int32)) <<< ((12 : Int32) &&& 31))))])) _
            refine XS.iand X703.here hx rfl (hb hby at_416) rfl ?_
            show Steps p.tables e below (T703.setTop (mkF m 417 #[.val (.int p0), .val (.int p1), .val (.int p2), .val (.int vcp216), .val (.int vat230), .val (.int v232), .val (.ref b233), .val (.int r705), .val (.int v709), .val (.int vb779), .unset, .unset, .val (.int vb805), .val (.int vb839), .val (.int vb873)] [(.int (vb839 &&& (63 : Int32))), (.int (((vb779 &&& (7 : Int32)) <<< ((18 : Int32) &&& 31)) ||| ((vb805 &&& (63 : Int32)) <<< ((12 : Int32) &&& 31))))])) _
            refine XS.bipush X703.here hx rfl (hb hby at_417) ?_
            show Steps p.tables e below (T703.setTop (mkF m 419 #[.val (.int p0), .val (.int p1), .val (.int p2), .val (.int vcp216), .val (.int vat230), .val (.int v232), .val (.ref b233), .val (.int r705), .val (.int v709), .val (.int vb779), .unset, .unset, .val (.int vb805), .val (.int vb839), .val (.int vb873)] [(.int (6 : Int32)), (.int (vb839 &&& (63 : Int32))), (.int (((vb779 &&& (7 : Int32)) <<< ((18 : Int32) &&& 31)) ||| ((vb805 &&& (63 : Int32)) <<< ((12 : Int32) &&& 31))))])) _
            refine XS.ishl X703.here hx rfl (hb hby at_419) rfl ?_
            show Steps p.tables e below (T703.setTop (mkF m 420 #[.val (.int p0), .val (.int p1), .val (.int p2), .val (.int vcp216), .val (.int vat230), .val (.int v232), .val (.ref b233), .val (.int r705), .val (.int v709), .val (.int vb779), .unset, .unset, .val (.int vb805), .val (.int vb839), .val (.int vb873)] [(.int ((vb839 &&& (63 : Int32)) <<< ((6 : Int32) &&& 31))), (.int (((vb779 &&& (7 : Int32)) <<< ((18 : Int32) &&& 31)) ||| ((vb805 &&& (63 : Int32)) <<< ((12 : Int32) &&& 31))))])) _
            exact kt
          have k890 : ∀ tg_, Steps p.tables e below (T703.setTop (mkF m 427 #[.val (.int p0), .val (.int p1), .val (.int p2), .val (.int vcp216), .val (.int vat230), .val (.int v232), .val (.ref b233), .val (.int r705), .val (.int v709), .val (.int vb779), .unset, .unset, .val (.int vb805), .val (.int vb839), .val (.int vb873)] [(.int (((((vb779 &&& (7 : Int32)) <<< ((18 : Int32) &&& 31)) ||| ((vb805 &&& (63 : Int32)) <<< ((12 : Int32) &&& 31))) ||| ((vb839 &&& (63 : Int32)) <<< ((6 : Int32) &&& 31))) ||| (vb873 &&& (63 : Int32))))])) tg_ → Steps p.tables e below (s₁.setTop (entryFrame m #[(.int p0), (.int p1), (.int p2)] maxLocals)) tg_ := by
            intro tg_ kt
            refine k889 tg_ ?_
            refine XS.ior X703.here hx rfl (hb hby at_420) rfl ?_
            show Steps p.tables e below (T703.setTop (mkF m 421 #[.val (.int p0), .val (.int p1), .val (.int p2), .val (.int vcp216), .val (.int vat230), .val (.int v232), .val (.ref b233), .val (.int r705), .val (.int v709), .val (.int vb779), .unset, .unset, .val (.int vb805), .val (.int vb839), .val (.int vb873)] [(.int ((((vb779 &&& (7 : Int32)) <<< ((18 : Int32) &&& 31)) ||| ((vb805 &&& (63 : Int32)) <<< ((12 : Int32) &&& 31))) ||| ((vb839 &&& (63 : Int32)) <<< ((6 : Int32) &&& 31))))])) _
            refine XS.iload X703.here hx rfl (hb hby at_421) rfl ?_
            show Steps p.tables e below (T703.setTop (mkF m 423 #[.val (.int p0), .val (.int p1), .val (.int p2), .val (.int vcp216), .val (.int vat230), .val (.int v232), .val (.ref b233), .val (.int r705), .val (.int v709), .val (.int vb779), .unset, .unset, .val (.int vb805), .val (.int vb839), .val (.int vb873)] [(.int vb873), (.int ((((vb779 &&& (7 : Int32)) <<< ((18 : Int32) &&& 31)) ||| ((vb805 &&& (63 : Int32)) <<< ((12 : Int32) &&& 31))) ||| ((vb839 &&& (63 : Int32)) <<< ((6 : Int32) &&& 31))))])) _
            refine XS.bipush X703.here hx rfl (hb hby at_423) ?_
            show Steps p.tables e below (T703.setTop (mkF m 425 #[.val (.int p0), .val (.int p1), .val (.int p2), .val (.int vcp216), .val (.int vat230), .val (.int v232), .val (.ref b233), .val (.int r705), .val (.int v709), .val (.int vb779), .unset, .unset, .val (.int vb805), .val (.int vb839), .val (.int vb873)] [(.int (63 : Int32)), (.int vb873), (.int ((((vb779 &&& (7 : Int32)) <<< ((18 : Int32) &&& 31)) ||| ((vb805 &&& (63 : Int32)) <<< ((12 : Int32) &&& 31))) ||| ((vb839 &&& (63 : Int32)) <<< ((6 : Int32) &&& 31))))])) _
            refine XS.iand X703.here hx rfl (hb hby at_425) rfl ?_
            show Steps p.tables e below (T703.setTop (mkF m 426 #[.val (.int p0), .val (.int p1), .val (.int p2), .val (.int vcp216), .val (.int vat230), .val (.int v232), .val (.ref b233), .val (.int r705), .val (.int v709), .val (.int vb779), .unset, .unset, .val (.int vb805), .val (.int vb839), .val (.int vb873)] [(.int (vb873 &&& (63 : Int32))), (.int ((((vb779 &&& (7 : Int32)) <<< ((18 : Int32) &&& 31)) ||| ((vb805 &&& (63 : Int32)) <<< ((12 : Int32) &&& 31))) ||| ((vb839 &&& (63 : Int32)) <<< ((6 : Int32) &&& 31))))])) _
            refine XS.ior X703.here hx rfl (hb hby at_426) rfl ?_
            show Steps p.tables e below (T703.setTop (mkF m 427 #[.val (.int p0), .val (.int p1), .val (.int p2), .val (.int vcp216), .val (.int vat230), .val (.int v232), .val (.ref b233), .val (.int r705), .val (.int v709), .val (.int vb779), .unset, .unset, .val (.int vb805), .val (.int vb839), .val (.int vb873)] [(.int (((((vb779 &&& (7 : Int32)) <<< ((18 : Int32) &&& 31)) ||| ((vb805 &&& (63 : Int32)) <<< ((12 : Int32) &&& 31))) ||| ((vb839 &&& (63 : Int32)) <<< ((6 : Int32) &&& 31))) ||| (vb873 &&& (63 : Int32))))])) _
            exact kt
          obtain ⟨v891, hv891⟩ : ∃ z : Int32, z = (((((vb779 &&& (7 : Int32)) <<< ((18 : Int32) &&& 31)) ||| ((vb805 &&& (63 : Int32)) <<< ((12 : Int32) &&& 31))) ||| ((vb839 &&& (63 : Int32)) <<< ((6 : Int32) &&& 31))) ||| (vb873 &&& (63 : Int32))) := ⟨_, rfl⟩
          rw [← hv891] at k890
          have hc437_921 : ¬ (v891 < (65536 : Int32)) := (by
              have ar892 := rng32 v891
              have ar893 := rng32 vb779
              have ar894 : (7 : Int32).toInt = 7 := by decide
              have ar895 := c_mask vb779 (7 : Int32) 3 (by decide) (by decide)
              simp only [show (2 ^ 3 : Nat) = 8 from by decide, Int.cast_ofNat_Int] at ar895
              have ar896 := rng32 (vb779 &&& (7 : Int32))
              have ar897 := rng32 ((vb779 &&& (7 : Int32)) <<< ((18 : Int32) &&& 31))
              first | have ar898 : ((vb779 &&& (7 : Int32)) <<< ((18 : Int32) &&& 31)).toInt = (vb779 &&& (7 : Int32)).toInt * 262144 := (by have qw := c_ishl (vb779 &&& (7 : Int32)) (18 : Int32) 18 (by decide); simp only [show (2 ^ 18 : Nat) = 262144 from by decide, Int.cast_ofNat_Int] at qw; omega) | (have ar898 := c_ishl (vb779 &&& (7 : Int32)) (18 : Int32) 18 (by decide); simp only [show (2 ^ 18 : Nat) = 262144 from by decide, Int.cast_ofNat_Int] at ar898)
              have ar899 := rng32 vb805
              have ar900 : (63 : Int32).toInt = 63 := by decide
              have ar901 := c_mask vb805 (63 : Int32) 6 (by decide) (by decide)
              simp only [show (2 ^ 6 : Nat) = 64 from by decide, Int.cast_ofNat_Int] at ar901
              have ar902 := rng32 (vb805 &&& (63 : Int32))
              have ar903 := rng32 ((vb805 &&& (63 : Int32)) <<< ((12 : Int32) &&& 31))
              first | have ar904 : ((vb805 &&& (63 : Int32)) <<< ((12 : Int32) &&& 31)).toInt = (vb805 &&& (63 : Int32)).toInt * 4096 := (by have qw := c_ishl (vb805 &&& (63 : Int32)) (12 : Int32) 12 (by decide); simp only [show (2 ^ 12 : Nat) = 4096 from by decide, Int.cast_ofNat_Int] at qw; omega) | (have ar904 := c_ishl (vb805 &&& (63 : Int32)) (12 : Int32) 12 (by decide); simp only [show (2 ^ 12 : Nat) = 4096 from by decide, Int.cast_ofNat_Int] at ar904)
              have ar905 := rng32 (((vb779 &&& (7 : Int32)) <<< ((18 : Int32) &&& 31)) ||| ((vb805 &&& (63 : Int32)) <<< ((12 : Int32) &&& 31)))
              first | have ar906 : (((vb779 &&& (7 : Int32)) <<< ((18 : Int32) &&& 31)) ||| ((vb805 &&& (63 : Int32)) <<< ((12 : Int32) &&& 31))).toInt = ((vb779 &&& (7 : Int32)) <<< ((18 : Int32) &&& 31)).toInt + ((vb805 &&& (63 : Int32)) <<< ((12 : Int32) &&& 31)).toInt := (by have qw := c_or ((vb779 &&& (7 : Int32)) <<< ((18 : Int32) &&& 31)) ((vb805 &&& (63 : Int32)) <<< ((12 : Int32) &&& 31)) 18 (by decide) 262144 (by decide) (by omega) (by omega) (by omega); omega) | (have ar906 := c_or ((vb779 &&& (7 : Int32)) <<< ((18 : Int32) &&& 31)) ((vb805 &&& (63 : Int32)) <<< ((12 : Int32) &&& 31)) 18 (by decide) 262144 (by decide) (by omega) (by omega) (by omega); skip)
              have ar907 := rng32 vb839
              have ar908 := c_mask vb839 (63 : Int32) 6 (by decide) (by decide)
              simp only [show (2 ^ 6 : Nat) = 64 from by decide, Int.cast_ofNat_Int] at ar908
              have ar909 := rng32 (vb839 &&& (63 : Int32))
              have ar910 := rng32 ((vb839 &&& (63 : Int32)) <<< ((6 : Int32) &&& 31))
              first | have ar911 : ((vb839 &&& (63 : Int32)) <<< ((6 : Int32) &&& 31)).toInt = (vb839 &&& (63 : Int32)).toInt * 64 := (by have qw := c_ishl (vb839 &&& (63 : Int32)) (6 : Int32) 6 (by decide); simp only [show (2 ^ 6 : Nat) = 64 from by decide, Int.cast_ofNat_Int] at qw; omega) | (have ar911 := c_ishl (vb839 &&& (63 : Int32)) (6 : Int32) 6 (by decide); simp only [show (2 ^ 6 : Nat) = 64 from by decide, Int.cast_ofNat_Int] at ar911)
              have ar912 := rng32 ((((vb779 &&& (7 : Int32)) <<< ((18 : Int32) &&& 31)) ||| ((vb805 &&& (63 : Int32)) <<< ((12 : Int32) &&& 31))) ||| ((vb839 &&& (63 : Int32)) <<< ((6 : Int32) &&& 31)))
              first | have ar913 : ((((vb779 &&& (7 : Int32)) <<< ((18 : Int32) &&& 31)) ||| ((vb805 &&& (63 : Int32)) <<< ((12 : Int32) &&& 31))) ||| ((vb839 &&& (63 : Int32)) <<< ((6 : Int32) &&& 31))).toInt = (((vb779 &&& (7 : Int32)) <<< ((18 : Int32) &&& 31)) ||| ((vb805 &&& (63 : Int32)) <<< ((12 : Int32) &&& 31))).toInt + ((vb839 &&& (63 : Int32)) <<< ((6 : Int32) &&& 31)).toInt := (by have qw := c_or (((vb779 &&& (7 : Int32)) <<< ((18 : Int32) &&& 31)) ||| ((vb805 &&& (63 : Int32)) <<< ((12 : Int32) &&& 31))) ((vb839 &&& (63 : Int32)) <<< ((6 : Int32) &&& 31)) 12 (by decide) 4096 (by decide) (by omega) (by omega) (by omega); omega) | (have ar913 := c_or (((vb779 &&& (7 : Int32)) <<< ((18 : Int32) &&& 31)) ||| ((vb805 &&& (63 : Int32)) <<< ((12 : Int32) &&& 31))) ((vb839 &&& (63 : Int32)) <<< ((6 : Int32) &&& 31)) 12 (by decide) 4096 (by decide) (by omega) (by omega) (by omega); skip)
              have ar914 := rng32 vb873
              have ar915 := c_mask vb873 (63 : Int32) 6 (by decide) (by decide)
              simp only [show (2 ^ 6 : Nat) = 64 from by decide, Int.cast_ofNat_Int] at ar915
              have ar916 := rng32 (vb873 &&& (63 : Int32))
              have ar917 := rng32 (((((vb779 &&& (7 : Int32)) <<< ((18 : Int32) &&& 31)) ||| ((vb805 &&& (63 : Int32)) <<< ((12 : Int32) &&& 31))) ||| ((vb839 &&& (63 : Int32)) <<< ((6 : Int32) &&& 31))) ||| (vb873 &&& (63 : Int32)))
              first | have ar918 : (((((vb779 &&& (7 : Int32)) <<< ((18 : Int32) &&& 31)) ||| ((vb805 &&& (63 : Int32)) <<< ((12 : Int32) &&& 31))) ||| ((vb839 &&& (63 : Int32)) <<< ((6 : Int32) &&& 31))) ||| (vb873 &&& (63 : Int32))).toInt = ((((vb779 &&& (7 : Int32)) <<< ((18 : Int32) &&& 31)) ||| ((vb805 &&& (63 : Int32)) <<< ((12 : Int32) &&& 31))) ||| ((vb839 &&& (63 : Int32)) <<< ((6 : Int32) &&& 31))).toInt + (vb873 &&& (63 : Int32)).toInt := (by have qw := c_or ((((vb779 &&& (7 : Int32)) <<< ((18 : Int32) &&& 31)) ||| ((vb805 &&& (63 : Int32)) <<< ((12 : Int32) &&& 31))) ||| ((vb839 &&& (63 : Int32)) <<< ((6 : Int32) &&& 31))) (vb873 &&& (63 : Int32)) 6 (by decide) 64 (by decide) (by omega) (by omega) (by omega); omega) | (have ar918 := c_or ((((vb779 &&& (7 : Int32)) <<< ((18 : Int32) &&& 31)) ||| ((vb805 &&& (63 : Int32)) <<< ((12 : Int32) &&& 31))) ||| ((vb839 &&& (63 : Int32)) <<< ((6 : Int32) &&& 31))) (vb873 &&& (63 : Int32)) 6 (by decide) 64 (by decide) (by omega) (by omega) (by omega); skip)
              have ar919 := congrArg Int32.toInt hv891
              have ar920 : (65536 : Int32).toInt = 65536 := by decide
              exact fun qq_ => absurd (Int32.lt_iff_toInt_lt.mp qq_) (by omega))
          have hc443_951 : v891 = vcp216 := (by
              have ar922 := rng32 v891
              have ar923 := rng32 vb779
              have ar924 : (7 : Int32).toInt = 7 := by decide
              have ar925 := c_mask vb779 (7 : Int32) 3 (by decide) (by decide)
              simp only [show (2 ^ 3 : Nat) = 8 from by decide, Int.cast_ofNat_Int] at ar925
              have ar926 := rng32 (vb779 &&& (7 : Int32))
              have ar927 := rng32 ((vb779 &&& (7 : Int32)) <<< ((18 : Int32) &&& 31))
              first | have ar928 : ((vb779 &&& (7 : Int32)) <<< ((18 : Int32) &&& 31)).toInt = (vb779 &&& (7 : Int32)).toInt * 262144 := (by have qw := c_ishl (vb779 &&& (7 : Int32)) (18 : Int32) 18 (by decide); simp only [show (2 ^ 18 : Nat) = 262144 from by decide, Int.cast_ofNat_Int] at qw; omega) | (have ar928 := c_ishl (vb779 &&& (7 : Int32)) (18 : Int32) 18 (by decide); simp only [show (2 ^ 18 : Nat) = 262144 from by decide, Int.cast_ofNat_Int] at ar928)
              have ar929 := rng32 vb805
              have ar930 : (63 : Int32).toInt = 63 := by decide
              have ar931 := c_mask vb805 (63 : Int32) 6 (by decide) (by decide)
              simp only [show (2 ^ 6 : Nat) = 64 from by decide, Int.cast_ofNat_Int] at ar931
              have ar932 := rng32 (vb805 &&& (63 : Int32))
              have ar933 := rng32 ((vb805 &&& (63 : Int32)) <<< ((12 : Int32) &&& 31))
              first | have ar934 : ((vb805 &&& (63 : Int32)) <<< ((12 : Int32) &&& 31)).toInt = (vb805 &&& (63 : Int32)).toInt * 4096 := (by have qw := c_ishl (vb805 &&& (63 : Int32)) (12 : Int32) 12 (by decide); simp only [show (2 ^ 12 : Nat) = 4096 from by decide, Int.cast_ofNat_Int] at qw; omega) | (have ar934 := c_ishl (vb805 &&& (63 : Int32)) (12 : Int32) 12 (by decide); simp only [show (2 ^ 12 : Nat) = 4096 from by decide, Int.cast_ofNat_Int] at ar934)
              have ar935 := rng32 (((vb779 &&& (7 : Int32)) <<< ((18 : Int32) &&& 31)) ||| ((vb805 &&& (63 : Int32)) <<< ((12 : Int32) &&& 31)))
              first | have ar936 : (((vb779 &&& (7 : Int32)) <<< ((18 : Int32) &&& 31)) ||| ((vb805 &&& (63 : Int32)) <<< ((12 : Int32) &&& 31))).toInt = ((vb779 &&& (7 : Int32)) <<< ((18 : Int32) &&& 31)).toInt + ((vb805 &&& (63 : Int32)) <<< ((12 : Int32) &&& 31)).toInt := (by have qw := c_or ((vb779 &&& (7 : Int32)) <<< ((18 : Int32) &&& 31)) ((vb805 &&& (63 : Int32)) <<< ((12 : Int32) &&& 31)) 18 (by decide) 262144 (by decide) (by omega) (by omega) (by omega); omega) | (have ar936 := c_or ((vb779 &&& (7 : Int32)) <<< ((18 : Int32) &&& 31)) ((vb805 &&& (63 : Int32)) <<< ((12 : Int32) &&& 31)) 18 (by decide) 262144 (by decide) (by omega) (by omega) (by omega); skip)
              have ar937 := rng32 vb839
              have ar938 := c_mask vb839 (63 : Int32) 6 (by decide) (by decide)
              simp only [show (2 ^ 6 : Nat) = 64 from by decide, Int.cast_ofNat_Int] at ar938
              have ar939 := rng32 (vb839 &&& (63 : Int32))
              have ar940 := rng32 ((vb839 &&& (63 : Int32)) <<< ((6 : Int32) &&& 31))
              first | have ar941 : ((vb839 &&& (63 : Int32)) <<< ((6 : Int32) &&& 31)).toInt = (vb839 &&& (63 : Int32)).toInt * 64 := (by have qw := c_ishl (vb839 &&& (63 : Int32)) (6 : Int32) 6 (by decide); simp only [show (2 ^ 6 : Nat) = 64 from by decide, Int.cast_ofNat_Int] at qw; omega) | (have ar941 := c_ishl (vb839 &&& (63 : Int32)) (6 : Int32) 6 (by decide); simp only [show (2 ^ 6 : Nat) = 64 from by decide, Int.cast_ofNat_Int] at ar941)
              have ar942 := rng32 ((((vb779 &&& (7 : Int32)) <<< ((18 : Int32) &&& 31)) ||| ((vb805 &&& (63 : Int32)) <<< ((12 : Int32) &&& 31))) ||| ((vb839 &&& (63 : Int32)) <<< ((6 : Int32) &&& 31)))
              first | have ar943 : ((((vb779 &&& (7 : Int32)) <<< ((18 : Int32) &&& 31)) ||| ((vb805 &&& (63 : Int32)) <<< ((12 : Int32) &&& 31))) ||| ((vb839 &&& (63 : Int32)) <<< ((6 : Int32) &&& 31))).toInt = (((vb779 &&& (7 : Int32)) <<< ((18 : Int32) &&& 31)) ||| ((vb805 &&& (63 : Int32)) <<< ((12 : Int32) &&& 31))).toInt + ((vb839 &&& (63 : Int32)) <<< ((6 : Int32) &&& 31)).toInt := (by have qw := c_or (((vb779 &&& (7 : Int32)) <<< ((18 : Int32) &&& 31)) ||| ((vb805 &&& (63 : Int32)) <<< ((12 : Int32) &&& 31))) ((vb839 &&& (63 : Int32)) <<< ((6 : Int32) &&& 31)) 12 (by decide) 4096 (by decide) (by omega) (by omega) (by omega); omega) | (have ar943 := c_or (((vb779 &&& (7 : Int32)) <<< ((18 : Int32) &&& 31)) ||| ((vb805 &&& (63 : Int32)) <<< ((12 : Int32) &&& 31))) ((vb839 &&& (63 : Int32)) <<< ((6 : Int32) &&& 31)) 12 (by decide) 4096 (by decide) (by omega) (by omega) (by omega); skip)
              have ar944 := rng32 vb873
              have ar945 := c_mask vb873 (63 : Int32) 6 (by decide) (by decide)
              simp only [show (2 ^ 6 : Nat) = 64 from by decide, Int.cast_ofNat_Int] at ar945
              have ar946 := rng32 (vb873 &&& (63 : Int32))
              have ar947 := rng32 (((((vb779 &&& (7 : Int32)) <<< ((18 : Int32) &&& 31)) ||| ((vb805 &&& (63 : Int32)) <<< ((12 : Int32) &&& 31))) ||| ((vb839 &&& (63 : Int32)) <<< ((6 : Int32) &&& 31))) ||| (vb873 &&& (63 : Int32)))
              first | have ar948 : (((((vb779 &&& (7 : Int32)) <<< ((18 : Int32) &&& 31)) ||| ((vb805 &&& (63 : Int32)) <<< ((12 : Int32) &&& 31))) ||| ((vb839 &&& (63 : Int32)) <<< ((6 : Int32) &&& 31))) ||| (vb873 &&& (63 : Int32))).toInt = ((((vb779 &&& (7 : Int32)) <<< ((18 : Int32) &&& 31)) ||| ((vb805 &&& (63 : Int32)) <<< ((12 : Int32) &&& 31))) ||| ((vb839 &&& (63 : Int32)) <<< ((6 : Int32) &&& 31))).toInt + (vb873 &&& (63 : Int32)).toInt := (by have qw := c_or ((((vb779 &&& (7 : Int32)) <<< ((18 : Int32) &&& 31)) ||| ((vb805 &&& (63 : Int32)) <<< ((12 : Int32) &&& 31))) ||| ((vb839 &&& (63 : Int32)) <<< ((6 : Int32) &&& 31))) (vb873 &&& (63 : Int32)) 6 (by decide) 64 (by decide) (by omega) (by omega) (by omega); omega) | (have ar948 := c_or ((((vb779 &&& (7 : Int32)) <<< ((18 : Int32) &&& 31)) ||| ((vb805 &&& (63 : Int32)) <<< ((12 : Int32) &&& 31))) ||| ((vb839 &&& (63 : Int32)) <<< ((6 : Int32) &&& 31))) (vb873 &&& (63 : Int32)) 6 (by decide) 64 (by decide) (by omega) (by omega) (by omega); skip)
              have ar949 := congrArg Int32.toInt hv891
              have ar950 := rng32 vcp216
              exact Int32.toInt_inj.mp (by omega))
          have k952 : ∀ tg_, Steps p.tables e below (T703.setTop (mkF m 451 #[.val (.int p0), .val (.int p1), .val (.int p2), .val (.int vcp216), .val (.int vat230), .val (.int v232), .val (.ref b233), .val (.int r705), .val (.int v709), .val (.int vb779), .val (.int v891), .val (.int (65536 : Int32)), .val (.int vb805), .val (.int vb839), .val (.int vb873)] [(.int (1 : Int32))])) tg_ → Steps p.tables e below (s₁.setTop (entryFrame m #[(.int p0), (.int p1), (.int p2)] maxLocals)) tg_ := by
            intro tg_ kt
            refine k890 tg_ ?_
            refine XS.istore X703.here hx rfl (hb hby at_427) rfl (l' := #[.val (.int p0), .val (.int p1), .val (.int p2), .val (.int vcp216), .val (.int vat230), .val (.int v232), .val (.ref b233), .val (.int r705), .val (.int v709), .val (.int vb779), .val (.int v891), .unset, .val (.int vb805), .val (.int vb839), .val (.int vb873)]) rfl ?_
            show Steps p.tables e below (T703.setTop (mkF m 429 #[.val (.int p0), .val (.int p1), .val (.int p2), .val (.int vcp216), .val (.int vat230), .val (.int v232), .val (.ref b233), .val (.int r705), .val (.int v709), .val (.int vb779), .val (.int v891), .unset, .val (.int vb805), .val (.int vb839), .val (.int vb873)] [])) _
            refine X703.ldcInt hx hown (mvT hZ (hw _ (List.mem_of_getElem? (i := 10) rfl))) (g := (mkF m 429 #[.val (.int p0), .val (.int p1), .val (.int p2), .val (.int vcp216), .val (.int vat230), .val (.int v232), .val (.ref b233), .val (.int r705), .val (.int v709), .val (.int vb779), .val (.int v891), .unset, .val (.int vb805), .val (.int vb839), .val (.int vb873)] [])) rfl (hb hby at_429) _ ?_
            show Steps p.tables e below (T703.setTop (mkF m 431 #[.val (.int p0), .val (.int p1), .val (.int p2), .val (.int vcp216), .val (.int vat230), .val (.int v232), .val (.ref b233), .val (.int r705), .val (.int v709), .val (.int vb779), .val (.int v891), .unset, .val (.int vb805), .val (.int vb839), .val (.int vb873)] [(.int (65536 : Int32))])) _
            refine XS.istore X703.here hx rfl (hb hby at_431) rfl (l' := #[.val (.int p0), .val (.int p1), .val (.int p2), .val (.int vcp216), .val (.int vat230), .val (.int v232), .val (.ref b233), .val (.int r705), .val (.int v709), .val (.int vb779), .val (.int v891), .val (.int (65536 : Int32)), .val (.int vb805), .val (.int vb839), .val (.int vb873)]) rfl ?_
            show Steps p.tables e below (T703.setTop (mkF m 433 #[.val (.int p0), .val (.int p1), .val (.int p2), .val (.int vcp216), .val (.int vat230), .val (.int v232), .val (.ref b233), .val (.int r705), .val (.int v709), .val (.int vb779), .val (.int v891), .val (.int (65536 : Int32)), .val (.int vb805), .val (.int vb839), .val (.int vb873)] [])) _
            refine XS.iload X703.here hx rfl (hb hby at_433) rfl ?_
            show Steps p.tables e below (T703.setTop (mkF m 435 #[.val (.int p0), .val (.int p1), .val (.int p2), .val (.int vcp216), .val (.int vat230), .val (.int v232), .val (.ref b233), .val (.int r705), .val (.int v709), .val (.int vb779), .val (.int v891), .val (.int (65536 : Int32)), .val (.int vb805), .val (.int vb839), .val (.int vb873)] [(.int v891)])) _
            refine XS.iload X703.here hx rfl (hb hby at_435) rfl ?_
            show Steps p.tables e below (T703.setTop (mkF m 437 #[.val (.int p0), .val (.int p1), .val (.int p2), .val (.int vcp216), .val (.int vat230), .val (.int v232), .val (.ref b233), .val (.int r705), .val (.int v709), .val (.int vb779), .val (.int v891), .val (.int (65536 : Int32)), .val (.int vb805), .val (.int vb839), .val (.int vb873)] [(.int (65536 : Int32)), (.int v891)])) _
            refine XS.icmpNo X703.here hx rfl (hb hby at_437) rfl (flt hc437_921).1 ?_
            show Steps p.tables e below (T703.setTop (mkF m 440 #[.val (.int p0), .val (.int p1), .val (.int p2), .val (.int vcp216), .val (.int vat230), .val (.int v232), .val (.ref b233), .val (.int r705), .val (.int v709), .val (.int vb779), .val (.int v891), .val (.int (65536 : Int32)), .val (.int vb805), .val (.int vb839), .val (.int vb873)] [])) _
            refine XS.iload X703.here hx rfl (hb hby at_440) rfl ?_
            show Steps p.tables e below (T703.setTop (mkF m 442 #[.val (.int p0), .val (.int p1), .val (.int p2), .val (.int vcp216), .val (.int vat230), .val (.int v232), .val (.ref b233), .val (.int r705), .val (.int v709), .val (.int vb779), .val (.int v891), .val (.int (65536 : Int32)), .val (.int vb805), .val (.int vb839), .val (.int vb873)] [(.int v891)])) _
            refine XS.iloadN X703.here hx rfl (hb hby at_442) rfl ?_
            show Steps p.tables e below (T703.setTop (mkF m 443 #[.val (.int p0), .val (.int p1), .val (.int p2), .val (.int vcp216), .val (.int vat230), .val (.int v232), .val (.ref b233), .val (.int r705), .val (.int v709), .val (.int vb779), .val (.int v891), .val (.int (65536 : Int32)), .val (.int vb805), .val (.int vb839), .val (.int vb873)] [(.int vcp216), (.int v891)])) _
            refine XS.icmpNo X703.here hx rfl (hb hby at_443) rfl (teq hc443_951).2 ?_
            show Steps p.tables e below (T703.setTop (mkF m 446 #[.val (.int p0), .val (.int p1), .val (.int p2), .val (.int vcp216), .val (.int vat230), .val (.int v232), .val (.ref b233), .val (.int r705), .val (.int v709), .val (.int vb779), .val (.int v891), .val (.int (65536 : Int32)), .val (.int vb805), .val (.int vb839), .val (.int vb873)] [])) _
            refine XS.iconst X703.here hx rfl (hb hby at_446) ?_
            show Steps p.tables e below (T703.setTop (mkF m 447 #[.val (.int p0), .val (.int p1), .val (.int p2), .val (.int vcp216), .val (.int vat230), .val (.int v232), .val (.ref b233), .val (.int r705), .val (.int v709), .val (.int vb779), .val (.int v891), .val (.int (65536 : Int32)), .val (.int vb805), .val (.int vb839), .val (.int vb873)] [(.int (1 : Int32))])) _
            refine XS.goto X703.here hx rfl (pc0 := 447) (pc' := 451) rfl (hb hby at_447) (by decide) (by decide) ?_
            show Steps p.tables e below (T703.setTop (mkF m 451 #[.val (.int p0), .val (.int p1), .val (.int p2), .val (.int vcp216), .val (.int vat230), .val (.int v232), .val (.ref b233), .val (.int r705), .val (.int v709), .val (.int vb779), .val (.int v891), .val (.int (65536 : Int32)), .val (.int vb805), .val (.int vb839), .val (.int vb873)] [(.int (1 : Int32))])) _
            exact kt
          obtain ⟨fs, hr, hrun, hended, hW, hsame⟩ := X703.leave (v := some (.int (1 : Int32))) (fun h => by rw [Bd.returns] at h; cases h)
          refine ⟨_, _, k952 _ (retN X703 hx (t := .boolean) Bd.returns (by simp) (hb hby at_451) hr), hrun, hended, _, _, rfl, ?_, ⟨_, rfl⟩, hW, hsame.mono (by decide) (by decide)⟩
          show Q0 Z p0 p1 p2 h0 n0 _ T703.heap _
          exact ⟨rfl, N703⟩
  · have k953 : ∀ tg_, Steps p.tables e below (s₁.setTop (mkF m 17 #[.val (.int p0), .val (.int p1), .val (.int p2), .val (.int vcp216), .unset, .unset, .unset, .unset, .unset, .unset, .unset, .unset, .unset, .unset, .unset] [(.int (57343 : Int32)), (.int vcp216)])) tg_ → Steps p.tables e below (s₁.setTop (entryFrame m #[(.int p0), (.int p1), (.int p2)] maxLocals)) tg_ := by
      intro tg_ kt
      refine k227 tg_ ?_
      refine XS.icmpNo X0.here hx rfl (hb hby at_11) rfl (flt hc11_228).1 ?_
      show Steps p.tables e below (s₁.setTop (mkF m 14 #[.val (.int p0), .val (.int p1), .val (.int p2), .val (.int vcp216), .unset, .unset, .unset, .unset, .unset, .unset, .unset, .unset, .unset, .unset, .unset] [])) _
      refine XS.iloadN X0.here hx rfl (hb hby at_14) rfl ?_
      show Steps p.tables e below (s₁.setTop (mkF m 15 #[.val (.int p0), .val (.int p1), .val (.int p2), .val (.int vcp216), .unset, .unset, .unset, .unset, .unset, .unset, .unset, .unset, .unset, .unset, .unset] [(.int vcp216)])) _
      refine X0.ldcInt hx hown (mvT hZ (hw _ (List.mem_of_getElem? (i := 8) rfl))) (g := (mkF m 15 #[.val (.int p0), .val (.int p1), .val (.int p2), .val (.int vcp216), .unset, .unset, .unset, .unset, .unset, .unset, .unset, .unset, .unset, .unset, .unset] [(.int vcp216)])) rfl (hb hby at_15) _ ?_
      show Steps p.tables e below (s₁.setTop (mkF m 17 #[.val (.int p0), .val (.int p1), .val (.int p2), .val (.int vcp216), .unset, .unset, .unset, .unset, .unset, .unset, .unset, .unset, .unset, .unset, .unset] [(.int (57343 : Int32)), (.int vcp216)])) _
      exact kt
    by_cases hc17_954 : (57343 : Int32) < vcp216
    · have k955 : ∀ tg_, Steps p.tables e below (s₁.setTop (mkF m 26 #[.val (.int p0), .val (.int p1), .val (.int p2), .val (.int vcp216), .unset, .unset, .unset, .unset, .unset, .unset, .unset, .unset, .unset, .unset, .unset] [(.int (p1 &&& (7 : Int32)))])) tg_ → Steps p.tables e below (s₁.setTop (entryFrame m #[(.int p0), (.int p1), (.int p2)] maxLocals)) tg_ := by
        intro tg_ kt
        refine k953 tg_ ?_
        refine XS.icmpYes X0.here hx rfl (pc0 := 17) (pc' := 22) rfl (hb hby at_17) rfl (tlt hc17_954).2.2.1 (by decide) (by decide) ?_
        show Steps p.tables e below (s₁.setTop (mkF m 22 #[.val (.int p0), .val (.int p1), .val (.int p2), .val (.int vcp216), .unset, .unset, .unset, .unset, .unset, .unset, .unset, .unset, .unset, .unset, .unset] [])) _
        refine XS.iloadN X0.here hx rfl (hb hby at_22) rfl ?_
        show Steps p.tables e below (s₁.setTop (mkF m 23 #[.val (.int p0), .val (.int p1), .val (.int p2), .val (.int vcp216), .unset, .unset, .unset, .unset, .unset, .unset, .unset, .unset, .unset, .unset, .unset] [(.int p1)])) _
        refine XS.bipush X0.here hx rfl (hb hby at_23) ?_
        show Steps p.tables e below (s₁.setTop (mkF m 25 #[.val (.int p0), .val (.int p1), .val (.int p2), .val (.int vcp216), .unset, .unset, .unset, .unset, .unset, .unset, .unset, .unset, .unset, .unset, .unset] [(.int (7 : Int32)), (.int p1)])) _
        refine XS.iand X0.here hx rfl (hb hby at_25) rfl ?_
        show Steps p.tables e below (s₁.setTop (mkF m 26 #[.val (.int p0), .val (.int p1), .val (.int p2), .val (.int vcp216), .unset, .unset, .unset, .unset, .unset, .unset, .unset, .unset, .unset, .unset, .unset] [(.int (p1 &&& (7 : Int32)))])) _
        exact kt
      obtain ⟨vat956, hvat956⟩ : ∃ z : Int32, z = (p1 &&& (7 : Int32)) := ⟨_, rfl⟩
      rw [← hvat956] at k955
      have k957 : ∀ tg_, Steps p.tables e below (s₁.setTop (mkF m 30 #[.val (.int p0), .val (.int p1), .val (.int p2), .val (.int vcp216), .val (.int vat956), .unset, .unset, .unset, .unset, .unset, .unset, .unset, .unset, .unset, .unset] [(.int (p2.toInt8.toInt32))])) tg_ → Steps p.tables e below (s₁.setTop (entryFrame m #[(.int p0), (.int p1), (.int p2)] maxLocals)) tg_ := by
        intro tg_ kt
        refine k955 tg_ ?_
        refine XS.istore X0.here hx rfl (hb hby at_26) rfl (l' := #[.val (.int p0), .val (.int p1), .val (.int p2), .val (.int vcp216), .val (.int vat956), .unset, .unset, .unset, .unset, .unset, .unset, .unset, .unset, .unset, .unset]) rfl ?_
        show Steps p.tables e below (s₁.setTop (mkF m 28 #[.val (.int p0), .val (.int p1), .val (.int p2), .val (.int vcp216), .val (.int vat956), .unset, .unset, .unset, .unset, .unset, .unset, .unset, .unset, .unset, .unset] [])) _
        refine XS.iloadN X0.here hx rfl (hb hby at_28) rfl ?_
        show Steps p.tables e below (s₁.setTop (mkF m 29 #[.val (.int p0), .val (.int p1), .val (.int p2), .val (.int vcp216), .val (.int vat956), .unset, .unset, .unset, .unset, .unset, .unset, .unset, .unset, .unset, .unset] [(.int p2)])) _
        refine XS.i2b X0.here hx rfl (hb hby at_29) rfl ?_
        show Steps p.tables e below (s₁.setTop (mkF m 30 #[.val (.int p0), .val (.int p1), .val (.int p2), .val (.int vcp216), .val (.int vat956), .unset, .unset, .unset, .unset, .unset, .unset, .unset, .unset, .unset, .unset] [(.int (p2.toInt8.toInt32))])) _
        exact kt
      obtain ⟨v958, hv958⟩ : ∃ z : Int32, z = (p2.toInt8.toInt32) := ⟨_, rfl⟩
      rw [← hv958] at k957
      obtain ⟨T959, h959, kA959, X959, e959, E959, A959, st959⟩ := newP X0 hx hZ (hw _ (List.mem_of_getElem? (i := 3) rfl)) e0 (g := (mkF m 34 #[.val (.int p0), .val (.int p1), .val (.int p2), .val (.int vcp216), .val (.int vat956), .val (.int v958), .unset, .unset, .unset, .unset, .unset, .unset, .unset, .unset, .unset] [(.int (12 : Int32))])) rfl (hb hby at_34) rfl (by decide) (cap := 12) (by decide) (by decide) (by decide) (by decide)
      obtain ⟨b959, g959⟩ : ∃ z, z = h0.size := ⟨_, rfl⟩
      rw [← g959] at A959 st959
      have ge_b959 : n0 ≤ b959 := Nat.le_trans Z0 (Nat.le_of_eq g959.symm)
      have V959 : own_AI Z h959 b959 .byte 12 (fun _ => 0) := own_newI (by decide : (12 : Int32).toInt = ((12 : Nat) : Int)) A959 rfl
      obtain ⟨T960, h960, X960, e960, W960, V960, st960⟩ := own_stB X959 hx hZ e959 V959 (i := 0) (by decide : (0 : Int32).toInt = ((0 : Nat) : Int)) (by decide) (g := (mkF m 40 #[.val (.int p0), .val (.int p1), .val (.int p2), .val (.int vcp216), .val (.int vat956), .val (.int v958), .unset, .unset, .unset, .unset, .unset, .unset, .unset, .unset, .unset] [(.int v958), (.int (0 : Int32)), (.ref b959), (.ref b959)])) rfl rfl (hb hby at_40)
      have N960 := Fr.snoc X960 N0 ge_b959
      obtain ⟨T961, h961, X961, e961, W961, V961, st961⟩ := own_stB X960 hx hZ e960 V960 (i := 1) (by decide : (1 : Int32).toInt = ((1 : Nat) : Int)) (by decide) (g := (mkF m 45 #[.val (.int p0), .val (.int p1), .val (.int p2), .val (.int vcp216), .val (.int vat956), .val (.int v958), .unset, .unset, .unset, .unset, .unset, .unset, .unset, .unset, .unset] [(.int v958), (.int (1 : Int32)), (.ref b959), (.ref b959)])) rfl rfl (hb hby at_45)
      have N961 := Fr.snoc X961 N960 ge_b959
      obtain ⟨T962, h962, X962, e962, W962, V962, st962⟩ := own_stB X961 hx hZ e961 V961 (i := 2) (by decide : (2 : Int32).toInt = ((2 : Nat) : Int)) (by decide) (g := (mkF m 50 #[.val (.int p0), .val (.int p1), .val (.int p2), .val (.int vcp216), .val (.int vat956), .val (.int v958), .unset, .unset, .unset, .unset, .unset, .unset, .unset, .unset, .unset] [(.int v958), (.int (2 : Int32)), (.ref b959), (.ref b959)])) rfl rfl (hb hby at_50)
      have N962 := Fr.snoc X962 N961 ge_b959
      obtain ⟨T963, h963, X963, e963, W963, V963, st963⟩ := own_stB X962 hx hZ e962 V962 (i := 3) (by decide : (3 : Int32).toInt = ((3 : Nat) : Int)) (by decide) (g := (mkF m 55 #[.val (.int p0), .val (.int p1), .val (.int p2), .val (.int vcp216), .val (.int vat956), .val (.int v958), .unset, .unset, .unset, .unset, .unset, .unset, .unset, .unset, .unset] [(.int v958), (.int (3 : Int32)), (.ref b959), (.ref b959)])) rfl rfl (hb hby at_55)
      have N963 := Fr.snoc X963 N962 ge_b959
      obtain ⟨T964, h964, X964, e964, W964, V964, st964⟩ := own_stB X963 hx hZ e963 V963 (i := 4) (by decide : (4 : Int32).toInt = ((4 : Nat) : Int)) (by decide) (g := (mkF m 60 #[.val (.int p0), .val (.int p1), .val (.int p2), .val (.int vcp216), .val (.int vat956), .val (.int v958), .unset, .unset, .unset, .unset, .unset, .unset, .unset, .unset, .unset] [(.int v958), (.int (4 : Int32)), (.ref b959), (.ref b959)])) rfl rfl (hb hby at_60)
      have N964 := Fr.snoc X964 N963 ge_b959
      have k965 : ∀ tg_, Steps p.tables e below (T964.setTop (mkF m 65 #[.val (.int p0), .val (.int p1), .val (.int p2), .val (.int vcp216), .val (.int vat956), .val (.int v958), .unset, .unset, .unset, .unset, .unset, .unset, .unset, .unset, .unset] [(.int v958), (.int (5 : Int32)), (.ref b959), (.ref b959)])) tg_ → Steps p.tables e below (s₁.setTop (entryFrame m #[(.int p0), (.int p1), (.int p2)] maxLocals)) tg_ := by
        intro tg_ kt
        refine k957 tg_ ?_
        refine XS.istore X0.here hx rfl (hb hby at_30) rfl (l' := #[.val (.int p0), .val (.int p1), .val (.int p2), .val (.int vcp216), .val (.int vat956), .val (.int v958), .unset, .unset, .unset, .unset, .unset, .unset, .unset, .unset, .unset]) rfl ?_
        show Steps p.tables e below (s₁.setTop (mkF m 32 #[.val (.int p0), .val (.int p1), .val (.int p2), .val (.int vcp216), .val (.int vat956), .val (.int v958), .unset, .unset, .unset, .unset, .unset, .unset, .unset, .unset, .unset] [])) _
        refine XS.bipush X0.here hx rfl (hb hby at_32) ?_
        show Steps p.tables e below (s₁.setTop (mkF m 34 #[.val (.int p0), .val (.int p1), .val (.int p2), .val (.int vcp216), .val (.int vat956), .val (.int v958), .unset, .unset, .unset, .unset, .unset, .unset, .unset, .unset, .unset] [(.int (12 : Int32))])) _
        refine st959 _ ?_
        show Steps p.tables e below (T959.setTop (mkF m 36 #[.val (.int p0), .val (.int p1), .val (.int p2), .val (.int vcp216), .val (.int vat956), .val (.int v958), .unset, .unset, .unset, .unset, .unset, .unset, .unset, .unset, .unset] [(.ref b959)])) _
        refine XS.dup X959.here hx rfl (hb hby at_36) rfl rfl ?_
        show Steps p.tables e below (T959.setTop (mkF m 37 #[.val (.int p0), .val (.int p1), .val (.int p2), .val (.int vcp216), .val (.int vat956), .val (.int v958), .unset, .unset, .unset, .unset, .unset, .unset, .unset, .unset, .unset] [(.ref b959), (.ref b959)])) _
        refine XS.iconst X959.here hx rfl (hb hby at_37) ?_
        show Steps p.tables e below (T959.setTop (mkF m 38 #[.val (.int p0), .val (.int p1), .val (.int p2), .val (.int vcp216), .val (.int vat956), .val (.int v958), .unset, .unset, .unset, .unset, .unset, .unset, .unset, .unset, .unset] [(.int (0 : Int32)), (.ref b959), (.ref b959)])) _
        refine XS.iload X959.here hx rfl (hb hby at_38) rfl ?_
        show Steps p.tables e below (T959.setTop (mkF m 40 #[.val (.int p0), .val (.int p1), .val (.int p2), .val (.int vcp216), .val (.int vat956), .val (.int v958), .unset, .unset, .unset, .unset, .unset, .unset, .unset, .unset, .unset] [(.int v958), (.int (0 : Int32)), (.ref b959), (.ref b959)])) _
        refine st960 _ ?_
        show Steps p.tables e below (T960.setTop (mkF m 41 #[.val (.int p0), .val (.int p1), .val (.int p2), .val (.int vcp216), .val (.int vat956), .val (.int v958), .unset, .unset, .unset, .unset, .unset, .unset, .unset, .unset, .unset] [(.ref b959)])) _
        refine XS.dup X960.here hx rfl (hb hby at_41) rfl rfl ?_
        show Steps p.tables e below (T960.setTop (mkF m 42 #[.val (.int p0), .val (.int p1), .val (.int p2), .val (.int vcp216), .val (.int vat956), .val (.int v958), .unset, .unset, .unset, .unset, .unset, .unset, .unset, .unset, .unset] [(.ref b959), (.ref b959)])) _
        refine XS.iconst X960.here hx rfl (hb hby at_42) ?_
        show Steps p.tables e below (T960.setTop (mkF m 43 #[.val (.int p0), .val (.int p1), .val (.int p2), .val (.int vcp216), .val (.int vat956), .val (.int v958), .unset, .unset, .unset, .unset, .unset, .unset, .unset, .unset, .unset] [(.int (1 : Int32)), (.ref b959), (.ref b959)])) _
        refine XS.iload X960.here hx rfl (hb hby at_43) rfl ?_
        show Steps p.tables e below (T960.setTop (mkF m 45 #[.val (.int p0), .val (.int p1), .val (.int p2), .val (.int vcp216), .val (.int vat956), .val (.int v958), .unset, .unset, .unset, .unset, .unset, .unset, .unset, .unset, .unset] [(.int v958), (.int (1 : Int32)), (.ref b959), (.ref b959)])) _
        refine st961 _ ?_
        show Steps p.tables e below (T961.setTop (mkF m 46 #[.val (.int p0), .val (.int p1), .val (.int p2), .val (.int vcp216), .val (.int vat956), .val (.int v958), .unset, .unset, .unset, .unset, .unset, .unset, .unset, .unset, .unset] [(.ref b959)])) _
        refine XS.dup X961.here hx rfl (hb hby at_46) rfl rfl ?_
        show Steps p.tables e below (T961.setTop (mkF m 47 #[.val (.int p0), .val (.int p1), .val (.int p2), .val (.int vcp216), .val (.int vat956), .val (.int v958), .unset, .unset, .unset, .unset, .unset, .unset, .unset, .unset, .unset] [(.ref b959), (.ref b959)])) _
        refine XS.iconst X961.here hx rfl (hb hby at_47) ?_
        show Steps p.tables e below (T961.setTop (mkF m 48 #[.val (.int p0), .val (.int p1), .val (.int p2), .val (.int vcp216), .val (.int vat956), .val (.int v958), .unset, .unset, .unset, .unset, .unset, .unset, .unset, .unset, .unset] [(.int (2 : Int32)), (.ref b959), (.ref b959)])) _
        refine XS.iload X961.here hx rfl (hb hby at_48) rfl ?_
        show Steps p.tables e below (T961.setTop (mkF m 50 #[.val (.int p0), .val (.int p1), .val (.int p2), .val (.int vcp216), .val (.int vat956), .val (.int v958), .unset, .unset, .unset, .unset, .unset, .unset, .unset, .unset, .unset] [(.int v958), (.int (2 : Int32)), (.ref b959), (.ref b959)])) _
        refine st962 _ ?_
        show Steps p.tables e below (T962.setTop (mkF m 51 #[.val (.int p0), .val (.int p1), .val (.int p2), .val (.int vcp216), .val (.int vat956), .val (.int v958), .unset, .unset, .unset, .unset, .unset, .unset, .unset, .unset, .unset] [(.ref b959)])) _
        refine XS.dup X962.here hx rfl (hb hby at_51) rfl rfl ?_
        show Steps p.tables e below (T962.setTop (mkF m 52 #[.val (.int p0), .val (.int p1), .val (.int p2), .val (.int vcp216), .val (.int vat956), .val (.int v958), .unset, .unset, .unset, .unset, .unset, .unset, .unset, .unset, .unset] [(.ref b959), (.ref b959)])) _
        refine XS.iconst X962.here hx rfl (hb hby at_52) ?_
        show Steps p.tables e below (T962.setTop (mkF m 53 #[.val (.int p0), .val (.int p1), .val (.int p2), .val (.int vcp216), .val (.int vat956), .val (.int v958), .unset, .unset, .unset, .unset, .unset, .unset, .unset, .unset, .unset] [(.int (3 : Int32)), (.ref b959), (.ref b959)])) _
        refine XS.iload X962.here hx rfl (hb hby at_53) rfl ?_
        show Steps p.tables e below (T962.setTop (mkF m 55 #[.val (.int p0), .val (.int p1), .val (.int p2), .val (.int vcp216), .val (.int vat956), .val (.int v958), .unset, .unset, .unset, .unset, .unset, .unset, .unset, .unset, .unset] [(.int v958), (.int (3 : Int32)), (.ref b959), (.ref b959)])) _
        refine st963 _ ?_
        show Steps p.tables e below (T963.setTop (mkF m 56 #[.val (.int p0), .val (.int p1), .val (.int p2), .val (.int vcp216), .val (.int vat956), .val (.int v958), .unset, .unset, .unset, .unset, .unset, .unset, .unset, .unset, .unset] [(.ref b959)])) _
        refine XS.dup X963.here hx rfl (hb hby at_56) rfl rfl ?_
        show Steps p.tables e below (T963.setTop (mkF m 57 #[.val (.int p0), .val (.int p1), .val (.int p2), .val (.int vcp216), .val (.int vat956), .val (.int v958), .unset, .unset, .unset, .unset, .unset, .unset, .unset, .unset, .unset] [(.ref b959), (.ref b959)])) _
        refine XS.iconst X963.here hx rfl (hb hby at_57) ?_
        show Steps p.tables e below (T963.setTop (mkF m 58 #[.val (.int p0), .val (.int p1), .val (.int p2), .val (.int vcp216), .val (.int vat956), .val (.int v958), .unset, .unset, .unset, .unset, .unset, .unset, .unset, .unset, .unset] [(.int (4 : Int32)), (.ref b959), (.ref b959)])) _
        refine XS.iload X963.here hx rfl (hb hby at_58) rfl ?_
        show Steps p.tables e below (T963.setTop (mkF m 60 #[.val (.int p0), .val (.int p1), .val (.int p2), .val (.int vcp216), .val (.int vat956), .val (.int v958), .unset, .unset, .unset, .unset, .unset, .unset, .unset, .unset, .unset] [(.int v958), (.int (4 : Int32)), (.ref b959), (.ref b959)])) _
        refine st964 _ ?_
        show Steps p.tables e below (T964.setTop (mkF m 61 #[.val (.int p0), .val (.int p1), .val (.int p2), .val (.int vcp216), .val (.int vat956), .val (.int v958), .unset, .unset, .unset, .unset, .unset, .unset, .unset, .unset, .unset] [(.ref b959)])) _
        refine XS.dup X964.here hx rfl (hb hby at_61) rfl rfl ?_
        show Steps p.tables e below (T964.setTop (mkF m 62 #[.val (.int p0), .val (.int p1), .val (.int p2), .val (.int vcp216), .val (.int vat956), .val (.int v958), .unset, .unset, .unset, .unset, .unset, .unset, .unset, .unset, .unset] [(.ref b959), (.ref b959)])) _
        refine XS.iconst X964.here hx rfl (hb hby at_62) ?_
        show Steps p.tables e below (T964.setTop (mkF m 63 #[.val (.int p0), .val (.int p1), .val (.int p2), .val (.int vcp216), .val (.int vat956), .val (.int v958), .unset, .unset, .unset, .unset, .unset, .unset, .unset, .unset, .unset] [(.int (5 : Int32)), (.ref b959), (.ref b959)])) _
        refine XS.iload X964.here hx rfl (hb hby at_63) rfl ?_
        show Steps p.tables e below (T964.setTop (mkF m 65 #[.val (.int p0), .val (.int p1), .val (.int p2), .val (.int vcp216), .val (.int vat956), .val (.int v958), .unset, .unset, .unset, .unset, .unset, .unset, .unset, .unset, .unset] [(.int v958), (.int (5 : Int32)), (.ref b959), (.ref b959)])) _
        exact kt
      obtain ⟨T966, h966, X966, e966, W966, V966, st966⟩ := own_stB X964 hx hZ e964 V964 (i := 5) (by decide : (5 : Int32).toInt = ((5 : Nat) : Int)) (by decide) (g := (mkF m 65 #[.val (.int p0), .val (.int p1), .val (.int p2), .val (.int vcp216), .val (.int vat956), .val (.int v958), .unset, .unset, .unset, .unset, .unset, .unset, .unset, .unset, .unset] [(.int v958), (.int (5 : Int32)), (.ref b959), (.ref b959)])) rfl rfl (hb hby at_65)
      have N966 := Fr.snoc X966 N964 ge_b959
      obtain ⟨T967, h967, X967, e967, W967, V967, st967⟩ := own_stB X966 hx hZ e966 V966 (i := 6) (by decide : (6 : Int32).toInt = ((6 : Nat) : Int)) (by decide) (g := (mkF m 71 #[.val (.int p0), .val (.int p1), .val (.int p2), .val (.int vcp216), .val (.int vat956), .val (.int v958), .unset, .unset, .unset, .unset, .unset, .unset, .unset, .unset, .unset] [(.int v958), (.int (6 : Int32)), (.ref b959), (.ref b959)])) rfl rfl (hb hby at_71)
      have N967 := Fr.snoc X967 N966 ge_b959
      obtain ⟨T968, h968, X968, e968, W968, V968, st968⟩ := own_stB X967 hx hZ e967 V967 (i := 7) (by decide : (7 : Int32).toInt = ((7 : Nat) : Int)) (by decide) (g := (mkF m 77 #[.val (.int p0), .val (.int p1), .val (.int p2), .val (.int vcp216), .val (.int vat956), .val (.int v958), .unset, .unset, .unset, .unset, .unset, .unset, .unset, .unset, .unset] [(.int v958), (.int (7 : Int32)), (.ref b959), (.ref b959)])) rfl rfl (hb hby at_77)
      have N968 := Fr.snoc X968 N967 ge_b959
      obtain ⟨T969, h969, X969, e969, W969, V969, st969⟩ := own_stB X968 hx hZ e968 V968 (i := 8) (by decide : (8 : Int32).toInt = ((8 : Nat) : Int)) (by decide) (g := (mkF m 83 #[.val (.int p0), .val (.int p1), .val (.int p2), .val (.int vcp216), .val (.int vat956), .val (.int v958), .unset, .unset, .unset, .unset, .unset, .unset, .unset, .unset, .unset] [(.int v958), (.int (8 : Int32)), (.ref b959), (.ref b959)])) rfl rfl (hb hby at_83)
      have N969 := Fr.snoc X969 N968 ge_b959
      obtain ⟨T970, h970, X970, e970, W970, V970, st970⟩ := own_stB X969 hx hZ e969 V969 (i := 9) (by decide : (9 : Int32).toInt = ((9 : Nat) : Int)) (by decide) (g := (mkF m 89 #[.val (.int p0), .val (.int p1), .val (.int p2), .val (.int vcp216), .val (.int vat956), .val (.int v958), .unset, .unset, .unset, .unset, .unset, .unset, .unset, .unset, .unset] [(.int v958), (.int (9 : Int32)), (.ref b959), (.ref b959)])) rfl rfl (hb hby at_89)
      have N970 := Fr.snoc X970 N969 ge_b959
      obtain ⟨T971, h971, X971, e971, W971, V971, st971⟩ := own_stB X970 hx hZ e970 V970 (i := 10) (by decide : (10 : Int32).toInt = ((10 : Nat) : Int)) (by decide) (g := (mkF m 95 #[.val (.int p0), .val (.int p1), .val (.int p2), .val (.int vcp216), .val (.int vat956), .val (.int v958), .unset, .unset, .unset, .unset, .unset, .unset, .unset, .unset, .unset] [(.int v958), (.int (10 : Int32)), (.ref b959), (.ref b959)])) rfl rfl (hb hby at_95)
      have N971 := Fr.snoc X971 N970 ge_b959
      obtain ⟨T972, h972, X972, e972, W972, V972, st972⟩ := own_stB X971 hx hZ e971 V971 (i := 11) (by decide : (11 : Int32).toInt = ((11 : Nat) : Int)) (by decide) (g := (mkF m 101 #[.val (.int p0), .val (.int p1), .val (.int p2), .val (.int vcp216), .val (.int vat956), .val (.int v958), .unset, .unset, .unset, .unset, .unset, .unset, .unset, .unset, .unset] [(.int v958), (.int (11 : Int32)), (.ref b959), (.ref b959)])) rfl rfl (hb hby at_101)
      have N972 := Fr.snoc X972 N971 ge_b959
      have k973 : ∀ tg_, Steps p.tables e below (T972.setTop (mkF m 104 #[.val (.int p0), .val (.int p1), .val (.int p2), .val (.int vcp216), .val (.int vat956), .val (.int v958), .val (.ref b959), .unset, .unset, .unset, .unset, .unset, .unset, .unset, .unset] [])) tg_ → Steps p.tables e below (s₁.setTop (entryFrame m #[(.int p0), (.int p1), (.int p2)] maxLocals)) tg_ := by
        intro tg_ kt
        refine k965 tg_ ?_
        refine st966 _ ?_
        show Steps p.tables e below (T966.setTop (mkF m 66 #[.val (.int p0), .val (.int p1), .val (.int p2), .val (.int vcp216), .val (.int vat956), .val (.int v958), .unset, .unset, .unset, .unset, .unset, .unset, .unset, .unset, .unset] [(.ref b959)])) _
        refine XS.dup X966.here hx rfl (hb hby at_66) rfl rfl ?_
        show Steps p.tables e below (T966.setTop (mkF m 67 #[.val (.int p0), .val (.int p1), .val (.int p2), .val (.int vcp216), .val (.int vat956), .val (.int v958), .unset, .unset, .unset, .unset, .unset, .unset, .unset, .unset, .unset] [(.ref b959), (.ref b959)])) _
        refine XS.bipush X966.here hx rfl (hb hby at_67) ?_
        show Steps p.tables e below (T966.setTop (mkF m 69 #[.val (.int p0), .val (.int p1), .val (.int p2), .val (.int vcp216), .val (.int vat956), .val (.int v958), .unset, .unset, .unset, .unset, .unset, .unset, .unset, .unset, .unset] [(.int (6 : Int32)), (.ref b959), (.ref b959)])) _
        refine XS.iload X966.here hx rfl (hb hby at_69) rfl ?_
        show Steps p.tables e below (T966.setTop (mkF m 71 #[.val (.int p0), .val (.int p1), .val (.int p2), .val (.int vcp216), .val (.int vat956), .val (.int v958), .unset, .unset, .unset, .unset, .unset, .unset, .unset, .unset, .unset] [(.int v958), (.int (6 : Int32)), (.ref b959), (.ref b959)])) _
        refine st967 _ ?_
        show Steps p.tables e below (T967.setTop (mkF m 72 #[.val (.int p0), .val (.int p1), .val (.int p2), .val (.int vcp216), .val (.int vat956), .val (.int v958), .unset, .unset, .unset, .unset, .unset, .unset, .unset, .unset, .unset] [(.ref b959)])) _
        refine XS.dup X967.here hx rfl (hb hby at_72) rfl rfl ?_
        show Steps p.tables e below (T967.setTop (mkF m 73 #[.val (.int p0), .val (.int p1), .val (.int p2), .val (.int vcp216), .val (.int vat956), .val (.int v958), .unset, .unset, .unset, .unset, .unset, .unset, .unset, .unset, .unset] [(.ref b959), (.ref b959)])) _
        refine XS.bipush X967.here hx rfl (hb hby at_73) ?_
        show Steps p.tables e below (T967.setTop (mkF m 75 #[.val (.int p0), .val (.int p1), .val (.int p2), .val (.int vcp216), .val (.int vat956), .val (.int v958), .unset, .unset, .unset, .unset, .unset, .unset, .unset, .unset, .unset] [(.int (7 : Int32)), (.ref b959), (.ref b959)])) _
        refine XS.iload X967.here hx rfl (hb hby at_75) rfl ?_
        show Steps p.tables e below (T967.setTop (mkF m 77 #[.val (.int p0), .val (.int p1), .val (.int p2), .val (.int vcp216), .val (.int vat956), .val (.int v958), .unset, .unset, .unset, .unset, .unset, .unset, .unset, .unset, .unset] [(.int v958), (.int (7 : Int32)), (.ref b959), (.ref b959)])) _
        refine st968 _ ?_
        show Steps p.tables e below (T968.setTop (mkF m 78 #[.val (.int p0), .val (.int p1), .val (.int p2), .val (.int vcp216), .val (.int vat956), .val (.int v958), .unset, .unset, .unset, .unset, .unset, .unset, .unset, .unset, .unset] [(.ref b959)])) _
        refine XS.dup X968.here hx rfl (hb hby at_78) rfl rfl ?_
        show Steps p.tables e below (T968.setTop (mkF m 79 #[.val (.int p0), .val (.int p1), .val (.int p2), .val (.int vcp216), .val (.int vat956), .val (.int v958), .unset, .unset, .unset, .unset, .unset, .unset, .unset, .unset, .unset] [(.ref b959), (.ref b959)])) _
        refine XS.bipush X968.here hx rfl (hb hby at_79) ?_
        show Steps p.tables e below (T968.setTop (mkF m 81 #[.val (.int p0), .val (.int p1), .val (.int p2), .val (.int vcp216), .val (.int vat956), .val (.int v958), .unset, .unset, .unset, .unset, .unset, .unset, .unset, .unset, .unset] [(.int (8 : Int32)), (.ref b959), (.ref b959)])) _
        refine XS.iload X968.here hx rfl (hb hby at_81) rfl ?_
        show Steps p.tables e below (T968.setTop (mkF m 83 #[.val (.int p0), .val (.int p1), .val (.int p2), .val (.int vcp216), .val (.int vat956), .val (.int v958), .unset, .unset, .unset, .unset, .unset, .unset, .unset, .unset, .unset] [(.int v958), (.int (8 : Int32)), (.ref b959), (.ref b959)])) _
        refine st969 _ ?_
        show Steps p.tables e below (T969.setTop (mkF m 84 #[.val (.int p0), .val (.int p1), .val (.int p2), .val (.int vcp216), .val (.int vat956), .val (.int v958), .unset, .unset, .unset, .unset, .unset, .unset, .unset, .unset, .unset] [(.ref b959)])) _
        refine XS.dup X969.here hx rfl (hb hby at_84) rfl rfl ?_
        show Steps p.tables e below (T969.setTop (mkF m 85 #[.val (.int p0), .val (.int p1), .val (.int p2), .val (.int vcp216), .val (.int vat956), .val (.int v958), .unset, .unset, .unset, .unset, .unset, .unset, .unset, .unset, .unset] [(.ref b959), (.ref b959)])) _
        refine XS.bipush X969.here hx rfl (hb hby at_85) ?_
        show Steps p.tables e below (T969.setTop (mkF m 87 #[.val (.int p0), .val (.int p1), .val (.int p2), .val (.int vcp216), .val (.int vat956), .val (.int v958), .unset, .unset, .unset, .unset, .unset, .unset, .unset, .unset, .unset] [(.int (9 : Int32)), (.ref b959), (.ref b959)])) _
        refine XS.iload X969.here hx rfl (hb hby at_87) rfl ?_
        show Steps p.tables e below (T969.setTop (mkF m 89 #[.val (.int p0), .val (.int p1), .val (.int p2), .val (.int vcp216), .val (.int vat956), .val (.int v958), .unset, .unset, .unset, .unset, .unset, .unset, .unset, .unset, .unset] [(.int v958), (.int (9 : Int32)), (.ref b959), (.ref b959)])) _
        refine st970 _ ?_
        show Steps p.tables e below (T970.setTop (mkF m 90 #[.val (.int p0), .val (.int p1), .val (.int p2), .val (.int vcp216), .val (.int vat956), .val (.int v958), .unset, .unset, .unset, .unset, .unset, .unset, .unset, .unset, .unset] [(.ref b959)])) _
        refine XS.dup X970.here hx rfl (hb hby at_90) rfl rfl ?_
        show Steps p.tables e below (T970.setTop (mkF m 91 #[.val (.int p0), .val (.int p1), .val (.int p2), .val (.int vcp216), .val (.int vat956), .val (.int v958), .unset, .unset, .unset, .unset, .unset, .unset, .unset, .unset, .unset] [(.ref b959), (.ref b959)])) _
        refine XS.bipush X970.here hx rfl (hb hby at_91) ?_
        show Steps p.tables e below (T970.setTop (mkF m 93 #[.val (.int p0), .val (.int p1), .val (.int p2), .val (.int vcp216), .val (.int vat956), .val (.int v958), .unset, .unset, .unset, .unset, .unset, .unset, .unset, .unset, .unset] [(.int (10 : Int32)), (.ref b959), (.ref b959)])) _
        refine XS.iload X970.here hx rfl (hb hby at_93) rfl ?_
        show Steps p.tables e below (T970.setTop (mkF m 95 #[.val (.int p0), .val (.int p1), .val (.int p2), .val (.int vcp216), .val (.int vat956), .val (.int v958), .unset, .unset, .unset, .unset, .unset, .unset, .unset, .unset, .unset] [(.int v958), (.int (10 : Int32)), (.ref b959), (.ref b959)])) _
        refine st971 _ ?_
        show Steps p.tables e below (T971.setTop (mkF m 96 #[.val (.int p0), .val (.int p1), .val (.int p2), .val (.int vcp216), .val (.int vat956), .val (.int v958), .unset, .unset, .unset, .unset, .unset, .unset, .unset, .unset, .unset] [(.ref b959)])) _
        refine XS.dup X971.here hx rfl (hb hby at_96) rfl rfl ?_
        show Steps p.tables e below (T971.setTop (mkF m 97 #[.val (.int p0), .val (.int p1), .val (.int p2), .val (.int vcp216), .val (.int vat956), .val (.int v958), .unset, .unset, .unset, .unset, .unset, .unset, .unset, .unset, .unset] [(.ref b959), (.ref b959)])) _
        refine XS.bipush X971.here hx rfl (hb hby at_97) ?_
        show Steps p.tables e below (T971.setTop (mkF m 99 #[.val (.int p0), .val (.int p1), .val (.int p2), .val (.int vcp216), .val (.int vat956), .val (.int v958), .unset, .unset, .unset, .unset, .unset, .unset, .unset, .unset, .unset] [(.int (11 : Int32)), (.ref b959), (.ref b959)])) _
        refine XS.iload X971.here hx rfl (hb hby at_99) rfl ?_
        show Steps p.tables e below (T971.setTop (mkF m 101 #[.val (.int p0), .val (.int p1), .val (.int p2), .val (.int vcp216), .val (.int vat956), .val (.int v958), .unset, .unset, .unset, .unset, .unset, .unset, .unset, .unset, .unset] [(.int v958), (.int (11 : Int32)), (.ref b959), (.ref b959)])) _
        refine st972 _ ?_
        show Steps p.tables e below (T972.setTop (mkF m 102 #[.val (.int p0), .val (.int p1), .val (.int p2), .val (.int vcp216), .val (.int vat956), .val (.int v958), .unset, .unset, .unset, .unset, .unset, .unset, .unset, .unset, .unset] [(.ref b959)])) _
        refine XS.astore X972.here hx rfl (hb hby at_102) rfl rfl (l' := #[.val (.int p0), .val (.int p1), .val (.int p2), .val (.int vcp216), .val (.int vat956), .val (.int v958), .val (.ref b959), .unset, .unset, .unset, .unset, .unset, .unset, .unset, .unset]) rfl ?_
        show Steps p.tables e below (T972.setTop (mkF m 104 #[.val (.int p0), .val (.int p1), .val (.int p2), .val (.int vcp216), .val (.int vat956), .val (.int v958), .val (.ref b959), .unset, .unset, .unset, .unset, .unset, .unset, .unset, .unset] [])) _
        exact kt
      have hbb : v958.toInt8.toInt32 = v958 := by rw [hv958]; exact own_bb _
      have V974 : own_AI Z h972 b959 .byte 12 (fun _ => v958) := by
        refine own_AI.congr V972 fun j hj => ?_
        rw [hbb]
        simp only [own_upd]
        repeat' split
        all_goals first | rfl | omega
      obtain ⟨k, hk, hk7⟩ : ∃ k : Nat, vat956.toInt = (k : Int) ∧ k ≤ 7 := by
        have ar975 := rng32 vat956
        have ar976 := rng32 p1
        have ar977 : (7 : Int32).toInt = 7 := by decide
        have ar978 := c_mask p1 (7 : Int32) 3 (by decide) (by decide)
        simp only [show (2 ^ 3 : Nat) = 8 from by decide, Int.cast_ofNat_Int] at ar978
        have ar979 := rng32 (p1 &&& (7 : Int32))
        have ar980 := congrArg Int32.toInt hvat956
        exact ⟨vat956.toInt.toNat, by omega, by omega⟩
      have k981 : ∀ tg_, Steps p.tables e below (T972.setTop (mkF m 109 #[.val (.int p0), .val (.int p1), .val (.int p2), .val (.int vcp216), .val (.int vat956), .val (.int v958), .val (.ref b959), .unset, .unset, .unset, .unset, .unset, .unset, .unset, .unset] [(.int vat956), (.ref b959), (.int vcp216)])) tg_ → Steps p.tables e below (s₁.setTop (entryFrame m #[(.int p0), (.int p1), (.int p2)] maxLocals)) tg_ := by
        intro tg_ kt
        refine k973 tg_ ?_
        refine XS.iloadN X972.here hx rfl (hb hby at_104) rfl ?_
        show Steps p.tables e below (T972.setTop (mkF m 105 #[.val (.int p0), .val (.int p1), .val (.int p2), .val (.int vcp216), .val (.int vat956), .val (.int v958), .val (.ref b959), .unset, .unset, .unset, .unset, .unset, .unset, .unset, .unset] [(.int vcp216)])) _
        refine XS.aload X972.here hx rfl (hb hby at_105) rfl rfl ?_
        show Steps p.tables e below (T972.setTop (mkF m 107 #[.val (.int p0), .val (.int p1), .val (.int p2), .val (.int vcp216), .val (.int vat956), .val (.int v958), .val (.ref b959), .unset, .unset, .unset, .unset, .unset, .unset, .unset, .unset] [(.ref b959), (.int vcp216)])) _
        refine XS.iload X972.here hx rfl (hb hby at_107) rfl ?_
        show Steps p.tables e below (T972.setTop (mkF m 109 #[.val (.int p0), .val (.int p1), .val (.int p2), .val (.int vcp216), .val (.int vat956), .val (.int v958), .val (.ref b959), .unset, .unset, .unset, .unset, .unset, .unset, .unset, .unset] [(.int vat956), (.ref b959), (.int vcp216)])) _
        exact kt
      by_cases hc109_982 : vcp216 < (128 : Int32)
      · have Lhc109_982 : vcp216.toInt < 128 := Int32.lt_iff_toInt_lt.mp hc109_982
        have f983 := (Nat.le_trans (Nat.le_trans (Nat.le_trans (Nat.le_trans (Nat.le_trans (Nat.le_trans (Nat.le_trans (Nat.le_trans (Nat.le_trans (Nat.le_trans (Nat.le_trans (Nat.le_trans (Nat.le_trans Z0 ((Keep.refl _ []).ext E959).1) (Keep.of_wr W960).1) (Keep.of_wr W961).1) (Keep.of_wr W962).1) (Keep.of_wr W963).1) (Keep.of_wr W964).1) (Keep.of_wr W966).1) (Keep.of_wr W967).1) (Keep.of_wr W968).1) (Keep.of_wr W969).1) (Keep.of_wr W970).1) (Keep.of_wr W971).1) (Keep.of_wr W972).1)
        obtain ⟨_, _, ⟨T984, L984, kc984, nc984⟩, -, X984, ⟨Lc984, hQ984, l984, y984, z984⟩, st984⟩ := Jvm.LawKit.callS X972 hx (y := (⟨"com/example/benzer/benzer/FeatureHash", "encode", "(I[BI)I"⟩ : MethodName)) hown (mvT hZ (hw _ (List.mem_of_getElem? (i := 4) rfl))) (mvT hZ (hw _ (List.mem_of_getElem? (i := 5) rfl))) (mvT hZ (hw _ (List.mem_of_getElem? (i := 6) rfl))) (mvT hZ (hw _ (List.mem_of_getElem? (i := 7) rfl))) (by decide) (backOf (W := 0) (rmenc1 l Z a0 hw [] vcp216 b959 vat956 k (fun _ => v958) h972 n0 f983 V974 ge_b959 hk hk7 hc109_982) hZ (hw _ (List.mem_of_getElem? (i := 7) rfl)) (hw _ (List.mem_of_getElem? (i := 6) rfl)) (by decide) (by decide)) (g := (mkF m 109 #[.val (.int p0), .val (.int p1), .val (.int p2), .val (.int vcp216), .val (.int vat956), .val (.int v958), .val (.ref b959), .unset, .unset, .unset, .unset, .unset, .unset, .unset, .unset] [(.int vat956), (.ref b959), (.int vcp216)])) rfl (by rw [hml]; rfl) (argsL := [(.int vcp216), (.ref b959), (.int vat956)]) (rest := []) (lenOf pd_0 rfl) rfl (by show 2 * 0 + _ ≤ _; exact Nat.le_of_eq rfl) (hb hby at_109) (fun _ _ => ⟨rfl, e972, (by decide : 1 + 0 ≤ _), (by decide : 12 + 0 ≤ _)⟩)
        dsimp only [Pt.U, Pt.locs, Pt.cells, Pt.slots] at X984 l984 y984 z984 st984 hQ984
        rw [l984, y984, z984] at X984
        replace X984 : Stand p l e room_1 s m #[(.int p0), (.int p1), (.int p2)] below meth c T984 _ 1 12 := X984
        obtain ⟨rfl, Nq984, oK984, oAa984⟩ := hQ984
        have N984 := Fr.app N972 Nq984
        have k985 : ∀ tg_, Steps p.tables e below (T984.setTop (mkF m 112 #[.val (.int p0), .val (.int p1), .val (.int p2), .val (.int vcp216), .val (.int vat956), .val (.int v958), .val (.ref b959), .unset, .unset, .unset, .unset, .unset, .unset, .unset, .unset] [(.int (vat956 + (1 : Int32)))])) tg_ → Steps p.tables e below (s₁.setTop (entryFrame m #[(.int p0), (.int p1), (.int p2)] maxLocals)) tg_ := by
          intro tg_ kt
          refine k981 tg_ ?_
          refine st984 _ ?_
          show Steps p.tables e below (T984.setTop (mkF m 112 #[.val (.int p0), .val (.int p1), .val (.int p2), .val (.int vcp216), .val (.int vat956), .val (.int v958), .val (.ref b959), .unset, .unset, .unset, .unset, .unset, .unset, .unset, .unset] [(.int (vat956 + (1 : Int32)))])) _
          exact kt
        obtain ⟨r986, hr986⟩ : ∃ z : Int32, z = (vat956 + (1 : Int32)) := ⟨_, rfl⟩
        rw [← hr986] at k985
        have k988 : ∀ tg_, Steps p.tables e below (T984.setTop (mkF m 114 #[.val (.int p0), .val (.int p1), .val (.int p2), .val (.int vcp216), .val (.int vat956), .val (.int v958), .val (.ref b959), .val (.int r986), .unset, .unset, .unset, .unset, .unset, .unset, .unset] [])) tg_ → Steps p.tables e below (s₁.setTop (entryFrame m #[(.int p0), (.int p1), (.int p2)] maxLocals)) tg_ := by
          intro tg_ kt
          refine k985 tg_ ?_
          show Steps p.tables e below (T984.setTop (mkF m 112 #[.val (.int p0), .val (.int p1), .val (.int p2), .val (.int vcp216), .val (.int vat956), .val (.int v958), .val (.ref b959), .unset, .unset, .unset, .unset, .unset, .unset, .unset, .unset] [(.int r986)])) _
          refine XS.istore X984.here hx rfl (hb hby at_112) rfl (l' := #[.val (.int p0), .val (.int p1), .val (.int p2), .val (.int vcp216), .val (.int vat956), .val (.int v958), .val (.ref b959), .val (.int r986), .unset, .unset, .unset, .unset, .unset, .unset, .unset]) rfl ?_
          show Steps p.tables e below (T984.setTop (mkF m 114 #[.val (.int p0), .val (.int p1), .val (.int p2), .val (.int vcp216), .val (.int vat956), .val (.int v958), .val (.ref b959), .val (.int r986), .unset, .unset, .unset, .unset, .unset, .unset, .unset] [])) _
          exact kt
        obtain ⟨g987, hg987⟩ : ∃ z : Nat → Int32, z = (own_upd (fun _ => v958) k ((vcp216.toInt8.toInt32).toInt8.toInt32)) := ⟨_, rfl⟩
        rw [← hg987] at oAa984
        have k989 : ∀ tg_, Steps p.tables e below (T984.setTop (mkF m 119 #[.val (.int p0), .val (.int p1), .val (.int p2), .val (.int vcp216), .val (.int vat956), .val (.int v958), .val (.ref b959), .val (.int r986), .unset, .unset, .unset, .unset, .unset, .unset, .unset] [(.int (r986 - vat956))])) tg_ → Steps p.tables e below (s₁.setTop (entryFrame m #[(.int p0), (.int p1), (.int p2)] maxLocals)) tg_ := by
          intro tg_ kt
          refine k988 tg_ ?_
          refine XS.iload X984.here hx rfl (hb hby at_114) rfl ?_
          show Steps p.tables e below (T984.setTop (mkF m 116 #[.val (.int p0), .val (.int p1), .val (.int p2), .val (.int vcp216), .val (.int vat956), .val (.int v958), .val (.ref b959), .val (.int r986), .unset, .unset, .unset, .unset, .unset, .unset, .unset] [(.int r986)])) _
          refine XS.iload X984.here hx rfl (hb hby at_116) rfl ?_
          show Steps p.tables e below (T984.setTop (mkF m 118 #[.val (.int p0), .val (.int p1), .val (.int p2), .val (.int vcp216), .val (.int vat956), .val (.int v958), .val (.ref b959), .val (.int r986), .unset, .unset, .unset, .unset, .unset, .unset, .unset] [(.int vat956), (.int r986)])) _
          refine XS.isub X984.here hx rfl (hb hby at_118) rfl ?_
          show Steps p.tables e below (T984.setTop (mkF m 119 #[.val (.int p0), .val (.int p1), .val (.int p2), .val (.int vcp216), .val (.int vat956), .val (.int v958), .val (.ref b959), .val (.int r986), .unset, .unset, .unset, .unset, .unset, .unset, .unset] [(.int (r986 - vat956))])) _
          exact kt
        obtain ⟨v990, hv990⟩ : ∃ z : Int32, z = (r986 - vat956) := ⟨_, rfl⟩
        rw [← hv990] at k989
        have hc124_1001 : ¬ (v990 < (1 : Int32)) := (by
            have ar991 := rng32 v990
            have ar992 := rng32 r986
            have ar993 := rng32 vat956
            have ar994 : (1 : Int32).toInt = 1 := by decide
            have ar995 := rng32 (vat956 + (1 : Int32))
            first | have ar996 : (vat956 + (1 : Int32)).toInt = vat956.toInt + 1 := (by have qw := c_iadd vat956 (1 : Int32); omega) | (have ar996 := c_iadd vat956 (1 : Int32); skip)
            have ar997 := congrArg Int32.toInt hr986
            have ar998 := rng32 (r986 - vat956)
            first | have ar999 : (r986 - vat956).toInt = r986.toInt - vat956.toInt := (by have qw := c_isub r986 vat956; omega) | (have ar999 := c_isub r986 vat956; skip)
            have ar1000 := congrArg Int32.toInt hv990
            exact fun qq_ => absurd (Int32.lt_iff_toInt_lt.mp qq_) (by omega))
        have hc130_1013 : ¬ ((4 : Int32) < v990) := (by
            have ar1002 : (4 : Int32).toInt = 4 := by decide
            have ar1003 := rng32 v990
            have ar1004 := rng32 r986
            have ar1005 := rng32 vat956
            have ar1006 : (1 : Int32).toInt = 1 := by decide
            have ar1007 := rng32 (vat956 + (1 : Int32))
            first | have ar1008 : (vat956 + (1 : Int32)).toInt = vat956.toInt + 1 := (by have qw := c_iadd vat956 (1 : Int32); omega) | (have ar1008 := c_iadd vat956 (1 : Int32); skip)
            have ar1009 := congrArg Int32.toInt hr986
            have ar1010 := rng32 (r986 - vat956)
            first | have ar1011 : (r986 - vat956).toInt = r986.toInt - vat956.toInt := (by have qw := c_isub r986 vat956; omega) | (have ar1011 := c_isub r986 vat956; skip)
            have ar1012 := congrArg Int32.toInt hv990
            exact fun qq_ => absurd (Int32.lt_iff_toInt_lt.mp qq_) (by omega))
        have k1014 : ∀ tg_, Steps p.tables e below (T984.setTop (mkF m 137 #[.val (.int p0), .val (.int p1), .val (.int p2), .val (.int vcp216), .val (.int vat956), .val (.int v958), .val (.ref b959), .val (.int r986), .val (.int v990), .unset, .unset, .unset, .unset, .unset, .unset] [(.int vat956)])) tg_ → Steps p.tables e below (s₁.setTop (entryFrame m #[(.int p0), (.int p1), (.int p2)] maxLocals)) tg_ := by
          intro tg_ kt
          refine k989 tg_ ?_
          refine XS.istore X984.here hx rfl (hb hby at_119) rfl (l' := #[.val (.int p0), .val (.int p1), .val (.int p2), .val (.int vcp216), .val (.int vat956), .val (.int v958), .val (.ref b959), .val (.int r986), .val (.int v990), .unset, .unset, .unset, .unset, .unset, .unset]) rfl ?_
          show Steps p.tables e below (T984.setTop (mkF m 121 #[.val (.int p0), .val (.int p1), .val (.int p2), .val (.int vcp216), .val (.int vat956), .val (.int v958), .val (.ref b959), .val (.int r986), .val (.int v990), .unset, .unset, .unset, .unset, .unset, .unset] [])) _
          refine XS.iload X984.here hx rfl (hb hby at_121) rfl ?_
          show Steps p.tables e below (T984.setTop (mkF m 123 #[.val (.int p0), .val (.int p1), .val (.int p2), .val (.int vcp216), .val (.int vat956), .val (.int v958), .val (.ref b959), .val (.int r986), .val (.int v990), .unset, .unset, .unset, .unset, .unset, .unset] [(.int v990)])) _
          refine XS.iconst X984.here hx rfl (hb hby at_123) ?_
          show Steps p.tables e below (T984.setTop (mkF m 124 #[.val (.int p0), .val (.int p1), .val (.int p2), .val (.int vcp216), .val (.int vat956), .val (.int v958), .val (.ref b959), .val (.int r986), .val (.int v990), .unset, .unset, .unset, .unset, .unset, .unset] [(.int (1 : Int32)), (.int v990)])) _
          refine XS.icmpNo X984.here hx rfl (hb hby at_124) rfl (flt hc124_1001).1 ?_
          show Steps p.tables e below (T984.setTop (mkF m 127 #[.val (.int p0), .val (.int p1), .val (.int p2), .val (.int vcp216), .val (.int vat956), .val (.int v958), .val (.ref b959), .val (.int r986), .val (.int v990), .unset, .unset, .unset, .unset, .unset, .unset] [])) _
          refine XS.iload X984.here hx rfl (hb hby at_127) rfl ?_
          show Steps p.tables e below (T984.setTop (mkF m 129 #[.val (.int p0), .val (.int p1), .val (.int p2), .val (.int vcp216), .val (.int vat956), .val (.int v958), .val (.ref b959), .val (.int r986), .val (.int v990), .unset, .unset, .unset, .unset, .unset, .unset] [(.int v990)])) _
          refine XS.iconst X984.here hx rfl (hb hby at_129) ?_
          show Steps p.tables e below (T984.setTop (mkF m 130 #[.val (.int p0), .val (.int p1), .val (.int p2), .val (.int vcp216), .val (.int vat956), .val (.int v958), .val (.ref b959), .val (.int r986), .val (.int v990), .unset, .unset, .unset, .unset, .unset, .unset] [(.int (4 : Int32)), (.int v990)])) _
          refine XS.icmpYes X984.here hx rfl (pc0 := 130) (pc' := 135) rfl (hb hby at_130) rfl (flt hc130_1013).2.2.2 (by decide) (by decide) ?_
          show Steps p.tables e below (T984.setTop (mkF m 135 #[.val (.int p0), .val (.int p1), .val (.int p2), .val (.int vcp216), .val (.int vat956), .val (.int v958), .val (.ref b959), .val (.int r986), .val (.int v990), .unset, .unset, .unset, .unset, .unset, .unset] [])) _
          refine XS.iload X984.here hx rfl (hb hby at_135) rfl ?_
          show Steps p.tables e below (T984.setTop (mkF m 137 #[.val (.int p0), .val (.int p1), .val (.int p2), .val (.int vcp216), .val (.int vat956), .val (.int v958), .val (.ref b959), .val (.int r986), .val (.int v990), .unset, .unset, .unset, .unset, .unset, .unset] [(.int vat956)])) _
          exact kt
        have k1028 : ∀ tg_, Steps p.tables e below (T984.setTop (mkF m 154 #[.val (.int p0), .val (.int p1), .val (.int p2), .val (.int vcp216), .val (.int vat956), .val (.int v958), .val (.ref b959), .val (.int r986), .val (.int v990), .unset, .unset, .unset, .unset, .unset, .unset] [])) tg_ → Steps p.tables e below (s₁.setTop (entryFrame m #[(.int p0), (.int p1), (.int p2)] maxLocals)) tg_ := by
          intro tg_ kt
          refine k1014 tg_ ?_
          by_cases hj137_1015 : (0 : Int32) < vat956
          · have hj1016 : (vat956 - (1 : Int32)).toInt = (((k - 1) : Nat) : Int) := by
              have ar1017 := rng32 vat956
              have ar1018 : (1 : Int32).toInt = 1 := by decide
              have ar1019 := rng32 (vat956 - (1 : Int32))
              first | have ar1020 : (vat956 - (1 : Int32)).toInt = vat956.toInt - 1 := (by have qw := c_isub vat956 (1 : Int32); omega) | (have ar1020 := c_isub vat956 (1 : Int32); skip)
              have ar1021 : (0 : Int32).toInt = 0 := by decide
              have ar1022 : (0 : Int32).toInt < vat956.toInt := Int32.lt_iff_toInt_lt.mp hj137_1015
              omega
            have hv1023 : g987 (k - 1) = v958 := by
              have hk1 : 1 ≤ k := by
                have ar1024 : (0 : Int32).toInt = 0 := by decide
                have ar1025 := rng32 vat956
                have ar1026 : (0 : Int32).toInt < vat956.toInt := Int32.lt_iff_toInt_lt.mp hj137_1015
                omega
              rw [hg987]; simp only [own_upd]
              rw [if_neg (by omega)]
            have hc149_1027 : v958 = v958 := rfl
            refine XS.ifNo X984.here hx rfl (hb hby at_137) rfl ((if0 _ _).trans (tlt hj137_1015).2.2.2) ?_
            show Steps p.tables e below (T984.setTop (mkF m 140 #[.val (.int p0), .val (.int p1), .val (.int p2), .val (.int vcp216), .val (.int vat956), .val (.int v958), .val (.ref b959), .val (.int r986), .val (.int v990), .unset, .unset, .unset, .unset, .unset, .unset] [])) _
            refine XS.aload X984.here hx rfl (hb hby at_140) rfl rfl ?_
            show Steps p.tables e below (T984.setTop (mkF m 142 #[.val (.int p0), .val (.int p1), .val (.int p2), .val (.int vcp216), .val (.int vat956), .val (.int v958), .val (.ref b959), .val (.int r986), .val (.int v990), .unset, .unset, .unset, .unset, .unset, .unset] [(.ref b959)])) _
            refine XS.iload X984.here hx rfl (hb hby at_142) rfl ?_
            show Steps p.tables e below (T984.setTop (mkF m 144 #[.val (.int p0), .val (.int p1), .val (.int p2), .val (.int vcp216), .val (.int vat956), .val (.int v958), .val (.ref b959), .val (.int r986), .val (.int v990), .unset, .unset, .unset, .unset, .unset, .unset] [(.int vat956), (.ref b959)])) _
            refine XS.iconst X984.here hx rfl (hb hby at_144) ?_
            show Steps p.tables e below (T984.setTop (mkF m 145 #[.val (.int p0), .val (.int p1), .val (.int p2), .val (.int vcp216), .val (.int vat956), .val (.int v958), .val (.ref b959), .val (.int r986), .val (.int v990), .unset, .unset, .unset, .unset, .unset, .unset] [(.int (1 : Int32)), (.int vat956), (.ref b959)])) _
            refine XS.isub X984.here hx rfl (hb hby at_145) rfl ?_
            show Steps p.tables e below (T984.setTop (mkF m 146 #[.val (.int p0), .val (.int p1), .val (.int p2), .val (.int vcp216), .val (.int vat956), .val (.int v958), .val (.ref b959), .val (.int r986), .val (.int v990), .unset, .unset, .unset, .unset, .unset, .unset] [(.int (vat956 - (1 : Int32))), (.ref b959)])) _
            refine own_ldB X984 hx hZ rfl oAa984 (i := (k - 1)) hj1016 (by omega) hv1023 (g := (mkF m 146 #[.val (.int p0), .val (.int p1), .val (.int p2), .val (.int vcp216), .val (.int vat956), .val (.int v958), .val (.ref b959), .val (.int r986), .val (.int v990), .unset, .unset, .unset, .unset, .unset, .unset] [(.int (vat956 - (1 : Int32))), (.ref b959)])) rfl rfl (hb hby at_146) _ ?_
            show Steps p.tables e below (T984.setTop (mkF m 147 #[.val (.int p0), .val (.int p1), .val (.int p2), .val (.int vcp216), .val (.int vat956), .val (.int v958), .val (.ref b959), .val (.int r986), .val (.int v990), .unset, .unset, .unset, .unset, .unset, .unset] [(.int v958)])) _
            refine XS.iload X984.here hx rfl (hb hby at_147) rfl ?_
            show Steps p.tables e below (T984.setTop (mkF m 149 #[.val (.int p0), .val (.int p1), .val (.int p2), .val (.int vcp216), .val (.int vat956), .val (.int v958), .val (.ref b959), .val (.int r986), .val (.int v990), .unset, .unset, .unset, .unset, .unset, .unset] [(.int v958), (.int v958)])) _
            refine XS.icmpYes X984.here hx rfl (pc0 := 149) (pc' := 154) rfl (hb hby at_149) rfl (teq hc149_1027).1 (by decide) (by decide) ?_
            show Steps p.tables e below (T984.setTop (mkF m 154 #[.val (.int p0), .val (.int p1), .val (.int p2), .val (.int vcp216), .val (.int vat956), .val (.int v958), .val (.ref b959), .val (.int r986), .val (.int v990), .unset, .unset, .unset, .unset, .unset, .unset] [])) _
            simpa only [if_pos hj137_1015] using kt
          · refine XS.ifYes X984.here hx rfl (pc0 := 137) (pc' := 154) rfl (hb hby at_137) rfl ((if0 _ _).trans (flt hj137_1015).2.2.2) (by decide) (by decide) ?_
            show Steps p.tables e below (T984.setTop (mkF m 154 #[.val (.int p0), .val (.int p1), .val (.int p2), .val (.int vcp216), .val (.int vat956), .val (.int v958), .val (.ref b959), .val (.int r986), .val (.int v990), .unset, .unset, .unset, .unset, .unset, .unset] [])) _
            simpa only [if_neg hj137_1015] using kt
        have hj1029 : r986.toInt = (((k + 1) : Nat) : Int) := by
          have ar1030 := rng32 r986
          have ar1031 := rng32 vat956
          have ar1032 : (1 : Int32).toInt = 1 := by decide
          have ar1033 := rng32 (vat956 + (1 : Int32))
          first | have ar1034 : (vat956 + (1 : Int32)).toInt = vat956.toInt + 1 := (by have qw := c_iadd vat956 (1 : Int32); omega) | (have ar1034 := c_iadd vat956 (1 : Int32); skip)
          have ar1035 := congrArg Int32.toInt hr986
          omega
        have hv1036 : g987 (k + 1) = v958 := by
          rw [hg987]; simp only [own_upd]
          rw [if_neg (by omega)]
        have hc161_1037 : v958 = v958 := rfl
        have hj1038 : vat956.toInt = ((k : Nat) : Int) := by
          have ar1039 := rng32 vat956
          omega
        have hv1040 : g987 k = ((vcp216.toInt8.toInt32).toInt8.toInt32) := by
          rw [hg987]; simp only [own_upd]
          rw [if_pos (by omega)]
        have k1041 : ∀ tg_, Steps p.tables e below (T984.setTop (mkF m 175 #[.val (.int p0), .val (.int p1), .val (.int p2), .val (.int vcp216), .val (.int vat956), .val (.int v958), .val (.ref b959), .val (.int r986), .val (.int v990), .unset, .unset, .unset, .unset, .unset, .unset] [(.int (((vcp216.toInt8.toInt32).toInt8.toInt32) &&& (255 : Int32)))])) tg_ → Steps p.tables e below (s₁.setTop (entryFrame m #[(.int p0), (.int p1), (.int p2)] maxLocals)) tg_ := by
          intro tg_ kt
          refine k1028 tg_ ?_
          refine XS.aload X984.here hx rfl (hb hby at_154) rfl rfl ?_
          show Steps p.tables e below (T984.setTop (mkF m 156 #[.val (.int p0), .val (.int p1), .val (.int p2), .val (.int vcp216), .val (.int vat956), .val (.int v958), .val (.ref b959), .val (.int r986), .val (.int v990), .unset, .unset, .unset, .unset, .unset, .unset] [(.ref b959)])) _
          refine XS.iload X984.here hx rfl (hb hby at_156) rfl ?_
          show Steps p.tables e below (T984.setTop (mkF m 158 #[.val (.int p0), .val (.int p1), .val (.int p2), .val (.int vcp216), .val (.int vat956), .val (.int v958), .val (.ref b959), .val (.int r986), .val (.int v990), .unset, .unset, .unset, .unset, .unset, .unset] [(.int r986), (.ref b959)])) _
          refine own_ldB X984 hx hZ rfl oAa984 (i := (k + 1)) hj1029 (by omega) hv1036 (g := (mkF m 158 #[.val (.int p0), .val (.int p1), .val (.int p2), .val (.int vcp216), .val (.int vat956), .val (.int v958), .val (.ref b959), .val (.int r986), .val (.int v990), .unset, .unset, .unset, .unset, .unset, .unset] [(.int r986), (.ref b959)])) rfl rfl (hb hby at_158) _ ?_
          show Steps p.tables e below (T984.setTop (mkF m 159 #[.val (.int p0), .val (.int p1), .val (.int p2), .val (.int vcp216), .val (.int vat956), .val (.int v958), .val (.ref b959), .val (.int r986), .val (.int v990), .unset, .unset, .unset, .unset, .unset, .unset] [(.int v958)])) _
          refine XS.iload X984.here hx rfl (hb hby at_159) rfl ?_
          show Steps p.tables e below (T984.setTop (mkF m 161 #[.val (.int p0), .val (.int p1), .val (.int p2), .val (.int vcp216), .val (.int vat956), .val (.int v958), .val (.ref b959), .val (.int r986), .val (.int v990), .unset, .unset, .unset, .unset, .unset, .unset] [(.int v958), (.int v958)])) _
          refine XS.icmpYes X984.here hx rfl (pc0 := 161) (pc' := 166) rfl (hb hby at_161) rfl (teq hc161_1037).1 (by decide) (by decide) ?_
          show Steps p.tables e below (T984.setTop (mkF m 166 #[.val (.int p0), .val (.int p1), .val (.int p2), .val (.int vcp216), .val (.int vat956), .val (.int v958), .val (.ref b959), .val (.int r986), .val (.int v990), .unset, .unset, .unset, .unset, .unset, .unset] [])) _
          refine XS.aload X984.here hx rfl (hb hby at_166) rfl rfl ?_
          show Steps p.tables e below (T984.setTop (mkF m 168 #[.val (.int p0), .val (.int p1), .val (.int p2), .val (.int vcp216), .val (.int vat956), .val (.int v958), .val (.ref b959), .val (.int r986), .val (.int v990), .unset, .unset, .unset, .unset, .unset, .unset] [(.ref b959)])) _
          refine XS.iload X984.here hx rfl (hb hby at_168) rfl ?_
          show Steps p.tables e below (T984.setTop (mkF m 170 #[.val (.int p0), .val (.int p1), .val (.int p2), .val (.int vcp216), .val (.int vat956), .val (.int v958), .val (.ref b959), .val (.int r986), .val (.int v990), .unset, .unset, .unset, .unset, .unset, .unset] [(.int vat956), (.ref b959)])) _
          refine own_ldB X984 hx hZ rfl oAa984 (i := k) hj1038 (by omega) hv1040 (g := (mkF m 170 #[.val (.int p0), .val (.int p1), .val (.int p2), .val (.int vcp216), .val (.int vat956), .val (.int v958), .val (.ref b959), .val (.int r986), .val (.int v990), .unset, .unset, .unset, .unset, .unset, .unset] [(.int vat956), (.ref b959)])) rfl rfl (hb hby at_170) _ ?_
          show Steps p.tables e below (T984.setTop (mkF m 171 #[.val (.int p0), .val (.int p1), .val (.int p2), .val (.int vcp216), .val (.int vat956), .val (.int v958), .val (.ref b959), .val (.int r986), .val (.int v990), .unset, .unset, .unset, .unset, .unset, .unset] [(.int ((vcp216.toInt8.toInt32).toInt8.toInt32))])) _
          refine XS.sipush X984.here hx rfl (hb hby at_171) ?_
          show Steps p.tables e below (T984.setTop (mkF m 174 #[.val (.int p0), .val (.int p1), .val (.int p2), .val (.int vcp216), .val (.int vat956), .val (.int v958), .val (.ref b959), .val (.int r986), .val (.int v990), .unset, .unset, .unset, .unset, .unset, .unset] [(.int (255 : Int32)), (.int ((vcp216.toInt8.toInt32).toInt8.toInt32))])) _
          refine XS.iand X984.here hx rfl (hb hby at_174) rfl ?_
          show Steps p.tables e below (T984.setTop (mkF m 175 #[.val (.int p0), .val (.int p1), .val (.int p2), .val (.int vcp216), .val (.int vat956), .val (.int v958), .val (.ref b959), .val (.int r986), .val (.int v990), .unset, .unset, .unset, .unset, .unset, .unset] [(.int (((vcp216.toInt8.toInt32).toInt8.toInt32) &&& (255 : Int32)))])) _
          exact kt
        obtain ⟨vb1042, hvb1042⟩ : ∃ z : Int32, z = (((vcp216.toInt8.toInt32).toInt8.toInt32) &&& (255 : Int32)) := ⟨_, rfl⟩
        rw [← hvb1042] at k1041
        have k1043 : ∀ tg_, Steps p.tables e below (T984.setTop (mkF m 177 #[.val (.int p0), .val (.int p1), .val (.int p2), .val (.int vcp216), .val (.int vat956), .val (.int v958), .val (.ref b959), .val (.int r986), .val (.int v990), .val (.int vb1042), .unset, .unset, .unset, .unset, .unset] [])) tg_ → Steps p.tables e below (s₁.setTop (entryFrame m #[(.int p0), (.int p1), (.int p2)] maxLocals)) tg_ := by
          intro tg_ kt
          refine k1041 tg_ ?_
          refine XS.istore X984.here hx rfl (hb hby at_175) rfl (l' := #[.val (.int p0), .val (.int p1), .val (.int p2), .val (.int vcp216), .val (.int vat956), .val (.int v958), .val (.ref b959), .val (.int r986), .val (.int v990), .val (.int vb1042), .unset, .unset, .unset, .unset, .unset]) rfl ?_
          show Steps p.tables e below (T984.setTop (mkF m 177 #[.val (.int p0), .val (.int p1), .val (.int p2), .val (.int vcp216), .val (.int vat956), .val (.int v958), .val (.ref b959), .val (.int r986), .val (.int v990), .val (.int vb1042), .unset, .unset, .unset, .unset, .unset] [])) _
          exact kt
        have hbv_vb1042 : vb1042.toInt = vcp216.toInt := by rw [hvb1042]; exact own_e1_0 vcp216 (by omega) (by omega)
        have hc180_1054 : v990 = (1 : Int32) := (by
            have ar1044 := rng32 v990
            have ar1045 := rng32 r986
            have ar1046 := rng32 vat956
            have ar1047 : (1 : Int32).toInt = 1 := by decide
            have ar1048 := rng32 (vat956 + (1 : Int32))
            first | have ar1049 : (vat956 + (1 : Int32)).toInt = vat956.toInt + 1 := (by have qw := c_iadd vat956 (1 : Int32); omega) | (have ar1049 := c_iadd vat956 (1 : Int32); skip)
            have ar1050 := congrArg Int32.toInt hr986
            have ar1051 := rng32 (r986 - vat956)
            first | have ar1052 : (r986 - vat956).toInt = r986.toInt - vat956.toInt := (by have qw := c_isub r986 vat956; omega) | (have ar1052 := c_isub r986 vat956; skip)
            have ar1053 := congrArg Int32.toInt hv990
            exact Int32.toInt_inj.mp (by omega))
        have hc188_1057 : vb1042 < (128 : Int32) := (by
            have ar1055 := rng32 vb1042
            have ar1056 : (128 : Int32).toInt = 128 := by decide
            exact Int32.lt_iff_toInt_lt.mpr (by omega))
        have hc437_1060 : ¬ (vb1042 < (0 : Int32)) := (by
            have ar1058 := rng32 vb1042
            have ar1059 : (0 : Int32).toInt = 0 := by decide
            exact fun qq_ => absurd (Int32.lt_iff_toInt_lt.mp qq_) (by omega))
        have hc443_1063 : vb1042 = vcp216 := (by
            have ar1061 := rng32 vb1042
            have ar1062 := rng32 vcp216
            exact Int32.toInt_inj.mp (by omega))
        have k1064 : ∀ tg_, Steps p.tables e below (T984.setTop (mkF m 451 #[.val (.int p0), .val (.int p1), .val (.int p2), .val (.int vcp216), .val (.int vat956), .val (.int v958), .val (.ref b959), .val (.int r986), .val (.int v990), .val (.int vb1042), .val (.int vb1042), .val (.int (0 : Int32)), .unset, .unset, .unset] [(.int (1 : Int32))])) tg_ → Steps p.tables e below (s₁.setTop (entryFrame m #[(.int p0), (.int p1), (.int p2)] maxLocals)) tg_ := by
          intro tg_ kt
          refine k1043 tg_ ?_
          refine XS.iload X984.here hx rfl (hb hby at_177) rfl ?_
          show Steps p.tables e below (T984.setTop (mkF m 179 #[.val (.int p0), .val (.int p1), .val (.int p2), .val (.int vcp216), .val (.int vat956), .val (.int v958), .val (.ref b959), .val (.int r986), .val (.int v990), .val (.int vb1042), .unset, .unset, .unset, .unset, .unset] [(.int v990)])) _
          refine XS.iconst X984.here hx rfl (hb hby at_179) ?_
          show Steps p.tables e below (T984.setTop (mkF m 180 #[.val (.int p0), .val (.int p1), .val (.int p2), .val (.int vcp216), .val (.int vat956), .val (.int v958), .val (.ref b959), .val (.int r986), .val (.int v990), .val (.int vb1042), .unset, .unset, .unset, .unset, .unset] [(.int (1 : Int32)), (.int v990)])) _
          refine XS.icmpNo X984.here hx rfl (hb hby at_180) rfl (teq hc180_1054).2 ?_
          show Steps p.tables e below (T984.setTop (mkF m 183 #[.val (.int p0), .val (.int p1), .val (.int p2), .val (.int vcp216), .val (.int vat956), .val (.int v958), .val (.ref b959), .val (.int r986), .val (.int v990), .val (.int vb1042), .unset, .unset, .unset, .unset, .unset] [])) _
          refine XS.iload X984.here hx rfl (hb hby at_183) rfl ?_
          show Steps p.tables e below (T984.setTop (mkF m 185 #[.val (.int p0), .val (.int p1), .val (.int p2), .val (.int vcp216), .val (.int vat956), .val (.int v958), .val (.ref b959), .val (.int r986), .val (.int v990), .val (.int vb1042), .unset, .unset, .unset, .unset, .unset] [(.int vb1042)])) _
          refine XS.sipush X984.here hx rfl (hb hby at_185) ?_
          show Steps p.tables e below (T984.setTop (mkF m 188 #[.val (.int p0), .val (.int p1), .val (.int p2), .val (.int vcp216), .val (.int vat956), .val (.int v958), .val (.ref b959), .val (.int r986), .val (.int v990), .val (.int vb1042), .unset, .unset, .unset, .unset, .unset] [(.int (128 : Int32)), (.int vb1042)])) _
          refine XS.icmpYes X984.here hx rfl (pc0 := 188) (pc' := 193) rfl (hb hby at_188) rfl (tlt hc188_1057).1 (by decide) (by decide) ?_
          show Steps p.tables e below (T984.setTop (mkF m 193 #[.val (.int p0), .val (.int p1), .val (.int p2), .val (.int vcp216), .val (.int vat956), .val (.int v958), .val (.ref b959), .val (.int r986), .val (.int v990), .val (.int vb1042), .unset, .unset, .unset, .unset, .unset] [])) _
          refine XS.iload X984.here hx rfl (hb hby at_193) rfl ?_
          show Steps p.tables e below (T984.setTop (mkF m 195 #[.val (.int p0), .val (.int p1), .val (.int p2), .val (.int vcp216), .val (.int vat956), .val (.int v958), .val (.ref b959), .val (.int r986), .val (.int v990), .val (.int vb1042), .unset, .unset, .unset, .unset, .unset] [(.int vb1042)])) _
          refine XS.istore X984.here hx rfl (hb hby at_195) rfl (l' := #[.val (.int p0), .val (.int p1), .val (.int p2), .val (.int vcp216), .val (.int vat956), .val (.int v958), .val (.ref b959), .val (.int r986), .val (.int v990), .val (.int vb1042), .val (.int vb1042), .unset, .unset, .unset, .unset]) rfl ?_
          show Steps p.tables e below (T984.setTop (mkF m 197 #[.val (.int p0), .val (.int p1), .val (.int p2), .val (.int vcp216), .val (.int vat956), .val (.int v958), .val (.ref b959), .val (.int r986), .val (.int v990), .val (.int vb1042), .val (.int vb1042), .unset, .unset, .unset, .unset] [])) _
          refine XS.iconst X984.here hx rfl (hb hby at_197) ?_
          show Steps p.tables e below (T984.setTop (mkF m 198 #[.val (.int p0), .val (.int p1), .val (.int p2), .val (.int vcp216), .val (.int vat956), .val (.int v958), .val (.ref b959), .val (.int r986), .val (.int v990), .val (.int vb1042), .val (.int vb1042), .unset, .unset, .unset, .unset] [(.int (0 : Int32))])) _
          refine XS.istore X984.here hx rfl (hb hby at_198) rfl (l' := #[.val (.int p0), .val (.int p1), .val (.int p2), .val (.int vcp216), .val (.int vat956), .val (.int v958), .val (.ref b959), .val (.int r986), .val (.int v990), .val (.int vb1042), .val (.int vb1042), .val (.int (0 : Int32)), .unset, .unset, .unset]) rfl ?_
          show Steps p.tables e below (T984.setTop (mkF m 200 #[.val (.int p0), .val (.int p1), .val (.int p2), .val (.int vcp216), .val (.int vat956), .val (.int v958), .val (.ref b959), .val (.int r986), .val (.int v990), .val (.int vb1042), .val (.int vb1042), .val (.int (0 : Int32)), .unset, .unset, .unset] [])) _
          refine XS.goto X984.here hx rfl (pc0 := 200) (pc' := 433) rfl (hb hby at_200) (by decide) (by decide) ?_
          show Steps p.tables e below (T984.setTop (mkF m 433 #[.val (.int p0), .val (.int p1), .val (.int p2), .val (.int vcp216), .val (.int vat956), .val (.int v958), .val (.ref b959), .val (.int r986), .val (.int v990), .val (.int vb1042), .val (.int vb1042), .val (.int (0 : Int32)), .unset, .unset, .unset] [])) _
          refine XS.iload X984.here hx rfl (hb hby at_433) rfl ?_
          show Steps p.tables e below (T984.setTop (mkF m 435 #[.val (.int p0), .val (.int p1), .val (.int p2), .val (.int vcp216), .val (.int vat956), .val (.int v958), .val (.ref b959), .val (.int r986), .val (.int v990), .val (.int vb1042), .val (.int vb1042), .val (.int (0 : Int32)), .unset, .unset, .unset] [(.int vb1042)])) _
          refine XS.iload X984.here hx rfl (hb hby at_435) rfl ?_
          show Steps p.tables e below (T984.setTop (mkF m 437 #[.val (.int p0), .val (.int p1), .val (.int p2), .val (.int vcp216), .val (.int vat956), .val (.int v958), .val (.ref b959), .val (.int r986), .val (.int v990), .val (.int vb1042), .val (.int vb1042), .val (.int (0 : Int32)), .unset, .unset, .unset] [(.int (0 : Int32)), (.int vb1042)])) _
          refine XS.icmpNo X984.here hx rfl (hb hby at_437) rfl (flt hc437_1060).1 ?_
          show Steps p.tables e below (T984.setTop (mkF m 440 #[.val (.int p0), .val (.int p1), .val (.int p2), .val (.int vcp216), .val (.int vat956), .val (.int v958), .val (.ref b959), .val (.int r986), .val (.int v990), .val (.int vb1042), .val (.int vb1042), .val (.int (0 : Int32)), .unset, .unset, .unset] [])) _
          refine XS.iload X984.here hx rfl (hb hby at_440) rfl ?_
          show Steps p.tables e below (T984.setTop (mkF m 442 #[.val (.int p0), .val (.int p1), .val (.int p2), .val (.int vcp216), .val (.int vat956), .val (.int v958), .val (.ref b959), .val (.int r986), .val (.int v990), .val (.int vb1042), .val (.int vb1042), .val (.int (0 : Int32)), .unset, .unset, .unset] [(.int vb1042)])) _
          refine XS.iloadN X984.here hx rfl (hb hby at_442) rfl ?_
          show Steps p.tables e below (T984.setTop (mkF m 443 #[.val (.int p0), .val (.int p1), .val (.int p2), .val (.int vcp216), .val (.int vat956), .val (.int v958), .val (.ref b959), .val (.int r986), .val (.int v990), .val (.int vb1042), .val (.int vb1042), .val (.int (0 : Int32)), .unset, .unset, .unset] [(.int vcp216), (.int vb1042)])) _
          refine XS.icmpNo X984.here hx rfl (hb hby at_443) rfl (teq hc443_1063).2 ?_
          show Steps p.tables e below (T984.setTop (mkF m 446 #[.val (.int p0), .val (.int p1), .val (.int p2), .val (.int vcp216), .val (.int vat956), .val (.int v958), .val (.ref b959), .val (.int r986), .val (.int v990), .val (.int vb1042), .val (.int vb1042), .val (.int (0 : Int32)), .unset, .unset, .unset] [])) _
          refine XS.iconst X984.here hx rfl (hb hby at_446) ?_
          show Steps p.tables e below (T984.setTop (mkF m 447 #[.val (.int p0), .val (.int p1), .val (.int p2), .val (.int vcp216), .val (.int vat956), .val (.int v958), .val (.ref b959), .val (.int r986), .val (.int v990), .val (.int vb1042), .val (.int vb1042), .val (.int (0 : Int32)), .unset, .unset, .unset] [(.int (1 : Int32))])) _
          refine XS.goto X984.here hx rfl (pc0 := 447) (pc' := 451) rfl (hb hby at_447) (by decide) (by decide) ?_
          show Steps p.tables e below (T984.setTop (mkF m 451 #[.val (.int p0), .val (.int p1), .val (.int p2), .val (.int vcp216), .val (.int vat956), .val (.int v958), .val (.ref b959), .val (.int r986), .val (.int v990), .val (.int vb1042), .val (.int vb1042), .val (.int (0 : Int32)), .unset, .unset, .unset] [(.int (1 : Int32))])) _
          exact kt
        obtain ⟨fs, hr, hrun, hended, hW, hsame⟩ := X984.leave (v := some (.int (1 : Int32))) (fun h => by rw [Bd.returns] at h; cases h)
        refine ⟨_, _, k1064 _ (retN X984 hx (t := .boolean) Bd.returns (by simp) (hb hby at_451) hr), hrun, hended, _, _, rfl, ?_, ⟨_, rfl⟩, hW, hsame.mono (by decide) (by decide)⟩
        show Q0 Z p0 p1 p2 h0 n0 _ T984.heap _
        exact ⟨rfl, N984⟩
      · by_cases hc109_1065 : vcp216 < (2048 : Int32)
        · have Lhc109_982 : ¬ (vcp216.toInt < 128) := fun q => hc109_982 (Int32.lt_iff_toInt_lt.mpr q)
          have Lhc109_1065 : vcp216.toInt < 2048 := Int32.lt_iff_toInt_lt.mp hc109_1065
          have f1066 := (Nat.le_trans (Nat.le_trans (Nat.le_trans (Nat.le_trans (Nat.le_trans (Nat.le_trans (Nat.le_trans (Nat.le_trans (Nat.le_trans (Nat.le_trans (Nat.le_trans (Nat.le_trans (Nat.le_trans Z0 ((Keep.refl _ []).ext E959).1) (Keep.of_wr W960).1) (Keep.of_wr W961).1) (Keep.of_wr W962).1) (Keep.of_wr W963).1) (Keep.of_wr W964).1) (Keep.of_wr W966).1) (Keep.of_wr W967).1) (Keep.of_wr W968).1) (Keep.of_wr W969).1) (Keep.of_wr W970).1) (Keep.of_wr W971).1) (Keep.of_wr W972).1)
          obtain ⟨_, _, ⟨T1067, L1067, kc1067, nc1067⟩, -, X1067, ⟨Lc1067, hQ1067, l1067, y1067, z1067⟩, st1067⟩ := Jvm.LawKit.callS X972 hx (y := (⟨"com/example/benzer/benzer/FeatureHash", "encode", "(I[BI)I"⟩ : MethodName)) hown (mvT hZ (hw _ (List.mem_of_getElem? (i := 4) rfl))) (mvT hZ (hw _ (List.mem_of_getElem? (i := 5) rfl))) (mvT hZ (hw _ (List.mem_of_getElem? (i := 6) rfl))) (mvT hZ (hw _ (List.mem_of_getElem? (i := 7) rfl))) (by decide) (backOf (W := 0) (rmenc2 l Z a0 hw [] vcp216 b959 vat956 k (fun _ => v958) h972 n0 f1066 V974 ge_b959 hk hk7 hc109_982 hc109_1065) hZ (hw _ (List.mem_of_getElem? (i := 7) rfl)) (hw _ (List.mem_of_getElem? (i := 6) rfl)) (by decide) (by decide)) (g := (mkF m 109 #[.val (.int p0), .val (.int p1), .val (.int p2), .val (.int vcp216), .val (.int vat956), .val (.int v958), .val (.ref b959), .unset, .unset, .unset, .unset, .unset, .unset, .unset, .unset] [(.int vat956), (.ref b959), (.int vcp216)])) rfl (by rw [hml]; rfl) (argsL := [(.int vcp216), (.ref b959), (.int vat956)]) (rest := []) (lenOf pd_0 rfl) rfl (by show 2 * 0 + _ ≤ _; exact Nat.le_of_eq rfl) (hb hby at_109) (fun _ _ => ⟨rfl, e972, (by decide : 1 + 0 ≤ _), (by decide : 12 + 0 ≤ _)⟩)
          dsimp only [Pt.U, Pt.locs, Pt.cells, Pt.slots] at X1067 l1067 y1067 z1067 st1067 hQ1067
          rw [l1067, y1067, z1067] at X1067
          replace X1067 : Stand p l e room_1 s m #[(.int p0), (.int p1), (.int p2)] below meth c T1067 _ 1 12 := X1067
          obtain ⟨rfl, Nq1067, oK1067, oAa1067⟩ := hQ1067
          have N1067 := Fr.app N972 Nq1067
          have k1068 : ∀ tg_, Steps p.tables e below (T1067.setTop (mkF m 112 #[.val (.int p0), .val (.int p1), .val (.int p2), .val (.int vcp216), .val (.int vat956), .val (.int v958), .val (.ref b959), .unset, .unset, .unset, .unset, .unset, .unset, .unset, .unset] [(.int ((vat956 + (1 : Int32)) + (1 : Int32)))])) tg_ → Steps p.tables e below (s₁.setTop (entryFrame m #[(.int p0), (.int p1), (.int p2)] maxLocals)) tg_ := by
            intro tg_ kt
            refine k981 tg_ ?_
            refine st1067 _ ?_
            show Steps p.tables e below (T1067.setTop (mkF m 112 #[.val (.int p0), .val (.int p1), .val (.int p2), .val (.int vcp216), .val (.int vat956), .val (.int v958), .val (.ref b959), .unset, .unset, .unset, .unset, .unset, .unset, .unset, .unset] [(.int ((vat956 + (1 : Int32)) + (1 : Int32)))])) _
            exact kt
          obtain ⟨r1069, hr1069⟩ : ∃ z : Int32, z = ((vat956 + (1 : Int32)) + (1 : Int32)) := ⟨_, rfl⟩
          rw [← hr1069] at k1068
          have k1071 : ∀ tg_, Steps p.tables e below (T1067.setTop (mkF m 114 #[.val (.int p0), .val (.int p1), .val (.int p2), .val (.int vcp216), .val (.int vat956), .val (.int v958), .val (.ref b959), .val (.int r1069), .unset, .unset, .unset, .unset, .unset, .unset, .unset] [])) tg_ → Steps p.tables e below (s₁.setTop (entryFrame m #[(.int p0), (.int p1), (.int p2)] maxLocals)) tg_ := by
            intro tg_ kt
            refine k1068 tg_ ?_
            show Steps p.tables e below (T1067.setTop (mkF m 112 #[.val (.int p0), .val (.int p1), .val (.int p2), .val (.int vcp216), .val (.int vat956), .val (.int v958), .val (.ref b959), .unset, .unset, .unset, .unset, .unset, .unset, .unset, .unset] [(.int r1069)])) _
            refine XS.istore X1067.here hx rfl (hb hby at_112) rfl (l' := #[.val (.int p0), .val (.int p1), .val (.int p2), .val (.int vcp216), .val (.int vat956), .val (.int v958), .val (.ref b959), .val (.int r1069), .unset, .unset, .unset, .unset, .unset, .unset, .unset]) rfl ?_
            show Steps p.tables e below (T1067.setTop (mkF m 114 #[.val (.int p0), .val (.int p1), .val (.int p2), .val (.int vcp216), .val (.int vat956), .val (.int v958), .val (.ref b959), .val (.int r1069), .unset, .unset, .unset, .unset, .unset, .unset, .unset] [])) _
            exact kt
          obtain ⟨g1070, hg1070⟩ : ∃ z : Nat → Int32, z = (own_upd (own_upd (fun _ => v958) k ((((192 : Int32) ||| ((vcp216.toUInt32 >>> ((6 : Int32) &&& 31).toUInt32).toInt32)).toInt8.toInt32).toInt8.toInt32)) (k + 1) ((((128 : Int32) ||| (vcp216 &&& (63 : Int32))).toInt8.toInt32).toInt8.toInt32)) := ⟨_, rfl⟩
          rw [← hg1070] at oAa1067
          have k1072 : ∀ tg_, Steps p.tables e below (T1067.setTop (mkF m 119 #[.val (.int p0), .val (.int p1), .val (.int p2), .val (.int vcp216), .val (.int vat956), .val (.int v958), .val (.ref b959), .val (.int r1069), .unset, .unset, .unset, .unset, .unset, .unset, .unset] [(.int (r1069 - vat956))])) tg_ → Steps p.tables e below (s₁.setTop (entryFrame m #[(.int p0), (.int p1), (.int p2)] maxLocals)) tg_ := by
            intro tg_ kt
            refine k1071 tg_ ?_
            refine XS.iload X1067.here hx rfl (hb hby at_114) rfl ?_
            show Steps p.tables e below (T1067.setTop (mkF m 116 #[.val (.int p0), .val (.int p1), .val (.int p2), .val (.int vcp216), .val (.int vat956), .val (.int v958), .val (.ref b959), .val (.int r1069), .unset, .unset, .unset, .unset, .unset, .unset, .unset] [(.int r1069)])) _
            refine XS.iload X1067.here hx rfl (hb hby at_116) rfl ?_
            show Steps p.tables e below (T1067.setTop (mkF m 118 #[.val (.int p0), .val (.int p1), .val (.int p2), .val (.int vcp216), .val (.int vat956), .val (.int v958), .val (.ref b959), .val (.int r1069), .unset, .unset, .unset, .unset, .unset, .unset, .unset] [(.int vat956), (.int r1069)])) _
            refine XS.isub X1067.here hx rfl (hb hby at_118) rfl ?_
            show Steps p.tables e below (T1067.setTop (mkF m 119 #[.val (.int p0), .val (.int p1), .val (.int p2), .val (.int vcp216), .val (.int vat956), .val (.int v958), .val (.ref b959), .val (.int r1069), .unset, .unset, .unset, .unset, .unset, .unset, .unset] [(.int (r1069 - vat956))])) _
            exact kt
          obtain ⟨v1073, hv1073⟩ : ∃ z : Int32, z = (r1069 - vat956) := ⟨_, rfl⟩
          rw [← hv1073] at k1072
          have hc124_1086 : ¬ (v1073 < (1 : Int32)) := (by
              have ar1074 := rng32 v1073
              have ar1075 := rng32 r1069
              have ar1076 := rng32 vat956
              have ar1077 : (1 : Int32).toInt = 1 := by decide
              have ar1078 := rng32 (vat956 + (1 : Int32))
              first | have ar1079 : (vat956 + (1 : Int32)).toInt = vat956.toInt + 1 := (by have qw := c_iadd vat956 (1 : Int32); omega) | (have ar1079 := c_iadd vat956 (1 : Int32); skip)
              have ar1080 := rng32 ((vat956 + (1 : Int32)) + (1 : Int32))
              first | have ar1081 : ((vat956 + (1 : Int32)) + (1 : Int32)).toInt = (vat956 + (1 : Int32)).toInt + 1 := (by have qw := c_iadd (vat956 + (1 : Int32)) (1 : Int32); omega) | (have ar1081 := c_iadd (vat956 + (1 : Int32)) (1 : Int32); skip)
              have ar1082 := congrArg Int32.toInt hr1069
              have ar1083 := rng32 (r1069 - vat956)
              first | have ar1084 : (r1069 - vat956).toInt = r1069.toInt - vat956.toInt := (by have qw := c_isub r1069 vat956; omega) | (have ar1084 := c_isub r1069 vat956; skip)
              have ar1085 := congrArg Int32.toInt hv1073
              exact fun qq_ => absurd (Int32.lt_iff_toInt_lt.mp qq_) (by omega))
          have hc130_1100 : ¬ ((4 : Int32) < v1073) := (by
              have ar1087 : (4 : Int32).toInt = 4 := by decide
              have ar1088 := rng32 v1073
              have ar1089 := rng32 r1069
              have ar1090 := rng32 vat956
              have ar1091 : (1 : Int32).toInt = 1 := by decide
              have ar1092 := rng32 (vat956 + (1 : Int32))
              first | have ar1093 : (vat956 + (1 : Int32)).toInt = vat956.toInt + 1 := (by have qw := c_iadd vat956 (1 : Int32); omega) | (have ar1093 := c_iadd vat956 (1 : Int32); skip)
              have ar1094 := rng32 ((vat956 + (1 : Int32)) + (1 : Int32))
              first | have ar1095 : ((vat956 + (1 : Int32)) + (1 : Int32)).toInt = (vat956 + (1 : Int32)).toInt + 1 := (by have qw := c_iadd (vat956 + (1 : Int32)) (1 : Int32); omega) | (have ar1095 := c_iadd (vat956 + (1 : Int32)) (1 : Int32); skip)
              have ar1096 := congrArg Int32.toInt hr1069
              have ar1097 := rng32 (r1069 - vat956)
              first | have ar1098 : (r1069 - vat956).toInt = r1069.toInt - vat956.toInt := (by have qw := c_isub r1069 vat956; omega) | (have ar1098 := c_isub r1069 vat956; skip)
              have ar1099 := congrArg Int32.toInt hv1073
              exact fun qq_ => absurd (Int32.lt_iff_toInt_lt.mp qq_) (by omega))
          have k1101 : ∀ tg_, Steps p.tables e below (T1067.setTop (mkF m 137 #[.val (.int p0), .val (.int p1), .val (.int p2), .val (.int vcp216), .val (.int vat956), .val (.int v958), .val (.ref b959), .val (.int r1069), .val (.int v1073), .unset, .unset, .unset, .unset, .unset, .unset] [(.int vat956)])) tg_ → Steps p.tables e below (s₁.setTop (entryFrame m #[(.int p0), (.int p1), (.int p2)] maxLocals)) tg_ := by
            intro tg_ kt
            refine k1072 tg_ ?_
            refine XS.istore X1067.here hx rfl (hb hby at_119) rfl (l' := #[.val (.int p0), .val (.int p1), .val (.int p2), .val (.int vcp216), .val (.int vat956), .val (.int v958), .val (.ref b959), .val (.int r1069), .val (.int v1073), .unset, .unset, .unset, .unset, .unset, .unset]) rfl ?_
            show Steps p.tables e below (T1067.setTop (mkF m 121 #[.val (.int p0), .val (.int p1), .val (.int p2), .val (.int vcp216), .val (.int vat956), .val (.int v958), .val (.ref b959), .val (.int r1069), .val (.int v1073), .unset, .unset, .unset, .unset, .unset, .unset] [])) _
            refine XS.iload X1067.here hx rfl (hb hby at_121) rfl ?_
            show Steps p.tables e below (T1067.setTop (mkF m 123 #[.val (.int p0), .val (.int p1), .val (.int p2), .val (.int vcp216), .val (.int vat956), .val (.int v958), .val (.ref b959), .val (.int r1069), .val (.int v1073), .unset, .unset, .unset, .unset, .unset, .unset] [(.int v1073)])) _
            refine XS.iconst X1067.here hx rfl (hb hby at_123) ?_
            show Steps p.tables e below (T1067.setTop (mkF m 124 #[.val (.int p0), .val (.int p1), .val (.int p2), .val (.int vcp216), .val (.int vat956), .val (.int v958), .val (.ref b959), .val (.int r1069), .val (.int v1073), .unset, .unset, .unset, .unset, .unset, .unset] [(.int (1 : Int32)), (.int v1073)])) _
            refine XS.icmpNo X1067.here hx rfl (hb hby at_124) rfl (flt hc124_1086).1 ?_
            show Steps p.tables e below (T1067.setTop (mkF m 127 #[.val (.int p0), .val (.int p1), .val (.int p2), .val (.int vcp216), .val (.int vat956), .val (.int v958), .val (.ref b959), .val (.int r1069), .val (.int v1073), .unset, .unset, .unset, .unset, .unset, .unset] [])) _
            refine XS.iload X1067.here hx rfl (hb hby at_127) rfl ?_
            show Steps p.tables e below (T1067.setTop (mkF m 129 #[.val (.int p0), .val (.int p1), .val (.int p2), .val (.int vcp216), .val (.int vat956), .val (.int v958), .val (.ref b959), .val (.int r1069), .val (.int v1073), .unset, .unset, .unset, .unset, .unset, .unset] [(.int v1073)])) _
            refine XS.iconst X1067.here hx rfl (hb hby at_129) ?_
            show Steps p.tables e below (T1067.setTop (mkF m 130 #[.val (.int p0), .val (.int p1), .val (.int p2), .val (.int vcp216), .val (.int vat956), .val (.int v958), .val (.ref b959), .val (.int r1069), .val (.int v1073), .unset, .unset, .unset, .unset, .unset, .unset] [(.int (4 : Int32)), (.int v1073)])) _
            refine XS.icmpYes X1067.here hx rfl (pc0 := 130) (pc' := 135) rfl (hb hby at_130) rfl (flt hc130_1100).2.2.2 (by decide) (by decide) ?_
            show Steps p.tables e below (T1067.setTop (mkF m 135 #[.val (.int p0), .val (.int p1), .val (.int p2), .val (.int vcp216), .val (.int vat956), .val (.int v958), .val (.ref b959), .val (.int r1069), .val (.int v1073), .unset, .unset, .unset, .unset, .unset, .unset] [])) _
            refine XS.iload X1067.here hx rfl (hb hby at_135) rfl ?_
            show Steps p.tables e below (T1067.setTop (mkF m 137 #[.val (.int p0), .val (.int p1), .val (.int p2), .val (.int vcp216), .val (.int vat956), .val (.int v958), .val (.ref b959), .val (.int r1069), .val (.int v1073), .unset, .unset, .unset, .unset, .unset, .unset] [(.int vat956)])) _
            exact kt
          have k1115 : ∀ tg_, Steps p.tables e below (T1067.setTop (mkF m 154 #[.val (.int p0), .val (.int p1), .val (.int p2), .val (.int vcp216), .val (.int vat956), .val (.int v958), .val (.ref b959), .val (.int r1069), .val (.int v1073), .unset, .unset, .unset, .unset, .unset, .unset] [])) tg_ → Steps p.tables e below (s₁.setTop (entryFrame m #[(.int p0), (.int p1), (.int p2)] maxLocals)) tg_ := by
            intro tg_ kt
            refine k1101 tg_ ?_
            by_cases hj137_1102 : (0 : Int32) < vat956
            · have hj1103 : (vat956 - (1 : Int32)).toInt = (((k - 1) : Nat) : Int) := by
                have ar1104 := rng32 vat956
                have ar1105 : (1 : Int32).toInt = 1 := by decide
                have ar1106 := rng32 (vat956 - (1 : Int32))
                first | have ar1107 : (vat956 - (1 : Int32)).toInt = vat956.toInt - 1 := (by have qw := c_isub vat956 (1 : Int32); omega) | (have ar1107 := c_isub vat956 (1 : Int32); skip)
                have ar1108 : (0 : Int32).toInt = 0 := by decide
                have ar1109 : (0 : Int32).toInt < vat956.toInt := Int32.lt_iff_toInt_lt.mp hj137_1102
                omega
              have hv1110 : g1070 (k - 1) = v958 := by
                have hk1 : 1 ≤ k := by
                  have ar1111 : (0 : Int32).toInt = 0 := by decide
                  have ar1112 := rng32 vat956
                  have ar1113 : (0 : Int32).toInt < vat956.toInt := Int32.lt_iff_toInt_lt.mp hj137_1102
                  omega
                rw [hg1070]; simp only [own_upd]
                rw [if_neg (by omega)]
                rw [if_neg (by omega)]
              have hc149_1114 : v958 = v958 := rfl
              refine XS.ifNo X1067.here hx rfl (hb hby at_137) rfl ((if0 _ _).trans (tlt hj137_1102).2.2.2) ?_
              show Steps p.tables e below (T1067.setTop (mkF m 140 #[.val (.int p0), .val (.int p1), .val (.int p2), .val (.int vcp216), .val (.int vat956), .val (.int v958), .val (.ref b959), .val (.int r1069), .val (.int v1073), .unset, .unset, .unset, .unset, .unset, .unset] [])) _
              refine XS.aload X1067.here hx rfl (hb hby at_140) rfl rfl ?_
              show Steps p.tables e below (T1067.setTop (mkF m 142 #[.val (.int p0), .val (.int p1), .val (.int p2), .val (.int vcp216), .val (.int vat956), .val (.int v958), .val (.ref b959), .val (.int r1069), .val (.int v1073), .unset, .unset, .unset, .unset, .unset, .unset] [(.ref b959)])) _
              refine XS.iload X1067.here hx rfl (hb hby at_142) rfl ?_
              show Steps p.tables e below (T1067.setTop (mkF m 144 #[.val (.int p0), .val (.int p1), .val (.int p2), .val (.int vcp216), .val (.int vat956), .val (.int v958), .val (.ref b959), .val (.int r1069), .val (.int v1073), .unset, .unset, .unset, .unset, .unset, .unset] [(.int vat956), (.ref b959)])) _
              refine XS.iconst X1067.here hx rfl (hb hby at_144) ?_
              show Steps p.tables e below (T1067.setTop (mkF m 145 #[.val (.int p0), .val (.int p1), .val (.int p2), .val (.int vcp216), .val (.int vat956), .val (.int v958), .val (.ref b959), .val (.int r1069), .val (.int v1073), .unset, .unset, .unset, .unset, .unset, .unset] [(.int (1 : Int32)), (.int vat956), (.ref b959)])) _
              refine XS.isub X1067.here hx rfl (hb hby at_145) rfl ?_
              show Steps p.tables e below (T1067.setTop (mkF m 146 #[.val (.int p0), .val (.int p1), .val (.int p2), .val (.int vcp216), .val (.int vat956), .val (.int v958), .val (.ref b959), .val (.int r1069), .val (.int v1073), .unset, .unset, .unset, .unset, .unset, .unset] [(.int (vat956 - (1 : Int32))), (.ref b959)])) _
              refine own_ldB X1067 hx hZ rfl oAa1067 (i := (k - 1)) hj1103 (by omega) hv1110 (g := (mkF m 146 #[.val (.int p0), .val (.int p1), .val (.int p2), .val (.int vcp216), .val (.int vat956), .val (.int v958), .val (.ref b959), .val (.int r1069), .val (.int v1073), .unset, .unset, .unset, .unset, .unset, .unset] [(.int (vat956 - (1 : Int32))), (.ref b959)])) rfl rfl (hb hby at_146) _ ?_
              show Steps p.tables e below (T1067.setTop (mkF m 147 #[.val (.int p0), .val (.int p1), .val (.int p2), .val (.int vcp216), .val (.int vat956), .val (.int v958), .val (.ref b959), .val (.int r1069), .val (.int v1073), .unset, .unset, .unset, .unset, .unset, .unset] [(.int v958)])) _
              refine XS.iload X1067.here hx rfl (hb hby at_147) rfl ?_
              show Steps p.tables e below (T1067.setTop (mkF m 149 #[.val (.int p0), .val (.int p1), .val (.int p2), .val (.int vcp216), .val (.int vat956), .val (.int v958), .val (.ref b959), .val (.int r1069), .val (.int v1073), .unset, .unset, .unset, .unset, .unset, .unset] [(.int v958), (.int v958)])) _
              refine XS.icmpYes X1067.here hx rfl (pc0 := 149) (pc' := 154) rfl (hb hby at_149) rfl (teq hc149_1114).1 (by decide) (by decide) ?_
              show Steps p.tables e below (T1067.setTop (mkF m 154 #[.val (.int p0), .val (.int p1), .val (.int p2), .val (.int vcp216), .val (.int vat956), .val (.int v958), .val (.ref b959), .val (.int r1069), .val (.int v1073), .unset, .unset, .unset, .unset, .unset, .unset] [])) _
              simpa only [if_pos hj137_1102] using kt
            · refine XS.ifYes X1067.here hx rfl (pc0 := 137) (pc' := 154) rfl (hb hby at_137) rfl ((if0 _ _).trans (flt hj137_1102).2.2.2) (by decide) (by decide) ?_
              show Steps p.tables e below (T1067.setTop (mkF m 154 #[.val (.int p0), .val (.int p1), .val (.int p2), .val (.int vcp216), .val (.int vat956), .val (.int v958), .val (.ref b959), .val (.int r1069), .val (.int v1073), .unset, .unset, .unset, .unset, .unset, .unset] [])) _
              simpa only [if_neg hj137_1102] using kt
          have hj1116 : r1069.toInt = (((k + 2) : Nat) : Int) := by
            have ar1117 := rng32 r1069
            have ar1118 := rng32 vat956
            have ar1119 : (1 : Int32).toInt = 1 := by decide
            have ar1120 := rng32 (vat956 + (1 : Int32))
            first | have ar1121 : (vat956 + (1 : Int32)).toInt = vat956.toInt + 1 := (by have qw := c_iadd vat956 (1 : Int32); omega) | (have ar1121 := c_iadd vat956 (1 : Int32); skip)
            have ar1122 := rng32 ((vat956 + (1 : Int32)) + (1 : Int32))
            first | have ar1123 : ((vat956 + (1 : Int32)) + (1 : Int32)).toInt = (vat956 + (1 : Int32)).toInt + 1 := (by have qw := c_iadd (vat956 + (1 : Int32)) (1 : Int32); omega) | (have ar1123 := c_iadd (vat956 + (1 : Int32)) (1 : Int32); skip)
            have ar1124 := congrArg Int32.toInt hr1069
            omega
          have hv1125 : g1070 (k + 2) = v958 := by
            rw [hg1070]; simp only [own_upd]
            rw [if_neg (by omega)]
            rw [if_neg (by omega)]
          have hc161_1126 : v958 = v958 := rfl
          have hj1127 : vat956.toInt = ((k : Nat) : Int) := by
            have ar1128 := rng32 vat956
            omega
          have hv1129 : g1070 k = ((((192 : Int32) ||| ((vcp216.toUInt32 >>> ((6 : Int32) &&& 31).toUInt32).toInt32)).toInt8.toInt32).toInt8.toInt32) := by
            rw [hg1070]; simp only [own_upd]
            rw [if_neg (by omega)]
            rw [if_pos (by omega)]
          have k1130 : ∀ tg_, Steps p.tables e below (T1067.setTop (mkF m 175 #[.val (.int p0), .val (.int p1), .val (.int p2), .val (.int vcp216), .val (.int vat956), .val (.int v958), .val (.ref b959), .val (.int r1069), .val (.int v1073), .unset, .unset, .unset, .unset, .unset, .unset] [(.int (((((192 : Int32) ||| ((vcp216.toUInt32 >>> ((6 : Int32) &&& 31).toUInt32).toInt32)).toInt8.toInt32).toInt8.toInt32) &&& (255 : Int32)))])) tg_ → Steps p.tables e below (s₁.setTop (entryFrame m #[(.int p0), (.int p1), (.int p2)] maxLocals)) tg_ := by
            intro tg_ kt
            refine k1115 tg_ ?_
            refine XS.aload X1067.here hx rfl (hb hby at_154) rfl rfl ?_
            show Steps p.tables e below (T1067.setTop (mkF m 156 #[.val (.int p0), .val (.int p1), .val (.int p2), .val (.int vcp216), .val (.int vat956), .val (.int v958), .val (.ref b959), .val (.int r1069), .val (.int v1073), .unset, .unset, .unset, .unset, .unset, .unset] [(.ref b959)])) _
            refine XS.iload X1067.here hx rfl (hb hby at_156) rfl ?_
            show Steps p.tables e below (T1067.setTop (mkF m 158 #[.val (.int p0), .val (.int p1), .val (.int p2), .val (.int vcp216), .val (.int vat956), .val (.int v958), .val (.ref b959), .val (.int r1069), .val (.int v1073), .unset, .unset, .unset, .unset, .unset, .unset] [(.int r1069), (.ref b959)])) _
            refine own_ldB X1067 hx hZ rfl oAa1067 (i := (k + 2)) hj1116 (by omega) hv1125 (g := (mkF m 158 #[.val (.int p0), .val (.int p1), .val (.int p2), .val (.int vcp216), .val (.int vat956), .val (.int v958), .val (.ref b959), .val (.int r1069), .val (.int v1073), .unset, .unset, .unset, .unset, .unset, .unset] [(.int r1069), (.ref b959)])) rfl rfl (hb hby at_158) _ ?_
            show Steps p.tables e below (T1067.setTop (mkF m 159 #[.val (.int p0), .val (.int p1), .val (.int p2), .val (.int vcp216), .val (.int vat956), .val (.int v958), .val (.ref b959), .val (.int r1069), .val (.int v1073), .unset, .unset, .unset, .unset, .unset, .unset] [(.int v958)])) _
            refine XS.iload X1067.here hx rfl (hb hby at_159) rfl ?_
            show Steps p.tables e below (T1067.setTop (mkF m 161 #[.val (.int p0), .val (.int p1), .val (.int p2), .val (.int vcp216), .val (.int vat956), .val (.int v958), .val (.ref b959), .val (.int r1069), .val (.int v1073), .unset, .unset, .unset, .unset, .unset, .unset] [(.int v958), (.int v958)])) _
            refine XS.icmpYes X1067.here hx rfl (pc0 := 161) (pc' := 166) rfl (hb hby at_161) rfl (teq hc161_1126).1 (by decide) (by decide) ?_
            show Steps p.tables e below (T1067.setTop (mkF m 166 #[.val (.int p0), .val (.int p1), .val (.int p2), .val (.int vcp216), .val (.int vat956), .val (.int v958), .val (.ref b959), .val (.int r1069), .val (.int v1073), .unset, .unset, .unset, .unset, .unset, .unset] [])) _
            refine XS.aload X1067.here hx rfl (hb hby at_166) rfl rfl ?_
            show Steps p.tables e below (T1067.setTop (mkF m 168 #[.val (.int p0), .val (.int p1), .val (.int p2), .val (.int vcp216), .val (.int vat956), .val (.int v958), .val (.ref b959), .val (.int r1069), .val (.int v1073), .unset, .unset, .unset, .unset, .unset, .unset] [(.ref b959)])) _
            refine XS.iload X1067.here hx rfl (hb hby at_168) rfl ?_
            show Steps p.tables e below (T1067.setTop (mkF m 170 #[.val (.int p0), .val (.int p1), .val (.int p2), .val (.int vcp216), .val (.int vat956), .val (.int v958), .val (.ref b959), .val (.int r1069), .val (.int v1073), .unset, .unset, .unset, .unset, .unset, .unset] [(.int vat956), (.ref b959)])) _
            refine own_ldB X1067 hx hZ rfl oAa1067 (i := k) hj1127 (by omega) hv1129 (g := (mkF m 170 #[.val (.int p0), .val (.int p1), .val (.int p2), .val (.int vcp216), .val (.int vat956), .val (.int v958), .val (.ref b959), .val (.int r1069), .val (.int v1073), .unset, .unset, .unset, .unset, .unset, .unset] [(.int vat956), (.ref b959)])) rfl rfl (hb hby at_170) _ ?_
            show Steps p.tables e below (T1067.setTop (mkF m 171 #[.val (.int p0), .val (.int p1), .val (.int p2), .val (.int vcp216), .val (.int vat956), .val (.int v958), .val (.ref b959), .val (.int r1069), .val (.int v1073), .unset, .unset, .unset, .unset, .unset, .unset] [(.int ((((192 : Int32) ||| ((vcp216.toUInt32 >>> ((6 : Int32) &&& 31).toUInt32).toInt32)).toInt8.toInt32).toInt8.toInt32))])) _
            refine XS.sipush X1067.here hx rfl (hb hby at_171) ?_
            show Steps p.tables e below (T1067.setTop (mkF m 174 #[.val (.int p0), .val (.int p1), .val (.int p2), .val (.int vcp216), .val (.int vat956), .val (.int v958), .val (.ref b959), .val (.int r1069), .val (.int v1073), .unset, .unset, .unset, .unset, .unset, .unset] [(.int (255 : Int32)), (.int ((((192 : Int32) ||| ((vcp216.toUInt32 >>> ((6 : Int32) &&& 31).toUInt32).toInt32)).toInt8.toInt32).toInt8.toInt32))])) _
            refine XS.iand X1067.here hx rfl (hb hby at_174) rfl ?_
            show Steps p.tables e below (T1067.setTop (mkF m 175 #[.val (.int p0), .val (.int p1), .val (.int p2), .val (.int vcp216), .val (.int vat956), .val (.int v958), .val (.ref b959), .val (.int r1069), .val (.int v1073), .unset, .unset, .unset, .unset, .unset, .unset] [(.int (((((192 : Int32) ||| ((vcp216.toUInt32 >>> ((6 : Int32) &&& 31).toUInt32).toInt32)).toInt8.toInt32).toInt8.toInt32) &&& (255 : Int32)))])) _
            exact kt
          obtain ⟨vb1131, hvb1131⟩ : ∃ z : Int32, z = (((((192 : Int32) ||| ((vcp216.toUInt32 >>> ((6 : Int32) &&& 31).toUInt32).toInt32)).toInt8.toInt32).toInt8.toInt32) &&& (255 : Int32)) := ⟨_, rfl⟩
          rw [← hvb1131] at k1130
          have k1132 : ∀ tg_, Steps p.tables e below (T1067.setTop (mkF m 177 #[.val (.int p0), .val (.int p1), .val (.int p2), .val (.int vcp216), .val (.int vat956), .val (.int v958), .val (.ref b959), .val (.int r1069), .val (.int v1073), .val (.int vb1131), .unset, .unset, .unset, .unset, .unset] [])) tg_ → Steps p.tables e below (s₁.setTop (entryFrame m #[(.int p0), (.int p1), (.int p2)] maxLocals)) tg_ := by
            intro tg_ kt
            refine k1130 tg_ ?_
            refine XS.istore X1067.here hx rfl (hb hby at_175) rfl (l' := #[.val (.int p0), .val (.int p1), .val (.int p2), .val (.int vcp216), .val (.int vat956), .val (.int v958), .val (.ref b959), .val (.int r1069), .val (.int v1073), .val (.int vb1131), .unset, .unset, .unset, .unset, .unset]) rfl ?_
            show Steps p.tables e below (T1067.setTop (mkF m 177 #[.val (.int p0), .val (.int p1), .val (.int p2), .val (.int vcp216), .val (.int vat956), .val (.int v958), .val (.ref b959), .val (.int r1069), .val (.int v1073), .val (.int vb1131), .unset, .unset, .unset, .unset, .unset] [])) _
            exact kt
          have hbv_vb1131 : vb1131.toInt = 192 + vcp216.toInt / 64 := by rw [hvb1131]; exact own_e2_0 vcp216 (by omega) (by omega)
          have hc180_1145 : ¬ (v1073 = (1 : Int32)) := (by
              have ar1133 := rng32 v1073
              have ar1134 := rng32 r1069
              have ar1135 := rng32 vat956
              have ar1136 : (1 : Int32).toInt = 1 := by decide
              have ar1137 := rng32 (vat956 + (1 : Int32))
              first | have ar1138 : (vat956 + (1 : Int32)).toInt = vat956.toInt + 1 := (by have qw := c_iadd vat956 (1 : Int32); omega) | (have ar1138 := c_iadd vat956 (1 : Int32); skip)
              have ar1139 := rng32 ((vat956 + (1 : Int32)) + (1 : Int32))
              first | have ar1140 : ((vat956 + (1 : Int32)) + (1 : Int32)).toInt = (vat956 + (1 : Int32)).toInt + 1 := (by have qw := c_iadd (vat956 + (1 : Int32)) (1 : Int32); omega) | (have ar1140 := c_iadd (vat956 + (1 : Int32)) (1 : Int32); skip)
              have ar1141 := congrArg Int32.toInt hr1069
              have ar1142 := rng32 (r1069 - vat956)
              first | have ar1143 : (r1069 - vat956).toInt = r1069.toInt - vat956.toInt := (by have qw := c_isub r1069 vat956; omega) | (have ar1143 := c_isub r1069 vat956; skip)
              have ar1144 := congrArg Int32.toInt hv1073
              exact fun qq_ => absurd (congrArg Int32.toInt qq_) (by omega))
          have hj1146 : (vat956 + (1 : Int32)).toInt = (((k + 1) : Nat) : Int) := by
            have ar1147 := rng32 vat956
            have ar1148 : (1 : Int32).toInt = 1 := by decide
            have ar1149 := rng32 (vat956 + (1 : Int32))
            first | have ar1150 : (vat956 + (1 : Int32)).toInt = vat956.toInt + 1 := (by have qw := c_iadd vat956 (1 : Int32); omega) | (have ar1150 := c_iadd vat956 (1 : Int32); skip)
            omega
          have hv1151 : g1070 (k + 1) = ((((128 : Int32) ||| (vcp216 &&& (63 : Int32))).toInt8.toInt32).toInt8.toInt32) := by
            rw [hg1070]; simp only [own_upd]
            rw [if_pos (by omega)]
          have k1152 : ∀ tg_, Steps p.tables e below (T1067.setTop (mkF m 214 #[.val (.int p0), .val (.int p1), .val (.int p2), .val (.int vcp216), .val (.int vat956), .val (.int v958), .val (.ref b959), .val (.int r1069), .val (.int v1073), .val (.int vb1131), .unset, .unset, .unset, .unset, .unset] [(.int (((((128 : Int32) ||| (vcp216 &&& (63 : Int32))).toInt8.toInt32).toInt8.toInt32) &&& (255 : Int32)))])) tg_ → Steps p.tables e below (s₁.setTop (entryFrame m #[(.int p0), (.int p1), (.int p2)] maxLocals)) tg_ := by
            intro tg_ kt
            refine k1132 tg_ ?_
            refine XS.iload X1067.here hx rfl (hb hby at_177) rfl ?_
            show Steps p.tables e below (T1067.setTop (mkF m 179 #[.val (.int p0), .val (.int p1), .val (.int p2), .val (.int vcp216), .val (.int vat956), .val (.int v958), .val (.ref b959), .val (.int r1069), .val (.int v1073), .val (.int vb1131), .unset, .unset, .unset, .unset, .unset] [(.int v1073)])) _
            refine XS.iconst X1067.here hx rfl (hb hby at_179) ?_
            show Steps p.tables e below (T1067.setTop (mkF m 180 #[.val (.int p0), .val (.int p1), .val (.int p2), .val (.int vcp216), .val (.int vat956), .val (.int v958), .val (.ref b959), .val (.int r1069), .val (.int v1073), .val (.int vb1131), .unset, .unset, .unset, .unset, .unset] [(.int (1 : Int32)), (.int v1073)])) _
            refine XS.icmpYes X1067.here hx rfl (pc0 := 180) (pc' := 203) rfl (hb hby at_180) rfl (feq hc180_1145).2 (by decide) (by decide) ?_
            show Steps p.tables e below (T1067.setTop (mkF m 203 #[.val (.int p0), .val (.int p1), .val (.int p2), .val (.int vcp216), .val (.int vat956), .val (.int v958), .val (.ref b959), .val (.int r1069), .val (.int v1073), .val (.int vb1131), .unset, .unset, .unset, .unset, .unset] [])) _
            refine XS.aload X1067.here hx rfl (hb hby at_203) rfl rfl ?_
            show Steps p.tables e below (T1067.setTop (mkF m 205 #[.val (.int p0), .val (.int p1), .val (.int p2), .val (.int vcp216), .val (.int vat956), .val (.int v958), .val (.ref b959), .val (.int r1069), .val (.int v1073), .val (.int vb1131), .unset, .unset, .unset, .unset, .unset] [(.ref b959)])) _
            refine XS.iload X1067.here hx rfl (hb hby at_205) rfl ?_
            show Steps p.tables e below (T1067.setTop (mkF m 207 #[.val (.int p0), .val (.int p1), .val (.int p2), .val (.int vcp216), .val (.int vat956), .val (.int v958), .val (.ref b959), .val (.int r1069), .val (.int v1073), .val (.int vb1131), .unset, .unset, .unset, .unset, .unset] [(.int vat956), (.ref b959)])) _
            refine XS.iconst X1067.here hx rfl (hb hby at_207) ?_
            show Steps p.tables e below (T1067.setTop (mkF m 208 #[.val (.int p0), .val (.int p1), .val (.int p2), .val (.int vcp216), .val (.int vat956), .val (.int v958), .val (.ref b959), .val (.int r1069), .val (.int v1073), .val (.int vb1131), .unset, .unset, .unset, .unset, .unset] [(.int (1 : Int32)), (.int vat956), (.ref b959)])) _
            refine XS.iadd X1067.here hx rfl (hb hby at_208) rfl ?_
            show Steps p.tables e below (T1067.setTop (mkF m 209 #[.val (.int p0), .val (.int p1), .val (.int p2), .val (.int vcp216), .val (.int vat956), .val (.int v958), .val (.ref b959), .val (.int r1069), .val (.int v1073), .val (.int vb1131), .unset, .unset, .unset, .unset, .unset] [(.int (vat956 + (1 : Int32))), (.ref b959)])) _
            refine own_ldB X1067 hx hZ rfl oAa1067 (i := (k + 1)) hj1146 (by omega) hv1151 (g := (mkF m 209 #[.val (.int p0), .val (.int p1), .val (.int p2), .val (.int vcp216), .val (.int vat956), .val (.int v958), .val (.ref b959), .val (.int r1069), .val (.int v1073), .val (.int vb1131), .unset, .unset, .unset, .unset, .unset] [(.int (vat956 + (1 : Int32))), (.ref b959)])) rfl rfl (hb hby at_209) _ ?_
            show Steps p.tables e below (T1067.setTop (mkF m 210 #[.val (.int p0), .val (.int p1), .val (.int p2), .val (.int vcp216), .val (.int vat956), .val (.int v958), .val (.ref b959), .val (.int r1069), .val (.int v1073), .val (.int vb1131), .unset, .unset, .unset, .unset, .unset] [(.int ((((128 : Int32) ||| (vcp216 &&& (63 : Int32))).toInt8.toInt32).toInt8.toInt32))])) _
            refine XS.sipush X1067.here hx rfl (hb hby at_210) ?_
            show Steps p.tables e below (T1067.setTop (mkF m 213 #[.val (.int p0), .val (.int p1), .val (.int p2), .val (.int vcp216), .val (.int vat956), .val (.int v958), .val (.ref b959), .val (.int r1069), .val (.int v1073), .val (.int vb1131), .unset, .unset, .unset, .unset, .unset] [(.int (255 : Int32)), (.int ((((128 : Int32) ||| (vcp216 &&& (63 : Int32))).toInt8.toInt32).toInt8.toInt32))])) _
            refine XS.iand X1067.here hx rfl (hb hby at_213) rfl ?_
            show Steps p.tables e below (T1067.setTop (mkF m 214 #[.val (.int p0), .val (.int p1), .val (.int p2), .val (.int vcp216), .val (.int vat956), .val (.int v958), .val (.ref b959), .val (.int r1069), .val (.int v1073), .val (.int vb1131), .unset, .unset, .unset, .unset, .unset] [(.int (((((128 : Int32) ||| (vcp216 &&& (63 : Int32))).toInt8.toInt32).toInt8.toInt32) &&& (255 : Int32)))])) _
            exact kt
          obtain ⟨vb1153, hvb1153⟩ : ∃ z : Int32, z = (((((128 : Int32) ||| (vcp216 &&& (63 : Int32))).toInt8.toInt32).toInt8.toInt32) &&& (255 : Int32)) := ⟨_, rfl⟩
          rw [← hvb1153] at k1152
          have k1154 : ∀ tg_, Steps p.tables e below (T1067.setTop (mkF m 216 #[.val (.int p0), .val (.int p1), .val (.int p2), .val (.int vcp216), .val (.int vat956), .val (.int v958), .val (.ref b959), .val (.int r1069), .val (.int v1073), .val (.int vb1131), .unset, .unset, .val (.int vb1153), .unset, .unset] [])) tg_ → Steps p.tables e below (s₁.setTop (entryFrame m #[(.int p0), (.int p1), (.int p2)] maxLocals)) tg_ := by
            intro tg_ kt
            refine k1152 tg_ ?_
            refine XS.istore X1067.here hx rfl (hb hby at_214) rfl (l' := #[.val (.int p0), .val (.int p1), .val (.int p2), .val (.int vcp216), .val (.int vat956), .val (.int v958), .val (.ref b959), .val (.int r1069), .val (.int v1073), .val (.int vb1131), .unset, .unset, .val (.int vb1153), .unset, .unset]) rfl ?_
            show Steps p.tables e below (T1067.setTop (mkF m 216 #[.val (.int p0), .val (.int p1), .val (.int p2), .val (.int vcp216), .val (.int vat956), .val (.int v958), .val (.ref b959), .val (.int r1069), .val (.int v1073), .val (.int vb1131), .unset, .unset, .val (.int vb1153), .unset, .unset] [])) _
            exact kt
          have hbv_vb1153 : vb1153.toInt = 128 + vcp216.toInt % 64 := by rw [hvb1153]; exact own_e2_1 vcp216 (by omega) (by omega)
          have hc225_1161 : (vb1153 &&& (192 : Int32)) = (128 : Int32) := (by
              have ar1155 := rng32 vb1153
              have ar1156 : (192 : Int32).toInt = 192 := by decide
              first | have ar1157 := own_hi192 vb1153 (by omega) (by omega) | have ar1157 := own_hi192 vb1153
              have ar1158 := c_and vb1153 (192 : Int32) (by decide)
              have ar1159 := rng32 (vb1153 &&& (192 : Int32))
              have ar1160 : (128 : Int32).toInt = 128 := by decide
              exact Int32.toInt_inj.mp (by omega))
          have hc233_1175 : v1073 = (2 : Int32) := (by
              have ar1162 := rng32 v1073
              have ar1163 := rng32 r1069
              have ar1164 := rng32 vat956
              have ar1165 : (1 : Int32).toInt = 1 := by decide
              have ar1166 := rng32 (vat956 + (1 : Int32))
              first | have ar1167 : (vat956 + (1 : Int32)).toInt = vat956.toInt + 1 := (by have qw := c_iadd vat956 (1 : Int32); omega) | (have ar1167 := c_iadd vat956 (1 : Int32); skip)
              have ar1168 := rng32 ((vat956 + (1 : Int32)) + (1 : Int32))
              first | have ar1169 : ((vat956 + (1 : Int32)) + (1 : Int32)).toInt = (vat956 + (1 : Int32)).toInt + 1 := (by have qw := c_iadd (vat956 + (1 : Int32)) (1 : Int32); omega) | (have ar1169 := c_iadd (vat956 + (1 : Int32)) (1 : Int32); skip)
              have ar1170 := congrArg Int32.toInt hr1069
              have ar1171 := rng32 (r1069 - vat956)
              first | have ar1172 : (r1069 - vat956).toInt = r1069.toInt - vat956.toInt := (by have qw := c_isub r1069 vat956; omega) | (have ar1172 := c_isub r1069 vat956; skip)
              have ar1173 := congrArg Int32.toInt hv1073
              have ar1174 : (2 : Int32).toInt = 2 := by decide
              exact Int32.toInt_inj.mp (by omega))
          have hc245_1182 : (vb1131 &&& (224 : Int32)) = (192 : Int32) := (by
              have ar1176 := rng32 vb1131
              have ar1177 : (224 : Int32).toInt = 224 := by decide
              first | have ar1178 := own_hi224 vb1131 (by omega) (by omega) | have ar1178 := own_hi224 vb1131
              have ar1179 := c_and vb1131 (224 : Int32) (by decide)
              have ar1180 := rng32 (vb1131 &&& (224 : Int32))
              have ar1181 : (192 : Int32).toInt = 192 := by decide
              exact Int32.toInt_inj.mp (by omega))
          have k1183 : ∀ tg_, Steps p.tables e below (T1067.setTop (mkF m 264 #[.val (.int p0), .val (.int p1), .val (.int p2), .val (.int vcp216), .val (.int vat956), .val (.int v958), .val (.ref b959), .val (.int r1069), .val (.int v1073), .val (.int vb1131), .unset, .unset, .val (.int vb1153), .unset, .unset] [(.int (((vb1131 &&& (31 : Int32)) <<< ((6 : Int32) &&& 31)) ||| (vb1153 &&& (63 : Int32))))])) tg_ → Steps p.tables e below (s₁.setTop (entryFrame m #[(.int p0), (.int p1), (.int p2)] maxLocals)) tg_ := by
            intro tg_ kt
            refine k1154 tg_ ?_
            refine XS.iload X1067.here hx rfl (hb hby at_216) rfl ?_
            show Steps p.tables e below (T1067.setTop (mkF m 218 #[.val (.int p0), .val (.int p1), .val (.int p2), .val (.int vcp216), .val (.int vat956), .val (.int v958), .val (.ref b959), .val (.int r1069), .val (.int v1073), .val (.int vb1131), .unset, .unset, .val (.int vb1153), .unset, .unset] [(.int vb1153)])) _
            refine XS.sipush X1067.here hx rfl (hb hby at_218) ?_
            show Steps p.tables e below (T1067.setTop (mkF m 221 #[.val (.int p0), .val (.int p1), .val (.int p2), .val (.int vcp216), .val (.int vat956), .val (.int v958), .val (.ref b959), .val (.int r1069), .val (.int v1073), .val (.int vb1131), .unset, .unset, .val (.int vb1153), .unset, .unset] [(.int (192 : Int32)), (.int vb1153)])) _
            refine XS.iand X1067.here hx rfl (hb hby at_221) rfl ?_
            show Steps p.tables e below (T1067.setTop (mkF m 222 #[.val (.int p0), .val (.int p1), .val (.int p2), .val (.int vcp216), .val (.int vat956), .val (.int v958), .val (.ref b959), .val (.int r1069), .val (.int v1073), .val (.int vb1131), .unset, .unset, .val (.int vb1153), .unset, .unset] [(.int (vb1153 &&& (192 : Int32)))])) _
            refine XS.sipush X1067.here hx rfl (hb hby at_222) ?_
            show Steps p.tables e below (T1067.setTop (mkF m 225 #[.val (.int p0), .val (.int p1), .val (.int p2), .val (.int vcp216), .val (.int vat956), .val (.int v958), .val (.ref b959), .val (.int r1069), .val (.int v1073), .val (.int vb1131), .unset, .unset, .val (.int vb1153), .unset, .unset] [(.int (128 : Int32)), (.int (vb1153 &&& (192 : Int32)))])) _
            refine XS.icmpYes X1067.here hx rfl (pc0 := 225) (pc' := 230) rfl (hb hby at_225) rfl (teq hc225_1161).1 (by decide) (by decide) ?_
            show Steps p.tables e below (T1067.setTop (mkF m 230 #[.val (.int p0), .val (.int p1), .val (.int p2), .val (.int vcp216), .val (.int vat956), .val (.int v958), .val (.ref b959), .val (.int r1069), .val (.int v1073), .val (.int vb1131), .unset, .unset, .val (.int vb1153), .unset, .unset] [])) _
            refine XS.iload X1067.here hx rfl (hb hby at_230) rfl ?_
            show Steps p.tables e below (T1067.setTop (mkF m 232 #[.val (.int p0), .val (.int p1), .val (.int p2), .val (.int vcp216), .val (.int vat956), .val (.int v958), .val (.ref b959), .val (.int r1069), .val (.int v1073), .val (.int vb1131), .unset, .unset, .val (.int vb1153), .unset, .unset] [(.int v1073)])) _
            refine XS.iconst X1067.here hx rfl (hb hby at_232) ?_
            show Steps p.tables e below (T1067.setTop (mkF m 233 #[.val (.int p0), .val (.int p1), .val (.int p2), .val (.int vcp216), .val (.int vat956), .val (.int v958), .val (.ref b959), .val (.int r1069), .val (.int v1073), .val (.int vb1131), .unset, .unset, .val (.int vb1153), .unset, .unset] [(.int (2 : Int32)), (.int v1073)])) _
            refine XS.icmpNo X1067.here hx rfl (hb hby at_233) rfl (teq hc233_1175).2 ?_
            show Steps p.tables e below (T1067.setTop (mkF m 236 #[.val (.int p0), .val (.int p1), .val (.int p2), .val (.int vcp216), .val (.int vat956), .val (.int v958), .val (.ref b959), .val (.int r1069), .val (.int v1073), .val (.int vb1131), .unset, .unset, .val (.int vb1153), .unset, .unset] [])) _
            refine XS.iload X1067.here hx rfl (hb hby at_236) rfl ?_
            show Steps p.tables e below (T1067.setTop (mkF m 238 #[.val (.int p0), .val (.int p1), .val (.int p2), .val (.int vcp216), .val (.int vat956), .val (.int v958), .val (.ref b959), .val (.int r1069), .val (.int v1073), .val (.int vb1131), .unset, .unset, .val (.int vb1153), .unset, .unset] [(.int vb1131)])) _
            refine XS.sipush X1067.here hx rfl (hb hby at_238) ?_
            show Steps p.tables e below (T1067.setTop (mkF m 241 #[.val (.int p0), .val (.int p1), .val (.int p2), .val (.int vcp216), .val (.int vat956), .val (.int v958), .val (.ref b959), .val (.int r1069), .val (.int v1073), .val (.int vb1131), .unset, .unset, .val (.int vb1153), .unset, .unset] [(.int (224 : Int32)), (.int vb1131)])) _
            refine XS.iand X1067.here hx rfl (hb hby at_241) rfl ?_
            show Steps p.tables e below (T1067.setTop (mkF m 242 #[.val (.int p0), .val (.int p1), .val (.int p2), .val (.int vcp216), .val (.int vat956), .val (.int v958), .val (.ref b959), .val (.int r1069), .val (.int v1073), .val (.int vb1131), .unset, .unset, .val (.int vb1153), .unset, .unset] [(.int (vb1131 &&& (224 : Int32)))])) _
            refine XS.sipush X1067.here hx rfl (hb hby at_242) ?_
            show Steps p.tables e below (T1067.setTop (mkF m 245 #[.val (.int p0), .val (.int p1), .val (.int p2), .val (.int vcp216), .val (.int vat956), .val (.int v958), .val (.ref b959), .val (.int r1069), .val (.int v1073), .val (.int vb1131), .unset, .unset, .val (.int vb1153), .unset, .unset] [(.int (192 : Int32)), (.int (vb1131 &&& (224 : Int32)))])) _
            refine XS.icmpYes X1067.here hx rfl (pc0 := 245) (pc' := 250) rfl (hb hby at_245) rfl (teq hc245_1182).1 (by decide) (by decide) ?_
            show Steps p.tables e below (T1067.setTop (mkF m 250 #[.val (.int p0), .val (.int p1), .val (.int p2), .val (.int vcp216), .val (.int vat956), .val (.int v958), .val (.ref b959), .val (.int r1069), .val (.int v1073), .val (.int vb1131), .unset, .unset, .val (.int vb1153), .unset, .unset] [])) _
            refine XS.iload X1067.here hx rfl (hb hby at_250) rfl ?_
            show Steps p.tables e below (T1067.setTop (mkF m 252 #[.val (.int p0), .val (.int p1), .val (.int p2), .val (.int vcp216), .val (.int vat956), .val (.int v958), .val (.ref b959), .val (.int r1069), .val (.int v1073), .val (.int vb1131), .unset, .unset, .val (.int vb1153), .unset, .unset] [(.int vb1131)])) _
            refine XS.bipush X1067.here hx rfl (hb hby at_252) ?_
            show Steps p.tables e below (T1067.setTop (mkF m 254 #[.val (.int p0), .val (.int p1), .val (.int p2), .val (.int vcp216), .val (.int vat956), .val (.int v958), .val (.ref b959), .val (.int r1069), .val (.int v1073), .val (.int vb1131), .unset, .unset, .val (.int vb1153), .unset, .unset] [(.int (31 : Int32)), (.int vb1131)])) _
            refine XS.iand X1067.here hx rfl (hb hby at_254) rfl ?_
            show Steps p.tables e below (T1067.setTop (mkF m 255 #[.val (.int p0), .val (.int p1), .val (.int p2), .val (.int vcp216), .val (.int vat956), .val (.int v958), .val (.ref b959), .val (.int r1069), .val (.int v1073), .val (.int vb1131), .unset, .unset, .val (.int vb1153), .unset, .unset] [(.int (vb1131 &&& (31 : Int32)))])) _
            refine XS.bipush X1067.here hx rfl (hb hby at_255) ?_
            show Steps p.tables e below (T1067.setTop (mkF m 257 #[.val (.int p0), .val (.int p1), .val (.int p2), .val (.int vcp216), .val (.int vat956), .val (.int v958), .val (.ref b959), .val (.int r1069), .val (.int v1073), .val (.int vb1131), .unset, .unset, .val (.int vb1153), .unset, .unset] [(.int (6 : Int32)), (.int (vb1131 &&& (31 : Int32)))])) _
            refine XS.ishl X1067.here hx rfl (hb hby at_257) rfl ?_
            show Steps p.tables e below (T1067.setTop (mkF m 258 #[.val (.int p0), .val (.int p1), .val (.int p2), .val (.int vcp216), .val (.int vat956), .val (.int v958), .val (.ref b959), .val (.int r1069), .val (.int v1073), .val (.int vb1131), .unset, .unset, .val (.int vb1153), .unset, .unset] [(.int ((vb1131 &&& (31 : Int32)) <<< ((6 : Int32) &&& 31)))])) _
            refine XS.iload X1067.here hx rfl (hb hby at_258) rfl ?_
            show Steps p.tables e below (T1067.setTop (mkF m 260 #[.val (.int p0), .val (.int p1), .val (.int p2), .val (.int vcp216), .val (.int vat956), .val (.int v958), .val (.ref b959), .val (.int r1069), .val (.int v1073), .val (.int vb1131), .unset, .unset, .val (.int vb1153), .unset, .unset] [(.int vb1153), (.int ((vb1131 &&& (31 : Int32)) <<< ((6 : Int32) &&& 31)))])) _
            refine XS.bipush X1067.here hx rfl (hb hby at_260) ?_
            show Steps p.tables e below (T1067.setTop (mkF m 262 #[.val (.int p0), .val (.int p1), .val (.int p2), .val (.int vcp216), .val (.int vat956), .val (.int v958), .val (.ref b959), .val (.int r1069), .val (.int v1073), .val (.int vb1131), .unset, .unset, .val (.int vb1153), .unset, .unset] [(.int (63 : Int32)), (.int vb1153), (.int ((vb1131 &&& (31 : Int32)) <<< ((6 : Int32) &&& 31)))])) _
            refine XS.iand X1067.here hx rfl (hb hby at_262) rfl ?_
            show Steps p.tables e below (T1067.setTop (mkF m 263 #[.val (.int p0), .val (.int p1), .val (.int p2), .val (.int vcp216), .val (.int vat956), .val (.int v958), .val (.ref b959), .val (.int r1069), .val (.int v1073), .val (.int vb1131), .unset, .unset, .val (.int vb1153), .unset, .unset] [(.int (vb1153 &&& (63 : Int32))), (.int ((vb1131 &&& (31 : Int32)) <<< ((6 : Int32) &&& 31)))])) _
            refine XS.ior X1067.here hx rfl (hb hby at_263) rfl ?_
            show Steps p.tables e below (T1067.setTop (mkF m 264 #[.val (.int p0), .val (.int p1), .val (.int p2), .val (.int vcp216), .val (.int vat956), .val (.int v958), .val (.ref b959), .val (.int r1069), .val (.int v1073), .val (.int vb1131), .unset, .unset, .val (.int vb1153), .unset, .unset] [(.int (((vb1131 &&& (31 : Int32)) <<< ((6 : Int32) &&& 31)) ||| (vb1153 &&& (63 : Int32))))])) _
            exact kt
          obtain ⟨v1184, hv1184⟩ : ∃ z : Int32, z = (((vb1131 &&& (31 : Int32)) <<< ((6 : Int32) &&& 31)) ||| (vb1153 &&& (63 : Int32))) := ⟨_, rfl⟩
          rw [← hv1184] at k1183
          have hc437_1200 : ¬ (v1184 < (128 : Int32)) := (by
              have ar1185 := rng32 v1184
              have ar1186 := rng32 vb1131
              have ar1187 : (31 : Int32).toInt = 31 := by decide
              have ar1188 := c_mask vb1131 (31 : Int32) 5 (by decide) (by decide)
              simp only [show (2 ^ 5 : Nat) = 32 from by decide, Int.cast_ofNat_Int] at ar1188
              have ar1189 := rng32 (vb1131 &&& (31 : Int32))
              have ar1190 := rng32 ((vb1131 &&& (31 : Int32)) <<< ((6 : Int32) &&& 31))
              first | have ar1191 : ((vb1131 &&& (31 : Int32)) <<< ((6 : Int32) &&& 31)).toInt = (vb1131 &&& (31 : Int32)).toInt * 64 := (by have qw := c_ishl (vb1131 &&& (31 : Int32)) (6 : Int32) 6 (by decide); simp only [show (2 ^ 6 : Nat) = 64 from by decide, Int.cast_ofNat_Int] at qw; omega) | (have ar1191 := c_ishl (vb1131 &&& (31 : Int32)) (6 : Int32) 6 (by decide); simp only [show (2 ^ 6 : Nat) = 64 from by decide, Int.cast_ofNat_Int] at ar1191)
              have ar1192 := rng32 vb1153
              have ar1193 : (63 : Int32).toInt = 63 := by decide
              have ar1194 := c_mask vb1153 (63 : Int32) 6 (by decide) (by decide)
              simp only [show (2 ^ 6 : Nat) = 64 from by decide, Int.cast_ofNat_Int] at ar1194
              have ar1195 := rng32 (vb1153 &&& (63 : Int32))
              have ar1196 := rng32 (((vb1131 &&& (31 : Int32)) <<< ((6 : Int32) &&& 31)) ||| (vb1153 &&& (63 : Int32)))
              first | have ar1197 : (((vb1131 &&& (31 : Int32)) <<< ((6 : Int32) &&& 31)) ||| (vb1153 &&& (63 : Int32))).toInt = ((vb1131 &&& (31 : Int32)) <<< ((6 : Int32) &&& 31)).toInt + (vb1153 &&& (63 : Int32)).toInt := (by have qw := c_or ((vb1131 &&& (31 : Int32)) <<< ((6 : Int32) &&& 31)) (vb1153 &&& (63 : Int32)) 6 (by decide) 64 (by decide) (by omega) (by omega) (by omega); omega) | (have ar1197 := c_or ((vb1131 &&& (31 : Int32)) <<< ((6 : Int32) &&& 31)) (vb1153 &&& (63 : Int32)) 6 (by decide) 64 (by decide) (by omega) (by omega) (by omega); skip)
              have ar1198 := congrArg Int32.toInt hv1184
              have ar1199 : (128 : Int32).toInt = 128 := by decide
              exact fun qq_ => absurd (Int32.lt_iff_toInt_lt.mp qq_) (by omega))
          have hc443_1216 : v1184 = vcp216 := (by
              have ar1201 := rng32 v1184
              have ar1202 := rng32 vb1131
              have ar1203 : (31 : Int32).toInt = 31 := by decide
              have ar1204 := c_mask vb1131 (31 : Int32) 5 (by decide) (by decide)
              simp only [show (2 ^ 5 : Nat) = 32 from by decide, Int.cast_ofNat_Int] at ar1204
              have ar1205 := rng32 (vb1131 &&& (31 : Int32))
              have ar1206 := rng32 ((vb1131 &&& (31 : Int32)) <<< ((6 : Int32) &&& 31))
              first | have ar1207 : ((vb1131 &&& (31 : Int32)) <<< ((6 : Int32) &&& 31)).toInt = (vb1131 &&& (31 : Int32)).toInt * 64 := (by have qw := c_ishl (vb1131 &&& (31 : Int32)) (6 : Int32) 6 (by decide); simp only [show (2 ^ 6 : Nat) = 64 from by decide, Int.cast_ofNat_Int] at qw; omega) | (have ar1207 := c_ishl (vb1131 &&& (31 : Int32)) (6 : Int32) 6 (by decide); simp only [show (2 ^ 6 : Nat) = 64 from by decide, Int.cast_ofNat_Int] at ar1207)
              have ar1208 := rng32 vb1153
              have ar1209 : (63 : Int32).toInt = 63 := by decide
              have ar1210 := c_mask vb1153 (63 : Int32) 6 (by decide) (by decide)
              simp only [show (2 ^ 6 : Nat) = 64 from by decide, Int.cast_ofNat_Int] at ar1210
              have ar1211 := rng32 (vb1153 &&& (63 : Int32))
              have ar1212 := rng32 (((vb1131 &&& (31 : Int32)) <<< ((6 : Int32) &&& 31)) ||| (vb1153 &&& (63 : Int32)))
              first | have ar1213 : (((vb1131 &&& (31 : Int32)) <<< ((6 : Int32) &&& 31)) ||| (vb1153 &&& (63 : Int32))).toInt = ((vb1131 &&& (31 : Int32)) <<< ((6 : Int32) &&& 31)).toInt + (vb1153 &&& (63 : Int32)).toInt := (by have qw := c_or ((vb1131 &&& (31 : Int32)) <<< ((6 : Int32) &&& 31)) (vb1153 &&& (63 : Int32)) 6 (by decide) 64 (by decide) (by omega) (by omega) (by omega); omega) | (have ar1213 := c_or ((vb1131 &&& (31 : Int32)) <<< ((6 : Int32) &&& 31)) (vb1153 &&& (63 : Int32)) 6 (by decide) 64 (by decide) (by omega) (by omega) (by omega); skip)
              have ar1214 := congrArg Int32.toInt hv1184
              have ar1215 := rng32 vcp216
              exact Int32.toInt_inj.mp (by omega))
          have k1217 : ∀ tg_, Steps p.tables e below (T1067.setTop (mkF m 451 #[.val (.int p0), .val (.int p1), .val (.int p2), .val (.int vcp216), .val (.int vat956), .val (.int v958), .val (.ref b959), .val (.int r1069), .val (.int v1073), .val (.int vb1131), .val (.int v1184), .val (.int (128 : Int32)), .val (.int vb1153), .unset, .unset] [(.int (1 : Int32))])) tg_ → Steps p.tables e below (s₁.setTop (entryFrame m #[(.int p0), (.int p1), (.int p2)] maxLocals)) tg_ := by
            intro tg_ kt
            refine k1183 tg_ ?_
            refine XS.istore X1067.here hx rfl (hb hby at_264) rfl (l' := #[.val (.int p0), .val (.int p1), .val (.int p2), .val (.int vcp216), .val (.int vat956), .val (.int v958), .val (.ref b959), .val (.int r1069), .val (.int v1073), .val (.int vb1131), .val (.int v1184), .unset, .val (.int vb1153), .unset, .unset]) rfl ?_
            show Steps p.tables e below (T1067.setTop (mkF m 266 #[.val (.int p0), .val (.int p1), .val (.int p2), .val (.int vcp216), .val (.int vat956), .val (.int v958), .val (.ref b959), .val (.int r1069), .val (.int v1073), .val (.int vb1131), .val (.int v1184), .unset, .val (.int vb1153), .unset, .unset] [])) _
            refine XS.sipush X1067.here hx rfl (hb hby at_266) ?_
            show Steps p.tables e below (T1067.setTop (mkF m 269 #[.val (.int p0), .val (.int p1), .val (.int p2), .val (.int vcp216), .val (.int vat956), .val (.int v958), .val (.ref b959), .val (.int r1069), .val (.int v1073), .val (.int vb1131), .val (.int v1184), .unset, .val (.int vb1153), .unset, .unset] [(.int (128 : Int32))])) _
            refine XS.istore X1067.here hx rfl (hb hby at_269) rfl (l' := #[.val (.int p0), .val (.int p1), .val (.int p2), .val (.int vcp216), .val (.int vat956), .val (.int v958), .val (.ref b959), .val (.int r1069), .val (.int v1073), .val (.int vb1131), .val (.int v1184), .val (.int (128 : Int32)), .val (.int vb1153), .unset, .unset]) rfl ?_
            show Steps p.tables e below (T1067.setTop (mkF m 271 #[.val (.int p0), .val (.int p1), .val (.int p2), .val (.int vcp216), .val (.int vat956), .val (.int v958), .val (.ref b959), .val (.int r1069), .val (.int v1073), .val (.int vb1131), .val (.int v1184), .val (.int (128 : Int32)), .val (.int vb1153), .unset, .unset] [])) _
            refine XS.goto X1067.here hx rfl (pc0 := 271) (pc' := 433) rfl (hb hby at_271) (by decide) (by decide) ?_
            show Steps p.tables e below (T1067.setTop (mkF m 433 #[.val (.int p0), .val (.int p1), .val (.int p2), .val (.int vcp216), .val (.int vat956), .val (.int v958), .val (.ref b959), .val (.int r1069), .val (.int v1073), .val (.int vb1131), .val (.int v1184), .val (.int (128 : Int32)), .val (.int vb1153), .unset, .unset] [])) _
            refine XS.iload X1067.here hx rfl (hb hby at_433) rfl ?_
            show Steps p.tables e below (T1067.setTop (mkF m 435 #[.val (.int p0), .val (.int p1), .val (.int p2), .val (.int vcp216), .val (.int vat956), .val (.int v958), .val (.ref b959), .val (.int r1069), .val (.int v1073), .val (.int vb1131), .val (.int v1184), .val (.int (128 : Int32)), .val (.int vb1153), .unset, .unset] [(.int v1184)])) _
            refine XS.iload X1067.here hx rfl (hb hby at_435) rfl ?_
            show Steps p.tables e below (T1067.setTop (mkF m 437 #[.val (.int p0), .val (.int p1), .val (.int p2), .val (.int vcp216), .val (.int vat956), .val (.int v958), .val (.ref b959), .val (.int r1069), .val (.int v1073), .val (.int vb1131), .val (.int v1184), .val (.int (128 : Int32)), .val (.int vb1153), .unset, .unset] [(.int (128 : Int32)), (.int v1184)])) _
            refine XS.icmpNo X1067.here hx rfl (hb hby at_437) rfl (flt hc437_1200).1 ?_
            show Steps p.tables e below (T1067.setTop (mkF m 440 #[.val (.int p0), .val (.int p1), .val (.int p2), .val (.int vcp216), .val (.int vat956), .val (.int v958), .val (.ref b959), .val (.int r1069), .val (.int v1073), .val (.int vb1131), .val (.int v1184), .val (.int (128 : Int32)), .val (.int vb1153), .unset, .unset] [])) _
            refine XS.iload X1067.here hx rfl (hb hby at_440) rfl ?_
            show Steps p.tables e below (T1067.setTop (mkF m 442 #[.val (.int p0), .val (.int p1), .val (.int p2), .val (.int vcp216), .val (.int vat956), .val (.int v958), .val (.ref b959), .val (.int r1069), .val (.int v1073), .val (.int vb1131), .val (.int v1184), .val (.int (128 : Int32)), .val (.int vb1153), .unset, .unset] [(.int v1184)])) _
            refine XS.iloadN X1067.here hx rfl (hb hby at_442) rfl ?_
            show Steps p.tables e below (T1067.setTop (mkF m 443 #[.val (.int p0), .val (.int p1), .val (.int p2), .val (.int vcp216), .val (.int vat956), .val (.int v958), .val (.ref b959), .val (.int r1069), .val (.int v1073), .val (.int vb1131), .val (.int v1184), .val (.int (128 : Int32)), .val (.int vb1153), .unset, .unset] [(.int vcp216), (.int v1184)])) _
            refine XS.icmpNo X1067.here hx rfl (hb hby at_443) rfl (teq hc443_1216).2 ?_
            show Steps p.tables e below (T1067.setTop (mkF m 446 #[.val (.int p0), .val (.int p1), .val (.int p2), .val (.int vcp216), .val (.int vat956), .val (.int v958), .val (.ref b959), .val (.int r1069), .val (.int v1073), .val (.int vb1131), .val (.int v1184), .val (.int (128 : Int32)), .val (.int vb1153), .unset, .unset] [])) _
            refine XS.iconst X1067.here hx rfl (hb hby at_446) ?_
            show Steps p.tables e below (T1067.setTop (mkF m 447 #[.val (.int p0), .val (.int p1), .val (.int p2), .val (.int vcp216), .val (.int vat956), .val (.int v958), .val (.ref b959), .val (.int r1069), .val (.int v1073), .val (.int vb1131), .val (.int v1184), .val (.int (128 : Int32)), .val (.int vb1153), .unset, .unset] [(.int (1 : Int32))])) _
            refine XS.goto X1067.here hx rfl (pc0 := 447) (pc' := 451) rfl (hb hby at_447) (by decide) (by decide) ?_
            show Steps p.tables e below (T1067.setTop (mkF m 451 #[.val (.int p0), .val (.int p1), .val (.int p2), .val (.int vcp216), .val (.int vat956), .val (.int v958), .val (.ref b959), .val (.int r1069), .val (.int v1073), .val (.int vb1131), .val (.int v1184), .val (.int (128 : Int32)), .val (.int vb1153), .unset, .unset] [(.int (1 : Int32))])) _
            exact kt
          obtain ⟨fs, hr, hrun, hended, hW, hsame⟩ := X1067.leave (v := some (.int (1 : Int32))) (fun h => by rw [Bd.returns] at h; cases h)
          refine ⟨_, _, k1217 _ (retN X1067 hx (t := .boolean) Bd.returns (by simp) (hb hby at_451) hr), hrun, hended, _, _, rfl, ?_, ⟨_, rfl⟩, hW, hsame.mono (by decide) (by decide)⟩
          show Q0 Z p0 p1 p2 h0 n0 _ T1067.heap _
          exact ⟨rfl, N1067⟩
        · by_cases hc109_1218 : vcp216 < (65536 : Int32)
          · have Lhc109_982 : ¬ (vcp216.toInt < 128) := fun q => hc109_982 (Int32.lt_iff_toInt_lt.mpr q)
            have Lhc109_1065 : ¬ (vcp216.toInt < 2048) := fun q => hc109_1065 (Int32.lt_iff_toInt_lt.mpr q)
            have Lhc109_1218 : vcp216.toInt < 65536 := Int32.lt_iff_toInt_lt.mp hc109_1218
            have f1219 := (Nat.le_trans (Nat.le_trans (Nat.le_trans (Nat.le_trans (Nat.le_trans (Nat.le_trans (Nat.le_trans (Nat.le_trans (Nat.le_trans (Nat.le_trans (Nat.le_trans (Nat.le_trans (Nat.le_trans Z0 ((Keep.refl _ []).ext E959).1) (Keep.of_wr W960).1) (Keep.of_wr W961).1) (Keep.of_wr W962).1) (Keep.of_wr W963).1) (Keep.of_wr W964).1) (Keep.of_wr W966).1) (Keep.of_wr W967).1) (Keep.of_wr W968).1) (Keep.of_wr W969).1) (Keep.of_wr W970).1) (Keep.of_wr W971).1) (Keep.of_wr W972).1)
            obtain ⟨_, _, ⟨T1220, L1220, kc1220, nc1220⟩, -, X1220, ⟨Lc1220, hQ1220, l1220, y1220, z1220⟩, st1220⟩ := Jvm.LawKit.callS X972 hx (y := (⟨"com/example/benzer/benzer/FeatureHash", "encode", "(I[BI)I"⟩ : MethodName)) hown (mvT hZ (hw _ (List.mem_of_getElem? (i := 4) rfl))) (mvT hZ (hw _ (List.mem_of_getElem? (i := 5) rfl))) (mvT hZ (hw _ (List.mem_of_getElem? (i := 6) rfl))) (mvT hZ (hw _ (List.mem_of_getElem? (i := 7) rfl))) (by decide) (backOf (W := 0) (rmenc3 l Z a0 hw [] vcp216 b959 vat956 k (fun _ => v958) h972 n0 f1219 V974 ge_b959 hk hk7 hc109_982 hc109_1065 hc109_1218) hZ (hw _ (List.mem_of_getElem? (i := 7) rfl)) (hw _ (List.mem_of_getElem? (i := 6) rfl)) (by decide) (by decide)) (g := (mkF m 109 #[.val (.int p0), .val (.int p1), .val (.int p2), .val (.int vcp216), .val (.int vat956), .val (.int v958), .val (.ref b959), .unset, .unset, .unset, .unset, .unset, .unset, .unset, .unset] [(.int vat956), (.ref b959), (.int vcp216)])) rfl (by rw [hml]; rfl) (argsL := [(.int vcp216), (.ref b959), (.int vat956)]) (rest := []) (lenOf pd_0 rfl) rfl (by show 2 * 0 + _ ≤ _; exact Nat.le_of_eq rfl) (hb hby at_109) (fun _ _ => ⟨rfl, e972, (by decide : 1 + 0 ≤ _), (by decide : 12 + 0 ≤ _)⟩)
            dsimp only [Pt.U, Pt.locs, Pt.cells, Pt.slots] at X1220 l1220 y1220 z1220 st1220 hQ1220
            rw [l1220, y1220, z1220] at X1220
            replace X1220 : Stand p l e room_1 s m #[(.int p0), (.int p1), (.int p2)] below meth c T1220 _ 1 12 := X1220
            obtain ⟨rfl, Nq1220, oK1220, oAa1220⟩ := hQ1220
            have N1220 := Fr.app N972 Nq1220
            have k1221 : ∀ tg_, Steps p.tables e below (T1220.setTop (mkF m 112 #[.val (.int p0), .val (.int p1), .val (.int p2), .val (.int vcp216), .val (.int vat956), .val (.int v958), .val (.ref b959), .unset, .unset, .unset, .unset, .unset, .unset, .unset, .unset] [(.int (((vat956 + (1 : Int32)) + (1 : Int32)) + (1 : Int32)))])) tg_ → Steps p.tables e below (s₁.setTop (entryFrame m #[(.int p0), (.int p1), (.int p2)] maxLocals)) tg_ := by
              intro tg_ kt
              refine k981 tg_ ?_
              refine st1220 _ ?_
              show Steps p.tables e below (T1220.setTop (mkF m 112 #[.val (.int p0), .val (.int p1), .val (.int p2), .val (.int vcp216), .val (.int vat956), .val (.int v958), .val (.ref b959), .unset, .unset, .unset, .unset, .unset, .unset, .unset, .unset] [(.int (((vat956 + (1 : Int32)) + (1 : Int32)) + (1 : Int32)))])) _
              exact kt
            obtain ⟨r1222, hr1222⟩ : ∃ z : Int32, z = (((vat956 + (1 : Int32)) + (1 : Int32)) + (1 : Int32)) := ⟨_, rfl⟩
            rw [← hr1222] at k1221
            have k1224 : ∀ tg_, Steps p.tables e below (T1220.setTop (mkF m 114 #[.val (.int p0), .val (.int p1), .val (.int p2), .val (.int vcp216), .val (.int vat956), .val (.int v958), .val (.ref b959), .val (.int r1222), .unset, .unset, .unset, .unset, .unset, .unset, .unset] [])) tg_ → Steps p.tables e below (s₁.setTop (entryFrame m #[(.int p0), (.int p1), (.int p2)] maxLocals)) tg_ := by
              intro tg_ kt
              refine k1221 tg_ ?_
              show Steps p.tables e below (T1220.setTop (mkF m 112 #[.val (.int p0), .val (.int p1), .val (.int p2), .val (.int vcp216), .val (.int vat956), .val (.int v958), .val (.ref b959), .unset, .unset, .unset, .unset, .unset, .unset, .unset, .unset] [(.int r1222)])) _
              refine XS.istore X1220.here hx rfl (hb hby at_112) rfl (l' := #[.val (.int p0), .val (.int p1), .val (.int p2), .val (.int vcp216), .val (.int vat956), .val (.int v958), .val (.ref b959), .val (.int r1222), .unset, .unset, .unset, .unset, .unset, .unset, .unset]) rfl ?_
              show Steps p.tables e below (T1220.setTop (mkF m 114 #[.val (.int p0), .val (.int p1), .val (.int p2), .val (.int vcp216), .val (.int vat956), .val (.int v958), .val (.ref b959), .val (.int r1222), .unset, .unset, .unset, .unset, .unset, .unset, .unset] [])) _
              exact kt
            obtain ⟨g1223, hg1223⟩ : ∃ z : Nat → Int32, z = (own_upd (own_upd (own_upd (fun _ => v958) k ((((224 : Int32) ||| ((vcp216.toUInt32 >>> ((12 : Int32) &&& 31).toUInt32).toInt32)).toInt8.toInt32).toInt8.toInt32)) (k + 1) ((((128 : Int32) ||| (((vcp216.toUInt32 >>> ((6 : Int32) &&& 31).toUInt32).toInt32) &&& (63 : Int32))).toInt8.toInt32).toInt8.toInt32)) (k + 2) ((((128 : Int32) ||| (vcp216 &&& (63 : Int32))).toInt8.toInt32).toInt8.toInt32)) := ⟨_, rfl⟩
            rw [← hg1223] at oAa1220
            have k1225 : ∀ tg_, Steps p.tables e below (T1220.setTop (mkF m 119 #[.val (.int p0), .val (.int p1), .val (.int p2), .val (.int vcp216), .val (.int vat956), .val (.int v958), .val (.ref b959), .val (.int r1222), .unset, .unset, .unset, .unset, .unset, .unset, .unset] [(.int (r1222 - vat956))])) tg_ → Steps p.tables e below (s₁.setTop (entryFrame m #[(.int p0), (.int p1), (.int p2)] maxLocals)) tg_ := by
              intro tg_ kt
              refine k1224 tg_ ?_
              refine XS.iload X1220.here hx rfl (hb hby at_114) rfl ?_
              show Steps p.tables e below (T1220.setTop (mkF m 116 #[.val (.int p0), .val (.int p1), .val (.int p2), .val (.int vcp216), .val (.int vat956), .val (.int v958), .val (.ref b959), .val (.int r1222), .unset, .unset, .unset, .unset, .unset, .unset, .unset] [(.int r1222)])) _
              refine XS.iload X1220.here hx rfl (hb hby at_116) rfl ?_
              show Steps p.tables e below (T1220.setTop (mkF m 118 #[.val (.int p0), .val (.int p1), .val (.int p2), .val (.int vcp216), .val (.int vat956), .val (.int v958), .val (.ref b959), .val (.int r1222), .unset, .unset, .unset, .unset, .unset, .unset, .unset] [(.int vat956), (.int r1222)])) _
              refine XS.isub X1220.here hx rfl (hb hby at_118) rfl ?_
              show Steps p.tables e below (T1220.setTop (mkF m 119 #[.val (.int p0), .val (.int p1), .val (.int p2), .val (.int vcp216), .val (.int vat956), .val (.int v958), .val (.ref b959), .val (.int r1222), .unset, .unset, .unset, .unset, .unset, .unset, .unset] [(.int (r1222 - vat956))])) _
              exact kt
            obtain ⟨v1226, hv1226⟩ : ∃ z : Int32, z = (r1222 - vat956) := ⟨_, rfl⟩
            rw [← hv1226] at k1225
            have hc124_1241 : ¬ (v1226 < (1 : Int32)) := (by
                have ar1227 := rng32 v1226
                have ar1228 := rng32 r1222
                have ar1229 := rng32 vat956
                have ar1230 : (1 : Int32).toInt = 1 := by decide
                have ar1231 := rng32 (vat956 + (1 : Int32))
                first | have ar1232 : (vat956 + (1 : Int32)).toInt = vat956.toInt + 1 := (by have qw := c_iadd vat956 (1 : Int32); omega) | (have ar1232 := c_iadd vat956 (1 : Int32); skip)
                have ar1233 := rng32 ((vat956 + (1 : Int32)) + (1 : Int32))
                first | have ar1234 : ((vat956 + (1 : Int32)) + (1 : Int32)).toInt = (vat956 + (1 : Int32)).toInt + 1 := (by have qw := c_iadd (vat956 + (1 : Int32)) (1 : Int32); omega) | (have ar1234 := c_iadd (vat956 + (1 : Int32)) (1 : Int32); skip)
                have ar1235 := rng32 (((vat956 + (1 : Int32)) + (1 : Int32)) + (1 : Int32))
                first | have ar1236 : (((vat956 + (1 : Int32)) + (1 : Int32)) + (1 : Int32)).toInt = ((vat956 + (1 : Int32)) + (1 : Int32)).toInt + 1 := (by have qw := c_iadd ((vat956 + (1 : Int32)) + (1 : Int32)) (1 : Int32); omega) | (have ar1236 := c_iadd ((vat956 + (1 : Int32)) + (1 : Int32)) (1 : Int32); skip)
                have ar1237 := congrArg Int32.toInt hr1222
                have ar1238 := rng32 (r1222 - vat956)
                first | have ar1239 : (r1222 - vat956).toInt = r1222.toInt - vat956.toInt := (by have qw := c_isub r1222 vat956; omega) | (have ar1239 := c_isub r1222 vat956; skip)
                have ar1240 := congrArg Int32.toInt hv1226
                exact fun qq_ => absurd (Int32.lt_iff_toInt_lt.mp qq_) (by omega))
            have hc130_1257 : ¬ ((4 : Int32) < v1226) := (by
                have ar1242 : (4 : Int32).toInt = 4 := by decide
                have ar1243 := rng32 v1226
                have ar1244 := rng32 r1222
                have ar1245 := rng32 vat956
                have ar1246 : (1 : Int32).toInt = 1 := by decide
                have ar1247 := rng32 (vat956 + (1 : Int32))
                first | have ar1248 : (vat956 + (1 : Int32)).toInt = vat956.toInt + 1 := (by have qw := c_iadd vat956 (1 : Int32); omega) | (have ar1248 := c_iadd vat956 (1 : Int32); skip)
                have ar1249 := rng32 ((vat956 + (1 : Int32)) + (1 : Int32))
                first | have ar1250 : ((vat956 + (1 : Int32)) + (1 : Int32)).toInt = (vat956 + (1 : Int32)).toInt + 1 := (by have qw := c_iadd (vat956 + (1 : Int32)) (1 : Int32); omega) | (have ar1250 := c_iadd (vat956 + (1 : Int32)) (1 : Int32); skip)
                have ar1251 := rng32 (((vat956 + (1 : Int32)) + (1 : Int32)) + (1 : Int32))
                first | have ar1252 : (((vat956 + (1 : Int32)) + (1 : Int32)) + (1 : Int32)).toInt = ((vat956 + (1 : Int32)) + (1 : Int32)).toInt + 1 := (by have qw := c_iadd ((vat956 + (1 : Int32)) + (1 : Int32)) (1 : Int32); omega) | (have ar1252 := c_iadd ((vat956 + (1 : Int32)) + (1 : Int32)) (1 : Int32); skip)
                have ar1253 := congrArg Int32.toInt hr1222
                have ar1254 := rng32 (r1222 - vat956)
                first | have ar1255 : (r1222 - vat956).toInt = r1222.toInt - vat956.toInt := (by have qw := c_isub r1222 vat956; omega) | (have ar1255 := c_isub r1222 vat956; skip)
                have ar1256 := congrArg Int32.toInt hv1226
                exact fun qq_ => absurd (Int32.lt_iff_toInt_lt.mp qq_) (by omega))
            have k1258 : ∀ tg_, Steps p.tables e below (T1220.setTop (mkF m 137 #[.val (.int p0), .val (.int p1), .val (.int p2), .val (.int vcp216), .val (.int vat956), .val (.int v958), .val (.ref b959), .val (.int r1222), .val (.int v1226), .unset, .unset, .unset, .unset, .unset, .unset] [(.int vat956)])) tg_ → Steps p.tables e below (s₁.setTop (entryFrame m #[(.int p0), (.int p1), (.int p2)] maxLocals)) tg_ := by
              intro tg_ kt
              refine k1225 tg_ ?_
              refine XS.istore X1220.here hx rfl (hb hby at_119) rfl (l' := #[.val (.int p0), .val (.int p1), .val (.int p2), .val (.int vcp216), .val (.int vat956), .val (.int v958), .val (.ref b959), .val (.int r1222), .val (.int v1226), .unset, .unset, .unset, .unset, .unset, .unset]) rfl ?_
              show Steps p.tables e below (T1220.setTop (mkF m 121 #[.val (.int p0), .val (.int p1), .val (.int p2), .val (.int vcp216), .val (.int vat956), .val (.int v958), .val (.ref b959), .val (.int r1222), .val (.int v1226), .unset, .unset, .unset, .unset, .unset, .unset] [])) _
              refine XS.iload X1220.here hx rfl (hb hby at_121) rfl ?_
              show Steps p.tables e below (T1220.setTop (mkF m 123 #[.val (.int p0), .val (.int p1), .val (.int p2), .val (.int vcp216), .val (.int vat956), .val (.int v958), .val (.ref b959), .val (.int r1222), .val (.int v1226), .unset, .unset, .unset, .unset, .unset, .unset] [(.int v1226)])) _
              refine XS.iconst X1220.here hx rfl (hb hby at_123) ?_
              show Steps p.tables e below (T1220.setTop (mkF m 124 #[.val (.int p0), .val (.int p1), .val (.int p2), .val (.int vcp216), .val (.int vat956), .val (.int v958), .val (.ref b959), .val (.int r1222), .val (.int v1226), .unset, .unset, .unset, .unset, .unset, .unset] [(.int (1 : Int32)), (.int v1226)])) _
              refine XS.icmpNo X1220.here hx rfl (hb hby at_124) rfl (flt hc124_1241).1 ?_
              show Steps p.tables e below (T1220.setTop (mkF m 127 #[.val (.int p0), .val (.int p1), .val (.int p2), .val (.int vcp216), .val (.int vat956), .val (.int v958), .val (.ref b959), .val (.int r1222), .val (.int v1226), .unset, .unset, .unset, .unset, .unset, .unset] [])) _
              refine XS.iload X1220.here hx rfl (hb hby at_127) rfl ?_
              show Steps p.tables e below (T1220.setTop (mkF m 129 #[.val (.int p0), .val (.int p1), .val (.int p2), .val (.int vcp216), .val (.int vat956), .val (.int v958), .val (.ref b959), .val (.int r1222), .val (.int v1226), .unset, .unset, .unset, .unset, .unset, .unset] [(.int v1226)])) _
              refine XS.iconst X1220.here hx rfl (hb hby at_129) ?_
              show Steps p.tables e below (T1220.setTop (mkF m 130 #[.val (.int p0), .val (.int p1), .val (.int p2), .val (.int vcp216), .val (.int vat956), .val (.int v958), .val (.ref b959), .val (.int r1222), .val (.int v1226), .unset, .unset, .unset, .unset, .unset, .unset] [(.int (4 : Int32)), (.int v1226)])) _
              refine XS.icmpYes X1220.here hx rfl (pc0 := 130) (pc' := 135) rfl (hb hby at_130) rfl (flt hc130_1257).2.2.2 (by decide) (by decide) ?_
              show Steps p.tables e below (T1220.setTop (mkF m 135 #[.val (.int p0), .val (.int p1), .val (.int p2), .val (.int vcp216), .val (.int vat956), .val (.int v958), .val (.ref b959), .val (.int r1222), .val (.int v1226), .unset, .unset, .unset, .unset, .unset, .unset] [])) _
              refine XS.iload X1220.here hx rfl (hb hby at_135) rfl ?_
              show Steps p.tables e below (T1220.setTop (mkF m 137 #[.val (.int p0), .val (.int p1), .val (.int p2), .val (.int vcp216), .val (.int vat956), .val (.int v958), .val (.ref b959), .val (.int r1222), .val (.int v1226), .unset, .unset, .unset, .unset, .unset, .unset] [(.int vat956)])) _
              exact kt
            have k1272 : ∀ tg_, Steps p.tables e below (T1220.setTop (mkF m 154 #[.val (.int p0), .val (.int p1), .val (.int p2), .val (.int vcp216), .val (.int vat956), .val (.int v958), .val (.ref b959), .val (.int r1222), .val (.int v1226), .unset, .unset, .unset, .unset, .unset, .unset] [])) tg_ → Steps p.tables e below (s₁.setTop (entryFrame m #[(.int p0), (.int p1), (.int p2)] maxLocals)) tg_ := by
              intro tg_ kt
              refine k1258 tg_ ?_
              by_cases hj137_1259 : (0 : Int32) < vat956
              · have hj1260 : (vat956 - (1 : Int32)).toInt = (((k - 1) : Nat) : Int) := by
                  have ar1261 := rng32 vat956
                  have ar1262 : (1 : Int32).toInt = 1 := by decide
                  have ar1263 := rng32 (vat956 - (1 : Int32))
                  first | have ar1264 : (vat956 - (1 : Int32)).toInt = vat956.toInt - 1 := (by have qw := c_isub vat956 (1 : Int32); omega) | (have ar1264 := c_isub vat956 (1 : Int32); skip)
                  have ar1265 : (0 : Int32).toInt = 0 := by decide
                  have ar1266 : (0 : Int32).toInt < vat956.toInt := Int32.lt_iff_toInt_lt.mp hj137_1259
                  omega
                have hv1267 : g1223 (k - 1) = v958 := by
                  have hk1 : 1 ≤ k := by
                    have ar1268 : (0 : Int32).toInt = 0 := by decide
                    have ar1269 := rng32 vat956
                    have ar1270 : (0 : Int32).toInt < vat956.toInt := Int32.lt_iff_toInt_lt.mp hj137_1259
                    omega
                  rw [hg1223]; simp only [own_upd]
                  rw [if_neg (by omega)]
                  rw [if_neg (by omega)]
                  rw [if_neg (by omega)]
                have hc149_1271 : v958 = v958 := rfl
                refine XS.ifNo X1220.here hx rfl (hb hby at_137) rfl ((if0 _ _).trans (tlt hj137_1259).2.2.2) ?_
                show Steps p.tables e below (T1220.setTop (mkF m 140 #[.val (.int p0), .val (.int p1), .val (.int p2), .val (.int vcp216), .val (.int vat956), .val (.int v958), .val (.ref b959), .val (.int r1222), .val (.int v1226), .unset, .unset, .unset, .unset, .unset, .unset] [])) _
                refine XS.aload X1220.here hx rfl (hb hby at_140) rfl rfl ?_
                show Steps p.tables e below (T1220.setTop (mkF m 142 #[.val (.int p0), .val (.int p1), .val (.int p2), .val (.int vcp216), .val (.int vat956), .val (.int v958), .val (.ref b959), .val (.int r1222), .val (.int v1226), .unset, .unset, .unset, .unset, .unset, .unset] [(.ref b959)])) _
                refine XS.iload X1220.here hx rfl (hb hby at_142) rfl ?_
                show Steps p.tables e below (T1220.setTop (mkF m 144 #[.val (.int p0), .val (.int p1), .val (.int p2), .val (.int vcp216), .val (.int vat956), .val (.int v958), .val (.ref b959), .val (.int r1222), .val (.int v1226), .unset, .unset, .unset, .unset, .unset, .unset] [(.int vat956), (.ref b959)])) _
                refine XS.iconst X1220.here hx rfl (hb hby at_144) ?_
                show Steps p.tables e below (T1220.setTop (mkF m 145 #[.val (.int p0), .val (.int p1), .val (.int p2), .val (.int vcp216), .val (.int vat956), .val (.int v958), .val (.ref b959), .val (.int r1222), .val (.int v1226), .unset, .unset, .unset, .unset, .unset, .unset] [(.int (1 : Int32)), (.int vat956), (.ref b959)])) _
                refine XS.isub X1220.here hx rfl (hb hby at_145) rfl ?_
                show Steps p.tables e below (T1220.setTop (mkF m 146 #[.val (.int p0), .val (.int p1), .val (.int p2), .val (.int vcp216), .val (.int vat956), .val (.int v958), .val (.ref b959), .val (.int r1222), .val (.int v1226), .unset, .unset, .unset, .unset, .unset, .unset] [(.int (vat956 - (1 : Int32))), (.ref b959)])) _
                refine own_ldB X1220 hx hZ rfl oAa1220 (i := (k - 1)) hj1260 (by omega) hv1267 (g := (mkF m 146 #[.val (.int p0), .val (.int p1), .val (.int p2), .val (.int vcp216), .val (.int vat956), .val (.int v958), .val (.ref b959), .val (.int r1222), .val (.int v1226), .unset, .unset, .unset, .unset, .unset, .unset] [(.int (vat956 - (1 : Int32))), (.ref b959)])) rfl rfl (hb hby at_146) _ ?_
                show Steps p.tables e below (T1220.setTop (mkF m 147 #[.val (.int p0), .val (.int p1), .val (.int p2), .val (.int vcp216), .val (.int vat956), .val (.int v958), .val (.ref b959), .val (.int r1222), .val (.int v1226), .unset, .unset, .unset, .unset, .unset, .unset] [(.int v958)])) _
                refine XS.iload X1220.here hx rfl (hb hby at_147) rfl ?_
                show Steps p.tables e below (T1220.setTop (mkF m 149 #[.val (.int p0), .val (.int p1), .val (.int p2), .val (.int vcp216), .val (.int vat956), .val (.int v958), .val (.ref b959), .val (.int r1222), .val (.int v1226), .unset, .unset, .unset, .unset, .unset, .unset] [(.int v958), (.int v958)])) _
                refine XS.icmpYes X1220.here hx rfl (pc0 := 149) (pc' := 154) rfl (hb hby at_149) rfl (teq hc149_1271).1 (by decide) (by decide) ?_
                show Steps p.tables e below (T1220.setTop (mkF m 154 #[.val (.int p0), .val (.int p1), .val (.int p2), .val (.int vcp216), .val (.int vat956), .val (.int v958), .val (.ref b959), .val (.int r1222), .val (.int v1226), .unset, .unset, .unset, .unset, .unset, .unset] [])) _
                simpa only [if_pos hj137_1259] using kt
              · refine XS.ifYes X1220.here hx rfl (pc0 := 137) (pc' := 154) rfl (hb hby at_137) rfl ((if0 _ _).trans (flt hj137_1259).2.2.2) (by decide) (by decide) ?_
                show Steps p.tables e below (T1220.setTop (mkF m 154 #[.val (.int p0), .val (.int p1), .val (.int p2), .val (.int vcp216), .val (.int vat956), .val (.int v958), .val (.ref b959), .val (.int r1222), .val (.int v1226), .unset, .unset, .unset, .unset, .unset, .unset] [])) _
                simpa only [if_neg hj137_1259] using kt
            have hj1273 : r1222.toInt = (((k + 3) : Nat) : Int) := by
              have ar1274 := rng32 r1222
              have ar1275 := rng32 vat956
              have ar1276 : (1 : Int32).toInt = 1 := by decide
              have ar1277 := rng32 (vat956 + (1 : Int32))
              first | have ar1278 : (vat956 + (1 : Int32)).toInt = vat956.toInt + 1 := (by have qw := c_iadd vat956 (1 : Int32); omega) | (have ar1278 := c_iadd vat956 (1 : Int32); skip)
              have ar1279 := rng32 ((vat956 + (1 : Int32)) + (1 : Int32))
              first | have ar1280 : ((vat956 + (1 : Int32)) + (1 : Int32)).toInt = (vat956 + (1 : Int32)).toInt + 1 := (by have qw := c_iadd (vat956 + (1 : Int32)) (1 : Int32); omega) | (have ar1280 := c_iadd (vat956 + (1 : Int32)) (1 : Int32); skip)
              have ar1281 := rng32 (((vat956 + (1 : Int32)) + (1 : Int32)) + (1 : Int32))
              first | have ar1282 : (((vat956 + (1 : Int32)) + (1 : Int32)) + (1 : Int32)).toInt = ((vat956 + (1 : Int32)) + (1 : Int32)).toInt + 1 := (by have qw := c_iadd ((vat956 + (1 : Int32)) + (1 : Int32)) (1 : Int32); omega) | (have ar1282 := c_iadd ((vat956 + (1 : Int32)) + (1 : Int32)) (1 : Int32); skip)
              have ar1283 := congrArg Int32.toInt hr1222
              omega
            have hv1284 : g1223 (k + 3) = v958 := by
              rw [hg1223]; simp only [own_upd]
              rw [if_neg (by omega)]
              rw [if_neg (by omega)]
              rw [if_neg (by omega)]
            have hc161_1285 : v958 = v958 := rfl
            have hj1286 : vat956.toInt = ((k : Nat) : Int) := by
              have ar1287 := rng32 vat956
              omega
            have hv1288 : g1223 k = ((((224 : Int32) ||| ((vcp216.toUInt32 >>> ((12 : Int32) &&& 31).toUInt32).toInt32)).toInt8.toInt32).toInt8.toInt32) := by
              rw [hg1223]; simp only [own_upd]
              rw [if_neg (by omega)]
              rw [if_neg (by omega)]
              rw [if_pos (by omega)]
            have k1289 : ∀ tg_, Steps p.tables e below (T1220.setTop (mkF m 175 #[.val (.int p0), .val (.int p1), .val (.int p2), .val (.int vcp216), .val (.int vat956), .val (.int v958), .val (.ref b959), .val (.int r1222), .val (.int v1226), .unset, .unset, .unset, .unset, .unset, .unset] [(.int (((((224 : Int32) ||| ((vcp216.toUInt32 >>> ((12 : Int32) &&& 31).toUInt32).toInt32)).toInt8.toInt32).toInt8.toInt32) &&& (255 : Int32)))])) tg_ → Steps p.tables e below (s₁.setTop (entryFrame m #[(.int p0), (.int p1), (.int p2)] maxLocals)) tg_ := by
              intro tg_ kt
              refine k1272 tg_ ?_
              refine XS.aload X1220.here hx rfl (hb hby at_154) rfl rfl ?_
              show Steps p.tables e below (T1220.setTop (mkF m 156 #[.val (.int p0), .val (.int p1), .val (.int p2), .val (.int vcp216), .val (.int vat956), .val (.int v958), .val (.ref b959), .val (.int r1222), .val (.int v1226), .unset, .unset, .unset, .unset, .unset, .unset] [(.ref b959)])) _
              refine XS.iload X1220.here hx rfl (hb hby at_156) rfl ?_
              show Steps p.tables e below (T1220.setTop (mkF m 158 #[.val (.int p0), .val (.int p1), .val (.int p2), .val (.int vcp216), .val (.int vat956), .val (.int v958), .val (.ref b959), .val (.int r1222), .val (.int v1226), .unset, .unset, .unset, .unset, .unset, .unset] [(.int r1222), (.ref b959)])) _
              refine own_ldB X1220 hx hZ rfl oAa1220 (i := (k + 3)) hj1273 (by omega) hv1284 (g := (mkF m 158 #[.val (.int p0), .val (.int p1), .val (.int p2), .val (.int vcp216), .val (.int vat956), .val (.int v958), .val (.ref b959), .val (.int r1222), .val (.int v1226), .unset, .unset, .unset, .unset, .unset, .unset] [(.int r1222), (.ref b959)])) rfl rfl (hb hby at_158) _ ?_
              show Steps p.tables e below (T1220.setTop (mkF m 159 #[.val (.int p0), .val (.int p1), .val (.int p2), .val (.int vcp216), .val (.int vat956), .val (.int v958), .val (.ref b959), .val (.int r1222), .val (.int v1226), .unset, .unset, .unset, .unset, .unset, .unset] [(.int v958)])) _
              refine XS.iload X1220.here hx rfl (hb hby at_159) rfl ?_
              show Steps p.tables e below (T1220.setTop (mkF m 161 #[.val (.int p0), .val (.int p1), .val (.int p2), .val (.int vcp216), .val (.int vat956), .val (.int v958), .val (.ref b959), .val (.int r1222), .val (.int v1226), .unset, .unset, .unset, .unset, .unset, .unset] [(.int v958), (.int v958)])) _
              refine XS.icmpYes X1220.here hx rfl (pc0 := 161) (pc' := 166) rfl (hb hby at_161) rfl (teq hc161_1285).1 (by decide) (by decide) ?_
              show Steps p.tables e below (T1220.setTop (mkF m 166 #[.val (.int p0), .val (.int p1), .val (.int p2), .val (.int vcp216), .val (.int vat956), .val (.int v958), .val (.ref b959), .val (.int r1222), .val (.int v1226), .unset, .unset, .unset, .unset, .unset, .unset] [])) _
              refine XS.aload X1220.here hx rfl (hb hby at_166) rfl rfl ?_
              show Steps p.tables e below (T1220.setTop (mkF m 168 #[.val (.int p0), .val (.int p1), .val (.int p2), .val (.int vcp216), .val (.int vat956), .val (.int v958), .val (.ref b959), .val (.int r1222), .val (.int v1226), .unset, .unset, .unset, .unset, .unset, .unset] [(.ref b959)])) _
              refine XS.iload X1220.here hx rfl (hb hby at_168) rfl ?_
              show Steps p.tables e below (T1220.setTop (mkF m 170 #[.val (.int p0), .val (.int p1), .val (.int p2), .val (.int vcp216), .val (.int vat956), .val (.int v958), .val (.ref b959), .val (.int r1222), .val (.int v1226), .unset, .unset, .unset, .unset, .unset, .unset] [(.int vat956), (.ref b959)])) _
              refine own_ldB X1220 hx hZ rfl oAa1220 (i := k) hj1286 (by omega) hv1288 (g := (mkF m 170 #[.val (.int p0), .val (.int p1), .val (.int p2), .val (.int vcp216), .val (.int vat956), .val (.int v958), .val (.ref b959), .val (.int r1222), .val (.int v1226), .unset, .unset, .unset, .unset, .unset, .unset] [(.int vat956), (.ref b959)])) rfl rfl (hb hby at_170) _ ?_
              show Steps p.tables e below (T1220.setTop (mkF m 171 #[.val (.int p0), .val (.int p1), .val (.int p2), .val (.int vcp216), .val (.int vat956), .val (.int v958), .val (.ref b959), .val (.int r1222), .val (.int v1226), .unset, .unset, .unset, .unset, .unset, .unset] [(.int ((((224 : Int32) ||| ((vcp216.toUInt32 >>> ((12 : Int32) &&& 31).toUInt32).toInt32)).toInt8.toInt32).toInt8.toInt32))])) _
              refine XS.sipush X1220.here hx rfl (hb hby at_171) ?_
              show Steps p.tables e below (T1220.setTop (mkF m 174 #[.val (.int p0), .val (.int p1), .val (.int p2), .val (.int vcp216), .val (.int vat956), .val (.int v958), .val (.ref b959), .val (.int r1222), .val (.int v1226), .unset, .unset, .unset, .unset, .unset, .unset] [(.int (255 : Int32)), (.int ((((224 : Int32) ||| ((vcp216.toUInt32 >>> ((12 : Int32) &&& 31).toUInt32).toInt32)).toInt8.toInt32).toInt8.toInt32))])) _
              refine XS.iand X1220.here hx rfl (hb hby at_174) rfl ?_
              show Steps p.tables e below (T1220.setTop (mkF m 175 #[.val (.int p0), .val (.int p1), .val (.int p2), .val (.int vcp216), .val (.int vat956), .val (.int v958), .val (.ref b959), .val (.int r1222), .val (.int v1226), .unset, .unset, .unset, .unset, .unset, .unset] [(.int (((((224 : Int32) ||| ((vcp216.toUInt32 >>> ((12 : Int32) &&& 31).toUInt32).toInt32)).toInt8.toInt32).toInt8.toInt32) &&& (255 : Int32)))])) _
              exact kt
            obtain ⟨vb1290, hvb1290⟩ : ∃ z : Int32, z = (((((224 : Int32) ||| ((vcp216.toUInt32 >>> ((12 : Int32) &&& 31).toUInt32).toInt32)).toInt8.toInt32).toInt8.toInt32) &&& (255 : Int32)) := ⟨_, rfl⟩
            rw [← hvb1290] at k1289
            have k1291 : ∀ tg_, Steps p.tables e below (T1220.setTop (mkF m 177 #[.val (.int p0), .val (.int p1), .val (.int p2), .val (.int vcp216), .val (.int vat956), .val (.int v958), .val (.ref b959), .val (.int r1222), .val (.int v1226), .val (.int vb1290), .unset, .unset, .unset, .unset, .unset] [])) tg_ → Steps p.tables e below (s₁.setTop (entryFrame m #[(.int p0), (.int p1), (.int p2)] maxLocals)) tg_ := by
              intro tg_ kt
              refine k1289 tg_ ?_
              refine XS.istore X1220.here hx rfl (hb hby at_175) rfl (l' := #[.val (.int p0), .val (.int p1), .val (.int p2), .val (.int vcp216), .val (.int vat956), .val (.int v958), .val (.ref b959), .val (.int r1222), .val (.int v1226), .val (.int vb1290), .unset, .unset, .unset, .unset, .unset]) rfl ?_
              show Steps p.tables e below (T1220.setTop (mkF m 177 #[.val (.int p0), .val (.int p1), .val (.int p2), .val (.int vcp216), .val (.int vat956), .val (.int v958), .val (.ref b959), .val (.int r1222), .val (.int v1226), .val (.int vb1290), .unset, .unset, .unset, .unset, .unset] [])) _
              exact kt
            have hbv_vb1290 : vb1290.toInt = 224 + vcp216.toInt / 4096 := by rw [hvb1290]; exact own_e3_0 vcp216 (by omega) (by omega)
            have hc180_1306 : ¬ (v1226 = (1 : Int32)) := (by
                have ar1292 := rng32 v1226
                have ar1293 := rng32 r1222
                have ar1294 := rng32 vat956
                have ar1295 : (1 : Int32).toInt = 1 := by decide
                have ar1296 := rng32 (vat956 + (1 : Int32))
                first | have ar1297 : (vat956 + (1 : Int32)).toInt = vat956.toInt + 1 := (by have qw := c_iadd vat956 (1 : Int32); omega) | (have ar1297 := c_iadd vat956 (1 : Int32); skip)
                have ar1298 := rng32 ((vat956 + (1 : Int32)) + (1 : Int32))
                first | have ar1299 : ((vat956 + (1 : Int32)) + (1 : Int32)).toInt = (vat956 + (1 : Int32)).toInt + 1 := (by have qw := c_iadd (vat956 + (1 : Int32)) (1 : Int32); omega) | (have ar1299 := c_iadd (vat956 + (1 : Int32)) (1 : Int32); skip)
                have ar1300 := rng32 (((vat956 + (1 : Int32)) + (1 : Int32)) + (1 : Int32))
                first | have ar1301 : (((vat956 + (1 : Int32)) + (1 : Int32)) + (1 : Int32)).toInt = ((vat956 + (1 : Int32)) + (1 : Int32)).toInt + 1 := (by have qw := c_iadd ((vat956 + (1 : Int32)) + (1 : Int32)) (1 : Int32); omega) | (have ar1301 := c_iadd ((vat956 + (1 : Int32)) + (1 : Int32)) (1 : Int32); skip)
                have ar1302 := congrArg Int32.toInt hr1222
                have ar1303 := rng32 (r1222 - vat956)
                first | have ar1304 : (r1222 - vat956).toInt = r1222.toInt - vat956.toInt := (by have qw := c_isub r1222 vat956; omega) | (have ar1304 := c_isub r1222 vat956; skip)
                have ar1305 := congrArg Int32.toInt hv1226
                exact fun qq_ => absurd (congrArg Int32.toInt qq_) (by omega))
            have hj1307 : (vat956 + (1 : Int32)).toInt = (((k + 1) : Nat) : Int) := by
              have ar1308 := rng32 vat956
              have ar1309 : (1 : Int32).toInt = 1 := by decide
              have ar1310 := rng32 (vat956 + (1 : Int32))
              first | have ar1311 : (vat956 + (1 : Int32)).toInt = vat956.toInt + 1 := (by have qw := c_iadd vat956 (1 : Int32); omega) | (have ar1311 := c_iadd vat956 (1 : Int32); skip)
              omega
            have hv1312 : g1223 (k + 1) = ((((128 : Int32) ||| (((vcp216.toUInt32 >>> ((6 : Int32) &&& 31).toUInt32).toInt32) &&& (63 : Int32))).toInt8.toInt32).toInt8.toInt32) := by
              rw [hg1223]; simp only [own_upd]
              rw [if_neg (by omega)]
              rw [if_pos (by omega)]
            have k1313 : ∀ tg_, Steps p.tables e below (T1220.setTop (mkF m 214 #[.val (.int p0), .val (.int p1), .val (.int p2), .val (.int vcp216), .val (.int vat956), .val (.int v958), .val (.ref b959), .val (.int r1222), .val (.int v1226), .val (.int vb1290), .unset, .unset, .unset, .unset, .unset] [(.int (((((128 : Int32) ||| (((vcp216.toUInt32 >>> ((6 : Int32) &&& 31).toUInt32).toInt32) &&& (63 : Int32))).toInt8.toInt32).toInt8.toInt32) &&& (255 : Int32)))])) tg_ → Steps p.tables e below (s₁.setTop (entryFrame m #[(.int p0), (.int p1), (.int p2)] maxLocals)) tg_ := by
              intro tg_ kt
              refine k1291 tg_ ?_
              refine XS.iload X1220.here hx rfl (hb hby at_177) rfl ?_
              show Steps p.tables e below (T1220.setTop (mkF m 179 #[.val (.int p0), .val (.int p1), .val (.int p2), .val (.int vcp216), .val (.int vat956), .val (.int v958), .val (.ref b959), .val (.int r1222), .val (.int v1226), .val (.int vb1290), .unset, .unset, .unset, .unset, .unset] [(.int v1226)])) _
              refine XS.iconst X1220.here hx rfl (hb hby at_179) ?_
              show Steps p.tables e below (T1220.setTop (mkF m 180 #[.val (.int p0), .val (.int p1), .val (.int p2), .val (.int vcp216), .val (.int vat956), .val (.int v958), .val (.ref b959), .val (.int r1222), .val (.int v1226), .val (.int vb1290), .unset, .unset, .unset, .unset, .unset] [(.int (1 : Int32)), (.int v1226)])) _
              refine XS.icmpYes X1220.here hx rfl (pc0 := 180) (pc' := 203) rfl (hb hby at_180) rfl (feq hc180_1306).2 (by decide) (by decide) ?_
              show Steps p.tables e below (T1220.setTop (mkF m 203 #[.val (.int p0), .val (.int p1), .val (.int p2), .val (.int vcp216), .val (.int vat956), .val (.int v958), .val (.ref b959), .val (.int r1222), .val (.int v1226), .val (.int vb1290), .unset, .unset, .unset, .unset, .unset] [])) _
              refine XS.aload X1220.here hx rfl (hb hby at_203) rfl rfl ?_
              show Steps p.tables e below (T1220.setTop (mkF m 205 #[.val (.int p0), .val (.int p1), .val (.int p2), .val (.int vcp216), .val (.int vat956), .val (.int v958), .val (.ref b959), .val (.int r1222), .val (.int v1226), .val (.int vb1290), .unset, .unset, .unset, .unset, .unset] [(.ref b959)])) _
              refine XS.iload X1220.here hx rfl (hb hby at_205) rfl ?_
              show Steps p.tables e below (T1220.setTop (mkF m 207 #[.val (.int p0), .val (.int p1), .val (.int p2), .val (.int vcp216), .val (.int vat956), .val (.int v958), .val (.ref b959), .val (.int r1222), .val (.int v1226), .val (.int vb1290), .unset, .unset, .unset, .unset, .unset] [(.int vat956), (.ref b959)])) _
              refine XS.iconst X1220.here hx rfl (hb hby at_207) ?_
              show Steps p.tables e below (T1220.setTop (mkF m 208 #[.val (.int p0), .val (.int p1), .val (.int p2), .val (.int vcp216), .val (.int vat956), .val (.int v958), .val (.ref b959), .val (.int r1222), .val (.int v1226), .val (.int vb1290), .unset, .unset, .unset, .unset, .unset] [(.int (1 : Int32)), (.int vat956), (.ref b959)])) _
              refine XS.iadd X1220.here hx rfl (hb hby at_208) rfl ?_
              show Steps p.tables e below (T1220.setTop (mkF m 209 #[.val (.int p0), .val (.int p1), .val (.int p2), .val (.int vcp216), .val (.int vat956), .val (.int v958), .val (.ref b959), .val (.int r1222), .val (.int v1226), .val (.int vb1290), .unset, .unset, .unset, .unset, .unset] [(.int (vat956 + (1 : Int32))), (.ref b959)])) _
              refine own_ldB X1220 hx hZ rfl oAa1220 (i := (k + 1)) hj1307 (by omega) hv1312 (g := (mkF m 209 #[.val (.int p0), .val (.int p1), .val (.int p2), .val (.int vcp216), .val (.int vat956), .val (.int v958), .val (.ref b959), .val (.int r1222), .val (.int v1226), .val (.int vb1290), .unset, .unset, .unset, .unset, .unset] [(.int (vat956 + (1 : Int32))), (.ref b959)])) rfl rfl (hb hby at_209) _ ?_
              show Steps p.tables e below (T1220.setTop (mkF m 210 #[.val (.int p0), .val (.int p1), .val (.int p2), .val (.int vcp216), .val (.int vat956), .val (.int v958), .val (.ref b959), .val (.int r1222), .val (.int v1226), .val (.int vb1290), .unset, .unset, .unset, .unset, .unset] [(.int ((((128 : Int32) ||| (((vcp216.toUInt32 >>> ((6 : Int32) &&& 31).toUInt32).toInt32) &&& (63 : Int32))).toInt8.toInt32).toInt8.toInt32))])) _
              refine XS.sipush X1220.here hx rfl (hb hby at_210) ?_
              show Steps p.tables e below (T1220.setTop (mkF m 213 #[.val (.int p0), .val (.int p1), .val (.int p2), .val (.int vcp216), .val (.int vat956), .val (.int v958), .val (.ref b959), .val (.int r1222), .val (.int v1226), .val (.int vb1290), .unset, .unset, .unset, .unset, .unset] [(.int (255 : Int32)), (.int ((((128 : Int32) ||| (((vcp216.toUInt32 >>> ((6 : Int32) &&& 31).toUInt32).toInt32) &&& (63 : Int32))).toInt8.toInt32).toInt8.toInt32))])) _
              refine XS.iand X1220.here hx rfl (hb hby at_213) rfl ?_
              show Steps p.tables e below (T1220.setTop (mkF m 214 #[.val (.int p0), .val (.int p1), .val (.int p2), .val (.int vcp216), .val (.int vat956), .val (.int v958), .val (.ref b959), .val (.int r1222), .val (.int v1226), .val (.int vb1290), .unset, .unset, .unset, .unset, .unset] [(.int (((((128 : Int32) ||| (((vcp216.toUInt32 >>> ((6 : Int32) &&& 31).toUInt32).toInt32) &&& (63 : Int32))).toInt8.toInt32).toInt8.toInt32) &&& (255 : Int32)))])) _
              exact kt
            obtain ⟨vb1314, hvb1314⟩ : ∃ z : Int32, z = (((((128 : Int32) ||| (((vcp216.toUInt32 >>> ((6 : Int32) &&& 31).toUInt32).toInt32) &&& (63 : Int32))).toInt8.toInt32).toInt8.toInt32) &&& (255 : Int32)) := ⟨_, rfl⟩
            rw [← hvb1314] at k1313
            have k1315 : ∀ tg_, Steps p.tables e below (T1220.setTop (mkF m 216 #[.val (.int p0), .val (.int p1), .val (.int p2), .val (.int vcp216), .val (.int vat956), .val (.int v958), .val (.ref b959), .val (.int r1222), .val (.int v1226), .val (.int vb1290), .unset, .unset, .val (.int vb1314), .unset, .unset] [])) tg_ → Steps p.tables e below (s₁.setTop (entryFrame m #[(.int p0), (.int p1), (.int p2)] maxLocals)) tg_ := by
              intro tg_ kt
              refine k1313 tg_ ?_
              refine XS.istore X1220.here hx rfl (hb hby at_214) rfl (l' := #[.val (.int p0), .val (.int p1), .val (.int p2), .val (.int vcp216), .val (.int vat956), .val (.int v958), .val (.ref b959), .val (.int r1222), .val (.int v1226), .val (.int vb1290), .unset, .unset, .val (.int vb1314), .unset, .unset]) rfl ?_
              show Steps p.tables e below (T1220.setTop (mkF m 216 #[.val (.int p0), .val (.int p1), .val (.int p2), .val (.int vcp216), .val (.int vat956), .val (.int v958), .val (.ref b959), .val (.int r1222), .val (.int v1226), .val (.int vb1290), .unset, .unset, .val (.int vb1314), .unset, .unset] [])) _
              exact kt
            have hbv_vb1314 : vb1314.toInt = 128 + vcp216.toInt / 64 % 64 := by rw [hvb1314]; exact own_e3_1 vcp216 (by omega) (by omega)
            have hc225_1322 : (vb1314 &&& (192 : Int32)) = (128 : Int32) := (by
                have ar1316 := rng32 vb1314
                have ar1317 : (192 : Int32).toInt = 192 := by decide
                first | have ar1318 := own_hi192 vb1314 (by omega) (by omega) | have ar1318 := own_hi192 vb1314
                have ar1319 := c_and vb1314 (192 : Int32) (by decide)
                have ar1320 := rng32 (vb1314 &&& (192 : Int32))
                have ar1321 : (128 : Int32).toInt = 128 := by decide
                exact Int32.toInt_inj.mp (by omega))
            have hc233_1338 : ¬ (v1226 = (2 : Int32)) := (by
                have ar1323 := rng32 v1226
                have ar1324 := rng32 r1222
                have ar1325 := rng32 vat956
                have ar1326 : (1 : Int32).toInt = 1 := by decide
                have ar1327 := rng32 (vat956 + (1 : Int32))
                first | have ar1328 : (vat956 + (1 : Int32)).toInt = vat956.toInt + 1 := (by have qw := c_iadd vat956 (1 : Int32); omega) | (have ar1328 := c_iadd vat956 (1 : Int32); skip)
                have ar1329 := rng32 ((vat956 + (1 : Int32)) + (1 : Int32))
                first | have ar1330 : ((vat956 + (1 : Int32)) + (1 : Int32)).toInt = (vat956 + (1 : Int32)).toInt + 1 := (by have qw := c_iadd (vat956 + (1 : Int32)) (1 : Int32); omega) | (have ar1330 := c_iadd (vat956 + (1 : Int32)) (1 : Int32); skip)
                have ar1331 := rng32 (((vat956 + (1 : Int32)) + (1 : Int32)) + (1 : Int32))
                first | have ar1332 : (((vat956 + (1 : Int32)) + (1 : Int32)) + (1 : Int32)).toInt = ((vat956 + (1 : Int32)) + (1 : Int32)).toInt + 1 := (by have qw := c_iadd ((vat956 + (1 : Int32)) + (1 : Int32)) (1 : Int32); omega) | (have ar1332 := c_iadd ((vat956 + (1 : Int32)) + (1 : Int32)) (1 : Int32); skip)
                have ar1333 := congrArg Int32.toInt hr1222
                have ar1334 := rng32 (r1222 - vat956)
                first | have ar1335 : (r1222 - vat956).toInt = r1222.toInt - vat956.toInt := (by have qw := c_isub r1222 vat956; omega) | (have ar1335 := c_isub r1222 vat956; skip)
                have ar1336 := congrArg Int32.toInt hv1226
                have ar1337 : (2 : Int32).toInt = 2 := by decide
                exact fun qq_ => absurd (congrArg Int32.toInt qq_) (by omega))
            have hj1339 : (vat956 + (2 : Int32)).toInt = (((k + 2) : Nat) : Int) := by
              have ar1340 := rng32 vat956
              have ar1341 : (2 : Int32).toInt = 2 := by decide
              have ar1342 := rng32 (vat956 + (2 : Int32))
              first | have ar1343 : (vat956 + (2 : Int32)).toInt = vat956.toInt + 2 := (by have qw := c_iadd vat956 (2 : Int32); omega) | (have ar1343 := c_iadd vat956 (2 : Int32); skip)
              omega
            have hv1344 : g1223 (k + 2) = ((((128 : Int32) ||| (vcp216 &&& (63 : Int32))).toInt8.toInt32).toInt8.toInt32) := by
              rw [hg1223]; simp only [own_upd]
              rw [if_pos (by omega)]
            have k1345 : ∀ tg_, Steps p.tables e below (T1220.setTop (mkF m 285 #[.val (.int p0), .val (.int p1), .val (.int p2), .val (.int vcp216), .val (.int vat956), .val (.int v958), .val (.ref b959), .val (.int r1222), .val (.int v1226), .val (.int vb1290), .unset, .unset, .val (.int vb1314), .unset, .unset] [(.int (((((128 : Int32) ||| (vcp216 &&& (63 : Int32))).toInt8.toInt32).toInt8.toInt32) &&& (255 : Int32)))])) tg_ → Steps p.tables e below (s₁.setTop (entryFrame m #[(.int p0), (.int p1), (.int p2)] maxLocals)) tg_ := by
              intro tg_ kt
              refine k1315 tg_ ?_
              refine XS.iload X1220.here hx rfl (hb hby at_216) rfl ?_
              show Steps p.tables e below (T1220.setTop (mkF m 218 #[.val (.int p0), .val (.int p1), .val (.int p2), .val (.int vcp216), .val (.int vat956), .val (.int v958), .val (.ref b959), .val (.int r1222), .val (.int v1226), .val (.int vb1290), .unset, .unset, .val (.int vb1314), .unset, .unset] [(.int vb1314)])) _
              refine XS.sipush X1220.here hx rfl (hb hby at_218) ?_
              show Steps p.tables e below (T1220.setTop (mkF m 221 #[.val (.int p0), .val (.int p1), .val (.int p2), .val (.int vcp216), .val (.int vat956), .val (.int v958), .val (.ref b959), .val (.int r1222), .val (.int v1226), .val (.int vb1290), .unset, .unset, .val (.int vb1314), .unset, .unset] [(.int (192 : Int32)), (.int vb1314)])) _
              refine XS.iand X1220.here hx rfl (hb hby at_221) rfl ?_
              show Steps p.tables e below (T1220.setTop (mkF m 222 #[.val (.int p0), .val (.int p1), .val (.int p2), .val (.int vcp216), .val (.int vat956), .val (.int v958), .val (.ref b959), .val (.int r1222), .val (.int v1226), .val (.int vb1290), .unset, .unset, .val (.int vb1314), .unset, .unset] [(.int (vb1314 &&& (192 : Int32)))])) _
              refine XS.sipush X1220.here hx rfl (hb hby at_222) ?_
              show Steps p.tables e below (T1220.setTop (mkF m 225 #[.val (.int p0), .val (.int p1), .val (.int p2), .val (.int vcp216), .val (.int vat956), .val (.int v958), .val (.ref b959), .val (.int r1222), .val (.int v1226), .val (.int vb1290), .unset, .unset, .val (.int vb1314), .unset, .unset] [(.int (128 : Int32)), (.int (vb1314 &&& (192 : Int32)))])) _
              refine XS.icmpYes X1220.here hx rfl (pc0 := 225) (pc' := 230) rfl (hb hby at_225) rfl (teq hc225_1322).1 (by decide) (by decide) ?_
              show Steps p.tables e below (T1220.setTop (mkF m 230 #[.val (.int p0), .val (.int p1), .val (.int p2), .val (.int vcp216), .val (.int vat956), .val (.int v958), .val (.ref b959), .val (.int r1222), .val (.int v1226), .val (.int vb1290), .unset, .unset, .val (.int vb1314), .unset, .unset] [])) _
              refine XS.iload X1220.here hx rfl (hb hby at_230) rfl ?_
              show Steps p.tables e below (T1220.setTop (mkF m 232 #[.val (.int p0), .val (.int p1), .val (.int p2), .val (.int vcp216), .val (.int vat956), .val (.int v958), .val (.ref b959), .val (.int r1222), .val (.int v1226), .val (.int vb1290), .unset, .unset, .val (.int vb1314), .unset, .unset] [(.int v1226)])) _
              refine XS.iconst X1220.here hx rfl (hb hby at_232) ?_
              show Steps p.tables e below (T1220.setTop (mkF m 233 #[.val (.int p0), .val (.int p1), .val (.int p2), .val (.int vcp216), .val (.int vat956), .val (.int v958), .val (.ref b959), .val (.int r1222), .val (.int v1226), .val (.int vb1290), .unset, .unset, .val (.int vb1314), .unset, .unset] [(.int (2 : Int32)), (.int v1226)])) _
              refine XS.icmpYes X1220.here hx rfl (pc0 := 233) (pc' := 274) rfl (hb hby at_233) rfl (feq hc233_1338).2 (by decide) (by decide) ?_
              show Steps p.tables e below (T1220.setTop (mkF m 274 #[.val (.int p0), .val (.int p1), .val (.int p2), .val (.int vcp216), .val (.int vat956), .val (.int v958), .val (.ref b959), .val (.int r1222), .val (.int v1226), .val (.int vb1290), .unset, .unset, .val (.int vb1314), .unset, .unset] [])) _
              refine XS.aload X1220.here hx rfl (hb hby at_274) rfl rfl ?_
              show Steps p.tables e below (T1220.setTop (mkF m 276 #[.val (.int p0), .val (.int p1), .val (.int p2), .val (.int vcp216), .val (.int vat956), .val (.int v958), .val (.ref b959), .val (.int r1222), .val (.int v1226), .val (.int vb1290), .unset, .unset, .val (.int vb1314), .unset, .unset] [(.ref b959)])) _
              refine XS.iload X1220.here hx rfl (hb hby at_276) rfl ?_
              show Steps p.tables e below (T1220.setTop (mkF m 278 #[.val (.int p0), .val (.int p1), .val (.int p2), .val (.int vcp216), .val (.int vat956), .val (.int v958), .val (.ref b959), .val (.int r1222), .val (.int v1226), .val (.int vb1290), .unset, .unset, .val (.int vb1314), .unset, .unset] [(.int vat956), (.ref b959)])) _
              refine XS.iconst X1220.here hx rfl (hb hby at_278) ?_
              show Steps p.tables e below (T1220.setTop (mkF m 279 #[.val (.int p0), .val (.int p1), .val (.int p2), .val (.int vcp216), .val (.int vat956), .val (.int v958), .val (.ref b959), .val (.int r1222), .val (.int v1226), .val (.int vb1290), .unset, .unset, .val (.int vb1314), .unset, .unset] [(.int (2 : Int32)), (.int vat956), (.ref b959)])) _
              refine XS.iadd X1220.here hx rfl (hb hby at_279) rfl ?_
              show Steps p.tables e below (T1220.setTop (mkF m 280 #[.val (.int p0), .val (.int p1), .val (.int p2), .val (.int vcp216), .val (.int vat956), .val (.int v958), .val (.ref b959), .val (.int r1222), .val (.int v1226), .val (.int vb1290), .unset, .unset, .val (.int vb1314), .unset, .unset] [(.int (vat956 + (2 : Int32))), (.ref b959)])) _
              refine own_ldB X1220 hx hZ rfl oAa1220 (i := (k + 2)) hj1339 (by omega) hv1344 (g := (mkF m 280 #[.val (.int p0), .val (.int p1), .val (.int p2), .val (.int vcp216), .val (.int vat956), .val (.int v958), .val (.ref b959), .val (.int r1222), .val (.int v1226), .val (.int vb1290), .unset, .unset, .val (.int vb1314), .unset, .unset] [(.int (vat956 + (2 : Int32))), (.ref b959)])) rfl rfl (hb hby at_280) _ ?_
              show Steps p.tables e below (T1220.setTop (mkF m 281 #[.val (.int p0), .val (.int p1), .val (.int p2), .val (.int vcp216), .val (.int vat956), .val (.int v958), .val (.ref b959), .val (.int r1222), .val (.int v1226), .val (.int vb1290), .unset, .unset, .val (.int vb1314), .unset, .unset] [(.int ((((128 : Int32) ||| (vcp216 &&& (63 : Int32))).toInt8.toInt32).toInt8.toInt32))])) _
              refine XS.sipush X1220.here hx rfl (hb hby at_281) ?_
              show Steps p.tables e below (T1220.setTop (mkF m 284 #[.val (.int p0), .val (.int p1), .val (.int p2), .val (.int vcp216), .val (.int vat956), .val (.int v958), .val (.ref b959), .val (.int r1222), .val (.int v1226), .val (.int vb1290), .unset, .unset, .val (.int vb1314), .unset, .unset] [(.int (255 : Int32)), (.int ((((128 : Int32) ||| (vcp216 &&& (63 : Int32))).toInt8.toInt32).toInt8.toInt32))])) _
              refine XS.iand X1220.here hx rfl (hb hby at_284) rfl ?_
              show Steps p.tables e below (T1220.setTop (mkF m 285 #[.val (.int p0), .val (.int p1), .val (.int p2), .val (.int vcp216), .val (.int vat956), .val (.int v958), .val (.ref b959), .val (.int r1222), .val (.int v1226), .val (.int vb1290), .unset, .unset, .val (.int vb1314), .unset, .unset] [(.int (((((128 : Int32) ||| (vcp216 &&& (63 : Int32))).toInt8.toInt32).toInt8.toInt32) &&& (255 : Int32)))])) _
              exact kt
            obtain ⟨vb1346, hvb1346⟩ : ∃ z : Int32, z = (((((128 : Int32) ||| (vcp216 &&& (63 : Int32))).toInt8.toInt32).toInt8.toInt32) &&& (255 : Int32)) := ⟨_, rfl⟩
            rw [← hvb1346] at k1345
            have k1347 : ∀ tg_, Steps p.tables e below (T1220.setTop (mkF m 287 #[.val (.int p0), .val (.int p1), .val (.int p2), .val (.int vcp216), .val (.int vat956), .val (.int v958), .val (.ref b959), .val (.int r1222), .val (.int v1226), .val (.int vb1290), .unset, .unset, .val (.int vb1314), .val (.int vb1346), .unset] [])) tg_ → Steps p.tables e below (s₁.setTop (entryFrame m #[(.int p0), (.int p1), (.int p2)] maxLocals)) tg_ := by
              intro tg_ kt
              refine k1345 tg_ ?_
              refine XS.istore X1220.here hx rfl (hb hby at_285) rfl (l' := #[.val (.int p0), .val (.int p1), .val (.int p2), .val (.int vcp216), .val (.int vat956), .val (.int v958), .val (.ref b959), .val (.int r1222), .val (.int v1226), .val (.int vb1290), .unset, .unset, .val (.int vb1314), .val (.int vb1346), .unset]) rfl ?_
              show Steps p.tables e below (T1220.setTop (mkF m 287 #[.val (.int p0), .val (.int p1), .val (.int p2), .val (.int vcp216), .val (.int vat956), .val (.int v958), .val (.ref b959), .val (.int r1222), .val (.int v1226), .val (.int vb1290), .unset, .unset, .val (.int vb1314), .val (.int vb1346), .unset] [])) _
              exact kt
            have hbv_vb1346 : vb1346.toInt = 128 + vcp216.toInt % 64 := by rw [hvb1346]; exact own_e3_2 vcp216 (by omega) (by omega)
            have hc296_1354 : (vb1346 &&& (192 : Int32)) = (128 : Int32) := (by
                have ar1348 := rng32 vb1346
                have ar1349 : (192 : Int32).toInt = 192 := by decide
                first | have ar1350 := own_hi192 vb1346 (by omega) (by omega) | have ar1350 := own_hi192 vb1346
                have ar1351 := c_and vb1346 (192 : Int32) (by decide)
                have ar1352 := rng32 (vb1346 &&& (192 : Int32))
                have ar1353 : (128 : Int32).toInt = 128 := by decide
                exact Int32.toInt_inj.mp (by omega))
            have hc304_1370 : v1226 = (3 : Int32) := (by
                have ar1355 := rng32 v1226
                have ar1356 := rng32 r1222
                have ar1357 := rng32 vat956
                have ar1358 : (1 : Int32).toInt = 1 := by decide
                have ar1359 := rng32 (vat956 + (1 : Int32))
                first | have ar1360 : (vat956 + (1 : Int32)).toInt = vat956.toInt + 1 := (by have qw := c_iadd vat956 (1 : Int32); omega) | (have ar1360 := c_iadd vat956 (1 : Int32); skip)
                have ar1361 := rng32 ((vat956 + (1 : Int32)) + (1 : Int32))
                first | have ar1362 : ((vat956 + (1 : Int32)) + (1 : Int32)).toInt = (vat956 + (1 : Int32)).toInt + 1 := (by have qw := c_iadd (vat956 + (1 : Int32)) (1 : Int32); omega) | (have ar1362 := c_iadd (vat956 + (1 : Int32)) (1 : Int32); skip)
                have ar1363 := rng32 (((vat956 + (1 : Int32)) + (1 : Int32)) + (1 : Int32))
                first | have ar1364 : (((vat956 + (1 : Int32)) + (1 : Int32)) + (1 : Int32)).toInt = ((vat956 + (1 : Int32)) + (1 : Int32)).toInt + 1 := (by have qw := c_iadd ((vat956 + (1 : Int32)) + (1 : Int32)) (1 : Int32); omega) | (have ar1364 := c_iadd ((vat956 + (1 : Int32)) + (1 : Int32)) (1 : Int32); skip)
                have ar1365 := congrArg Int32.toInt hr1222
                have ar1366 := rng32 (r1222 - vat956)
                first | have ar1367 : (r1222 - vat956).toInt = r1222.toInt - vat956.toInt := (by have qw := c_isub r1222 vat956; omega) | (have ar1367 := c_isub r1222 vat956; skip)
                have ar1368 := congrArg Int32.toInt hv1226
                have ar1369 : (3 : Int32).toInt = 3 := by decide
                exact Int32.toInt_inj.mp (by omega))
            have hc316_1377 : (vb1290 &&& (240 : Int32)) = (224 : Int32) := (by
                have ar1371 := rng32 vb1290
                have ar1372 : (240 : Int32).toInt = 240 := by decide
                first | have ar1373 := own_hi240 vb1290 (by omega) (by omega) | have ar1373 := own_hi240 vb1290
                have ar1374 := c_and vb1290 (240 : Int32) (by decide)
                have ar1375 := rng32 (vb1290 &&& (240 : Int32))
                have ar1376 : (224 : Int32).toInt = 224 := by decide
                exact Int32.toInt_inj.mp (by omega))
            have k1378 : ∀ tg_, Steps p.tables e below (T1220.setTop (mkF m 342 #[.val (.int p0), .val (.int p1), .val (.int p2), .val (.int vcp216), .val (.int vat956), .val (.int v958), .val (.ref b959), .val (.int r1222), .val (.int v1226), .val (.int vb1290), .unset, .unset, .val (.int vb1314), .val (.int vb1346), .unset] [(.int (63 : Int32)), (.int vb1346), (.int (((vb1290 &&& (15 : Int32)) <<< ((12 : Int32) &&& 31)) ||| ((vb1314 &&& (63 : Int32)) <<< ((6 : Int32) &&& 31))))])) tg_ → Steps p.tables e below (s₁.setTop (entryFrame m #[(.int p0), (.int p1), (.int p2)] maxLocals)) tg_ := by
              intro tg_ kt
              refine k1347 tg_ ?_
              refine XS.iload X1220.here hx rfl (hb hby at_287) rfl ?_
              show Steps p.tables e below (T1220.setTop (mkF m 289 #[.val (.int p0), .val (.int p1), .val (.int p2), .val (.int vcp216), .val (.int vat956), .val (.int v958), .val (.ref b959), .val (.int r1222), .val (.int v1226), .val (.int vb1290), .unset, .unset, .val (.int vb1314), .val (.int vb1346), .unset] [(.int vb1346)])) _
              refine XS.sipush X1220.here hx rfl (hb hby at_289) ?_
              show Steps p.tables e below (T1220.setTop (mkF m 292 #[.val (.int p0), .val (.int p1), .val (.int p2), .val (.int vcp216), .val (.int vat956), .val (.int v958), .val (.ref b959), .val (.int r1222), .val (.int v1226), .val (.int vb1290), .unset, .unset, .val (.int vb1314), .val (.int vb1346), .unset] [(.int (192 : Int32)), (.int vb1346)])) _
              refine XS.iand X1220.here hx rfl (hb hby at_292) rfl ?_
              show Steps p.tables e below (T1220.setTop (mkF m 293 #[.val (.int p0), .val (.int p1), .val (.int p2), .val (.int vcp216), .val (.int vat956), .val (.int v958), .val (.ref b959), .val (.int r1222), .val (.int v1226), .val (.int vb1290), .unset, .unset, .val (.int vb1314), .val (.int vb1346), .unset] [(.int (vb1346 &&& (192 : Int32)))])) _
              refine XS.sipush X1220.here hx rfl (hb hby at_293) ?_
              show Steps p.tables e below (T1220.setTop (mkF m 296 #[.val (.int p0), .val (.int p1), .val (.int p2), .val (.int vcp216), .val (.int vat956), .val (.int v958), .val (.ref b959), .val (.int r1222), .val (.int v1226), .val (.int vb1290), .unset, .unset, .val (.int vb1314), .val (.int vb1346), .unset] [(.int (128 : Int32)), (.int (vb1346 &&& (192 : Int32)))])) _
              refine XS.icmpYes X1220.here hx rfl (pc0 := 296) (pc' := 301) rfl (hb hby at_296) rfl (teq hc296_1354).1 (by decide) (by decide) ?_
              show Steps p.tables e below (T1220.setTop (mkF m 301 #[.val (.int p0), .val (.int p1), .val (.int p2), .val (.int vcp216), .val (.int vat956), .val (.int v958), .val (.ref b959), .val (.int r1222), .val (.int v1226), .val (.int vb1290), .unset, .unset, .val (.int vb1314), .val (.int vb1346), .unset] [])) _
              refine XS.iload X1220.here hx rfl (hb hby at_301) rfl ?_
              show Steps p.tables e below (T1220.setTop (mkF m 303 #[.val (.int p0), .val (.int p1), .val (.int p2), .val (.int vcp216), .val (.int vat956), .val (.int v958), .val (.ref b959), .val (.int r1222), .val (.int v1226), .val (.int vb1290), .unset, .unset, .val (.int vb1314), .val (.int vb1346), .unset] [(.int v1226)])) _
              refine XS.iconst X1220.here hx rfl (hb hby at_303) ?_
              show Steps p.tables e below (T1220.setTop (mkF m 304 #[.val (.int p0), .val (.int p1), .val (.int p2), .val (.int vcp216), .val (.int vat956), .val (.int v958), .val (.ref b959), .val (.int r1222), .val (.int v1226), .val (.int vb1290), .unset, .unset, .val (.int vb1314), .val (.int vb1346), .unset] [(.int (3 : Int32)), (.int v1226)])) _
              refine XS.icmpNo X1220.here hx rfl (hb hby at_304) rfl (teq hc304_1370).2 ?_
              show Steps p.tables e below (T1220.setTop (mkF m 307 #[.val (.int p0), .val (.int p1), .val (.int p2), .val (.int vcp216), .val (.int vat956), .val (.int v958), .val (.ref b959), .val (.int r1222), .val (.int v1226), .val (.int vb1290), .unset, .unset, .val (.int vb1314), .val (.int vb1346), .unset] [])) _
              refine XS.iload X1220.here hx rfl (hb hby at_307) rfl ?_
              show Steps p.tables e below (T1220.setTop (mkF m 309 #[.val (.int p0), .val (.int p1), .val (.int p2), .val (.int vcp216), .val (.int vat956), .val (.int v958), .val (.ref b959), .val (.int r1222), .val (.int v1226), .val (.int vb1290), .unset, .unset, .val (.int vb1314), .val (.int vb1346), .unset] [(.int vb1290)])) _
              refine XS.sipush X1220.here hx rfl (hb hby at_309) ?_
              show Steps p.tables e below (T1220.setTop (mkF m 312 #[.val (.int p0), .val (.int p1), .val (.int p2), .val (.int vcp216), .val (.int vat956), .val (.int v958), .val (.ref b959), .val (.int r1222), .val (.int v1226), .val (.int vb1290), .unset, .unset, .val (.int vb1314), .val (.int vb1346), .unset] [(.int (240 : Int32)), (.int vb1290)])) _
              refine XS.iand X1220.here hx rfl (hb hby at_312) rfl ?_
              show Steps p.tables e below (T1220.setTop (mkF m 313 #[.val (.int p0), .val (.int p1), .val (.int p2), .val (.int vcp216), .val (.int vat956), .val (.int v958), .val (.ref b959), .val (.int r1222), .val (.int v1226), .val (.int vb1290), .unset, .unset, .val (.int vb1314), .val (.int vb1346), .unset] [(.int (vb1290 &&& (240 : Int32)))])) _
              refine XS.sipush X1220.here hx rfl (hb hby at_313) ?_
              show Steps p.tables e below (T1220.setTop (mkF m 316 #[.val (.int p0), .val (.int p1), .val (.int p2), .val (.int vcp216), .val (.int vat956), .val (.int v958), .val (.ref b959), .val (.int r1222), .val (.int v1226), .val (.int vb1290), .unset, .unset, .val (.int vb1314), .val (.int vb1346), .unset] [(.int (224 : Int32)), (.int (vb1290 &&& (240 : Int32)))])) _
              refine XS.icmpYes X1220.here hx rfl (pc0 := 316) (pc' := 321) rfl (hb hby at_316) rfl (teq hc316_1377).1 (by decide) (by decide) ?_
              show Steps p.tables e below (T1220.setTop (mkF m 321 #[.val (.int p0), .val (.int p1), .val (.int p2), .val (.int vcp216), .val (.int vat956), .val (.int v958), .val (.ref b959), .val (.int r1222), .val (.int v1226), .val (.int vb1290), .unset, .unset, .val (.int vb1314), .val (.int vb1346), .unset] [])) _
              refine XS.iload X1220.here hx rfl (hb hby at_321) rfl ?_
              show Steps p.tables e below (T1220.setTop (mkF m 323 #[.val (.int p0), .val (.int p1), .val (.int p2), .val (.int vcp216), .val (.int vat956), .val (.int v958), .val (.ref b959), .val (.int r1222), .val (.int v1226), .val (.int vb1290), .unset, .unset, .val (.int vb1314), .val (.int vb1346), .unset] [(.int vb1290)])) _
              refine XS.bipush X1220.here hx rfl (hb hby at_323) ?_
              show Steps p.tables e below (T1220.setTop (mkF m 325 #[.val (.int p0), .val (.int p1), .val (.int p2), .val (.int vcp216), .val (.int vat956), .val (.int v958), .val (.ref b959), .val (.int r1222), .val (.int v1226), .val (.int vb1290), .unset, .unset, .val (.int vb1314), .val (.int vb1346), .unset] [(.int (15 : Int32)), (.int vb1290)])) _
              refine XS.iand X1220.here hx rfl (hb hby at_325) rfl ?_
              show Steps p.tables e below (T1220.setTop (mkF m 326 #[.val (.int p0), .val (.int p1), .val (.int p2), .val (.int vcp216), .val (.int vat956), .val (.int v958), .val (.ref b959), .val (.int r1222), .val (.int v1226), .val (.int vb1290), .unset, .unset, .val (.int vb1314), .val (.int vb1346), .unset] [(.int (vb1290 &&& (15 : Int32)))])) _
              refine XS.bipush X1220.here hx rfl (hb hby at_326) ?_
              show Steps p.tables e below (T1220.setTop (mkF m 328 #[.val (.int p0), .val (.int p1), .val (.int p2), .val (.int vcp216), .val (.int vat956), .val (.int v958), .val (.ref b959), .val (.int r1222), .val (.int v1226), .val (.int vb1290), .unset, .unset, .val (.int vb1314), .val (.int vb1346), .unset] [(.int (12 : Int32)), (.int (vb1290 &&& (15 : Int32)))])) _
              refine XS.ishl X1220.here hx rfl (hb hby at_328) rfl ?_
              show Steps p.tables e below (T1220.setTop (mkF m 329 #[.val (.int p0), .val (.int p1), .val (.int p2), .val (.int vcp216), .val (.int vat956), .val (.int v958), .val (.ref b959), .val (.int r1222), .val (.int v1226), .val (.int vb1290), .unset, .unset, .val (.int vb1314), .val (.int vb1346), .unset] [(.int ((vb1290 &&& (15 : Int32)) <<< ((12 : Int32) &&& 31)))])) _
              refine XS.iload X1220.here hx rfl (hb hby at_329) rfl ?_
              show Steps p.tables e below (T1220.setTop (mkF m 331 #[.val (.int p0), .val (.int p1), .val (.int p2), .val (.int vcp216), .val (.int vat956), .val (.int v958), .val (.ref b959), .val (.int r1222), .val (.int v1226), .val (.int vb1290), .unset, .unset, .val (.int vb1314), .val (.int vb1346), .unset] [(.int vb1314), (.int ((vb1290 &&& (15 : Int32)) <<< ((12 : Int32) &&& 31)))])) _
              refine XS.bipush X1220.here hx rfl (hb hby at_331) ?_
              show Steps p.tables e below (T1220.setTop (mkF m 333 #[.val (.int p0), .val (.int p1), .val (.int p2), .val (.int vcp216), .val (.int vat956), .val (.int v958), .val (.ref b959), .val (.int r1222), .val (.int v1226), .val (.int vb1290), .unset, .unset, .val (.int vb1314), .val (.int vb1346), .unset] [(.int (63 : Int32)), (.int vb1314), (.int ((vb1290 &&& (15 : Int32)) <<< ((12 : Int32) &&& 31)))])) _
              refine XS.iand X1220.here hx rfl (hb hby at_333) rfl ?_
              show Steps p.tables e below (T1220.setTop (mkF m 334 #[.val (.int p0), .val (.int p1), .val (.int p2), .val (.int vcp216), .val (.int vat956), .val (.int v958), .val (.ref b959), .val (.int r1222), .val (.int v1226), .val (.int vb1290), .unset, .unset, .val (.int vb1314), .val (.int vb1346), .unset] [(.int (vb1314 &&& (63 : Int32))), (.int ((vb1290 &&& (15 : Int32)) <<< ((12 : Int32) &&& 31)))])) _
              refine XS.bipush X1220.here hx rfl (hb hby at_334) ?_
              show Steps p.tables e below (T1220.setTop (mkF m 336 #[.val (.int p0), .val (.int p1), .val (.int p2), .val (.int vcp216), .val (.int vat956), .val (.int v958), .val (.ref b959), .val (.int r1222), .val (.int v1226), .val (.int vb1290), .unset, .unset, .val (.int vb1314), .val (.int vb1346), .unset] [(.int (6 : Int32)), (.int (vb1314 &&& (63 : Int32))), (.int ((vb1290 &&& (15 : Int32)) <<< ((12 : Int32) &&& 31)))])) _
              refine XS.ishl X1220.here hx rfl (hb hby at_336) rfl ?_
              show Steps p.tables e below (T1220.setTop (mkF m 337 #[.val (.int p0), .val (.int p1), .val (.int p2), .val (.int vcp216), .val (.int vat956), .val (.int v958), .val (.ref b959), .val (.int r1222), .val (.int v1226), .val (.int vb1290), .unset, .unset, .val (.int vb1314), .val (.int vb1346), .unset] [(.int ((vb1314 &&& (63 : Int32)) <<< ((6 : Int32) &&& 31))), (.int ((vb1290 &&& (15 : Int32)) <<< ((12 : Int32) &&& 31)))])) _
              refine XS.ior X1220.here hx rfl (hb hby at_337) rfl ?_
              show Steps p.tables e below (T1220.setTop (mkF m 338 #[.val (.int p0), .val (.int p1), .val (.int p2), .val (.int vcp216), .val (.int vat956), .val (.int v958), .val (.ref b959), .val (.int r1222), .val (.int v1226), .val (.int vb1290), .unset, .unset, .val (.int vb1314), .val (.int vb1346), .unset] [(.int (((vb1290 &&& (15 : Int32)) <<< ((12 : Int32) &&& 31)) ||| ((vb1314 &&& (63 : Int32)) <<< ((6 : Int32) &&& 31))))])) _
              refine XS.iload X1220.here hx rfl (hb hby at_338) rfl ?_
              show Steps p.tables e below (T1220.setTop (mkF m 340 #[.val (.int p0), .val (.int p1), .val (.int p2), .val (.int vcp216), .val (.int vat956), .val (.int v958), .val (.ref b959), .val (.int r1222), .val (.int v1226), .val (.int vb1290), .unset, .unset, .val (.int vb1314), .val (.int vb1346), .unset] [(.int vb1346), (.int (((vb1290 &&& (15 : Int32)) <<< ((12 : Int32) &&& 31)) ||| ((vb1314 &&& (63 : Int32)) <<< ((6 : Int32) &&& 31))))])) _
              refine XS.bipush X1220.here hx rfl (hb hby at_340) ?_
              show Steps p.tables e below (T1220.setTop (mkF m 342 #[.val (.int p0), .val (.int p1), .val (.int p2), .val (.int vcp216), .val (.int vat956), .val (.int v958), .val (.ref b959), .val (.int r1222), .val (.int v1226), .val (.int vb1290), .unset, .unset, .val (.int vb1314), .val (.int vb1346), .unset] [(.int (63 : Int32)), (.int vb1346), (.int (((vb1290 &&& (15 : Int32)) <<< ((12 : Int32) &&& 31)) ||| ((vb1314 &&& (63 : Int32)) <<< ((6 : Int32) &&& 31))))])) _
              exact kt
            have k1379 : ∀ tg_, Steps p.tables e below (T1220.setTop (mkF m 344 #[.val (.int p0), .val (.int p1), .val (.int p2), .val (.int vcp216), .val (.int vat956), .val (.int v958), .val (.ref b959), .val (.int r1222), .val (.int v1226), .val (.int vb1290), .unset, .unset, .val (.int vb1314), .val (.int vb1346), .unset] [(.int ((((vb1290 &&& (15 : Int32)) <<< ((12 : Int32) &&& 31)) ||| ((vb1314 &&& (63 : Int32)) <<< ((6 : Int32) &&& 31))) ||| (vb1346 &&& (63 : Int32))))])) tg_ → Steps p.tables e below (s₁.setTop (entryFrame m #[(.int p0), (.int p1), (.int p2)] maxLocals)) tg_ := by
              intro tg_ kt
              refine k1378 tg_ ?_
              refine XS.iand X1220.here hx rfl (hb hby at_342) rfl ?_
              show Steps p.tables e below (T1220.setTop (mkF m 343 #[.val (.int p0), .val (.int p1), .val (.int p2), .val (.int vcp216), .val (.int vat956), .val (.int v958), .val (.ref b959), .val (.int r1222), .val (.int v1226), .val (.int vb1290), .unset, .unset, .val (.int vb1314), .val (.int vb1346), .unset] [(.int (vb1346 &&& (63 : Int32))), (.int (((vb1290 &&& (15 : Int32)) <<< ((12 : Int32) &&& 31)) ||| ((vb1314 &&& (63 : Int32)) <<< ((6 : Int32) &&& 31))))])) _
              refine XS.ior X1220.here hx rfl (hb hby at_343) rfl ?_
              show Steps p.tables e below (T1220.setTop (mkF m 344 #[.val (.int p0), .val (.int p1), .val (.int p2), .val (.int vcp216), .val (.int vat956), .val (.int v958), .val (.ref b959), .val (.int r1222), .val (.int v1226), .val (.int vb1290), .unset, .unset, .val (.int vb1314), .val (.int vb1346), .unset] [(.int ((((vb1290 &&& (15 : Int32)) <<< ((12 : Int32) &&& 31)) ||| ((vb1314 &&& (63 : Int32)) <<< ((6 : Int32) &&& 31))) ||| (vb1346 &&& (63 : Int32))))])) _
              exact kt
            obtain ⟨v1380, hv1380⟩ : ∃ z : Int32, z = ((((vb1290 &&& (15 : Int32)) <<< ((12 : Int32) &&& 31)) ||| ((vb1314 &&& (63 : Int32)) <<< ((6 : Int32) &&& 31))) ||| (vb1346 &&& (63 : Int32))) := ⟨_, rfl⟩
            rw [← hv1380] at k1379
            have hc437_1403 : ¬ (v1380 < (2048 : Int32)) := (by
                have ar1381 := rng32 v1380
                have ar1382 := rng32 vb1290
                have ar1383 : (15 : Int32).toInt = 15 := by decide
                have ar1384 := c_mask vb1290 (15 : Int32) 4 (by decide) (by decide)
                simp only [show (2 ^ 4 : Nat) = 16 from by decide, Int.cast_ofNat_Int] at ar1384
                have ar1385 := rng32 (vb1290 &&& (15 : Int32))
                have ar1386 := rng32 ((vb1290 &&& (15 : Int32)) <<< ((12 : Int32) &&& 31))
                first | have ar1387 : ((vb1290 &&& (15 : Int32)) <<< ((12 : Int32) &&& 31)).toInt = (vb1290 &&& (15 : Int32)).toInt * 4096 := (by have qw := c_ishl (vb1290 &&& (15 : Int32)) (12 : Int32) 12 (by decide); simp only [show (2 ^ 12 : Nat) = 4096 from by decide, Int.cast_ofNat_Int] at qw; omega) | (have ar1387 := c_ishl (vb1290 &&& (15 : Int32)) (12 : Int32) 12 (by decide); simp only [show (2 ^ 12 : Nat) = 4096 from by decide, Int.cast_ofNat_Int] at ar1387)
                have ar1388 := rng32 vb1314
                have ar1389 : (63 : Int32).toInt = 63 := by decide
                have ar1390 := c_mask vb1314 (63 : Int32) 6 (by decide) (by decide)
                simp only [show (2 ^ 6 : Nat) = 64 from by decide, Int.cast_ofNat_Int] at ar1390
                have ar1391 := rng32 (vb1314 &&& (63 : Int32))
                have ar1392 := rng32 ((vb1314 &&& (63 : Int32)) <<< ((6 : Int32) &&& 31))
                first | have ar1393 : ((vb1314 &&& (63 : Int32)) <<< ((6 : Int32) &&& 31)).toInt = (vb1314 &&& (63 : Int32)).toInt * 64 := (by have qw := c_ishl (vb1314 &&& (63 : Int32)) (6 : Int32) 6 (by decide); simp only [show (2 ^ 6 : Nat) = 64 from by decide, Int.cast_ofNat_Int] at qw; omega) | (have ar1393 := c_ishl (vb1314 &&& (63 : Int32)) (6 : Int32) 6 (by decide); simp only [show (2 ^ 6 : Nat) = 64 from by decide, Int.cast_ofNat_Int] at ar1393)
                have ar1394 := rng32 (((vb1290 &&& (15 : Int32)) <<< ((12 : Int32) &&& 31)) ||| ((vb1314 &&& (63 : Int32)) <<< ((6 : Int32) &&& 31)))
                first | have ar1395 : (((vb1290 &&& (15 : Int32)) <<< ((12 : Int32) &&& 31)) ||| ((vb1314 &&& (63 : Int32)) <<< ((6 : Int32) &&& 31))).toInt = ((vb1290 &&& (15 : Int32)) <<< ((12 : Int32) &&& 31)).toInt + ((vb1314 &&& (63 : Int32)) <<< ((6 : Int32) &&& 31)).toInt := (by have qw := c_or ((vb1290 &&& (15 : Int32)) <<< ((12 : Int32) &&& 31)) ((vb1314 &&& (63 : Int32)) <<< ((6 : Int32) &&& 31)) 12 (by decide) 4096 (by decide) (by omega) (by omega) (by omega); omega) | (have ar1395 := c_or ((vb1290 &&& (15 : Int32)) <<< ((12 : Int32) &&& 31)) ((vb1314 &&& (63 : Int32)) <<< ((6 : Int32) &&& 31)) 12 (by decide) 4096 (by decide) (by omega) (by omega) (by omega); skip)
                have ar1396 := rng32 vb1346
                have ar1397 := c_mask vb1346 (63 : Int32) 6 (by decide) (by decide)
                simp only [show (2 ^ 6 : Nat) = 64 from by decide, Int.cast_ofNat_Int] at ar1397
                have ar1398 := rng32 (vb1346 &&& (63 : Int32))
                have ar1399 := rng32 ((((vb1290 &&& (15 : Int32)) <<< ((12 : Int32) &&& 31)) ||| ((vb1314 &&& (63 : Int32)) <<< ((6 : Int32) &&& 31))) ||| (vb1346 &&& (63 : Int32)))
                first | have ar1400 : ((((vb1290 &&& (15 : Int32)) <<< ((12 : Int32) &&& 31)) ||| ((vb1314 &&& (63 : Int32)) <<< ((6 : Int32) &&& 31))) ||| (vb1346 &&& (63 : Int32))).toInt = (((vb1290 &&& (15 : Int32)) <<< ((12 : Int32) &&& 31)) ||| ((vb1314 &&& (63 : Int32)) <<< ((6 : Int32) &&& 31))).toInt + (vb1346 &&& (63 : Int32)).toInt := (by have qw := c_or (((vb1290 &&& (15 : Int32)) <<< ((12 : Int32) &&& 31)) ||| ((vb1314 &&& (63 : Int32)) <<< ((6 : Int32) &&& 31))) (vb1346 &&& (63 : Int32)) 6 (by decide) 64 (by decide) (by omega) (by omega) (by omega); omega) | (have ar1400 := c_or (((vb1290 &&& (15 : Int32)) <<< ((12 : Int32) &&& 31)) ||| ((vb1314 &&& (63 : Int32)) <<< ((6 : Int32) &&& 31))) (vb1346 &&& (63 : Int32)) 6 (by decide) 64 (by decide) (by omega) (by omega) (by omega); skip)
                have ar1401 := congrArg Int32.toInt hv1380
                have ar1402 : (2048 : Int32).toInt = 2048 := by decide
                exact fun qq_ => absurd (Int32.lt_iff_toInt_lt.mp qq_) (by omega))
            have hc443_1426 : v1380 = vcp216 := (by
                have ar1404 := rng32 v1380
                have ar1405 := rng32 vb1290
                have ar1406 : (15 : Int32).toInt = 15 := by decide
                have ar1407 := c_mask vb1290 (15 : Int32) 4 (by decide) (by decide)
                simp only [show (2 ^ 4 : Nat) = 16 from by decide, Int.cast_ofNat_Int] at ar1407
                have ar1408 := rng32 (vb1290 &&& (15 : Int32))
                have ar1409 := rng32 ((vb1290 &&& (15 : Int32)) <<< ((12 : Int32) &&& 31))
                first | have ar1410 : ((vb1290 &&& (15 : Int32)) <<< ((12 : Int32) &&& 31)).toInt = (vb1290 &&& (15 : Int32)).toInt * 4096 := (by have qw := c_ishl (vb1290 &&& (15 : Int32)) (12 : Int32) 12 (by decide); simp only [show (2 ^ 12 : Nat) = 4096 from by decide, Int.cast_ofNat_Int] at qw; omega) | (have ar1410 := c_ishl (vb1290 &&& (15 : Int32)) (12 : Int32) 12 (by decide); simp only [show (2 ^ 12 : Nat) = 4096 from by decide, Int.cast_ofNat_Int] at ar1410)
                have ar1411 := rng32 vb1314
                have ar1412 : (63 : Int32).toInt = 63 := by decide
                have ar1413 := c_mask vb1314 (63 : Int32) 6 (by decide) (by decide)
                simp only [show (2 ^ 6 : Nat) = 64 from by decide, Int.cast_ofNat_Int] at ar1413
                have ar1414 := rng32 (vb1314 &&& (63 : Int32))
                have ar1415 := rng32 ((vb1314 &&& (63 : Int32)) <<< ((6 : Int32) &&& 31))
                first | have ar1416 : ((vb1314 &&& (63 : Int32)) <<< ((6 : Int32) &&& 31)).toInt = (vb1314 &&& (63 : Int32)).toInt * 64 := (by have qw := c_ishl (vb1314 &&& (63 : Int32)) (6 : Int32) 6 (by decide); simp only [show (2 ^ 6 : Nat) = 64 from by decide, Int.cast_ofNat_Int] at qw; omega) | (have ar1416 := c_ishl (vb1314 &&& (63 : Int32)) (6 : Int32) 6 (by decide); simp only [show (2 ^ 6 : Nat) = 64 from by decide, Int.cast_ofNat_Int] at ar1416)
                have ar1417 := rng32 (((vb1290 &&& (15 : Int32)) <<< ((12 : Int32) &&& 31)) ||| ((vb1314 &&& (63 : Int32)) <<< ((6 : Int32) &&& 31)))
                first | have ar1418 : (((vb1290 &&& (15 : Int32)) <<< ((12 : Int32) &&& 31)) ||| ((vb1314 &&& (63 : Int32)) <<< ((6 : Int32) &&& 31))).toInt = ((vb1290 &&& (15 : Int32)) <<< ((12 : Int32) &&& 31)).toInt + ((vb1314 &&& (63 : Int32)) <<< ((6 : Int32) &&& 31)).toInt := (by have qw := c_or ((vb1290 &&& (15 : Int32)) <<< ((12 : Int32) &&& 31)) ((vb1314 &&& (63 : Int32)) <<< ((6 : Int32) &&& 31)) 12 (by decide) 4096 (by decide) (by omega) (by omega) (by omega); omega) | (have ar1418 := c_or ((vb1290 &&& (15 : Int32)) <<< ((12 : Int32) &&& 31)) ((vb1314 &&& (63 : Int32)) <<< ((6 : Int32) &&& 31)) 12 (by decide) 4096 (by decide) (by omega) (by omega) (by omega); skip)
                have ar1419 := rng32 vb1346
                have ar1420 := c_mask vb1346 (63 : Int32) 6 (by decide) (by decide)
                simp only [show (2 ^ 6 : Nat) = 64 from by decide, Int.cast_ofNat_Int] at ar1420
                have ar1421 := rng32 (vb1346 &&& (63 : Int32))
                have ar1422 := rng32 ((((vb1290 &&& (15 : Int32)) <<< ((12 : Int32) &&& 31)) ||| ((vb1314 &&& (63 : Int32)) <<< ((6 : Int32) &&& 31))) ||| (vb1346 &&& (63 : Int32)))
                first | have ar1423 : ((((vb1290 &&& (15 : Int32)) <<< ((12 : Int32) &&& 31)) ||| ((vb1314 &&& (63 : Int32)) <<< ((6 : Int32) &&& 31))) ||| (vb1346 &&& (63 : Int32))).toInt = (((vb1290 &&& (15 : Int32)) <<< ((12 : Int32) &&& 31)) ||| ((vb1314 &&& (63 : Int32)) <<< ((6 : Int32) &&& 31))).toInt + (vb1346 &&& (63 : Int32)).toInt := (by have qw := c_or (((vb1290 &&& (15 : Int32)) <<< ((12 : Int32) &&& 31)) ||| ((vb1314 &&& (63 : Int32)) <<< ((6 : Int32) &&& 31))) (vb1346 &&& (63 : Int32)) 6 (by decide) 64 (by decide) (by omega) (by omega) (by omega); omega) | (have ar1423 := c_or (((vb1290 &&& (15 : Int32)) <<< ((12 : Int32) &&& 31)) ||| ((vb1314 &&& (63 : Int32)) <<< ((6 : Int32) &&& 31))) (vb1346 &&& (63 : Int32)) 6 (by decide) 64 (by decide) (by omega) (by omega) (by omega); skip)
                have ar1424 := congrArg Int32.toInt hv1380
                have ar1425 := rng32 vcp216
                exact Int32.toInt_inj.mp (by omega))
            have k1427 : ∀ tg_, Steps p.tables e below (T1220.setTop (mkF m 451 #[.val (.int p0), .val (.int p1), .val (.int p2), .val (.int vcp216), .val (.int vat956), .val (.int v958), .val (.ref b959), .val (.int r1222), .val (.int v1226), .val (.int vb1290), .val (.int v1380), .val (.int (2048 : Int32)), .val (.int vb1314), .val (.int vb1346), .unset] [(.int (1 : Int32))])) tg_ → Steps p.tables e below (s₁.setTop (entryFrame m #[(.int p0), (.int p1), (.int p2)] maxLocals)) tg_ := by
              intro tg_ kt
              refine k1379 tg_ ?_
              refine XS.istore X1220.here hx rfl (hb hby at_344) rfl (l' := #[.val (.int p0), .val (.int p1), .val (.int p2), .val (.int vcp216), .val (.int vat956), .val (.int v958), .val (.ref b959), .val (.int r1222), .val (.int v1226), .val (.int vb1290), .val (.int v1380), .unset, .val (.int vb1314), .val (.int vb1346), .unset]) rfl ?_
              show Steps p.tables e below (T1220.setTop (mkF m 346 #[.val (.int p0), .val (.int p1), .val (.int p2), .val (.int vcp216), .val (.int vat956), .val (.int v958), .val (.ref b959), .val (.int r1222), .val (.int v1226), .val (.int vb1290), .val (.int v1380), .unset, .val (.int vb1314), .val (.int vb1346), .unset] [])) _
              refine XS.sipush X1220.here hx rfl (hb hby at_346) ?_
              show Steps p.tables e below (T1220.setTop (mkF m 349 #[.val (.int p0), .val (.int p1), .val (.int p2), .val (.int vcp216), .val (.int vat956), .val (.int v958), .val (.ref b959), .val (.int r1222), .val (.int v1226), .val (.int vb1290), .val (.int v1380), .unset, .val (.int vb1314), .val (.int vb1346), .unset] [(.int (2048 : Int32))])) _
              refine XS.istore X1220.here hx rfl (hb hby at_349) rfl (l' := #[.val (.int p0), .val (.int p1), .val (.int p2), .val (.int vcp216), .val (.int vat956), .val (.int v958), .val (.ref b959), .val (.int r1222), .val (.int v1226), .val (.int vb1290), .val (.int v1380), .val (.int (2048 : Int32)), .val (.int vb1314), .val (.int vb1346), .unset]) rfl ?_
              show Steps p.tables e below (T1220.setTop (mkF m 351 #[.val (.int p0), .val (.int p1), .val (.int p2), .val (.int vcp216), .val (.int vat956), .val (.int v958), .val (.ref b959), .val (.int r1222), .val (.int v1226), .val (.int vb1290), .val (.int v1380), .val (.int (2048 : Int32)), .val (.int vb1314), .val (.int vb1346), .unset] [])) _
              refine XS.goto X1220.here hx rfl (pc0 := 351) (pc' := 433) rfl (hb hby at_351) (by decide) (by decide) ?_
              show Steps p.tables e below (T1220.setTop (mkF m 433 #[.val (.int p0), .val (.int p1), .val (.int p2), .val (.int vcp216), .val (.int vat956), .val (.int v958), .val (.ref b959), .val (.int r1222), .val (.int v1226), .val (.int vb1290), .val (.int v1380), .val (.int (2048 : Int32)), .val (.int vb1314), .val (.int vb1346), .unset] [])) _
              refine XS.iload X1220.here hx rfl (hb hby at_433) rfl ?_
              show Steps p.tables e below (T1220.setTop (mkF m 435 #[.val (.int p0), .val (.int p1), .val (.int p2), .val (.int vcp216), .val (.int vat956), .val (.int v958), .val (.ref b959), .val (.int r1222), .val (.int v1226), .val (.int vb1290), .val (.int v1380), .val (.int (2048 : Int32)), .val (.int vb1314), .val (.int vb1346), .unset] [(.int v1380)])) _
              refine XS.iload X1220.here hx rfl (hb hby at_435) rfl ?_
              show Steps p.tables e below (T1220.setTop (mkF m 437 #[.val (.int p0), .val (.int p1), .val (.int p2), .val (.int vcp216), .val (.int vat956), .val (.int v958), .val (.ref b959), .val (.int r1222), .val (.int v1226), .val (.int vb1290), .val (.int v1380), .val (.int (2048 : Int32)), .val (.int vb1314), .val (.int vb1346), .unset] [(.int (2048 : Int32)), (.int v1380)])) _
              refine XS.icmpNo X1220.here hx rfl (hb hby at_437) rfl (flt hc437_1403).1 ?_
              show Steps p.tables e below (T1220.setTop (mkF m 440 #[.val (.int p0), .val (.int p1), .val (.int p2), .val (.int vcp216), .val (.int vat956), .val (.int v958), .val (.ref b959), .val (.int r1222), .val (.int v1226), .val (.int vb1290), .val (.int v1380), .val (.int (2048 : Int32)), .val (.int vb1314), .val (.int vb1346), .unset] [])) _
              refine XS.iload X1220.here hx rfl (hb hby at_440) rfl ?_
              show Steps p.tables e below (T1220.setTop (mkF m 442 #[.val (.int p0), .val (.int p1), .val (.int p2), .val (.int vcp216), .val (.int vat956), .val (.int v958), .val (.ref b959), .val (.int r1222), .val (.int v1226), .val (.int vb1290), .val (.int v1380), .val (.int (2048 : Int32)), .val (.int vb1314), .val (.int vb1346), .unset] [(.int v1380)])) _
              refine XS.iloadN X1220.here hx rfl (hb hby at_442) rfl ?_
              show Steps p.tables e below (T1220.setTop (mkF m 443 #[.val (.int p0), .val (.int p1), .val (.int p2), .val (.int vcp216), .val (.int vat956), .val (.int v958), .val (.ref b959), .val (.int r1222), .val (.int v1226), .val (.int vb1290), .val (.int v1380), .val (.int (2048 : Int32)), .val (.int vb1314), .val (.int vb1346), .unset] [(.int vcp216), (.int v1380)])) _
              refine XS.icmpNo X1220.here hx rfl (hb hby at_443) rfl (teq hc443_1426).2 ?_
              show Steps p.tables e below (T1220.setTop (mkF m 446 #[.val (.int p0), .val (.int p1), .val (.int p2), .val (.int vcp216), .val (.int vat956), .val (.int v958), .val (.ref b959), .val (.int r1222), .val (.int v1226), .val (.int vb1290), .val (.int v1380), .val (.int (2048 : Int32)), .val (.int vb1314), .val (.int vb1346), .unset] [])) _
              refine XS.iconst X1220.here hx rfl (hb hby at_446) ?_
              show Steps p.tables e below (T1220.setTop (mkF m 447 #[.val (.int p0), .val (.int p1), .val (.int p2), .val (.int vcp216), .val (.int vat956), .val (.int v958), .val (.ref b959), .val (.int r1222), .val (.int v1226), .val (.int vb1290), .val (.int v1380), .val (.int (2048 : Int32)), .val (.int vb1314), .val (.int vb1346), .unset] [(.int (1 : Int32))])) _
              refine XS.goto X1220.here hx rfl (pc0 := 447) (pc' := 451) rfl (hb hby at_447) (by decide) (by decide) ?_
              show Steps p.tables e below (T1220.setTop (mkF m 451 #[.val (.int p0), .val (.int p1), .val (.int p2), .val (.int vcp216), .val (.int vat956), .val (.int v958), .val (.ref b959), .val (.int r1222), .val (.int v1226), .val (.int vb1290), .val (.int v1380), .val (.int (2048 : Int32)), .val (.int vb1314), .val (.int vb1346), .unset] [(.int (1 : Int32))])) _
              exact kt
            obtain ⟨fs, hr, hrun, hended, hW, hsame⟩ := X1220.leave (v := some (.int (1 : Int32))) (fun h => by rw [Bd.returns] at h; cases h)
            refine ⟨_, _, k1427 _ (retN X1220 hx (t := .boolean) Bd.returns (by simp) (hb hby at_451) hr), hrun, hended, _, _, rfl, ?_, ⟨_, rfl⟩, hW, hsame.mono (by decide) (by decide)⟩
            show Q0 Z p0 p1 p2 h0 n0 _ T1220.heap _
            exact ⟨rfl, N1220⟩
          · have Lhc109_982 : ¬ (vcp216.toInt < 128) := fun q => hc109_982 (Int32.lt_iff_toInt_lt.mpr q)
            have Lhc109_1065 : ¬ (vcp216.toInt < 2048) := fun q => hc109_1065 (Int32.lt_iff_toInt_lt.mpr q)
            have Lhc109_1218 : ¬ (vcp216.toInt < 65536) := fun q => hc109_1218 (Int32.lt_iff_toInt_lt.mpr q)
            have f1428 := (Nat.le_trans (Nat.le_trans (Nat.le_trans (Nat.le_trans (Nat.le_trans (Nat.le_trans (Nat.le_trans (Nat.le_trans (Nat.le_trans (Nat.le_trans (Nat.le_trans (Nat.le_trans (Nat.le_trans Z0 ((Keep.refl _ []).ext E959).1) (Keep.of_wr W960).1) (Keep.of_wr W961).1) (Keep.of_wr W962).1) (Keep.of_wr W963).1) (Keep.of_wr W964).1) (Keep.of_wr W966).1) (Keep.of_wr W967).1) (Keep.of_wr W968).1) (Keep.of_wr W969).1) (Keep.of_wr W970).1) (Keep.of_wr W971).1) (Keep.of_wr W972).1)
            obtain ⟨_, _, ⟨T1429, L1429, kc1429, nc1429⟩, -, X1429, ⟨Lc1429, hQ1429, l1429, y1429, z1429⟩, st1429⟩ := Jvm.LawKit.callS X972 hx (y := (⟨"com/example/benzer/benzer/FeatureHash", "encode", "(I[BI)I"⟩ : MethodName)) hown (mvT hZ (hw _ (List.mem_of_getElem? (i := 4) rfl))) (mvT hZ (hw _ (List.mem_of_getElem? (i := 5) rfl))) (mvT hZ (hw _ (List.mem_of_getElem? (i := 6) rfl))) (mvT hZ (hw _ (List.mem_of_getElem? (i := 7) rfl))) (by decide) (backOf (W := 0) (rmenc4 l Z a0 hw [] vcp216 b959 vat956 k (fun _ => v958) h972 n0 f1428 V974 ge_b959 hk hk7 hc109_982 hc109_1065 hc109_1218) hZ (hw _ (List.mem_of_getElem? (i := 7) rfl)) (hw _ (List.mem_of_getElem? (i := 6) rfl)) (by decide) (by decide)) (g := (mkF m 109 #[.val (.int p0), .val (.int p1), .val (.int p2), .val (.int vcp216), .val (.int vat956), .val (.int v958), .val (.ref b959), .unset, .unset, .unset, .unset, .unset, .unset, .unset, .unset] [(.int vat956), (.ref b959), (.int vcp216)])) rfl (by rw [hml]; rfl) (argsL := [(.int vcp216), (.ref b959), (.int vat956)]) (rest := []) (lenOf pd_0 rfl) rfl (by show 2 * 0 + _ ≤ _; exact Nat.le_of_eq rfl) (hb hby at_109) (fun _ _ => ⟨rfl, e972, (by decide : 1 + 0 ≤ _), (by decide : 12 + 0 ≤ _)⟩)
            dsimp only [Pt.U, Pt.locs, Pt.cells, Pt.slots] at X1429 l1429 y1429 z1429 st1429 hQ1429
            rw [l1429, y1429, z1429] at X1429
            replace X1429 : Stand p l e room_1 s m #[(.int p0), (.int p1), (.int p2)] below meth c T1429 _ 1 12 := X1429
            obtain ⟨rfl, Nq1429, oK1429, oAa1429⟩ := hQ1429
            have N1429 := Fr.app N972 Nq1429
            have k1430 : ∀ tg_, Steps p.tables e below (T1429.setTop (mkF m 112 #[.val (.int p0), .val (.int p1), .val (.int p2), .val (.int vcp216), .val (.int vat956), .val (.int v958), .val (.ref b959), .unset, .unset, .unset, .unset, .unset, .unset, .unset, .unset] [(.int ((((vat956 + (1 : Int32)) + (1 : Int32)) + (1 : Int32)) + (1 : Int32)))])) tg_ → Steps p.tables e below (s₁.setTop (entryFrame m #[(.int p0), (.int p1), (.int p2)] maxLocals)) tg_ := by
              intro tg_ kt
              refine k981 tg_ ?_
              refine st1429 _ ?_
              show Steps p.tables e below (T1429.setTop (mkF m 112 #[.val (.int p0), .val (.int p1), .val (.int p2), .val (.int vcp216), .val (.int vat956), .val (.int v958), .val (.ref b959), .unset, .unset, .unset, .unset, .unset, .unset, .unset, .unset] [(.int ((((vat956 + (1 : Int32)) + (1 : Int32)) + (1 : Int32)) + (1 : Int32)))])) _
              exact kt
            obtain ⟨r1431, hr1431⟩ : ∃ z : Int32, z = ((((vat956 + (1 : Int32)) + (1 : Int32)) + (1 : Int32)) + (1 : Int32)) := ⟨_, rfl⟩
            rw [← hr1431] at k1430
            have k1433 : ∀ tg_, Steps p.tables e below (T1429.setTop (mkF m 114 #[.val (.int p0), .val (.int p1), .val (.int p2), .val (.int vcp216), .val (.int vat956), .val (.int v958), .val (.ref b959), .val (.int r1431), .unset, .unset, .unset, .unset, .unset, .unset, .unset] [])) tg_ → Steps p.tables e below (s₁.setTop (entryFrame m #[(.int p0), (.int p1), (.int p2)] maxLocals)) tg_ := by
              intro tg_ kt
              refine k1430 tg_ ?_
              show Steps p.tables e below (T1429.setTop (mkF m 112 #[.val (.int p0), .val (.int p1), .val (.int p2), .val (.int vcp216), .val (.int vat956), .val (.int v958), .val (.ref b959), .unset, .unset, .unset, .unset, .unset, .unset, .unset, .unset] [(.int r1431)])) _
              refine XS.istore X1429.here hx rfl (hb hby at_112) rfl (l' := #[.val (.int p0), .val (.int p1), .val (.int p2), .val (.int vcp216), .val (.int vat956), .val (.int v958), .val (.ref b959), .val (.int r1431), .unset, .unset, .unset, .unset, .unset, .unset, .unset]) rfl ?_
              show Steps p.tables e below (T1429.setTop (mkF m 114 #[.val (.int p0), .val (.int p1), .val (.int p2), .val (.int vcp216), .val (.int vat956), .val (.int v958), .val (.ref b959), .val (.int r1431), .unset, .unset, .unset, .unset, .unset, .unset, .unset] [])) _
              exact kt
            obtain ⟨g1432, hg1432⟩ : ∃ z : Nat → Int32, z = (own_upd (own_upd (own_upd (own_upd (fun _ => v958) k ((((240 : Int32) ||| ((vcp216.toUInt32 >>> ((18 : Int32) &&& 31).toUInt32).toInt32)).toInt8.toInt32).toInt8.toInt32)) (k + 1) ((((128 : Int32) ||| (((vcp216.toUInt32 >>> ((12 : Int32) &&& 31).toUInt32).toInt32) &&& (63 : Int32))).toInt8.toInt32).toInt8.toInt32)) (k + 2) ((((128 : Int32) ||| (((vcp216.toUInt32 >>> ((6 : Int32) &&& 31).toUInt32).toInt32) &&& (63 : Int32))).toInt8.toInt32).toInt8.toInt32)) (k + 3) ((((128 : Int32) ||| (vcp216 &&& (63 : Int32))).toInt8.toInt32).toInt8.toInt32)) := ⟨_, rfl⟩
            rw [← hg1432] at oAa1429
            have k1434 : ∀ tg_, Steps p.tables e below (T1429.setTop (mkF m 119 #[.val (.int p0), .val (.int p1), .val (.int p2), .val (.int vcp216), .val (.int vat956), .val (.int v958), .val (.ref b959), .val (.int r1431), .unset, .unset, .unset, .unset, .unset, .unset, .unset] [(.int (r1431 - vat956))])) tg_ → Steps p.tables e below (s₁.setTop (entryFrame m #[(.int p0), (.int p1), (.int p2)] maxLocals)) tg_ := by
              intro tg_ kt
              refine k1433 tg_ ?_
              refine XS.iload X1429.here hx rfl (hb hby at_114) rfl ?_
              show Steps p.tables e below (T1429.setTop (mkF m 116 #[.val (.int p0), .val (.int p1), .val (.int p2), .val (.int vcp216), .val (.int vat956), .val (.int v958), .val (.ref b959), .val (.int r1431), .unset, .unset, .unset, .unset, .unset, .unset, .unset] [(.int r1431)])) _
              refine XS.iload X1429.here hx rfl (hb hby at_116) rfl ?_
              show Steps p.tables e below (T1429.setTop (mkF m 118 #[.val (.int p0), .val (.int p1), .val (.int p2), .val (.int vcp216), .val (.int vat956), .val (.int v958), .val (.ref b959), .val (.int r1431), .unset, .unset, .unset, .unset, .unset, .unset, .unset] [(.int vat956), (.int r1431)])) _
              refine XS.isub X1429.here hx rfl (hb hby at_118) rfl ?_
              show Steps p.tables e below (T1429.setTop (mkF m 119 #[.val (.int p0), .val (.int p1), .val (.int p2), .val (.int vcp216), .val (.int vat956), .val (.int v958), .val (.ref b959), .val (.int r1431), .unset, .unset, .unset, .unset, .unset, .unset, .unset] [(.int (r1431 - vat956))])) _
              exact kt
            obtain ⟨v1435, hv1435⟩ : ∃ z : Int32, z = (r1431 - vat956) := ⟨_, rfl⟩
            rw [← hv1435] at k1434
            have hc124_1452 : ¬ (v1435 < (1 : Int32)) := (by
                have ar1436 := rng32 v1435
                have ar1437 := rng32 r1431
                have ar1438 := rng32 vat956
                have ar1439 : (1 : Int32).toInt = 1 := by decide
                have ar1440 := rng32 (vat956 + (1 : Int32))
                first | have ar1441 : (vat956 + (1 : Int32)).toInt = vat956.toInt + 1 := (by have qw := c_iadd vat956 (1 : Int32); omega) | (have ar1441 := c_iadd vat956 (1 : Int32); skip)
                have ar1442 := rng32 ((vat956 + (1 : Int32)) + (1 : Int32))
                first | have ar1443 : ((vat956 + (1 : Int32)) + (1 : Int32)).toInt = (vat956 + (1 : Int32)).toInt + 1 := (by have qw := c_iadd (vat956 + (1 : Int32)) (1 : Int32); omega) | (have ar1443 := c_iadd (vat956 + (1 : Int32)) (1 : Int32); skip)
                have ar1444 := rng32 (((vat956 + (1 : Int32)) + (1 : Int32)) + (1 : Int32))
                first | have ar1445 : (((vat956 + (1 : Int32)) + (1 : Int32)) + (1 : Int32)).toInt = ((vat956 + (1 : Int32)) + (1 : Int32)).toInt + 1 := (by have qw := c_iadd ((vat956 + (1 : Int32)) + (1 : Int32)) (1 : Int32); omega) | (have ar1445 := c_iadd ((vat956 + (1 : Int32)) + (1 : Int32)) (1 : Int32); skip)
                have ar1446 := rng32 ((((vat956 + (1 : Int32)) + (1 : Int32)) + (1 : Int32)) + (1 : Int32))
                first | have ar1447 : ((((vat956 + (1 : Int32)) + (1 : Int32)) + (1 : Int32)) + (1 : Int32)).toInt = (((vat956 + (1 : Int32)) + (1 : Int32)) + (1 : Int32)).toInt + 1 := (by have qw := c_iadd (((vat956 + (1 : Int32)) + (1 : Int32)) + (1 : Int32)) (1 : Int32); omega) | (have ar1447 := c_iadd (((vat956 + (1 : Int32)) + (1 : Int32)) + (1 : Int32)) (1 : Int32); skip)
                have ar1448 := congrArg Int32.toInt hr1431
                have ar1449 := rng32 (r1431 - vat956)
                first | have ar1450 : (r1431 - vat956).toInt = r1431.toInt - vat956.toInt := (by have qw := c_isub r1431 vat956; omega) | (have ar1450 := c_isub r1431 vat956; skip)
                have ar1451 := congrArg Int32.toInt hv1435
                exact fun qq_ => absurd (Int32.lt_iff_toInt_lt.mp qq_) (by omega))
            have hc130_1470 : ¬ ((4 : Int32) < v1435) := (by
                have ar1453 : (4 : Int32).toInt = 4 := by decide
                have ar1454 := rng32 v1435
                have ar1455 := rng32 r1431
                have ar1456 := rng32 vat956
                have ar1457 : (1 : Int32).toInt = 1 := by decide
                have ar1458 := rng32 (vat956 + (1 : Int32))
                first | have ar1459 : (vat956 + (1 : Int32)).toInt = vat956.toInt + 1 := (by have qw := c_iadd vat956 (1 : Int32); omega) | (have ar1459 := c_iadd vat956 (1 : Int32); skip)
                have ar1460 := rng32 ((vat956 + (1 : Int32)) + (1 : Int32))
                first | have ar1461 : ((vat956 + (1 : Int32)) + (1 : Int32)).toInt = (vat956 + (1 : Int32)).toInt + 1 := (by have qw := c_iadd (vat956 + (1 : Int32)) (1 : Int32); omega) | (have ar1461 := c_iadd (vat956 + (1 : Int32)) (1 : Int32); skip)
                have ar1462 := rng32 (((vat956 + (1 : Int32)) + (1 : Int32)) + (1 : Int32))
                first | have ar1463 : (((vat956 + (1 : Int32)) + (1 : Int32)) + (1 : Int32)).toInt = ((vat956 + (1 : Int32)) + (1 : Int32)).toInt + 1 := (by have qw := c_iadd ((vat956 + (1 : Int32)) + (1 : Int32)) (1 : Int32); omega) | (have ar1463 := c_iadd ((vat956 + (1 : Int32)) + (1 : Int32)) (1 : Int32); skip)
                have ar1464 := rng32 ((((vat956 + (1 : Int32)) + (1 : Int32)) + (1 : Int32)) + (1 : Int32))
                first | have ar1465 : ((((vat956 + (1 : Int32)) + (1 : Int32)) + (1 : Int32)) + (1 : Int32)).toInt = (((vat956 + (1 : Int32)) + (1 : Int32)) + (1 : Int32)).toInt + 1 := (by have qw := c_iadd (((vat956 + (1 : Int32)) + (1 : Int32)) + (1 : Int32)) (1 : Int32); omega) | (have ar1465 := c_iadd (((vat956 + (1 : Int32)) + (1 : Int32)) + (1 : Int32)) (1 : Int32); skip)
                have ar1466 := congrArg Int32.toInt hr1431
                have ar1467 := rng32 (r1431 - vat956)
                first | have ar1468 : (r1431 - vat956).toInt = r1431.toInt - vat956.toInt := (by have qw := c_isub r1431 vat956; omega) | (have ar1468 := c_isub r1431 vat956; skip)
                have ar1469 := congrArg Int32.toInt hv1435
                exact fun qq_ => absurd (Int32.lt_iff_toInt_lt.mp qq_) (by omega))
            have k1471 : ∀ tg_, Steps p.tables e below (T1429.setTop (mkF m 137 #[.val (.int p0), .val (.int p1), .val (.int p2), .val (.int vcp216), .val (.int vat956), .val (.int v958), .val (.ref b959), .val (.int r1431), .val (.int v1435), .unset, .unset, .unset, .unset, .unset, .unset] [(.int vat956)])) tg_ → Steps p.tables e below (s₁.setTop (entryFrame m #[(.int p0), (.int p1), (.int p2)] maxLocals)) tg_ := by
              intro tg_ kt
              refine k1434 tg_ ?_
              refine XS.istore X1429.here hx rfl (hb hby at_119) rfl (l' := #[.val (.int p0), .val (.int p1), .val (.int p2), .val (.int vcp216), .val (.int vat956), .val (.int v958), .val (.ref b959), .val (.int r1431), .val (.int v1435), .unset, .unset, .unset, .unset, .unset, .unset]) rfl ?_
              show Steps p.tables e below (T1429.setTop (mkF m 121 #[.val (.int p0), .val (.int p1), .val (.int p2), .val (.int vcp216), .val (.int vat956), .val (.int v958), .val (.ref b959), .val (.int r1431), .val (.int v1435), .unset, .unset, .unset, .unset, .unset, .unset] [])) _
              refine XS.iload X1429.here hx rfl (hb hby at_121) rfl ?_
              show Steps p.tables e below (T1429.setTop (mkF m 123 #[.val (.int p0), .val (.int p1), .val (.int p2), .val (.int vcp216), .val (.int vat956), .val (.int v958), .val (.ref b959), .val (.int r1431), .val (.int v1435), .unset, .unset, .unset, .unset, .unset, .unset] [(.int v1435)])) _
              refine XS.iconst X1429.here hx rfl (hb hby at_123) ?_
              show Steps p.tables e below (T1429.setTop (mkF m 124 #[.val (.int p0), .val (.int p1), .val (.int p2), .val (.int vcp216), .val (.int vat956), .val (.int v958), .val (.ref b959), .val (.int r1431), .val (.int v1435), .unset, .unset, .unset, .unset, .unset, .unset] [(.int (1 : Int32)), (.int v1435)])) _
              refine XS.icmpNo X1429.here hx rfl (hb hby at_124) rfl (flt hc124_1452).1 ?_
              show Steps p.tables e below (T1429.setTop (mkF m 127 #[.val (.int p0), .val (.int p1), .val (.int p2), .val (.int vcp216), .val (.int vat956), .val (.int v958), .val (.ref b959), .val (.int r1431), .val (.int v1435), .unset, .unset, .unset, .unset, .unset, .unset] [])) _
              refine XS.iload X1429.here hx rfl (hb hby at_127) rfl ?_
              show Steps p.tables e below (T1429.setTop (mkF m 129 #[.val (.int p0), .val (.int p1), .val (.int p2), .val (.int vcp216), .val (.int vat956), .val (.int v958), .val (.ref b959), .val (.int r1431), .val (.int v1435), .unset, .unset, .unset, .unset, .unset, .unset] [(.int v1435)])) _
              refine XS.iconst X1429.here hx rfl (hb hby at_129) ?_
              show Steps p.tables e below (T1429.setTop (mkF m 130 #[.val (.int p0), .val (.int p1), .val (.int p2), .val (.int vcp216), .val (.int vat956), .val (.int v958), .val (.ref b959), .val (.int r1431), .val (.int v1435), .unset, .unset, .unset, .unset, .unset, .unset] [(.int (4 : Int32)), (.int v1435)])) _
              refine XS.icmpYes X1429.here hx rfl (pc0 := 130) (pc' := 135) rfl (hb hby at_130) rfl (flt hc130_1470).2.2.2 (by decide) (by decide) ?_
              show Steps p.tables e below (T1429.setTop (mkF m 135 #[.val (.int p0), .val (.int p1), .val (.int p2), .val (.int vcp216), .val (.int vat956), .val (.int v958), .val (.ref b959), .val (.int r1431), .val (.int v1435), .unset, .unset, .unset, .unset, .unset, .unset] [])) _
              refine XS.iload X1429.here hx rfl (hb hby at_135) rfl ?_
              show Steps p.tables e below (T1429.setTop (mkF m 137 #[.val (.int p0), .val (.int p1), .val (.int p2), .val (.int vcp216), .val (.int vat956), .val (.int v958), .val (.ref b959), .val (.int r1431), .val (.int v1435), .unset, .unset, .unset, .unset, .unset, .unset] [(.int vat956)])) _
              exact kt
            have k1485 : ∀ tg_, Steps p.tables e below (T1429.setTop (mkF m 154 #[.val (.int p0), .val (.int p1), .val (.int p2), .val (.int vcp216), .val (.int vat956), .val (.int v958), .val (.ref b959), .val (.int r1431), .val (.int v1435), .unset, .unset, .unset, .unset, .unset, .unset] [])) tg_ → Steps p.tables e below (s₁.setTop (entryFrame m #[(.int p0), (.int p1), (.int p2)] maxLocals)) tg_ := by
              intro tg_ kt
              refine k1471 tg_ ?_
              by_cases hj137_1472 : (0 : Int32) < vat956
              · have hj1473 : (vat956 - (1 : Int32)).toInt = (((k - 1) : Nat) : Int) := by
                  have ar1474 := rng32 vat956
                  have ar1475 : (1 : Int32).toInt = 1 := by decide
                  have ar1476 := rng32 (vat956 - (1 : Int32))
                  first | have ar1477 : (vat956 - (1 : Int32)).toInt = vat956.toInt - 1 := (by have qw := c_isub vat956 (1 : Int32); omega) | (have ar1477 := c_isub vat956 (1 : Int32); skip)
                  have ar1478 : (0 : Int32).toInt = 0 := by decide
                  have ar1479 : (0 : Int32).toInt < vat956.toInt := Int32.lt_iff_toInt_lt.mp hj137_1472
                  omega
                have hv1480 : g1432 (k - 1) = v958 := by
                  have hk1 : 1 ≤ k := by
                    have ar1481 : (0 : Int32).toInt = 0 := by decide
                    have ar1482 := rng32 vat956
                    have ar1483 : (0 : Int32).toInt < vat956.toInt := Int32.lt_iff_toInt_lt.mp hj137_1472
                    omega
                  rw [hg1432]; simp only [own_upd]
                  rw [if_neg (by omega)]
                  rw [if_neg (by omega)]
                  rw [if_neg (by omega)]
                  rw [if_neg (by omega)]
                have hc149_1484 : v958 = v958 := rfl
                refine XS.ifNo X1429.here hx rfl (hb hby at_137) rfl ((if0 _ _).trans (tlt hj137_1472).2.2.2) ?_
                show Steps p.tables e below (T1429.setTop (mkF m 140 #[.val (.int p0), .val (.int p1), .val (.int p2), .val (.int vcp216), .val (.int vat956), .val (.int v958), .val (.ref b959), .val (.int r1431), .val (.int v1435), .unset, .unset, .unset, .unset, .unset, .unset] [])) _
                refine XS.aload X1429.here hx rfl (hb hby at_140) rfl rfl ?_
                show Steps p.tables e below (T1429.setTop (mkF m 142 #[.val (.int p0), .val (.int p1), .val (.int p2), .val (.int vcp216), .val (.int vat956), .val (.int v958), .val (.ref b959), .val (.int r1431), .val (.int v1435), .unset, .unset, .unset, .unset, .unset, .unset] [(.ref b959)])) _
                refine XS.iload X1429.here hx rfl (hb hby at_142) rfl ?_
                show Steps p.tables e below (T1429.setTop (mkF m 144 #[.val (.int p0), .val (.int p1), .val (.int p2), .val (.int vcp216), .val (.int vat956), .val (.int v958), .val (.ref b959), .val (.int r1431), .val (.int v1435), .unset, .unset, .unset, .unset, .unset, .unset] [(.int vat956), (.ref b959)])) _
                refine XS.iconst X1429.here hx rfl (hb hby at_144) ?_
                show Steps p.tables e below (T1429.setTop (mkF m 145 #[.val (.int p0), .val (.int p1), .val (.int p2), .val (.int vcp216), .val (.int vat956), .val (.int v958), .val (.ref b959), .val (.int r1431), .val (.int v1435), .unset, .unset, .unset, .unset, .unset, .unset] [(.int (1 : Int32)), (.int vat956), (.ref b959)])) _
                refine XS.isub X1429.here hx rfl (hb hby at_145) rfl ?_
                show Steps p.tables e below (T1429.setTop (mkF m 146 #[.val (.int p0), .val (.int p1), .val (.int p2), .val (.int vcp216), .val (.int vat956), .val (.int v958), .val (.ref b959), .val (.int r1431), .val (.int v1435), .unset, .unset, .unset, .unset, .unset, .unset] [(.int (vat956 - (1 : Int32))), (.ref b959)])) _
                refine own_ldB X1429 hx hZ rfl oAa1429 (i := (k - 1)) hj1473 (by omega) hv1480 (g := (mkF m 146 #[.val (.int p0), .val (.int p1), .val (.int p2), .val (.int vcp216), .val (.int vat956), .val (.int v958), .val (.ref b959), .val (.int r1431), .val (.int v1435), .unset, .unset, .unset, .unset, .unset, .unset] [(.int (vat956 - (1 : Int32))), (.ref b959)])) rfl rfl (hb hby at_146) _ ?_
                show Steps p.tables e below (T1429.setTop (mkF m 147 #[.val (.int p0), .val (.int p1), .val (.int p2), .val (.int vcp216), .val (.int vat956), .val (.int v958), .val (.ref b959), .val (.int r1431), .val (.int v1435), .unset, .unset, .unset, .unset, .unset, .unset] [(.int v958)])) _
                refine XS.iload X1429.here hx rfl (hb hby at_147) rfl ?_
                show Steps p.tables e below (T1429.setTop (mkF m 149 #[.val (.int p0), .val (.int p1), .val (.int p2), .val (.int vcp216), .val (.int vat956), .val (.int v958), .val (.ref b959), .val (.int r1431), .val (.int v1435), .unset, .unset, .unset, .unset, .unset, .unset] [(.int v958), (.int v958)])) _
                refine XS.icmpYes X1429.here hx rfl (pc0 := 149) (pc' := 154) rfl (hb hby at_149) rfl (teq hc149_1484).1 (by decide) (by decide) ?_
                show Steps p.tables e below (T1429.setTop (mkF m 154 #[.val (.int p0), .val (.int p1), .val (.int p2), .val (.int vcp216), .val (.int vat956), .val (.int v958), .val (.ref b959), .val (.int r1431), .val (.int v1435), .unset, .unset, .unset, .unset, .unset, .unset] [])) _
                simpa only [if_pos hj137_1472] using kt
              · refine XS.ifYes X1429.here hx rfl (pc0 := 137) (pc' := 154) rfl (hb hby at_137) rfl ((if0 _ _).trans (flt hj137_1472).2.2.2) (by decide) (by decide) ?_
                show Steps p.tables e below (T1429.setTop (mkF m 154 #[.val (.int p0), .val (.int p1), .val (.int p2), .val (.int vcp216), .val (.int vat956), .val (.int v958), .val (.ref b959), .val (.int r1431), .val (.int v1435), .unset, .unset, .unset, .unset, .unset, .unset] [])) _
                simpa only [if_neg hj137_1472] using kt
            have hj1486 : r1431.toInt = (((k + 4) : Nat) : Int) := by
              have ar1487 := rng32 r1431
              have ar1488 := rng32 vat956
              have ar1489 : (1 : Int32).toInt = 1 := by decide
              have ar1490 := rng32 (vat956 + (1 : Int32))
              first | have ar1491 : (vat956 + (1 : Int32)).toInt = vat956.toInt + 1 := (by have qw := c_iadd vat956 (1 : Int32); omega) | (have ar1491 := c_iadd vat956 (1 : Int32); skip)
              have ar1492 := rng32 ((vat956 + (1 : Int32)) + (1 : Int32))
              first | have ar1493 : ((vat956 + (1 : Int32)) + (1 : Int32)).toInt = (vat956 + (1 : Int32)).toInt + 1 := (by have qw := c_iadd (vat956 + (1 : Int32)) (1 : Int32); omega) | (have ar1493 := c_iadd (vat956 + (1 : Int32)) (1 : Int32); skip)
              have ar1494 := rng32 (((vat956 + (1 : Int32)) + (1 : Int32)) + (1 : Int32))
              first | have ar1495 : (((vat956 + (1 : Int32)) + (1 : Int32)) + (1 : Int32)).toInt = ((vat956 + (1 : Int32)) + (1 : Int32)).toInt + 1 := (by have qw := c_iadd ((vat956 + (1 : Int32)) + (1 : Int32)) (1 : Int32); omega) | (have ar1495 := c_iadd ((vat956 + (1 : Int32)) + (1 : Int32)) (1 : Int32); skip)
              have ar1496 := rng32 ((((vat956 + (1 : Int32)) + (1 : Int32)) + (1 : Int32)) + (1 : Int32))
              first | have ar1497 : ((((vat956 + (1 : Int32)) + (1 : Int32)) + (1 : Int32)) + (1 : Int32)).toInt = (((vat956 + (1 : Int32)) + (1 : Int32)) + (1 : Int32)).toInt + 1 := (by have qw := c_iadd (((vat956 + (1 : Int32)) + (1 : Int32)) + (1 : Int32)) (1 : Int32); omega) | (have ar1497 := c_iadd (((vat956 + (1 : Int32)) + (1 : Int32)) + (1 : Int32)) (1 : Int32); skip)
              have ar1498 := congrArg Int32.toInt hr1431
              omega
            have hv1499 : g1432 (k + 4) = v958 := by
              rw [hg1432]; simp only [own_upd]
              rw [if_neg (by omega)]
              rw [if_neg (by omega)]
              rw [if_neg (by omega)]
              rw [if_neg (by omega)]
            have hc161_1500 : v958 = v958 := rfl
            have hj1501 : vat956.toInt = ((k : Nat) : Int) := by
              have ar1502 := rng32 vat956
              omega
            have hv1503 : g1432 k = ((((240 : Int32) ||| ((vcp216.toUInt32 >>> ((18 : Int32) &&& 31).toUInt32).toInt32)).toInt8.toInt32).toInt8.toInt32) := by
              rw [hg1432]; simp only [own_upd]
              rw [if_neg (by omega)]
              rw [if_neg (by omega)]
              rw [if_neg (by omega)]
              rw [if_pos (by omega)]
            have k1504 : ∀ tg_, Steps p.tables e below (T1429.setTop (mkF m 175 #[.val (.int p0), .val (.int p1), .val (.int p2), .val (.int vcp216), .val (.int vat956), .val (.int v958), .val (.ref b959), .val (.int r1431), .val (.int v1435), .unset, .unset, .unset, .unset, .unset, .unset] [(.int (((((240 : Int32) ||| ((vcp216.toUInt32 >>> ((18 : Int32) &&& 31).toUInt32).toInt32)).toInt8.toInt32).toInt8.toInt32) &&& (255 : Int32)))])) tg_ → Steps p.tables e below (s₁.setTop (entryFrame m #[(.int p0), (.int p1), (.int p2)] maxLocals)) tg_ := by
              intro tg_ kt
              refine k1485 tg_ ?_
              refine XS.aload X1429.here hx rfl (hb hby at_154) rfl rfl ?_
              show Steps p.tables e below (T1429.setTop (mkF m 156 #[.val (.int p0), .val (.int p1), .val (.int p2), .val (.int vcp216), .val (.int vat956), .val (.int v958), .val (.ref b959), .val (.int r1431), .val (.int v1435), .unset, .unset, .unset, .unset, .unset, .unset] [(.ref b959)])) _
              refine XS.iload X1429.here hx rfl (hb hby at_156) rfl ?_
              show Steps p.tables e below (T1429.setTop (mkF m 158 #[.val (.int p0), .val (.int p1), .val (.int p2), .val (.int vcp216), .val (.int vat956), .val (.int v958), .val (.ref b959), .val (.int r1431), .val (.int v1435), .unset, .unset, .unset, .unset, .unset, .unset] [(.int r1431), (.ref b959)])) _
              refine own_ldB X1429 hx hZ rfl oAa1429 (i := (k + 4)) hj1486 (by omega) hv1499 (g := (mkF m 158 #[.val (.int p0), .val (.int p1), .val (.int p2), .val (.int vcp216), .val (.int vat956), .val (.int v958), .val (.ref b959), .val (.int r1431), .val (.int v1435), .unset, .unset, .unset, .unset, .unset, .unset] [(.int r1431), (.ref b959)])) rfl rfl (hb hby at_158) _ ?_
              show Steps p.tables e below (T1429.setTop (mkF m 159 #[.val (.int p0), .val (.int p1), .val (.int p2), .val (.int vcp216), .val (.int vat956), .val (.int v958), .val (.ref b959), .val (.int r1431), .val (.int v1435), .unset, .unset, .unset, .unset, .unset, .unset] [(.int v958)])) _
              refine XS.iload X1429.here hx rfl (hb hby at_159) rfl ?_
              show Steps p.tables e below (T1429.setTop (mkF m 161 #[.val (.int p0), .val (.int p1), .val (.int p2), .val (.int vcp216), .val (.int vat956), .val (.int v958), .val (.ref b959), .val (.int r1431), .val (.int v1435), .unset, .unset, .unset, .unset, .unset, .unset] [(.int v958), (.int v958)])) _
              refine XS.icmpYes X1429.here hx rfl (pc0 := 161) (pc' := 166) rfl (hb hby at_161) rfl (teq hc161_1500).1 (by decide) (by decide) ?_
              show Steps p.tables e below (T1429.setTop (mkF m 166 #[.val (.int p0), .val (.int p1), .val (.int p2), .val (.int vcp216), .val (.int vat956), .val (.int v958), .val (.ref b959), .val (.int r1431), .val (.int v1435), .unset, .unset, .unset, .unset, .unset, .unset] [])) _
              refine XS.aload X1429.here hx rfl (hb hby at_166) rfl rfl ?_
              show Steps p.tables e below (T1429.setTop (mkF m 168 #[.val (.int p0), .val (.int p1), .val (.int p2), .val (.int vcp216), .val (.int vat956), .val (.int v958), .val (.ref b959), .val (.int r1431), .val (.int v1435), .unset, .unset, .unset, .unset, .unset, .unset] [(.ref b959)])) _
              refine XS.iload X1429.here hx rfl (hb hby at_168) rfl ?_
              show Steps p.tables e below (T1429.setTop (mkF m 170 #[.val (.int p0), .val (.int p1), .val (.int p2), .val (.int vcp216), .val (.int vat956), .val (.int v958), .val (.ref b959), .val (.int r1431), .val (.int v1435), .unset, .unset, .unset, .unset, .unset, .unset] [(.int vat956), (.ref b959)])) _
              refine own_ldB X1429 hx hZ rfl oAa1429 (i := k) hj1501 (by omega) hv1503 (g := (mkF m 170 #[.val (.int p0), .val (.int p1), .val (.int p2), .val (.int vcp216), .val (.int vat956), .val (.int v958), .val (.ref b959), .val (.int r1431), .val (.int v1435), .unset, .unset, .unset, .unset, .unset, .unset] [(.int vat956), (.ref b959)])) rfl rfl (hb hby at_170) _ ?_
              show Steps p.tables e below (T1429.setTop (mkF m 171 #[.val (.int p0), .val (.int p1), .val (.int p2), .val (.int vcp216), .val (.int vat956), .val (.int v958), .val (.ref b959), .val (.int r1431), .val (.int v1435), .unset, .unset, .unset, .unset, .unset, .unset] [(.int ((((240 : Int32) ||| ((vcp216.toUInt32 >>> ((18 : Int32) &&& 31).toUInt32).toInt32)).toInt8.toInt32).toInt8.toInt32))])) _
              refine XS.sipush X1429.here hx rfl (hb hby at_171) ?_
              show Steps p.tables e below (T1429.setTop (mkF m 174 #[.val (.int p0), .val (.int p1), .val (.int p2), .val (.int vcp216), .val (.int vat956), .val (.int v958), .val (.ref b959), .val (.int r1431), .val (.int v1435), .unset, .unset, .unset, .unset, .unset, .unset] [(.int (255 : Int32)), (.int ((((240 : Int32) ||| ((vcp216.toUInt32 >>> ((18 : Int32) &&& 31).toUInt32).toInt32)).toInt8.toInt32).toInt8.toInt32))])) _
              refine XS.iand X1429.here hx rfl (hb hby at_174) rfl ?_
              show Steps p.tables e below (T1429.setTop (mkF m 175 #[.val (.int p0), .val (.int p1), .val (.int p2), .val (.int vcp216), .val (.int vat956), .val (.int v958), .val (.ref b959), .val (.int r1431), .val (.int v1435), .unset, .unset, .unset, .unset, .unset, .unset] [(.int (((((240 : Int32) ||| ((vcp216.toUInt32 >>> ((18 : Int32) &&& 31).toUInt32).toInt32)).toInt8.toInt32).toInt8.toInt32) &&& (255 : Int32)))])) _
              exact kt
            obtain ⟨vb1505, hvb1505⟩ : ∃ z : Int32, z = (((((240 : Int32) ||| ((vcp216.toUInt32 >>> ((18 : Int32) &&& 31).toUInt32).toInt32)).toInt8.toInt32).toInt8.toInt32) &&& (255 : Int32)) := ⟨_, rfl⟩
            rw [← hvb1505] at k1504
            have k1506 : ∀ tg_, Steps p.tables e below (T1429.setTop (mkF m 177 #[.val (.int p0), .val (.int p1), .val (.int p2), .val (.int vcp216), .val (.int vat956), .val (.int v958), .val (.ref b959), .val (.int r1431), .val (.int v1435), .val (.int vb1505), .unset, .unset, .unset, .unset, .unset] [])) tg_ → Steps p.tables e below (s₁.setTop (entryFrame m #[(.int p0), (.int p1), (.int p2)] maxLocals)) tg_ := by
              intro tg_ kt
              refine k1504 tg_ ?_
              refine XS.istore X1429.here hx rfl (hb hby at_175) rfl (l' := #[.val (.int p0), .val (.int p1), .val (.int p2), .val (.int vcp216), .val (.int vat956), .val (.int v958), .val (.ref b959), .val (.int r1431), .val (.int v1435), .val (.int vb1505), .unset, .unset, .unset, .unset, .unset]) rfl ?_
              show Steps p.tables e below (T1429.setTop (mkF m 177 #[.val (.int p0), .val (.int p1), .val (.int p2), .val (.int vcp216), .val (.int vat956), .val (.int v958), .val (.ref b959), .val (.int r1431), .val (.int v1435), .val (.int vb1505), .unset, .unset, .unset, .unset, .unset] [])) _
              exact kt
            have hbv_vb1505 : vb1505.toInt = 240 + vcp216.toInt / 262144 := by rw [hvb1505]; exact own_e4_0 vcp216 (by omega) (by omega)
            have hc180_1523 : ¬ (v1435 = (1 : Int32)) := (by
                have ar1507 := rng32 v1435
                have ar1508 := rng32 r1431
                have ar1509 := rng32 vat956
                have ar1510 : (1 : Int32).toInt = 1 := by decide
                have ar1511 := rng32 (vat956 + (1 : Int32))
                first | have ar1512 : (vat956 + (1 : Int32)).toInt = vat956.toInt + 1 := (by have qw := c_iadd vat956 (1 : Int32); omega) | (have ar1512 := c_iadd vat956 (1 : Int32); skip)
                have ar1513 := rng32 ((vat956 + (1 : Int32)) + (1 : Int32))
                first | have ar1514 : ((vat956 + (1 : Int32)) + (1 : Int32)).toInt = (vat956 + (1 : Int32)).toInt + 1 := (by have qw := c_iadd (vat956 + (1 : Int32)) (1 : Int32); omega) | (have ar1514 := c_iadd (vat956 + (1 : Int32)) (1 : Int32); skip)
                have ar1515 := rng32 (((vat956 + (1 : Int32)) + (1 : Int32)) + (1 : Int32))
                first | have ar1516 : (((vat956 + (1 : Int32)) + (1 : Int32)) + (1 : Int32)).toInt = ((vat956 + (1 : Int32)) + (1 : Int32)).toInt + 1 := (by have qw := c_iadd ((vat956 + (1 : Int32)) + (1 : Int32)) (1 : Int32); omega) | (have ar1516 := c_iadd ((vat956 + (1 : Int32)) + (1 : Int32)) (1 : Int32); skip)
                have ar1517 := rng32 ((((vat956 + (1 : Int32)) + (1 : Int32)) + (1 : Int32)) + (1 : Int32))
                first | have ar1518 : ((((vat956 + (1 : Int32)) + (1 : Int32)) + (1 : Int32)) + (1 : Int32)).toInt = (((vat956 + (1 : Int32)) + (1 : Int32)) + (1 : Int32)).toInt + 1 := (by have qw := c_iadd (((vat956 + (1 : Int32)) + (1 : Int32)) + (1 : Int32)) (1 : Int32); omega) | (have ar1518 := c_iadd (((vat956 + (1 : Int32)) + (1 : Int32)) + (1 : Int32)) (1 : Int32); skip)
                have ar1519 := congrArg Int32.toInt hr1431
                have ar1520 := rng32 (r1431 - vat956)
                first | have ar1521 : (r1431 - vat956).toInt = r1431.toInt - vat956.toInt := (by have qw := c_isub r1431 vat956; omega) | (have ar1521 := c_isub r1431 vat956; skip)
                have ar1522 := congrArg Int32.toInt hv1435
                exact fun qq_ => absurd (congrArg Int32.toInt qq_) (by omega))
            have hj1524 : (vat956 + (1 : Int32)).toInt = (((k + 1) : Nat) : Int) := by
              have ar1525 := rng32 vat956
              have ar1526 : (1 : Int32).toInt = 1 := by decide
              have ar1527 := rng32 (vat956 + (1 : Int32))
              first | have ar1528 : (vat956 + (1 : Int32)).toInt = vat956.toInt + 1 := (by have qw := c_iadd vat956 (1 : Int32); omega) | (have ar1528 := c_iadd vat956 (1 : Int32); skip)
              omega
            have hv1529 : g1432 (k + 1) = ((((128 : Int32) ||| (((vcp216.toUInt32 >>> ((12 : Int32) &&& 31).toUInt32).toInt32) &&& (63 : Int32))).toInt8.toInt32).toInt8.toInt32) := by
              rw [hg1432]; simp only [own_upd]
              rw [if_neg (by omega)]
              rw [if_neg (by omega)]
              rw [if_pos (by omega)]
            have k1530 : ∀ tg_, Steps p.tables e below (T1429.setTop (mkF m 214 #[.val (.int p0), .val (.int p1), .val (.int p2), .val (.int vcp216), .val (.int vat956), .val (.int v958), .val (.ref b959), .val (.int r1431), .val (.int v1435), .val (.int vb1505), .unset, .unset, .unset, .unset, .unset] [(.int (((((128 : Int32) ||| (((vcp216.toUInt32 >>> ((12 : Int32) &&& 31).toUInt32).toInt32) &&& (63 : Int32))).toInt8.toInt32).toInt8.toInt32) &&& (255 : Int32)))])) tg_ → Steps p.tables e below (s₁.setTop (entryFrame m #[(.int p0), (.int p1), (.int p2)] maxLocals)) tg_ := by
              intro tg_ kt
              refine k1506 tg_ ?_
              refine XS.iload X1429.here hx rfl (hb hby at_177) rfl ?_
              show Steps p.tables e below (T1429.setTop (mkF m 179 #[.val (.int p0), .val (.int p1), .val (.int p2), .val (.int vcp216), .val (.int vat956), .val (.int v958), .val (.ref b959), .val (.int r1431), .val (.int v1435), .val (.int vb1505), .unset, .unset, .unset, .unset, .unset] [(.int v1435)])) _
              refine XS.iconst X1429.here hx rfl (hb hby at_179) ?_
              show Steps p.tables e below (T1429.setTop (mkF m 180 #[.val (.int p0), .val (.int p1), .val (.int p2), .val (.int vcp216), .val (.int vat956), .val (.int v958), .val (.ref b959), .val (.int r1431), .val (.int v1435), .val (.int vb1505), .unset, .unset, .unset, .unset, .unset] [(.int (1 : Int32)), (.int v1435)])) _
              refine XS.icmpYes X1429.here hx rfl (pc0 := 180) (pc' := 203) rfl (hb hby at_180) rfl (feq hc180_1523).2 (by decide) (by decide) ?_
              show Steps p.tables e below (T1429.setTop (mkF m 203 #[.val (.int p0), .val (.int p1), .val (.int p2), .val (.int vcp216), .val (.int vat956), .val (.int v958), .val (.ref b959), .val (.int r1431), .val (.int v1435), .val (.int vb1505), .unset, .unset, .unset, .unset, .unset] [])) _
              refine XS.aload X1429.here hx rfl (hb hby at_203) rfl rfl ?_
              show Steps p.tables e below (T1429.setTop (mkF m 205 #[.val (.int p0), .val (.int p1), .val (.int p2), .val (.int vcp216), .val (.int vat956), .val (.int v958), .val (.ref b959), .val (.int r1431), .val (.int v1435), .val (.int vb1505), .unset, .unset, .unset, .unset, .unset] [(.ref b959)])) _
              refine XS.iload X1429.here hx rfl (hb hby at_205) rfl ?_
              show Steps p.tables e below (T1429.setTop (mkF m 207 #[.val (.int p0), .val (.int p1), .val (.int p2), .val (.int vcp216), .val (.int vat956), .val (.int v958), .val (.ref b959), .val (.int r1431), .val (.int v1435), .val (.int vb1505), .unset, .unset, .unset, .unset, .unset] [(.int vat956), (.ref b959)])) _
              refine XS.iconst X1429.here hx rfl (hb hby at_207) ?_
              show Steps p.tables e below (T1429.setTop (mkF m 208 #[.val (.int p0), .val (.int p1), .val (.int p2), .val (.int vcp216), .val (.int vat956), .val (.int v958), .val (.ref b959), .val (.int r1431), .val (.int v1435), .val (.int vb1505), .unset, .unset, .unset, .unset, .unset] [(.int (1 : Int32)), (.int vat956), (.ref b959)])) _
              refine XS.iadd X1429.here hx rfl (hb hby at_208) rfl ?_
              show Steps p.tables e below (T1429.setTop (mkF m 209 #[.val (.int p0), .val (.int p1), .val (.int p2), .val (.int vcp216), .val (.int vat956), .val (.int v958), .val (.ref b959), .val (.int r1431), .val (.int v1435), .val (.int vb1505), .unset, .unset, .unset, .unset, .unset] [(.int (vat956 + (1 : Int32))), (.ref b959)])) _
              refine own_ldB X1429 hx hZ rfl oAa1429 (i := (k + 1)) hj1524 (by omega) hv1529 (g := (mkF m 209 #[.val (.int p0), .val (.int p1), .val (.int p2), .val (.int vcp216), .val (.int vat956), .val (.int v958), .val (.ref b959), .val (.int r1431), .val (.int v1435), .val (.int vb1505), .unset, .unset, .unset, .unset, .unset] [(.int (vat956 + (1 : Int32))), (.ref b959)])) rfl rfl (hb hby at_209) _ ?_
              show Steps p.tables e below (T1429.setTop (mkF m 210 #[.val (.int p0), .val (.int p1), .val (.int p2), .val (.int vcp216), .val (.int vat956), .val (.int v958), .val (.ref b959), .val (.int r1431), .val (.int v1435), .val (.int vb1505), .unset, .unset, .unset, .unset, .unset] [(.int ((((128 : Int32) ||| (((vcp216.toUInt32 >>> ((12 : Int32) &&& 31).toUInt32).toInt32) &&& (63 : Int32))).toInt8.toInt32).toInt8.toInt32))])) _
              refine XS.sipush X1429.here hx rfl (hb hby at_210) ?_
              show Steps p.tables e below (T1429.setTop (mkF m 213 #[.val (.int p0), .val (.int p1), .val (.int p2), .val (.int vcp216), .val (.int vat956), .val (.int v958), .val (.ref b959), .val (.int r1431), .val (.int v1435), .val (.int vb1505), .unset, .unset, .unset, .unset, .unset] [(.int (255 : Int32)), (.int ((((128 : Int32) ||| (((vcp216.toUInt32 >>> ((12 : Int32) &&& 31).toUInt32).toInt32) &&& (63 : Int32))).toInt8.toInt32).toInt8.toInt32))])) _
              refine XS.iand X1429.here hx rfl (hb hby at_213) rfl ?_
              show Steps p.tables e below (T1429.setTop (mkF m 214 #[.val (.int p0), .val (.int p1), .val (.int p2), .val (.int vcp216), .val (.int vat956), .val (.int v958), .val (.ref b959), .val (.int r1431), .val (.int v1435), .val (.int vb1505), .unset, .unset, .unset, .unset, .unset] [(.int (((((128 : Int32) ||| (((vcp216.toUInt32 >>> ((12 : Int32) &&& 31).toUInt32).toInt32) &&& (63 : Int32))).toInt8.toInt32).toInt8.toInt32) &&& (255 : Int32)))])) _
              exact kt
            obtain ⟨vb1531, hvb1531⟩ : ∃ z : Int32, z = (((((128 : Int32) ||| (((vcp216.toUInt32 >>> ((12 : Int32) &&& 31).toUInt32).toInt32) &&& (63 : Int32))).toInt8.toInt32).toInt8.toInt32) &&& (255 : Int32)) := ⟨_, rfl⟩
            rw [← hvb1531] at k1530
            have k1532 : ∀ tg_, Steps p.tables e below (T1429.setTop (mkF m 216 #[.val (.int p0), .val (.int p1), .val (.int p2), .val (.int vcp216), .val (.int vat956), .val (.int v958), .val (.ref b959), .val (.int r1431), .val (.int v1435), .val (.int vb1505), .unset, .unset, .val (.int vb1531), .unset, .unset] [])) tg_ → Steps p.tables e below (s₁.setTop (entryFrame m #[(.int p0), (.int p1), (.int p2)] maxLocals)) tg_ := by
              intro tg_ kt
              refine k1530 tg_ ?_
              refine XS.istore X1429.here hx rfl (hb hby at_214) rfl (l' := #[.val (.int p0), .val (.int p1), .val (.int p2), .val (.int vcp216), .val (.int vat956), .val (.int v958), .val (.ref b959), .val (.int r1431), .val (.int v1435), .val (.int vb1505), .unset, .unset, .val (.int vb1531), .unset, .unset]) rfl ?_
              show Steps p.tables e below (T1429.setTop (mkF m 216 #[.val (.int p0), .val (.int p1), .val (.int p2), .val (.int vcp216), .val (.int vat956), .val (.int v958), .val (.ref b959), .val (.int r1431), .val (.int v1435), .val (.int vb1505), .unset, .unset, .val (.int vb1531), .unset, .unset] [])) _
              exact kt
            have hbv_vb1531 : vb1531.toInt = 128 + vcp216.toInt / 4096 % 64 := by rw [hvb1531]; exact own_e4_1 vcp216 (by omega) (by omega)
            have hc225_1539 : (vb1531 &&& (192 : Int32)) = (128 : Int32) := (by
                have ar1533 := rng32 vb1531
                have ar1534 : (192 : Int32).toInt = 192 := by decide
                first | have ar1535 := own_hi192 vb1531 (by omega) (by omega) | have ar1535 := own_hi192 vb1531
                have ar1536 := c_and vb1531 (192 : Int32) (by decide)
                have ar1537 := rng32 (vb1531 &&& (192 : Int32))
                have ar1538 : (128 : Int32).toInt = 128 := by decide
                exact Int32.toInt_inj.mp (by omega))
            have hc233_1557 : ¬ (v1435 = (2 : Int32)) := (by
                have ar1540 := rng32 v1435
                have ar1541 := rng32 r1431
                have ar1542 := rng32 vat956
                have ar1543 : (1 : Int32).toInt = 1 := by decide
                have ar1544 := rng32 (vat956 + (1 : Int32))
                first | have ar1545 : (vat956 + (1 : Int32)).toInt = vat956.toInt + 1 := (by have qw := c_iadd vat956 (1 : Int32); omega) | (have ar1545 := c_iadd vat956 (1 : Int32); skip)
                have ar1546 := rng32 ((vat956 + (1 : Int32)) + (1 : Int32))
                first | have ar1547 : ((vat956 + (1 : Int32)) + (1 : Int32)).toInt = (vat956 + (1 : Int32)).toInt + 1 := (by have qw := c_iadd (vat956 + (1 : Int32)) (1 : Int32); omega) | (have ar1547 := c_iadd (vat956 + (1 : Int32)) (1 : Int32); skip)
                have ar1548 := rng32 (((vat956 + (1 : Int32)) + (1 : Int32)) + (1 : Int32))
                first | have ar1549 : (((vat956 + (1 : Int32)) + (1 : Int32)) + (1 : Int32)).toInt = ((vat956 + (1 : Int32)) + (1 : Int32)).toInt + 1 := (by have qw := c_iadd ((vat956 + (1 : Int32)) + (1 : Int32)) (1 : Int32); omega) | (have ar1549 := c_iadd ((vat956 + (1 : Int32)) + (1 : Int32)) (1 : Int32); skip)
                have ar1550 := rng32 ((((vat956 + (1 : Int32)) + (1 : Int32)) + (1 : Int32)) + (1 : Int32))
                first | have ar1551 : ((((vat956 + (1 : Int32)) + (1 : Int32)) + (1 : Int32)) + (1 : Int32)).toInt = (((vat956 + (1 : Int32)) + (1 : Int32)) + (1 : Int32)).toInt + 1 := (by have qw := c_iadd (((vat956 + (1 : Int32)) + (1 : Int32)) + (1 : Int32)) (1 : Int32); omega) | (have ar1551 := c_iadd (((vat956 + (1 : Int32)) + (1 : Int32)) + (1 : Int32)) (1 : Int32); skip)
                have ar1552 := congrArg Int32.toInt hr1431
                have ar1553 := rng32 (r1431 - vat956)
                first | have ar1554 : (r1431 - vat956).toInt = r1431.toInt - vat956.toInt := (by have qw := c_isub r1431 vat956; omega) | (have ar1554 := c_isub r1431 vat956; skip)
                have ar1555 := congrArg Int32.toInt hv1435
                have ar1556 : (2 : Int32).toInt = 2 := by decide
                exact fun qq_ => absurd (congrArg Int32.toInt qq_) (by omega))
            have hj1558 : (vat956 + (2 : Int32)).toInt = (((k + 2) : Nat) : Int) := by
              have ar1559 := rng32 vat956
              have ar1560 : (2 : Int32).toInt = 2 := by decide
              have ar1561 := rng32 (vat956 + (2 : Int32))
              first | have ar1562 : (vat956 + (2 : Int32)).toInt = vat956.toInt + 2 := (by have qw := c_iadd vat956 (2 : Int32); omega) | (have ar1562 := c_iadd vat956 (2 : Int32); skip)
              omega
            have hv1563 : g1432 (k + 2) = ((((128 : Int32) ||| (((vcp216.toUInt32 >>> ((6 : Int32) &&& 31).toUInt32).toInt32) &&& (63 : Int32))).toInt8.toInt32).toInt8.toInt32) := by
              rw [hg1432]; simp only [own_upd]
              rw [if_neg (by omega)]
              rw [if_pos (by omega)]
            have k1564 : ∀ tg_, Steps p.tables e below (T1429.setTop (mkF m 285 #[.val (.int p0), .val (.int p1), .val (.int p2), .val (.int vcp216), .val (.int vat956), .val (.int v958), .val (.ref b959), .val (.int r1431), .val (.int v1435), .val (.int vb1505), .unset, .unset, .val (.int vb1531), .unset, .unset] [(.int (((((128 : Int32) ||| (((vcp216.toUInt32 >>> ((6 : Int32) &&& 31).toUInt32).toInt32) &&& (63 : Int32))).toInt8.toInt32).toInt8.toInt32) &&& (255 : Int32)))])) tg_ → Steps p.tables e below (s₁.setTop (entryFrame m #[(.int p0), (.int p1), (.int p2)] maxLocals)) tg_ := by
              intro tg_ kt
              refine k1532 tg_ ?_
              refine XS.iload X1429.here hx rfl (hb hby at_216) rfl ?_
              show Steps p.tables e below (T1429.setTop (mkF m 218 #[.val (.int p0), .val (.int p1), .val (.int p2), .val (.int vcp216), .val (.int vat956), .val (.int v958), .val (.ref b959), .val (.int r1431), .val (.int v1435), .val (.int vb1505), .unset, .unset, .val (.int vb1531), .unset, .unset] [(.int vb1531)])) _
              refine XS.sipush X1429.here hx rfl (hb hby at_218) ?_
              show Steps p.tables e below (T1429.setTop (mkF m 221 #[.val (.int p0), .val (.int p1), .val (.int p2), .val (.int vcp216), .val (.int vat956), .val (.int v958), .val (.ref b959), .val (.int r1431), .val (.int v1435), .val (.int vb1505), .unset, .unset, .val (.int vb1531), .unset, .unset] [(.int (192 : Int32)), (.int vb1531)])) _
              refine XS.iand X1429.here hx rfl (hb hby at_221) rfl ?_
              show Steps p.tables e below (T1429.setTop (mkF m 222 #[.val (.int p0), .val (.int p1), .val (.int p2), .val (.int vcp216), .val (.int vat956), .val (.int v958), .val (.ref b959), .val (.int r1431), .val (.int v1435), .val (.int vb1505), .unset, .unset, .val (.int vb1531), .unset, .unset] [(.int (vb1531 &&& (192 : Int32)))])) _
              refine XS.sipush X1429.here hx rfl (hb hby at_222) ?_
              show Steps p.tables e below (T1429.setTop (mkF m 225 #[.val (.int p0), .val (.int p1), .val (.int p2), .val (.int vcp216), .val (.int vat956), .val (.int v958), .val (.ref b959), .val (.int r1431), .val (.int v1435), .val (.int vb1505), .unset, .unset, .val (.int vb1531), .unset, .unset] [(.int (128 : Int32)), (.int (vb1531 &&& (192 : Int32)))])) _
              refine XS.icmpYes X1429.here hx rfl (pc0 := 225) (pc' := 230) rfl (hb hby at_225) rfl (teq hc225_1539).1 (by decide) (by decide) ?_
              show Steps p.tables e below (T1429.setTop (mkF m 230 #[.val (.int p0), .val (.int p1), .val (.int p2), .val (.int vcp216), .val (.int vat956), .val (.int v958), .val (.ref b959), .val (.int r1431), .val (.int v1435), .val (.int vb1505), .unset, .unset, .val (.int vb1531), .unset, .unset] [])) _
              refine XS.iload X1429.here hx rfl (hb hby at_230) rfl ?_
              show Steps p.tables e below (T1429.setTop (mkF m 232 #[.val (.int p0), .val (.int p1), .val (.int p2), .val (.int vcp216), .val (.int vat956), .val (.int v958), .val (.ref b959), .val (.int r1431), .val (.int v1435), .val (.int vb1505), .unset, .unset, .val (.int vb1531), .unset, .unset] [(.int v1435)])) _
              refine XS.iconst X1429.here hx rfl (hb hby at_232) ?_
              show Steps p.tables e below (T1429.setTop (mkF m 233 #[.val (.int p0), .val (.int p1), .val (.int p2), .val (.int vcp216), .val (.int vat956), .val (.int v958), .val (.ref b959), .val (.int r1431), .val (.int v1435), .val (.int vb1505), .unset, .unset, .val (.int vb1531), .unset, .unset] [(.int (2 : Int32)), (.int v1435)])) _
              refine XS.icmpYes X1429.here hx rfl (pc0 := 233) (pc' := 274) rfl (hb hby at_233) rfl (feq hc233_1557).2 (by decide) (by decide) ?_
              show Steps p.tables e below (T1429.setTop (mkF m 274 #[.val (.int p0), .val (.int p1), .val (.int p2), .val (.int vcp216), .val (.int vat956), .val (.int v958), .val (.ref b959), .val (.int r1431), .val (.int v1435), .val (.int vb1505), .unset, .unset, .val (.int vb1531), .unset, .unset] [])) _
              refine XS.aload X1429.here hx rfl (hb hby at_274) rfl rfl ?_
              show Steps p.tables e below (T1429.setTop (mkF m 276 #[.val (.int p0), .val (.int p1), .val (.int p2), .val (.int vcp216), .val (.int vat956), .val (.int v958), .val (.ref b959), .val (.int r1431), .val (.int v1435), .val (.int vb1505), .unset, .unset, .val (.int vb1531), .unset, .unset] [(.ref b959)])) _
              refine XS.iload X1429.here hx rfl (hb hby at_276) rfl ?_
              show Steps p.tables e below (T1429.setTop (mkF m 278 #[.val (.int p0), .val (.int p1), .val (.int p2), .val (.int vcp216), .val (.int vat956), .val (.int v958), .val (.ref b959), .val (.int r1431), .val (.int v1435), .val (.int vb1505), .unset, .unset, .val (.int vb1531), .unset, .unset] [(.int vat956), (.ref b959)])) _
              refine XS.iconst X1429.here hx rfl (hb hby at_278) ?_
              show Steps p.tables e below (T1429.setTop (mkF m 279 #[.val (.int p0), .val (.int p1), .val (.int p2), .val (.int vcp216), .val (.int vat956), .val (.int v958), .val (.ref b959), .val (.int r1431), .val (.int v1435), .val (.int vb1505), .unset, .unset, .val (.int vb1531), .unset, .unset] [(.int (2 : Int32)), (.int vat956), (.ref b959)])) _
              refine XS.iadd X1429.here hx rfl (hb hby at_279) rfl ?_
              show Steps p.tables e below (T1429.setTop (mkF m 280 #[.val (.int p0), .val (.int p1), .val (.int p2), .val (.int vcp216), .val (.int vat956), .val (.int v958), .val (.ref b959), .val (.int r1431), .val (.int v1435), .val (.int vb1505), .unset, .unset, .val (.int vb1531), .unset, .unset] [(.int (vat956 + (2 : Int32))), (.ref b959)])) _
              refine own_ldB X1429 hx hZ rfl oAa1429 (i := (k + 2)) hj1558 (by omega) hv1563 (g := (mkF m 280 #[.val (.int p0), .val (.int p1), .val (.int p2), .val (.int vcp216), .val (.int vat956), .val (.int v958), .val (.ref b959), .val (.int r1431), .val (.int v1435), .val (.int vb1505), .unset, .unset, .val (.int vb1531), .unset, .unset] [(.int (vat956 + (2 : Int32))), (.ref b959)])) rfl rfl (hb hby at_280) _ ?_
              show Steps p.tables e below (T1429.setTop (mkF m 281 #[.val (.int p0), .val (.int p1), .val (.int p2), .val (.int vcp216), .val (.int vat956), .val (.int v958), .val (.ref b959), .val (.int r1431), .val (.int v1435), .val (.int vb1505), .unset, .unset, .val (.int vb1531), .unset, .unset] [(.int ((((128 : Int32) ||| (((vcp216.toUInt32 >>> ((6 : Int32) &&& 31).toUInt32).toInt32) &&& (63 : Int32))).toInt8.toInt32).toInt8.toInt32))])) _
              refine XS.sipush X1429.here hx rfl (hb hby at_281) ?_
              show Steps p.tables e below (T1429.setTop (mkF m 284 #[.val (.int p0), .val (.int p1), .val (.int p2), .val (.int vcp216), .val (.int vat956), .val (.int v958), .val (.ref b959), .val (.int r1431), .val (.int v1435), .val (.int vb1505), .unset, .unset, .val (.int vb1531), .unset, .unset] [(.int (255 : Int32)), (.int ((((128 : Int32) ||| (((vcp216.toUInt32 >>> ((6 : Int32) &&& 31).toUInt32).toInt32) &&& (63 : Int32))).toInt8.toInt32).toInt8.toInt32))])) _
              refine XS.iand X1429.here hx rfl (hb hby at_284) rfl ?_
              show Steps p.tables e below (T1429.setTop (mkF m 285 #[.val (.int p0), .val (.int p1), .val (.int p2), .val (.int vcp216), .val (.int vat956), .val (.int v958), .val (.ref b959), .val (.int r1431), .val (.int v1435), .val (.int vb1505), .unset, .unset, .val (.int vb1531), .unset, .unset] [(.int (((((128 : Int32) ||| (((vcp216.toUInt32 >>> ((6 : Int32) &&& 31).toUInt32).toInt32) &&& (63 : Int32))).toInt8.toInt32).toInt8.toInt32) &&& (255 : Int32)))])) _
              exact kt
            obtain ⟨vb1565, hvb1565⟩ : ∃ z : Int32, z = (((((128 : Int32) ||| (((vcp216.toUInt32 >>> ((6 : Int32) &&& 31).toUInt32).toInt32) &&& (63 : Int32))).toInt8.toInt32).toInt8.toInt32) &&& (255 : Int32)) := ⟨_, rfl⟩
            rw [← hvb1565] at k1564
            have k1566 : ∀ tg_, Steps p.tables e below (T1429.setTop (mkF m 287 #[.val (.int p0), .val (.int p1), .val (.int p2), .val (.int vcp216), .val (.int vat956), .val (.int v958), .val (.ref b959), .val (.int r1431), .val (.int v1435), .val (.int vb1505), .unset, .unset, .val (.int vb1531), .val (.int vb1565), .unset] [])) tg_ → Steps p.tables e below (s₁.setTop (entryFrame m #[(.int p0), (.int p1), (.int p2)] maxLocals)) tg_ := by
              intro tg_ kt
              refine k1564 tg_ ?_
              refine XS.istore X1429.here hx rfl (hb hby at_285) rfl (l' := #[.val (.int p0), .val (.int p1), .val (.int p2), .val (.int vcp216), .val (.int vat956), .val (.int v958), .val (.ref b959), .val (.int r1431), .val (.int v1435), .val (.int vb1505), .unset, .unset, .val (.int vb1531), .val (.int vb1565), .unset]) rfl ?_
              show Steps p.tables e below (T1429.setTop (mkF m 287 #[.val (.int p0), .val (.int p1), .val (.int p2), .val (.int vcp216), .val (.int vat956), .val (.int v958), .val (.ref b959), .val (.int r1431), .val (.int v1435), .val (.int vb1505), .unset, .unset, .val (.int vb1531), .val (.int vb1565), .unset] [])) _
              exact kt
            have hbv_vb1565 : vb1565.toInt = 128 + vcp216.toInt / 64 % 64 := by rw [hvb1565]; exact own_e4_2 vcp216 (by omega) (by omega)
            have hc296_1573 : (vb1565 &&& (192 : Int32)) = (128 : Int32) := (by
                have ar1567 := rng32 vb1565
                have ar1568 : (192 : Int32).toInt = 192 := by decide
                first | have ar1569 := own_hi192 vb1565 (by omega) (by omega) | have ar1569 := own_hi192 vb1565
                have ar1570 := c_and vb1565 (192 : Int32) (by decide)
                have ar1571 := rng32 (vb1565 &&& (192 : Int32))
                have ar1572 : (128 : Int32).toInt = 128 := by decide
                exact Int32.toInt_inj.mp (by omega))
            have hc304_1591 : ¬ (v1435 = (3 : Int32)) := (by
                have ar1574 := rng32 v1435
                have ar1575 := rng32 r1431
                have ar1576 := rng32 vat956
                have ar1577 : (1 : Int32).toInt = 1 := by decide
                have ar1578 := rng32 (vat956 + (1 : Int32))
                first | have ar1579 : (vat956 + (1 : Int32)).toInt = vat956.toInt + 1 := (by have qw := c_iadd vat956 (1 : Int32); omega) | (have ar1579 := c_iadd vat956 (1 : Int32); skip)
                have ar1580 := rng32 ((vat956 + (1 : Int32)) + (1 : Int32))
                first | have ar1581 : ((vat956 + (1 : Int32)) + (1 : Int32)).toInt = (vat956 + (1 : Int32)).toInt + 1 := (by have qw := c_iadd (vat956 + (1 : Int32)) (1 : Int32); omega) | (have ar1581 := c_iadd (vat956 + (1 : Int32)) (1 : Int32); skip)
                have ar1582 := rng32 (((vat956 + (1 : Int32)) + (1 : Int32)) + (1 : Int32))
                first | have ar1583 : (((vat956 + (1 : Int32)) + (1 : Int32)) + (1 : Int32)).toInt = ((vat956 + (1 : Int32)) + (1 : Int32)).toInt + 1 := (by have qw := c_iadd ((vat956 + (1 : Int32)) + (1 : Int32)) (1 : Int32); omega) | (have ar1583 := c_iadd ((vat956 + (1 : Int32)) + (1 : Int32)) (1 : Int32); skip)
                have ar1584 := rng32 ((((vat956 + (1 : Int32)) + (1 : Int32)) + (1 : Int32)) + (1 : Int32))
                first | have ar1585 : ((((vat956 + (1 : Int32)) + (1 : Int32)) + (1 : Int32)) + (1 : Int32)).toInt = (((vat956 + (1 : Int32)) + (1 : Int32)) + (1 : Int32)).toInt + 1 := (by have qw := c_iadd (((vat956 + (1 : Int32)) + (1 : Int32)) + (1 : Int32)) (1 : Int32); omega) | (have ar1585 := c_iadd (((vat956 + (1 : Int32)) + (1 : Int32)) + (1 : Int32)) (1 : Int32); skip)
                have ar1586 := congrArg Int32.toInt hr1431
                have ar1587 := rng32 (r1431 - vat956)
                first | have ar1588 : (r1431 - vat956).toInt = r1431.toInt - vat956.toInt := (by have qw := c_isub r1431 vat956; omega) | (have ar1588 := c_isub r1431 vat956; skip)
                have ar1589 := congrArg Int32.toInt hv1435
                have ar1590 : (3 : Int32).toInt = 3 := by decide
                exact fun qq_ => absurd (congrArg Int32.toInt qq_) (by omega))
            have hj1592 : (vat956 + (3 : Int32)).toInt = (((k + 3) : Nat) : Int) := by
              have ar1593 := rng32 vat956
              have ar1594 : (3 : Int32).toInt = 3 := by decide
              have ar1595 := rng32 (vat956 + (3 : Int32))
              first | have ar1596 : (vat956 + (3 : Int32)).toInt = vat956.toInt + 3 := (by have qw := c_iadd vat956 (3 : Int32); omega) | (have ar1596 := c_iadd vat956 (3 : Int32); skip)
              omega
            have hv1597 : g1432 (k + 3) = ((((128 : Int32) ||| (vcp216 &&& (63 : Int32))).toInt8.toInt32).toInt8.toInt32) := by
              rw [hg1432]; simp only [own_upd]
              rw [if_pos (by omega)]
            have k1598 : ∀ tg_, Steps p.tables e below (T1429.setTop (mkF m 365 #[.val (.int p0), .val (.int p1), .val (.int p2), .val (.int vcp216), .val (.int vat956), .val (.int v958), .val (.ref b959), .val (.int r1431), .val (.int v1435), .val (.int vb1505), .unset, .unset, .val (.int vb1531), .val (.int vb1565), .unset] [(.int (((((128 : Int32) ||| (vcp216 &&& (63 : Int32))).toInt8.toInt32).toInt8.toInt32) &&& (255 : Int32)))])) tg_ → Steps p.tables e below (s₁.setTop (entryFrame m #[(.int p0), (.int p1), (.int p2)] maxLocals)) tg_ := by
              intro tg_ kt
              refine k1566 tg_ ?_
              refine XS.iload X1429.here hx rfl (hb hby at_287) rfl ?_
              show Steps p.tables e below (T1429.setTop (mkF m 289 #[.val (.int p0), .val (.int p1), .val (.int p2), .val (.int vcp216), .val (.int vat956), .val (.int v958), .val (.ref b959), .val (.int r1431), .val (.int v1435), .val (.int vb1505), .unset, .unset, .val (.int vb1531), .val (.int vb1565), .unset] [(.int vb1565)])) _
              refine XS.sipush X1429.here hx rfl (hb hby at_289) ?_
              show Steps p.tables e below (T1429.setTop (mkF m 292 #[.val (.int p0), .val (.int p1), .val (.int p2), .val (.int vcp216), .val (.int vat956), .val (.int v958), .val (.ref b959), .val (.int r1431), .val (.int v1435), .val (.int vb1505), .unset, .unset, .val (.int vb1531), .val (.int vb1565), .unset] [(.int (192 : Int32)), (.int vb1565)])) _
              refine XS.iand X1429.here hx rfl (hb hby at_292) rfl ?_
              show Steps p.tables e below (T1429.setTop (mkF m 293 #[.val (.int p0), .val (.int p1), .val (.int p2), .val (.int vcp216), .val (.int vat956), .val (.int v958), .val (.ref b959), .val (.int r1431), .val (.int v1435), .val (.int vb1505), .unset, .unset, .val (.int vb1531), .val (.int vb1565), .unset] [(.int (vb1565 &&& (192 : Int32)))])) _
              refine XS.sipush X1429.here hx rfl (hb hby at_293) ?_
              show Steps p.tables e below (T1429.setTop (mkF m 296 #[.val (.int p0), .val (.int p1), .val (.int p2), .val (.int vcp216), .val (.int vat956), .val (.int v958), .val (.ref b959), .val (.int r1431), .val (.int v1435), .val (.int vb1505), .unset, .unset, .val (.int vb1531), .val (.int vb1565), .unset] [(.int (128 : Int32)), (.int (vb1565 &&& (192 : Int32)))])) _
              refine XS.icmpYes X1429.here hx rfl (pc0 := 296) (pc' := 301) rfl (hb hby at_296) rfl (teq hc296_1573).1 (by decide) (by decide) ?_
              show Steps p.tables e below (T1429.setTop (mkF m 301 #[.val (.int p0), .val (.int p1), .val (.int p2), .val (.int vcp216), .val (.int vat956), .val (.int v958), .val (.ref b959), .val (.int r1431), .val (.int v1435), .val (.int vb1505), .unset, .unset, .val (.int vb1531), .val (.int vb1565), .unset] [])) _
              refine XS.iload X1429.here hx rfl (hb hby at_301) rfl ?_
              show Steps p.tables e below (T1429.setTop (mkF m 303 #[.val (.int p0), .val (.int p1), .val (.int p2), .val (.int vcp216), .val (.int vat956), .val (.int v958), .val (.ref b959), .val (.int r1431), .val (.int v1435), .val (.int vb1505), .unset, .unset, .val (.int vb1531), .val (.int vb1565), .unset] [(.int v1435)])) _
              refine XS.iconst X1429.here hx rfl (hb hby at_303) ?_
              show Steps p.tables e below (T1429.setTop (mkF m 304 #[.val (.int p0), .val (.int p1), .val (.int p2), .val (.int vcp216), .val (.int vat956), .val (.int v958), .val (.ref b959), .val (.int r1431), .val (.int v1435), .val (.int vb1505), .unset, .unset, .val (.int vb1531), .val (.int vb1565), .unset] [(.int (3 : Int32)), (.int v1435)])) _
              refine XS.icmpYes X1429.here hx rfl (pc0 := 304) (pc' := 354) rfl (hb hby at_304) rfl (feq hc304_1591).2 (by decide) (by decide) ?_
              show Steps p.tables e below (T1429.setTop (mkF m 354 #[.val (.int p0), .val (.int p1), .val (.int p2), .val (.int vcp216), .val (.int vat956), .val (.int v958), .val (.ref b959), .val (.int r1431), .val (.int v1435), .val (.int vb1505), .unset, .unset, .val (.int vb1531), .val (.int vb1565), .unset] [])) _
              refine XS.aload X1429.here hx rfl (hb hby at_354) rfl rfl ?_
              show Steps p.tables e below (T1429.setTop (mkF m 356 #[.val (.int p0), .val (.int p1), .val (.int p2), .val (.int vcp216), .val (.int vat956), .val (.int v958), .val (.ref b959), .val (.int r1431), .val (.int v1435), .val (.int vb1505), .unset, .unset, .val (.int vb1531), .val (.int vb1565), .unset] [(.ref b959)])) _
              refine XS.iload X1429.here hx rfl (hb hby at_356) rfl ?_
              show Steps p.tables e below (T1429.setTop (mkF m 358 #[.val (.int p0), .val (.int p1), .val (.int p2), .val (.int vcp216), .val (.int vat956), .val (.int v958), .val (.ref b959), .val (.int r1431), .val (.int v1435), .val (.int vb1505), .unset, .unset, .val (.int vb1531), .val (.int vb1565), .unset] [(.int vat956), (.ref b959)])) _
              refine XS.iconst X1429.here hx rfl (hb hby at_358) ?_
              show Steps p.tables e below (T1429.setTop (mkF m 359 #[.val (.int p0), .val (.int p1), .val (.int p2), .val (.int vcp216), .val (.int vat956), .val (.int v958), .val (.ref b959), .val (.int r1431), .val (.int v1435), .val (.int vb1505), .unset, .unset, .val (.int vb1531), .val (.int vb1565), .unset] [(.int (3 : Int32)), (.int vat956), (.ref b959)])) _
              refine XS.iadd X1429.here hx rfl (hb hby at_359) rfl ?_
              show Steps p.tables e below (T1429.setTop (mkF m 360 #[.val (.int p0), .val (.int p1), .val (.int p2), .val (.int vcp216), .val (.int vat956), .val (.int v958), .val (.ref b959), .val (.int r1431), .val (.int v1435), .val (.int vb1505), .unset, .unset, .val (.int vb1531), .val (.int vb1565), .unset] [(.int (vat956 + (3 : Int32))), (.ref b959)])) _
              refine own_ldB X1429 hx hZ rfl oAa1429 (i := (k + 3)) hj1592 (by omega) hv1597 (g := (mkF m 360 #[.val (.int p0), .val (.int p1), .val (.int p2), .val (.int vcp216), .val (.int vat956), .val (.int v958), .val (.ref b959), .val (.int r1431), .val (.int v1435), .val (.int vb1505), .unset, .unset, .val (.int vb1531), .val (.int vb1565), .unset] [(.int (vat956 + (3 : Int32))), (.ref b959)])) rfl rfl (hb hby at_360) _ ?_
              show Steps p.tables e below (T1429.setTop (mkF m 361 #[.val (.int p0), .val (.int p1), .val (.int p2), .val (.int vcp216), .val (.int vat956), .val (.int v958), .val (.ref b959), .val (.int r1431), .val (.int v1435), .val (.int vb1505), .unset, .unset, .val (.int vb1531), .val (.int vb1565), .unset] [(.int ((((128 : Int32) ||| (vcp216 &&& (63 : Int32))).toInt8.toInt32).toInt8.toInt32))])) _
              refine XS.sipush X1429.here hx rfl (hb hby at_361) ?_
              show Steps p.tables e below (T1429.setTop (mkF m 364 #[.val (.int p0), .val (.int p1), .val (.int p2), .val (.int vcp216), .val (.int vat956), .val (.int v958), .val (.ref b959), .val (.int r1431), .val (.int v1435), .val (.int vb1505), .unset, .unset, .val (.int vb1531), .val (.int vb1565), .unset] [(.int (255 : Int32)), (.int ((((128 : Int32) ||| (vcp216 &&& (63 : Int32))).toInt8.toInt32).toInt8.toInt32))])) _
              refine XS.iand X1429.here hx rfl (hb hby at_364) rfl ?_
              show Steps p.tables e below (T1429.setTop (mkF m 365 #[.val (.int p0), .val (.int p1), .val (.int p2), .val (.int vcp216), .val (.int vat956), .val (.int v958), .val (.ref b959), .val (.int r1431), .val (.int v1435), .val (.int vb1505), .unset, .unset, .val (.int vb1531), .val (.int vb1565), .unset] [(.int (((((128 : Int32) ||| (vcp216 &&& (63 : Int32))).toInt8.toInt32).toInt8.toInt32) &&& (255 : Int32)))])) _
              exact kt
            obtain ⟨vb1599, hvb1599⟩ : ∃ z : Int32, z = (((((128 : Int32) ||| (vcp216 &&& (63 : Int32))).toInt8.toInt32).toInt8.toInt32) &&& (255 : Int32)) := ⟨_, rfl⟩
            rw [← hvb1599] at k1598
            have k1600 : ∀ tg_, Steps p.tables e below (T1429.setTop (mkF m 367 #[.val (.int p0), .val (.int p1), .val (.int p2), .val (.int vcp216), .val (.int vat956), .val (.int v958), .val (.ref b959), .val (.int r1431), .val (.int v1435), .val (.int vb1505), .unset, .unset, .val (.int vb1531), .val (.int vb1565), .val (.int vb1599)] [])) tg_ → Steps p.tables e below (s₁.setTop (entryFrame m #[(.int p0), (.int p1), (.int p2)] maxLocals)) tg_ := by
              intro tg_ kt
              refine k1598 tg_ ?_
              refine XS.istore X1429.here hx rfl (hb hby at_365) rfl (l' := #[.val (.int p0), .val (.int p1), .val (.int p2), .val (.int vcp216), .val (.int vat956), .val (.int v958), .val (.ref b959), .val (.int r1431), .val (.int v1435), .val (.int vb1505), .unset, .unset, .val (.int vb1531), .val (.int vb1565), .val (.int vb1599)]) rfl ?_
              show Steps p.tables e below (T1429.setTop (mkF m 367 #[.val (.int p0), .val (.int p1), .val (.int p2), .val (.int vcp216), .val (.int vat956), .val (.int v958), .val (.ref b959), .val (.int r1431), .val (.int v1435), .val (.int vb1505), .unset, .unset, .val (.int vb1531), .val (.int vb1565), .val (.int vb1599)] [])) _
              exact kt
            have hbv_vb1599 : vb1599.toInt = 128 + vcp216.toInt % 64 := by rw [hvb1599]; exact own_e4_3 vcp216 (by omega) (by omega)
            have hc376_1607 : (vb1599 &&& (192 : Int32)) = (128 : Int32) := (by
                have ar1601 := rng32 vb1599
                have ar1602 : (192 : Int32).toInt = 192 := by decide
                first | have ar1603 := own_hi192 vb1599 (by omega) (by omega) | have ar1603 := own_hi192 vb1599
                have ar1604 := c_and vb1599 (192 : Int32) (by decide)
                have ar1605 := rng32 (vb1599 &&& (192 : Int32))
                have ar1606 : (128 : Int32).toInt = 128 := by decide
                exact Int32.toInt_inj.mp (by omega))
            have hc390_1614 : (vb1505 &&& (248 : Int32)) = (240 : Int32) := (by
                have ar1608 := rng32 vb1505
                have ar1609 : (248 : Int32).toInt = 248 := by decide
                first | have ar1610 := own_hi248 vb1505 (by omega) (by omega) | have ar1610 := own_hi248 vb1505
                have ar1611 := c_and vb1505 (248 : Int32) (by decide)
                have ar1612 := rng32 (vb1505 &&& (248 : Int32))
                have ar1613 : (240 : Int32).toInt = 240 := by decide
                exact Int32.toInt_inj.mp (by omega))
            have k1615 : ∀ tg_, Steps p.tables e below (T1429.setTop (mkF m 420 #[.val (.int p0), .val (.int p1), .val (.int p2), .val (.int vcp216), .val (.int vat956), .val (.int v958), .val (.ref b959), .val (.int r1431), .val (.int v1435), .val (.int vb1505), .unset, .unset, .val (.int vb1531), .val (.int vb1565), .val (.int vb1599)] [(.int ((vb1565 &&& (63 : Int32)) <<< ((6 : Int32) &&& 31))), (.int (((vb1505 &&& (7 : Int32)) <<< ((18 : Int32) &&& 31)) ||| ((vb1531 &&& (63 : Int32)) <<< ((12 : Int32) &&& 31))))])) tg_ → Steps p.tables e below (s₁.setTop (entryFrame m #[(.int p0), (.int p1), (.int p2)] maxLocals)) tg_ := by
              intro tg_ kt
              refine k1600 tg_ ?_
              refine XS.iload X1429.here hx rfl (hb hby at_367) rfl ?_
              show Steps p.tables e below (T1429.setTop (mkF m 369 #[.val (.int p0), .val (.int p1), .val (.int p2), .val (.int vcp216), .val (.int vat956), .val (.int v958), .val (.ref b959), .val (.int r1431), .val (.int v1435), .val (.int vb1505), .unset, .unset, .val (.int vb1531), .val (.int vb1565), .val (.int vb1599)] [(.int vb1599)])) _
              refine XS.sipush X1429.here hx rfl (hb hby at_369) ?_
              show Steps p.tables e below (T1429.setTop (mkF m 372 #[.val (.int p0), .val (.int p1), .val (.int p2), .val (.int vcp216), .val (.int vat956), .val (.int v958), .val (.ref b959), .val (.int r1431), .val (.int v1435), .val (.int vb1505), .unset, .unset, .val (.int vb1531), .val (.int vb1565), .val (.int vb1599)] [(.int (192 : Int32)), (.int vb1599)])) _
              refine XS.iand X1429.here hx rfl (hb hby at_372) rfl ?_
              show Steps p.tables e below (T1429.setTop (mkF m 373 #[.val (.int p0), .val (.int p1), .val (.int p2), .val (.int vcp216), .val (.int vat956), .val (.int v958), .val (.ref b959), .val (.int r1431), .val (.int v1435), .val (.int vb1505), .unset, .unset, .val (.int vb1531), .val (.int vb1565), .val (.int vb1599)] [(.int (vb1599 &&& (192 : Int32)))])) _
              refine XS.sipush X1429.here hx rfl (hb hby at_373) ?_
              show Steps p.tables e below (T1429.setTop (mkF m 376 #[.val (.int p0), .val (.int p1), .val (.int p2), .val (.int vcp216), .val (.int vat956), .val (.int v958), .val (.ref b959), .val (.int r1431), .val (.int v1435), .val (.int vb1505), .unset, .unset, .val (.int vb1531), .val (.int vb1565), .val (.int vb1599)] [(.int (128 : Int32)), (.int (vb1599 &&& (192 : Int32)))])) _
              refine XS.icmpYes X1429.here hx rfl (pc0 := 376) (pc' := 381) rfl (hb hby at_376) rfl (teq hc376_1607).1 (by decide) (by decide) ?_
              show Steps p.tables e below (T1429.setTop (mkF m 381 #[.val (.int p0), .val (.int p1), .val (.int p2), .val (.int vcp216), .val (.int vat956), .val (.int v958), .val (.ref b959), .val (.int r1431), .val (.int v1435), .val (.int vb1505), .unset, .unset, .val (.int vb1531), .val (.int vb1565), .val (.int vb1599)] [])) _
              refine XS.iload X1429.here hx rfl (hb hby at_381) rfl ?_
              show Steps p.tables e below (T1429.setTop (mkF m 383 #[.val (.int p0), .val (.int p1), .val (.int p2), .val (.int vcp216), .val (.int vat956), .val (.int v958), .val (.ref b959), .val (.int r1431), .val (.int v1435), .val (.int vb1505), .unset, .unset, .val (.int vb1531), .val (.int vb1565), .val (.int vb1599)] [(.int vb1505)])) _
              refine XS.sipush X1429.here hx rfl (hb hby at_383) ?_
              show Steps p.tables e below (T1429.setTop (mkF m 386 #[.val (.int p0), .val (.int p1), .val (.int p2), .val (.int vcp216), .val (.int vat956), .val (.int v958), .val (.ref b959), .val (.int r1431), .val (.int v1435), .val (.int vb1505), .unset, .unset, .val (.int vb1531), .val (.int vb1565), .val (.int vb1599)] [(.int (248 : Int32)), (.int vb1505)])) _
              refine XS.iand X1429.here hx rfl (hb hby at_386) rfl ?_
              show Steps p.tables e below (T1429.setTop (mkF m 387 #[.val (.int p0), .val (.int p1), .val (.int p2), .val (.int vcp216), .val (.int vat956), .val (.int v958), .val (.ref b959), .val (.int r1431), .val (.int v1435), .val (.int vb1505), .unset, .unset, .val (.int vb1531), .val (.int vb1565), .val (.int vb1599)] [(.int (vb1505 &&& (248 : Int32)))])) _
              refine XS.sipush X1429.here hx rfl (hb hby at_387) ?_
              show Steps p.tables e below (T1429.setTop (mkF m 390 #[.val (.int p0), .val (.int p1), .val (.int p2), .val (.int vcp216), .val (.int vat956), .val (.int v958), .val (.ref b959), .val (.int r1431), .val (.int v1435), .val (.int vb1505), .unset, .unset, .val (.int vb1531), .val (.int vb1565), .val (.int vb1599)] [(.int (240 : Int32)), (.int (vb1505 &&& (248 : Int32)))])) _
              refine XS.icmpYes X1429.here hx rfl (pc0 := 390) (pc' := 395) rfl (hb hby at_390) rfl (teq hc390_1614).1 (by decide) (by decide) ?_
              show Steps p.tables e below (T1429.setTop (mkF m 395 #[.val (.int p0), .val (.int p1), .val (.int p2), .val (.int vcp216), .val (.int vat956), .val (.int v958), .val (.ref b959), .val (.int r1431), .val (.int v1435), .val (.int vb1505), .unset, .unset, .val (.int vb1531), .val (.int vb1565), .val (.int vb1599)] [])) _
              refine XS.iload X1429.here hx rfl (hb hby at_395) rfl ?_
              show Steps p.tables e below (T1429.setTop (mkF m 397 #[.val (.int p0), .val (.int p1), .val (.int p2), .val (.int vcp216), .val (.int vat956), .val (.int v958), .val (.ref b959), .val (.int r1431), .val (.int v1435), .val (.int vb1505), .unset, .unset, .val (.int vb1531), .val (.int vb1565), .val (.int vb1599)] [(.int vb1505)])) _
              refine XS.bipush X1429.here hx rfl (hb hby at_397) ?_
              show Steps p.tables e below (T1429.setTop (mkF m 399 #[.val (.int p0), .val (.int p1), .val (.int p2), .val (.int vcp216), .val (.int vat956), .val (.int v958), .val (.ref b959), .val (.int r1431), .val (.int v1435), .val (.int vb1505), .unset, .unset, .val (.int vb1531), .val (.int vb1565), .val (.int vb1599)] [(.int (7 : Int32)), (.int vb1505)])) _
              refine XS.iand X1429.here hx rfl (hb hby at_399) rfl ?_
              show Steps p.tables e below (T1429.setTop (mkF m 400 #[.val (.int p0), .val (.int p1), .val (.int p2), .val (.int vcp216), .val (.int vat956), .val (.int v958), .val (.ref b959), .val (.int r1431), .val (.int v1435), .val (.int vb1505), .unset, .unset, .val (.int vb1531), .val (.int vb1565), .val (.int vb1599)] [(.int (vb1505 &&& (7 : Int32)))])) _
              refine XS.bipush X1429.here hx rfl (hb hby at_400) ?_
              show Steps p.tables e below (T1429.setTop (mkF m 402 #[.val (.int p0), .val (.int p1), .val (.int p2), .val (.int vcp216), .val (.int vat956), .val (.int v958), .val (.ref b959), .val (.int r1431), .val (.int v1435), .val (.int vb1505), .unset, .unset, .val (.int vb1531), .val (.int vb1565), .val (.int vb1599)] [(.int (18 : Int32)), (.int (vb1505 &&& (7 : Int32)))])) _
              refine XS.ishl X1429.here hx rfl (hb hby at_402) rfl ?_
              show Steps p.tables e below (T1429.setTop (mkF m 403 #[.val (.int p0), .val (.int p1), .val (.int p2), .val (.int vcp216), .val (.int vat956), .val (.int v958), .val (.ref b959), .val (.int r1431), .val (.int v1435), .val (.int vb1505), .unset, .unset, .val (.int vb1531), .val (.int vb1565), .val (.int vb1599)] [(.int ((vb1505 &&& (7 : Int32)) <<< ((18 : Int32) &&& 31)))])) _
              refine XS.iload X1429.here hx rfl (hb hby at_403) rfl ?_
              show Steps p.tables e below (T1429.setTop (mkF m 405 #[.val (.int p0), .val (.int p1), .val (.int p2), .val (.int vcp216), .val (.int vat956), .val (.int v958), .val (.ref b959), .val (.int r1431), .val (.int v1435), .val (.int vb1505), .unset, .unset, .val (.int vb1531), .val (.int vb1565), .val (.int vb1599)] [(.int vb1531), (.int ((vb1505 &&& (7 : Int32)) <<< ((18 : Int32) &&& 31)))])) _
              refine XS.bipush X1429.here hx rfl (hb hby at_405) ?_
              show Steps p.tables e below (T1429.setTop (mkF m 407 #[.val (.int p0), .val (.int p1), .val (.int p2), .val (.int vcp216), .val (.int vat956), .val (.int v958), .val (.ref b959), .val (.int r1431), .val (.int v1435), .val (.int vb1505), .unset, .unset, .val (.int vb1531), .val (.int vb1565), .val (.int vb1599)] [(.int (63 : Int32)), (.int vb1531), (.int ((vb1505 &&& (7 : Int32)) <<< ((18 : Int32) &&& 31)))])) _
              refine XS.iand X1429.here hx rfl (hb hby at_407) rfl ?_
              show Steps p.tables e below (T1429.setTop (mkF m 408 #[.val (.int p0), .val (.int p1), .val (.int p2), .val (.int vcp216), .val (.int vat956), .val (.int v958), .val (.ref b959), .val (.int r1431), .val (.int v1435), .val (.int vb1505), .unset, .unset, .val (.int vb1531), .val (.int vb1565), .val (.int vb1599)] [(.int (vb1531 &&& (63 : Int32))), (.int ((vb1505 &&& (7 : Int32)) <<< ((18 : Int32) &&& 31)))])) _
              refine XS.bipush X1429.here hx rfl (hb hby at_408) ?_
              show Steps p.tables e below (T1429.setTop (mkF m 410 #[.val (.int p0), .val (.int p1), .val (.int p2), .val (.int vcp216), .val (.int vat956), .val (.int v958), .val (.ref b959), .val (.int r1431), .val (.int v1435), .val (.int vb1505), .unset, .unset, .val (.int vb1531), .val (.int vb1565), .val (.int vb1599)] [(.int (12 : Int32)), (.int (vb1531 &&& (63 : Int32))), (.int ((vb1505 &&& (7 : Int32)) <<< ((18 : Int32) &&& 31)))])) _
              refine XS.ishl X1429.here hx rfl (hb hby at_410) rfl ?_
              show Steps p.tables e below (T1429.setTop (mkF m 411 #[.val (.int p0), .val (.int p1), .val (.int p2), .val (.int vcp216), .val (.int vat956), .val (.int v958), .val (.ref b959), .val (.int r1431), .val (.int v1435), .val (.int vb1505), .unset, .unset, .val (.int vb1531), .val (.int vb1565), .val (.int vb1599)] [(.int ((vb1531 &&& (63 : Int32)) <<< ((12 : Int32) &&& 31))), (.int ((vb1505 &&& (7 : Int32)) <<< ((18 : Int32) &&& 31)))])) _
              refine XS.ior X1429.here hx rfl (hb hby at_411) rfl ?_
              show Steps p.tables e below (T1429.setTop (mkF m 412 #[.val (.int p0), .val (.int p1), .val (.int p2), .val (.int vcp216), .val (.int vat956), .val (.int v958), .val (.ref b959), .val (.int r1431), .val (.int v1435), .val (.int vb1505), .unset, .unset, .val (.int vb1531), .val (.int vb1565), .val (.int vb1599)] [(.int (((vb1505 &&& (7 : Int32)) <<< ((18 : Int32) &&& 31)) ||| ((vb1531 &&& (63 : Int32)) <<< ((12 : Int32) &&& 31))))])) _
              refine XS.iload X1429.here hx rfl (hb hby at_412) rfl ?_
              show Steps p.tables e below (T1429.setTop (mkF m 414 #[.val (.int p0), .val (.int p1), .val (.int p2), .val (.int vcp216), .val (.int vat956), .val (.int v958), .val (.ref b959), .val (.int r1431), .val (.int v1435), .val (.int vb1505), .unset, .unset, .val (.int vb1531), .val (.int vb1565), .val (.int vb1599)] [(.int vb1565), (.int (((vb1505 &&& (7 : Int32)) <<< ((18 : Int32) &&& 31)) ||| ((vb1531 &&& (63 : Int32)) <<< ((12 : Int32) &&& 31))))])) _
              refine XS.bipush X1429.here hx rfl (hb hby at_414) ?_
              show Steps p.tables e below (T1429.setTop (mkF m 416 #[.val (.int p0), .val (.int p1), .val (.int p2), .val (.int vcp216), .val (.int vat956), .val (.int v958), .val (.ref b959), .val (.int r1431), .val (.int v1435), .val (.int vb1505), .unset, .unset, .val (.int vb1531), .val (.int vb1565), .val (.int vb1599)] [(.int (63 : Int32)), (.int vb1565), (.int (((vb1505 &&& (7 : Int32)) <<< ((18 : Int32) &&& 31)) ||| ((vb1531 &&& (63 : Int32)) <<< ((12 : Int32) &&& 31))))])) _
              refine XS.iand X1429.here hx rfl (hb hby at_416) rfl ?_
              show Steps p.tables e below (T1429.setTop (mkF m 417 #[.val (.int p0), .val (.int p1), .val (.int p2), .val (.int vcp216), .val (.int vat956), .val (.int v958), .val (.ref b959), .val (.int r1431), .val (.int v1435), .val (.int vb1505), .unset, .unset, .val (.int vb1531), .val (.int vb1565), .val (.int vb1599)] [(.int (vb1565 &&& (63 : Int32))), (.int (((vb1505 &&& (7 : Int32)) <<< ((18 : Int32) &&& 31)) ||| ((vb1531 &&& (63 : Int32)) <<< ((12 : Int32) &&& 31))))])) _
              refine XS.bipush X1429.here hx rfl (hb hby at_417) ?_
              show Steps p.tables e below (T1429.setTop (mkF m 419 #[.val (.int p0), .val (.int p1), .val (.int p2), .val (.int vcp216), .val (.int vat956), .val (.int v958), .val (.ref b959), .val (.int r1431), .val (.int v1435), .val (.int vb1505), .unset, .unset, .val (.int vb1531), .val (.int vb1565), .val (.int vb1599)] [(.int (6 : Int32)), (.int (vb1565 &&& (63 : Int32))), (.int (((vb1505 &&& (7 : Int32)) <<< ((18 : Int32) &&& 31)) ||| ((vb1531 &&& (63 : Int32)) <<< ((12 : Int32) &&& 31))))])) _
              refine XS.ishl X1429.here hx rfl (hb hby at_419) rfl ?_
              show Steps p.tables e below (T1429.setTop (mkF m 420 #[.val (.int p0), .val (.int p1), .val (.int p2), .val (.int vcp216), .val (.int vat956), .val (.int v958), .val (.ref b959), .val (.int r1431), .val (.int v1435), .val (.int vb1505), .unset, .unset, .val (.int vb1531), .val (.int vb1565), .val (.int vb1599)] [(.int ((vb1565 &&& (63 : Int32)) <<< ((6 : Int32) &&& 31))), (.int (((vb1505 &&& (7 : Int32)) <<< ((18 : Int32) &&& 31)) ||| ((vb1531 &&& (63 : Int32)) <<< ((12 : Int32) &&& 31))))])) _
              exact kt
            have k1616 : ∀ tg_, Steps p.tables e below (T1429.setTop (mkF m 427 #[.val (.int p0), .val (.int p1), .val (.int p2), .val (.int vcp216), .val (.int vat956), .val (.int v958), .val (.ref b959), .val (.int r1431), .val (.int v1435), .val (.int vb1505), .unset, .unset, .val (.int vb1531), .val (.int vb1565), .val (.int vb1599)] [(.int (((((vb1505 &&& (7 : Int32)) <<< ((18 : Int32) &&& 31)) ||| ((vb1531 &&& (63 : Int32)) <<< ((12 : Int32) &&& 31))) ||| ((vb1565 &&& (63 : Int32)) <<< ((6 : Int32) &&& 31))) ||| (vb1599 &&& (63 : Int32))))])) tg_ → Steps p.tables e below (s₁.setTop (entryFrame m #[(.int p0), (.int p1), (.int p2)] maxLocals)) tg_ := by
              intro tg_ kt
              refine k1615 tg_ ?_
              refine XS.ior X1429.here hx rfl (hb hby at_420) rfl ?_
              show Steps p.tables e below (T1429.setTop (mkF m 421 #[.val (.int p0), .val (.int p1), .val (.int p2), .val (.int vcp216), .val (.int vat956), .val (.int v958), .val (.ref b959), .val (.int r1431), .val (.int v1435), .val (.int vb1505), .unset, .unset, .val (.int vb1531), .val (.int vb1565), .val (.int vb1599)] [(.int ((((vb1505 &&& (7 : Int32)) <<< ((18 : Int32) &&& 31)) ||| ((vb1531 &&& (63 : Int32)) <<< ((12 : Int32) &&& 31))) ||| ((vb1565 &&& (63 : Int32)) <<< ((6 : Int32) &&& 31))))])) _
              refine XS.iload X1429.here hx rfl (hb hby at_421) rfl ?_
              show Steps p.tables e below (T1429.setTop (mkF m 423 #[.val (.int p0), .val (.int p1), .val (.int p2), .val (.int vcp216), .val (.int vat956), .val (.int v958), .val (.ref b959), .val (.int r1431), .val (.int v1435), .val (.int vb1505), .unset, .unset, .val (.int vb1531), .val (.int vb1565), .val (.int vb1599)] [(.int vb1599), (.int ((((vb1505 &&& (7 : Int32)) <<< ((18 : Int32) &&& 31)) ||| ((vb1531 &&& (63 : Int32)) <<< ((12 : Int32) &&& 31))) ||| ((vb1565 &&& (63 : Int32)) <<< ((6 : Int32) &&& 31))))])) _
              refine XS.bipush X1429.here hx rfl (hb hby at_423) ?_
              show Steps p.tables e below (T1429.setTop (mkF m 425 #[.val (.int p0), .val (.int p1), .val (.int p2), .val (.int vcp216), .val (.int vat956), .val (.int v958), .val (.ref b959), .val (.int r1431), .val (.int v1435), .val (.int vb1505), .unset, .unset, .val (.int vb1531), .val (.int vb1565), .val (.int vb1599)] [(.int (63 : Int32)), (.int vb1599), (.int ((((vb1505 &&& (7 : Int32)) <<< ((18 : Int32) &&& 31)) ||| ((vb1531 &&& (63 : Int32)) <<< ((12 : Int32) &&& 31))) ||| ((vb1565 &&& (63 : Int32)) <<< ((6 : Int32) &&& 31))))])) _
              refine XS.iand X1429.here hx rfl (hb hby at_425) rfl ?_
              show Steps p.tables e below (T1429.setTop (mkF m 426 #[.val (.int p0), .val (.int p1), .val (.int p2), .val (.int vcp216), .val (.int vat956), .val (.int v958), .val (.ref b959), .val (.int r1431), .val (.int v1435), .val (.int vb1505), .unset, .unset, .val (.int vb1531), .val (.int vb1565), .val (.int vb1599)] [(.int (vb1599 &&& (63 : Int32))), (.int ((((vb1505 &&& (7 : Int32)) <<< ((18 : Int32) &&& 31)) ||| ((vb1531 &&& (63 : Int32)) <<< ((12 : Int32) &&& 31))) ||| ((vb1565 &&& (63 : Int32)) <<< ((6 : Int32) &&& 31))))])) _
              refine XS.ior X1429.here hx rfl (hb hby at_426) rfl ?_
              show Steps p.tables e below (T1429.setTop (mkF m 427 #[.val (.int p0), .val (.int p1), .val (.int p2), .val (.int vcp216), .val (.int vat956), .val (.int v958), .val (.ref b959), .val (.int r1431), .val (.int v1435), .val (.int vb1505), .unset, .unset, .val (.int vb1531), .val (.int vb1565), .val (.int vb1599)] [(.int (((((vb1505 &&& (7 : Int32)) <<< ((18 : Int32) &&& 31)) ||| ((vb1531 &&& (63 : Int32)) <<< ((12 : Int32) &&& 31))) ||| ((vb1565 &&& (63 : Int32)) <<< ((6 : Int32) &&& 31))) ||| (vb1599 &&& (63 : Int32))))])) _
              exact kt
            obtain ⟨v1617, hv1617⟩ : ∃ z : Int32, z = (((((vb1505 &&& (7 : Int32)) <<< ((18 : Int32) &&& 31)) ||| ((vb1531 &&& (63 : Int32)) <<< ((12 : Int32) &&& 31))) ||| ((vb1565 &&& (63 : Int32)) <<< ((6 : Int32) &&& 31))) ||| (vb1599 &&& (63 : Int32))) := ⟨_, rfl⟩
            rw [← hv1617] at k1616
            have hc437_1647 : ¬ (v1617 < (65536 : Int32)) := (by
                have ar1618 := rng32 v1617
                have ar1619 := rng32 vb1505
                have ar1620 : (7 : Int32).toInt = 7 := by decide
                have ar1621 := c_mask vb1505 (7 : Int32) 3 (by decide) (by decide)
                simp only [show (2 ^ 3 : Nat) = 8 from by decide, Int.cast_ofNat_Int] at ar1621
                have ar1622 := rng32 (vb1505 &&& (7 : Int32))
                have ar1623 := rng32 ((vb1505 &&& (7 : Int32)) <<< ((18 : Int32) &&& 31))
                first | have ar1624 : ((vb1505 &&& (7 : Int32)) <<< ((18 : Int32) &&& 31)).toInt = (vb1505 &&& (7 : Int32)).toInt * 262144 := (by have qw := c_ishl (vb1505 &&& (7 : Int32)) (18 : Int32) 18 (by decide); simp only [show (2 ^ 18 : Nat) = 262144 from by decide, Int.cast_ofNat_Int] at qw; omega) | (have ar1624 := c_ishl (vb1505 &&& (7 : Int32)) (18 : Int32) 18 (by decide); simp only [show (2 ^ 18 : Nat) = 262144 from by decide, Int.cast_ofNat_Int] at ar1624)
                have ar1625 := rng32 vb1531
                have ar1626 : (63 : Int32).toInt = 63 := by decide
                have ar1627 := c_mask vb1531 (63 : Int32) 6 (by decide) (by decide)
                simp only [show (2 ^ 6 : Nat) = 64 from by decide, Int.cast_ofNat_Int] at ar1627
                have ar1628 := rng32 (vb1531 &&& (63 : Int32))
                have ar1629 := rng32 ((vb1531 &&& (63 : Int32)) <<< ((12 : Int32) &&& 31))
                first | have ar1630 : ((vb1531 &&& (63 : Int32)) <<< ((12 : Int32) &&& 31)).toInt = (vb1531 &&& (63 : Int32)).toInt * 4096 := (by have qw := c_ishl (vb1531 &&& (63 : Int32)) (12 : Int32) 12 (by decide); simp only [show (2 ^ 12 : Nat) = 4096 from by decide, Int.cast_ofNat_Int] at qw; omega) | (have ar1630 := c_ishl (vb1531 &&& (63 : Int32)) (12 : Int32) 12 (by decide); simp only [show (2 ^ 12 : Nat) = 4096 from by decide, Int.cast_ofNat_Int] at ar1630)
                have ar1631 := rng32 (((vb1505 &&& (7 : Int32)) <<< ((18 : Int32) &&& 31)) ||| ((vb1531 &&& (63 : Int32)) <<< ((12 : Int32) &&& 31)))
                first | have ar1632 : (((vb1505 &&& (7 : Int32)) <<< ((18 : Int32) &&& 31)) ||| ((vb1531 &&& (63 : Int32)) <<< ((12 : Int32) &&& 31))).toInt = ((vb1505 &&& (7 : Int32)) <<< ((18 : Int32) &&& 31)).toInt + ((vb1531 &&& (63 : Int32)) <<< ((12 : Int32) &&& 31)).toInt := (by have qw := c_or ((vb1505 &&& (7 : Int32)) <<< ((18 : Int32) &&& 31)) ((vb1531 &&& (63 : Int32)) <<< ((12 : Int32) &&& 31)) 18 (by decide) 262144 (by decide) (by omega) (by omega) (by omega); omega) | (have ar1632 := c_or ((vb1505 &&& (7 : Int32)) <<< ((18 : Int32) &&& 31)) ((vb1531 &&& (63 : Int32)) <<< ((12 : Int32) &&& 31)) 18 (by decide) 262144 (by decide) (by omega) (by omega) (by omega); skip)
                have ar1633 := rng32 vb1565
                have ar1634 := c_mask vb1565 (63 : Int32) 6 (by decide) (by decide)
                simp only [show (2 ^ 6 : Nat) = 64 from by decide, Int.cast_ofNat_Int] at ar1634
                have ar1635 := rng32 (vb1565 &&& (63 : Int32))
                have ar1636 := rng32 ((vb1565 &&& (63 : Int32)) <<< ((6 : Int32) &&& 31))
                first | have ar1637 : ((vb1565 &&& (63 : Int32)) <<< ((6 : Int32) &&& 31)).toInt = (vb1565 &&& (63 : Int32)).toInt * 64 := (by have qw := c_ishl (vb1565 &&& (63 : Int32)) (6 : Int32) 6 (by decide); simp only [show (2 ^ 6 : Nat) = 64 from by decide, Int.cast_ofNat_Int] at qw; omega) | (have ar1637 := c_ishl (vb1565 &&& (63 : Int32)) (6 : Int32) 6 (by decide); simp only [show (2 ^ 6 : Nat) = 64 from by decide, Int.cast_ofNat_Int] at ar1637)
                have ar1638 := rng32 ((((vb1505 &&& (7 : Int32)) <<< ((18 : Int32) &&& 31)) ||| ((vb1531 &&& (63 : Int32)) <<< ((12 : Int32) &&& 31))) ||| ((vb1565 &&& (63 : Int32)) <<< ((6 : Int32) &&& 31)))
                first | have ar1639 : ((((vb1505 &&& (7 : Int32)) <<< ((18 : Int32) &&& 31)) ||| ((vb1531 &&& (63 : Int32)) <<< ((12 : Int32) &&& 31))) ||| ((vb1565 &&& (63 : Int32)) <<< ((6 : Int32) &&& 31))).toInt = (((vb1505 &&& (7 : Int32)) <<< ((18 : Int32) &&& 31)) ||| ((vb1531 &&& (63 : Int32)) <<< ((12 : Int32) &&& 31))).toInt + ((vb1565 &&& (63 : Int32)) <<< ((6 : Int32) &&& 31)).toInt := (by have qw := c_or (((vb1505 &&& (7 : Int32)) <<< ((18 : Int32) &&& 31)) ||| ((vb1531 &&& (63 : Int32)) <<< ((12 : Int32) &&& 31))) ((vb1565 &&& (63 : Int32)) <<< ((6 : Int32) &&& 31)) 12 (by decide) 4096 (by decide) (by omega) (by omega) (by omega); omega) | (have ar1639 := c_or (((vb1505 &&& (7 : Int32)) <<< ((18 : Int32) &&& 31)) ||| ((vb1531 &&& (63 : Int32)) <<< ((12 : Int32) &&& 31))) ((vb1565 &&& (63 : Int32)) <<< ((6 : Int32) &&& 31)) 12 (by decide) 4096 (by decide) (by omega) (by omega) (by omega); skip)
                have ar1640 := rng32 vb1599
                have ar1641 := c_mask vb1599 (63 : Int32) 6 (by decide) (by decide)
                simp only [show (2 ^ 6 : Nat) = 64 from by decide, Int.cast_ofNat_Int] at ar1641
                have ar1642 := rng32 (vb1599 &&& (63 : Int32))
                have ar1643 := rng32 (((((vb1505 &&& (7 : Int32)) <<< ((18 : Int32) &&& 31)) ||| ((vb1531 &&& (63 : Int32)) <<< ((12 : Int32) &&& 31))) ||| ((vb1565 &&& (63 : Int32)) <<< ((6 : Int32) &&& 31))) ||| (vb1599 &&& (63 : Int32)))
                first | have ar1644 : (((((vb1505 &&& (7 : Int32)) <<< ((18 : Int32) &&& 31)) ||| ((vb1531 &&& (63 : Int32)) <<< ((12 : Int32) &&& 31))) ||| ((vb1565 &&& (63 : Int32)) <<< ((6 : Int32) &&& 31))) ||| (vb1599 &&& (63 : Int32))).toInt = ((((vb1505 &&& (7 : Int32)) <<< ((18 : Int32) &&& 31)) ||| ((vb1531 &&& (63 : Int32)) <<< ((12 : Int32) &&& 31))) ||| ((vb1565 &&& (63 : Int32)) <<< ((6 : Int32) &&& 31))).toInt + (vb1599 &&& (63 : Int32)).toInt := (by have qw := c_or ((((vb1505 &&& (7 : Int32)) <<< ((18 : Int32) &&& 31)) ||| ((vb1531 &&& (63 : Int32)) <<< ((12 : Int32) &&& 31))) ||| ((vb1565 &&& (63 : Int32)) <<< ((6 : Int32) &&& 31))) (vb1599 &&& (63 : Int32)) 6 (by decide) 64 (by decide) (by omega) (by omega) (by omega); omega) | (have ar1644 := c_or ((((vb1505 &&& (7 : Int32)) <<< ((18 : Int32) &&& 31)) ||| ((vb1531 &&& (63 : Int32)) <<< ((12 : Int32) &&& 31))) ||| ((vb1565 &&& (63 : Int32)) <<< ((6 : Int32) &&& 31))) (vb1599 &&& (63 : Int32)) 6 (by decide) 64 (by decide) (by omega) (by omega) (by omega); skip)
                have ar1645 := congrArg Int32.toInt hv1617
                have ar1646 : (65536 : Int32).toInt = 65536 := by decide
                exact fun qq_ => absurd (Int32.lt_iff_toInt_lt.mp qq_) (by omega))
            have hc443_1677 : v1617 = vcp216 := (by
                have ar1648 := rng32 v1617
                have ar1649 := rng32 vb1505
                have ar1650 : (7 : Int32).toInt = 7 := by decide
                have ar1651 := c_mask vb1505 (7 : Int32) 3 (by decide) (by decide)
                simp only [show (2 ^ 3 : Nat) = 8 from by decide, Int.cast_ofNat_Int] at ar1651
                have ar1652 := rng32 (vb1505 &&& (7 : Int32))
                have ar1653 := rng32 ((vb1505 &&& (7 : Int32)) <<< ((18 : Int32) &&& 31))
                first | have ar1654 : ((vb1505 &&& (7 : Int32)) <<< ((18 : Int32) &&& 31)).toInt = (vb1505 &&& (7 : Int32)).toInt * 262144 := (by have qw := c_ishl (vb1505 &&& (7 : Int32)) (18 : Int32) 18 (by decide); simp only [show (2 ^ 18 : Nat) = 262144 from by decide, Int.cast_ofNat_Int] at qw; omega) | (have ar1654 := c_ishl (vb1505 &&& (7 : Int32)) (18 : Int32) 18 (by decide); simp only [show (2 ^ 18 : Nat) = 262144 from by decide, Int.cast_ofNat_Int] at ar1654)
                have ar1655 := rng32 vb1531
                have ar1656 : (63 : Int32).toInt = 63 := by decide
                have ar1657 := c_mask vb1531 (63 : Int32) 6 (by decide) (by decide)
                simp only [show (2 ^ 6 : Nat) = 64 from by decide, Int.cast_ofNat_Int] at ar1657
                have ar1658 := rng32 (vb1531 &&& (63 : Int32))
                have ar1659 := rng32 ((vb1531 &&& (63 : Int32)) <<< ((12 : Int32) &&& 31))
                first | have ar1660 : ((vb1531 &&& (63 : Int32)) <<< ((12 : Int32) &&& 31)).toInt = (vb1531 &&& (63 : Int32)).toInt * 4096 := (by have qw := c_ishl (vb1531 &&& (63 : Int32)) (12 : Int32) 12 (by decide); simp only [show (2 ^ 12 : Nat) = 4096 from by decide, Int.cast_ofNat_Int] at qw; omega) | (have ar1660 := c_ishl (vb1531 &&& (63 : Int32)) (12 : Int32) 12 (by decide); simp only [show (2 ^ 12 : Nat) = 4096 from by decide, Int.cast_ofNat_Int] at ar1660)
                have ar1661 := rng32 (((vb1505 &&& (7 : Int32)) <<< ((18 : Int32) &&& 31)) ||| ((vb1531 &&& (63 : Int32)) <<< ((12 : Int32) &&& 31)))
                first | have ar1662 : (((vb1505 &&& (7 : Int32)) <<< ((18 : Int32) &&& 31)) ||| ((vb1531 &&& (63 : Int32)) <<< ((12 : Int32) &&& 31))).toInt = ((vb1505 &&& (7 : Int32)) <<< ((18 : Int32) &&& 31)).toInt + ((vb1531 &&& (63 : Int32)) <<< ((12 : Int32) &&& 31)).toInt := (by have qw := c_or ((vb1505 &&& (7 : Int32)) <<< ((18 : Int32) &&& 31)) ((vb1531 &&& (63 : Int32)) <<< ((12 : Int32) &&& 31)) 18 (by decide) 262144 (by decide) (by omega) (by omega) (by omega); omega) | (have ar1662 := c_or ((vb1505 &&& (7 : Int32)) <<< ((18 : Int32) &&& 31)) ((vb1531 &&& (63 : Int32)) <<< ((12 : Int32) &&& 31)) 18 (by decide) 262144 (by decide) (by omega) (by omega) (by omega); skip)
                have ar1663 := rng32 vb1565
                have ar1664 := c_mask vb1565 (63 : Int32) 6 (by decide) (by decide)
                simp only [show (2 ^ 6 : Nat) = 64 from by decide, Int.cast_ofNat_Int] at ar1664
                have ar1665 := rng32 (vb1565 &&& (63 : Int32))
                have ar1666 := rng32 ((vb1565 &&& (63 : Int32)) <<< ((6 : Int32) &&& 31))
                first | have ar1667 : ((vb1565 &&& (63 : Int32)) <<< ((6 : Int32) &&& 31)).toInt = (vb1565 &&& (63 : Int32)).toInt * 64 := (by have qw := c_ishl (vb1565 &&& (63 : Int32)) (6 : Int32) 6 (by decide); simp only [show (2 ^ 6 : Nat) = 64 from by decide, Int.cast_ofNat_Int] at qw; omega) | (have ar1667 := c_ishl (vb1565 &&& (63 : Int32)) (6 : Int32) 6 (by decide); simp only [show (2 ^ 6 : Nat) = 64 from by decide, Int.cast_ofNat_Int] at ar1667)
                have ar1668 := rng32 ((((vb1505 &&& (7 : Int32)) <<< ((18 : Int32) &&& 31)) ||| ((vb1531 &&& (63 : Int32)) <<< ((12 : Int32) &&& 31))) ||| ((vb1565 &&& (63 : Int32)) <<< ((6 : Int32) &&& 31)))
                first | have ar1669 : ((((vb1505 &&& (7 : Int32)) <<< ((18 : Int32) &&& 31)) ||| ((vb1531 &&& (63 : Int32)) <<< ((12 : Int32) &&& 31))) ||| ((vb1565 &&& (63 : Int32)) <<< ((6 : Int32) &&& 31))).toInt = (((vb1505 &&& (7 : Int32)) <<< ((18 : Int32) &&& 31)) ||| ((vb1531 &&& (63 : Int32)) <<< ((12 : Int32) &&& 31))).toInt + ((vb1565 &&& (63 : Int32)) <<< ((6 : Int32) &&& 31)).toInt := (by have qw := c_or (((vb1505 &&& (7 : Int32)) <<< ((18 : Int32) &&& 31)) ||| ((vb1531 &&& (63 : Int32)) <<< ((12 : Int32) &&& 31))) ((vb1565 &&& (63 : Int32)) <<< ((6 : Int32) &&& 31)) 12 (by decide) 4096 (by decide) (by omega) (by omega) (by omega); omega) | (have ar1669 := c_or (((vb1505 &&& (7 : Int32)) <<< ((18 : Int32) &&& 31)) ||| ((vb1531 &&& (63 : Int32)) <<< ((12 : Int32) &&& 31))) ((vb1565 &&& (63 : Int32)) <<< ((6 : Int32) &&& 31)) 12 (by decide) 4096 (by decide) (by omega) (by omega) (by omega); skip)
                have ar1670 := rng32 vb1599
                have ar1671 := c_mask vb1599 (63 : Int32) 6 (by decide) (by decide)
                simp only [show (2 ^ 6 : Nat) = 64 from by decide, Int.cast_ofNat_Int] at ar1671
                have ar1672 := rng32 (vb1599 &&& (63 : Int32))
                have ar1673 := rng32 (((((vb1505 &&& (7 : Int32)) <<< ((18 : Int32) &&& 31)) ||| ((vb1531 &&& (63 : Int32)) <<< ((12 : Int32) &&& 31))) ||| ((vb1565 &&& (63 : Int32)) <<< ((6 : Int32) &&& 31))) ||| (vb1599 &&& (63 : Int32)))
                first | have ar1674 : (((((vb1505 &&& (7 : Int32)) <<< ((18 : Int32) &&& 31)) ||| ((vb1531 &&& (63 : Int32)) <<< ((12 : Int32) &&& 31))) ||| ((vb1565 &&& (63 : Int32)) <<< ((6 : Int32) &&& 31))) ||| (vb1599 &&& (63 : Int32))).toInt = ((((vb1505 &&& (7 : Int32)) <<< ((18 : Int32) &&& 31)) ||| ((vb1531 &&& (63 : Int32)) <<< ((12 : Int32) &&& 31))) ||| ((vb1565 &&& (63 : Int32)) <<< ((6 : Int32) &&& 31))).toInt + (vb1599 &&& (63 : Int32)).toInt := (by have qw := c_or ((((vb1505 &&& (7 : Int32)) <<< ((18 : Int32) &&& 31)) ||| ((vb1531 &&& (63 : Int32)) <<< ((12 : Int32) &&& 31))) ||| ((vb1565 &&& (63 : Int32)) <<< ((6 : Int32) &&& 31))) (vb1599 &&& (63 : Int32)) 6 (by decide) 64 (by decide) (by omega) (by omega) (by omega); omega) | (have ar1674 := c_or ((((vb1505 &&& (7 : Int32)) <<< ((18 : Int32) &&& 31)) ||| ((vb1531 &&& (63 : Int32)) <<< ((12 : Int32) &&& 31))) ||| ((vb1565 &&& (63 : Int32)) <<< ((6 : Int32) &&& 31))) (vb1599 &&& (63 : Int32)) 6 (by decide) 64 (by decide) (by omega) (by omega) (by omega); skip)
                have ar1675 := congrArg Int32.toInt hv1617
                have ar1676 := rng32 vcp216
                exact Int32.toInt_inj.mp (by omega))
            have k1678 : ∀ tg_, Steps p.tables e below (T1429.setTop (mkF m 451 #[.val (.int p0), .val (.int p1), .val (.int p2), .val (.int vcp216), .val (.int vat956), .val (.int v958), .val (.ref b959), .val (.int r1431), .val (.int v1435), .val (.int vb1505), .val (.int v1617), .val (.int (65536 : Int32)), .val (.int vb1531), .val (.int vb1565), .val (.int vb1599)] [(.int (1 : Int32))])) tg_ → Steps p.tables e below (s₁.setTop (entryFrame m #[(.int p0), (.int p1), (.int p2)] maxLocals)) tg_ := by
              intro tg_ kt
              refine k1616 tg_ ?_
              refine XS.istore X1429.here hx rfl (hb hby at_427) rfl (l' := #[.val (.int p0), .val (.int p1), .val (.int p2), .val (.int vcp216), .val (.int vat956), .val (.int v958), .val (.ref b959), .val (.int r1431), .val (.int v1435), .val (.int vb1505), .val (.int v1617), .unset, .val (.int vb1531), .val (.int vb1565), .val (.int vb1599)]) rfl ?_
              show Steps p.tables e below (T1429.setTop (mkF m 429 #[.val (.int p0), .val (.int p1), .val (.int p2), .val (.int vcp216), .val (.int vat956), .val (.int v958), .val (.ref b959), .val (.int r1431), .val (.int v1435), .val (.int vb1505), .val (.int v1617), .unset, .val (.int vb1531), .val (.int vb1565), .val (.int vb1599)] [])) _
              refine X1429.ldcInt hx hown (mvT hZ (hw _ (List.mem_of_getElem? (i := 10) rfl))) (g := (mkF m 429 #[.val (.int p0), .val (.int p1), .val (.int p2), .val (.int vcp216), .val (.int vat956), .val (.int v958), .val (.ref b959), .val (.int r1431), .val (.int v1435), .val (.int vb1505), .val (.int v1617), .unset, .val (.int vb1531), .val (.int vb1565), .val (.int vb1599)] [])) rfl (hb hby at_429) _ ?_
              show Steps p.tables e below (T1429.setTop (mkF m 431 #[.val (.int p0), .val (.int p1), .val (.int p2), .val (.int vcp216), .val (.int vat956), .val (.int v958), .val (.ref b959), .val (.int r1431), .val (.int v1435), .val (.int vb1505), .val (.int v1617), .unset, .val (.int vb1531), .val (.int vb1565), .val (.int vb1599)] [(.int (65536 : Int32))])) _
              refine XS.istore X1429.here hx rfl (hb hby at_431) rfl (l' := #[.val (.int p0), .val (.int p1), .val (.int p2), .val (.int vcp216), .val (.int vat956), .val (.int v958), .val (.ref b959), .val (.int r1431), .val (.int v1435), .val (.int vb1505), .val (.int v1617), .val (.int (65536 : Int32)), .val (.int vb1531), .val (.int vb1565), .val (.int vb1599)]) rfl ?_
              show Steps p.tables e below (T1429.setTop (mkF m 433 #[.val (.int p0), .val (.int p1), .val (.int p2), .val (.int vcp216), .val (.int vat956), .val (.int v958), .val (.ref b959), .val (.int r1431), .val (.int v1435), .val (.int vb1505), .val (.int v1617), .val (.int (65536 : Int32)), .val (.int vb1531), .val (.int vb1565), .val (.int vb1599)] [])) _
              refine XS.iload X1429.here hx rfl (hb hby at_433) rfl ?_
              show Steps p.tables e below (T1429.setTop (mkF m 435 #[.val (.int p0), .val (.int p1), .val (.int p2), .val (.int vcp216), .val (.int vat956), .val (.int v958), .val (.ref b959), .val (.int r1431), .val (.int v1435), .val (.int vb1505), .val (.int v1617), .val (.int (65536 : Int32)), .val (.int vb1531), .val (.int vb1565), .val (.int vb1599)] [(.int v1617)])) _
              refine XS.iload X1429.here hx rfl (hb hby at_435) rfl ?_
              show Steps p.tables e below (T1429.setTop (mkF m 437 #[.val (.int p0), .val (.int p1), .val (.int p2), .val (.int vcp216), .val (.int vat956), .val (.int v958), .val (.ref b959), .val (.int r1431), .val (.int v1435), .val (.int vb1505), .val (.int v1617), .val (.int (65536 : Int32)), .val (.int vb1531), .val (.int vb1565), .val (.int vb1599)] [(.int (65536 : Int32)), (.int v1617)])) _
              refine XS.icmpNo X1429.here hx rfl (hb hby at_437) rfl (flt hc437_1647).1 ?_
              show Steps p.tables e below (T1429.setTop (mkF m 440 #[.val (.int p0), .val (.int p1), .val (.int p2), .val (.int vcp216), .val (.int vat956), .val (.int v958), .val (.ref b959), .val (.int r1431), .val (.int v1435), .val (.int vb1505), .val (.int v1617), .val (.int (65536 : Int32)), .val (.int vb1531), .val (.int vb1565), .val (.int vb1599)] [])) _
              refine XS.iload X1429.here hx rfl (hb hby at_440) rfl ?_
              show Steps p.tables e below (T1429.setTop (mkF m 442 #[.val (.int p0), .val (.int p1), .val (.int p2), .val (.int vcp216), .val (.int vat956), .val (.int v958), .val (.ref b959), .val (.int r1431), .val (.int v1435), .val (.int vb1505), .val (.int v1617), .val (.int (65536 : Int32)), .val (.int vb1531), .val (.int vb1565), .val (.int vb1599)] [(.int v1617)])) _
              refine XS.iloadN X1429.here hx rfl (hb hby at_442) rfl ?_
              show Steps p.tables e below (T1429.setTop (mkF m 443 #[.val (.int p0), .val (.int p1), .val (.int p2), .val (.int vcp216), .val (.int vat956), .val (.int v958), .val (.ref b959), .val (.int r1431), .val (.int v1435), .val (.int vb1505), .val (.int v1617), .val (.int (65536 : Int32)), .val (.int vb1531), .val (.int vb1565), .val (.int vb1599)] [(.int vcp216), (.int v1617)])) _
              refine XS.icmpNo X1429.here hx rfl (hb hby at_443) rfl (teq hc443_1677).2 ?_
              show Steps p.tables e below (T1429.setTop (mkF m 446 #[.val (.int p0), .val (.int p1), .val (.int p2), .val (.int vcp216), .val (.int vat956), .val (.int v958), .val (.ref b959), .val (.int r1431), .val (.int v1435), .val (.int vb1505), .val (.int v1617), .val (.int (65536 : Int32)), .val (.int vb1531), .val (.int vb1565), .val (.int vb1599)] [])) _
              refine XS.iconst X1429.here hx rfl (hb hby at_446) ?_
              show Steps p.tables e below (T1429.setTop (mkF m 447 #[.val (.int p0), .val (.int p1), .val (.int p2), .val (.int vcp216), .val (.int vat956), .val (.int v958), .val (.ref b959), .val (.int r1431), .val (.int v1435), .val (.int vb1505), .val (.int v1617), .val (.int (65536 : Int32)), .val (.int vb1531), .val (.int vb1565), .val (.int vb1599)] [(.int (1 : Int32))])) _
              refine XS.goto X1429.here hx rfl (pc0 := 447) (pc' := 451) rfl (hb hby at_447) (by decide) (by decide) ?_
              show Steps p.tables e below (T1429.setTop (mkF m 451 #[.val (.int p0), .val (.int p1), .val (.int p2), .val (.int vcp216), .val (.int vat956), .val (.int v958), .val (.ref b959), .val (.int r1431), .val (.int v1435), .val (.int vb1505), .val (.int v1617), .val (.int (65536 : Int32)), .val (.int vb1531), .val (.int vb1565), .val (.int vb1599)] [(.int (1 : Int32))])) _
              exact kt
            obtain ⟨fs, hr, hrun, hended, hW, hsame⟩ := X1429.leave (v := some (.int (1 : Int32))) (fun h => by rw [Bd.returns] at h; cases h)
            refine ⟨_, _, k1678 _ (retN X1429 hx (t := .boolean) Bd.returns (by simp) (hb hby at_451) hr), hrun, hended, _, _, rfl, ?_, ⟨_, rfl⟩, hW, hsame.mono (by decide) (by decide)⟩
            show Q0 Z p0 p1 p2 h0 n0 _ T1429.heap _
            exact ⟨rfl, N1429⟩
    · have k1679 : ∀ tg_, Steps p.tables e below (s₁.setTop (mkF m 21 #[.val (.int p0), .val (.int p1), .val (.int p2), .val (.int vcp216), .unset, .unset, .unset, .unset, .unset, .unset, .unset, .unset, .unset, .unset, .unset] [(.int (1 : Int32))])) tg_ → Steps p.tables e below (s₁.setTop (entryFrame m #[(.int p0), (.int p1), (.int p2)] maxLocals)) tg_ := by
        intro tg_ kt
        refine k953 tg_ ?_
        refine XS.icmpNo X0.here hx rfl (hb hby at_17) rfl (flt hc17_954).2.2.1 ?_
        show Steps p.tables e below (s₁.setTop (mkF m 20 #[.val (.int p0), .val (.int p1), .val (.int p2), .val (.int vcp216), .unset, .unset, .unset, .unset, .unset, .unset, .unset, .unset, .unset, .unset, .unset] [])) _
        refine XS.iconst X0.here hx rfl (hb hby at_20) ?_
        show Steps p.tables e below (s₁.setTop (mkF m 21 #[.val (.int p0), .val (.int p1), .val (.int p2), .val (.int vcp216), .unset, .unset, .unset, .unset, .unset, .unset, .unset, .unset, .unset, .unset, .unset] [(.int (1 : Int32))])) _
        exact kt
      obtain ⟨fs, hr, hrun, hended, hW, hsame⟩ := X0.leave (v := some (.int (1 : Int32))) (fun h => by rw [Bd.returns] at h; cases h)
      refine ⟨_, _, k1679 _ (retN X0 hx (t := .boolean) Bd.returns (by simp) (hb hby at_21) hr), hrun, hended, _, _, rfl, ?_, ⟨_, rfl⟩, hW, hsame.mono (by decide) (by decide)⟩
      show Q0 Z p0 p1 p2 h0 n0 _ s₁.heap _
      rw [e0]
      exact ⟨rfl, N0⟩
set_option maxRecDepth 65536 in
set_option maxHeartbeats 40000000 in
theorem comes_1 {Post : Tables → Env → Array Value → State → Outcome → State → Prop} (hpost : ∀ tb e args s v u, (limb_1_1.after args s (.returned v) u = true ∧ limb_1_2.after args s (.returned v) u = true ∧ True) → FrameEnd s (.returned v) u (Jvm.fieldLocs frame_1_writes args s ++ Jvm.arrayLocs frame_1_arrays args s ++ Jvm.staticLocs frame_1_statics s) 16 128 → Post tb e args s (.returned v) u) :
    ArmFor flags0 classFile x code maxLocals ret World_1 tables_1 room_1 Calls_1 rest_1 Pre_1 Post := by
  intro l hfl _ _ p e ha hc hk s m args below hf hA hF happ hP
  obtain ⟨hcalls, hrest, hpre⟩ := hP
  obtain ⟨-, -, -, hnamed, -, -, -, hat⟩ := (Spec.applies_iff hf).mp happ
  obtain ⟨hg, hn⟩ := and_e (Cond.before_iff.mp (show (Jvm.Cond.and given_1 narrow_1).before args s = true from hpre))
  have hcount := (and_e hg).1
  have hgs0 := (and_e hg).2
  have hi0 := (and_e hgs0).1
  have hgs1 := (and_e hgs0).2
  have hi1 := (and_e hgs1).1
  have hgs2 := (and_e hgs1).2
  have hi2 := hgs2
  obtain ⟨w0, w1, w2, rfl⟩ : ∃ w0 w1 w2 : Value, args = #[w0, w1, w2] := by
    have hs : args.size = 3 := by simpa [Cond.value, given_1] using hcount
    obtain ⟨L⟩ := args
    match L, hs with
    | [w0, w1, w2], _ => exact ⟨w0, w1, w2, rfl⟩
  have hw := fun d (hd : d ∈ tables_1) => atoms_spec (ws := Jvm.Cond.code x code maxLocals ret :: tables_1) hat d (List.mem_cons_of_mem _ hd)
  have hfit : Fit s := fun {y c} hc i hi => by
    obtain ⟨ha, rfl⟩ := Array.getElem?_eq_some_iff.mp hc
    have q := List.all_eq_true.mp ((Array.all_eq_true_iff_forall_mem.mp hF) _ (Array.getElem_mem ha)) i (List.mem_range.mpr hi)
    simpa [Array.getElem?_eq_getElem hi] using q
  obtain ⟨i0, ei0⟩ := is_v hi0
  obtain rfl : w0 = (.int i0) := Option.some.inj ei0
  obtain ⟨i1, ei1⟩ := is_v hi1
  obtain rfl : w1 = (.int i1) := Option.some.inj ei1
  obtain ⟨i2, ei2⟩ := is_v hi2
  obtain rfl : w2 = (.int i2) := Option.some.inj ei2
  obtain ⟨n, o, h1, h2, h3, _, L, rfl, ⟨rfl, N⟩, hq⟩ := rm0 l s _ hw tables_1 i0 i1 i2 s.heap s.heap.size (Nat.le_refl _)  p e ha hc hk s m _ below hf ((Spec.applies_iff_loose hf).mp happ).1 ⟨rfl, State.Warmed39.refl s, rfl⟩ trivial
  refine ⟨n, _, h1, h2, h3, hpost _ _ _ _ _ _ ⟨Cond.after_iff.mpr rfl, Cond.after_iff.mpr (eq_i res_at (Term.int_eval (1)) rfl), trivial⟩ ⟨hq.1, hq.2.1, (hq.2.2.sift fun y hy => Or.inr (N y hy)).mono (by decide) (by decide)⟩⟩
theorem main_1_1 : Claimed_1_1 := comes_1 fun _ _ _ _ _ _ h hF => ⟨h.1, hF⟩
theorem main_1_2 : Claimed_1_2 := comes_1 fun _ _ _ _ _ _ h hF => ⟨h.2.1, hF⟩
end Jvm.Pilot.@@N@@
namespace Jvm.Pilot.@@N@@
open Jvm Jvm.ClassFile Sem Op Lib Jvm.Free Jvm.Stand Jvm.Pilot.@@N@@.Jvm.D
/-! MADE BY PROGRAM (witnessworld.py) out of the Statement's table words and the real class files: 9 classes; the members and pool entries that the words name. The judged class is class 1, her method 1. -/
namespace start1
open Jvm.ClassFile
def u (s : String) : CpInfo := .utf8 (stringToUtf16 s)
/-- a pool by its gaps: so many unusable entries, then the entry; so many at the end -/
def gap : Nat → List CpInfo → List CpInfo
  | 0, r => r
  | n + 1, r => .unusable :: gap n r
def poolList (es : List (Nat × CpInfo)) (last : Nat) : List CpInfo := es.foldr (fun e r => gap e.1 (e.2 :: r)) (gap last [])
def pool (es : List (Nat × CpInfo)) (last : Nat) : Array CpInfo := ⟨poolList es last⟩
def fileOf (pool : Array CpInfo) (this : Nat) (attrs : Array Attribute := #[]) (ms : Array MethodInfo := #[]) (fl : Nat := 33) (sup : Nat := 0) (ifs : Array Nat := #[]) (fds : Array FieldInfo := #[]) : ClassFile where
  minorVersion := 0
  majorVersion := 65
  constantPool := pool
  accessFlags := fl
  thisClass := this
  superClass := sup
  interfaces := ifs
  fields := fds
  methods := ms
  attributes := attrs
def plain (name : String) (sup : Option ClassId) : Class where
  name := name
  kind := .ordinary
  loader := none
  accessFlags := 33
  super := sup
  interfaces := #[]
  cf := none
  fields := #[]
  methods := #[]
  instanceTypes := #[]
  staticTypes := #[]
  resolved := #[]
  callSites := []
  init := .initialized
  statics := none
  mirror := none

def pool0 : Array CpInfo := pool [(5, u "<init>"), (0, u "()V"), (1, .class_ 10), (1, u "java/lang/Object")] 113

def k0m0 : Method := { name := "<init>", desc := "()V", sig := { parameters := [], returnType := none }, accessFlags := 1, code := none }
/-- java/lang/Object -/
def k0 : Class := { plain "java/lang/Object" none with
  accessFlags := 33
  interfaces := #[]
  cf := some (fileOf pool0 8 #[] #[{ accessFlags := 1, nameIndex := 5, descriptorIndex := 6, attributes := #[] }] 33 0 #[] #[])
  fields := #[]
  methods := #[k0m0]
  instanceTypes := #[]
  staticTypes := #[]
  resolved := Array.replicate 124 none
  statics := none }

def pool1 : Array CpInfo := pool [(2, .class_ 4), (1, u "java/lang/Object"), (0, u "<init>"), (0, u "()V"), (0, .integer 2147483647), (0, .integer 1114112), (0, .integer 55296), (0, .integer 57343), (0, .methodref 12 13), (0, .class_ 14), (0, .nameAndType 15 16), (0, u "com/example/benzer/benzer/FeatureHash"), (0, u "encode"), (0, u "(I[BI)I"), (0, .integer 65536), (0, .class_ 19), (0, u "com/example/benzer/benzer/FeatureHashEncodePinLaw"), (2, u "law"), (0, u "(III)Z")] 5

def k1m0 : Method := { name := "<init>", desc := "()V", sig := { parameters := [], returnType := none }, accessFlags := 1, code := none }
def k1c1 : Code := { maxStack := 4, maxLocals := 15, code := code, exceptionTable := #[], attributes := #[] }
def k1m1 : Method := { name := "law", desc := "(III)Z", sig := { parameters := [.int, .int, .int], returnType := some .boolean }, accessFlags := 9, code := some k1c1 }
/-- com/example/benzer/benzer/FeatureHashEncodePinLaw -/
def k1 : Class := { plain "com/example/benzer/benzer/FeatureHashEncodePinLaw" (some 0) with
  accessFlags := 49
  interfaces := #[]
  cf := some (fileOf pool1 18 #[] #[{ accessFlags := 1, nameIndex := 5, descriptorIndex := 6, attributes := #[] }, { accessFlags := 9, nameIndex := 22, descriptorIndex := 23, attributes := #[] }] 49 2 #[] #[])
  fields := #[]
  methods := #[k1m0, k1m1]
  instanceTypes := #[]
  staticTypes := #[]
  resolved := Array.replicate 29 none
  statics := none }

def pool2 : Array CpInfo := pool [(2, .class_ 4), (1, u "java/lang/Object"), (0, u "<init>"), (0, u "()V"), (1, .class_ 10), (1, u "com/example/benzer/benzer/FeatureHash"), (0, u "utf8"), (0, u "[B"), (4, u "words"), (0, u "[I"), (41, u "encode"), (0, u "(I[BI)I"), (10, u "stateA"), (0, u "I"), (3, u "stateB"), (3, u "stateC"), (3, u "stateD"), (101, .integer 65536), (0, u "UTF8_MOST"), (2, u "BLOCK"), (1, u "LENGTH_WORD")] 22

def k2m0 : Method := { name := "<init>", desc := "()V", sig := { parameters := [], returnType := none }, accessFlags := 0, code := none }
def k2c1 : Code := { maxStack := 5, maxLocals := 4, code := prog_1_method_10_code, exceptionTable := #[], attributes := #[] }
def k2m1 : Method := { name := "encode", desc := "(I[BI)I", sig := { parameters := [.int, (.array .byte), .int], returnType := some .int }, accessFlags := 8, code := some k2c1 }
/-- com/example/benzer/benzer/FeatureHash -/
def k2 : Class := { plain "com/example/benzer/benzer/FeatureHash" (some 0) with
  accessFlags := 48
  interfaces := #[]
  cf := some (fileOf pool2 8 #[] #[{ accessFlags := 0, nameIndex := 5, descriptorIndex := 6, attributes := #[] }, { accessFlags := 8, nameIndex := 60, descriptorIndex := 61, attributes := #[] }] 48 2 #[] #[{ accessFlags := 24, nameIndex := 188, descriptorIndex := 73, attributes := #[] }, { accessFlags := 26, nameIndex := 191, descriptorIndex := 73, attributes := #[] }, { accessFlags := 26, nameIndex := 193, descriptorIndex := 73, attributes := #[] }, { accessFlags := 2, nameIndex := 11, descriptorIndex := 12, attributes := #[] }, { accessFlags := 18, nameIndex := 17, descriptorIndex := 18, attributes := #[] }, { accessFlags := 2, nameIndex := 72, descriptorIndex := 73, attributes := #[] }, { accessFlags := 2, nameIndex := 77, descriptorIndex := 73, attributes := #[] }, { accessFlags := 2, nameIndex := 81, descriptorIndex := 73, attributes := #[] }, { accessFlags := 2, nameIndex := 85, descriptorIndex := 73, attributes := #[] }])
  fields := #[{ name := "UTF8_MOST", type := .int, accessFlags := 24, slot := 0, constantValue := 0 }, { name := "BLOCK", type := .int, accessFlags := 26, slot := 1, constantValue := 0 }, { name := "LENGTH_WORD", type := .int, accessFlags := 26, slot := 2, constantValue := 0 }, { name := "utf8", type := (.array .byte), accessFlags := 2, slot := 0, constantValue := 0 }, { name := "words", type := (.array .int), accessFlags := 18, slot := 1, constantValue := 0 }, { name := "stateA", type := .int, accessFlags := 2, slot := 2, constantValue := 0 }, { name := "stateB", type := .int, accessFlags := 2, slot := 3, constantValue := 0 }, { name := "stateC", type := .int, accessFlags := 2, slot := 4, constantValue := 0 }, { name := "stateD", type := .int, accessFlags := 2, slot := 5, constantValue := 0 }]
  methods := #[k2m0, k2m1]
  instanceTypes := #[(.array .byte), (.array .int), .int, .int, .int, .int]
  staticTypes := #[.int, .int, .int]
  resolved := Array.replicate 216 none
  statics := none }

def pool3 : Array CpInfo := pool [(1, u "java/lang/Cloneable"), (0, .class_ 1), (0, u "java/lang/Object"), (0, .class_ 3)] 3

/-- java/lang/Cloneable -/
def k3 : Class := { plain "java/lang/Cloneable" (some 0) with
  accessFlags := 1537
  interfaces := #[]
  cf := some (fileOf pool3 2 #[] #[] 1537 4 #[] #[])
  fields := #[]
  methods := #[]
  instanceTypes := #[]
  staticTypes := #[]
  resolved := Array.replicate 8 none
  statics := none }

def pool4 : Array CpInfo := pool [(1, u "java/io/Serializable"), (0, .class_ 1), (0, u "java/lang/Object"), (0, .class_ 3)] 3

/-- java/io/Serializable -/
def k4 : Class := { plain "java/io/Serializable" (some 0) with
  accessFlags := 1537
  interfaces := #[]
  cf := some (fileOf pool4 2 #[] #[] 1537 4 #[] #[])
  fields := #[]
  methods := #[]
  instanceTypes := #[]
  staticTypes := #[]
  resolved := Array.replicate 8 none
  statics := none }

/-- the primitive byte -/
def k5 : Class := { plain "byte" none with kind := .primitive 'B', accessFlags := 0x411 }
/-- [B -/
def k6 : Class := { plain "[B" (some 0) with kind := .array 5 .byte, interfaces := #[3, 4], accessFlags := 1041 }

/-- the primitive int -/
def k7 : Class := { plain "int" none with kind := .primitive 'I', accessFlags := 0x411 }
/-- [I -/
def k8 : Class := { plain "[I" (some 0) with kind := .array 7 .int, interfaces := #[3, 4], accessFlags := 1041 }

def heap : Heap := #[]
def classes : Array Class := #[k0, k1, k2, k3, k4, k5, k6, k7, k8]
def interned : List (Array UInt16 × Addr) := []
def slotsUsed : Nat := 0
def theMethod : MethodId := ⟨1, 1⟩
def args0 : Array Value := #[.int 1, .int 2, .int 3]
def aboutOver (below : List Frame) : State where
  vm := { classes := classes, interned := interned.toArray }
  heap := heap
  slotsUsed := slotsUsed
  threads := #[{ frames := .invoking theMethod args0 :: below }]
def below0 : List Frame := [.native { method := ⟨0, 0⟩, args := #[] }]
def about1 : State := aboutOver below0
def p0 : Program := .bare "" "" ""
def e0 : Env := launch0.env 0 0 0
theorem w_frames : about1.frames = Frame.invoking theMethod args0 :: below0 := rfl
set_option maxRecDepth 65536 in
theorem w_args : argsFit about1.vm theMethod args0 = true := by decide +kernel
set_option maxRecDepth 65536 in
theorem w_heap : heapFits about1 = true := by decide +kernel
set_option maxRecDepth 65536 in
theorem w_runnable : about1.curStatus? = some .runnable := by decide +kernel
set_option maxRecDepth 65536 in
theorem w_alone : about1.alone = true := by decide +kernel
set_option maxRecDepth 65536 in
theorem w_named : about1.methodNamed? x = some theMethod := by decide +kernel
set_option maxRecDepth 65536 in
theorem w_hears : about1.hears theMethod below0 = true := by decide +kernel
set_option maxRecDepth 65536 in
theorem w_ripe : about1.ripe theMethod args0 below0 = true := by decide +kernel
theorem w_running : about1.status = .running := rfl
set_option maxRecDepth 65536 in
theorem w_room : about1.hasRoom e0.platform room_1 = true :=
  launch0.hasRoom_least _ room_1 (by decide +kernel) (by decide +kernel) (by decide +kernel) (by decide +kernel) (by decide +kernel) (by decide +kernel)
theorem allAtoms_all (ts : List Jvm.Cond) (a : Array Jvm.Value) (st : Jvm.State) : (allAtoms ts).before a st = ts.all (fun c => c.before a st) := by
  induction ts with
  | nil => rfl
  | cons c t ih =>
    show (Jvm.Cond.and c (allAtoms t)).before a st = _
    rw [Jvm.Cond.before_and, ih, List.all_cons]
def words1 : List Jvm.Cond := Jvm.Cond.code x code maxLocals ret :: tables_1
/-- a 'code' word, met by the world's own term for the bytes: nothing is compared byte by byte -/
theorem code_word {y : MethodName} {bytes : ByteArray} {mx : Nat} {rt : Option FieldType} {a : Array Value} {s : State} {m : MethodId} {meth : Method} {c : Code} (h1 : s.methodNamed? y = some m) (h2 : s.vm.method? m = some meth) (h3 : meth.code = some c) (h4 : c.code = bytes)
    (h5 : (c.maxLocals == mx && c.exceptionTable.isEmpty && decide (c.maxStack ≤ mostOperands) && decide (meth.sig.returnType = rt) && !meth.locks && decide (parseMethodDescriptor y.desc = some meth.sig)) = true) : (Jvm.Cond.code y bytes mx rt).before a s = true := by
  simp only [Bool.and_eq_true, beq_iff_eq, Bool.not_eq_true', decide_eq_true_eq] at h5
  obtain ⟨⟨⟨⟨⟨g1, g2⟩, g3⟩, g4⟩, g5⟩, g6⟩ := h5
  simp [Cond.before, Cond.holds, Cond.value, h1, h2, h3, h4, g1, g2, g3, g4, g5, g6]
def isCode : Jvm.Cond → Bool
  | .code _ _ _ _ => true
  | _ => false
theorem all_split {L : List Jvm.Cond} {P : Jvm.Cond → Bool} (h1 : L.all (fun c => isCode c || P c) = true) (h2 : ∀ c ∈ L.filter isCode, P c = true) : L.all P = true := by
  refine List.all_eq_true.mpr fun c hc => ?_
  have h := List.all_eq_true.mp h1 c hc
  rcases Bool.eq_false_or_eq_true (isCode c) with hi | hi
  · exact h2 c (List.mem_filter.mpr ⟨hc, hi⟩)
  · simpa [hi] using h
set_option maxRecDepth 65536 in
theorem w_c0 : (Jvm.Cond.code x code maxLocals ret).before args0 about1 = true := code_word (m := ⟨1, 1⟩) (meth := k1m1) (c := k1c1) (by decide +kernel) rfl rfl rfl (by decide +kernel)
set_option maxRecDepth 65536 in
theorem w_c1 : (Jvm.Cond.code ({ cls := "com/example/benzer/benzer/FeatureHash", name := "encode", desc := "(I[BI)I" } : Jvm.MethodName) prog_1_method_10_code (4 : Nat) (Option.some Jvm.ClassFile.FieldType.int)).before args0 about1 = true := code_word (m := ⟨2, 1⟩) (meth := k2m1) (c := k2c1) (by decide +kernel) rfl rfl rfl (by decide +kernel)
def codes1 : List Jvm.Cond := [Jvm.Cond.code x code maxLocals ret, Jvm.Cond.code ({ cls := "com/example/benzer/benzer/FeatureHash", name := "encode", desc := "(I[BI)I" } : Jvm.MethodName) prog_1_method_10_code (4 : Nat) (Option.some Jvm.ClassFile.FieldType.int)]
set_option maxRecDepth 65536 in
theorem codes_eq : words1.filter isCode = codes1 := rfl
theorem w_codes : ∀ c ∈ words1.filter isCode, c.before args0 about1 = true := by
  rw [codes_eq]
  intro c hc
  simp only [codes1, List.mem_cons, List.not_mem_nil, or_false] at hc
  rcases hc with rfl | rfl
  · exact w_c0
  · exact w_c1
set_option maxRecDepth 65536 in
theorem w_t1 : words1.all (fun c => isCode c || c.before args0 about1) = true := by decide +kernel
theorem w_tables : (allAtoms (Jvm.Cond.code x code maxLocals ret :: tables_1)).before args0 about1 = true := by
  rw [allAtoms_all]
  show words1.all (fun c => c.before args0 about1) = true
  refine all_split ?_ w_codes
  rw [w_t1]
set_option maxRecDepth 65536 in
theorem w_case : (Jvm.Cond.and given_1 narrow_1).before args0 about1 = true := by decide +kernel
theorem w_applies : (headSpec (Jvm.Cond.code x code maxLocals ret :: tables_1) room_1).applies x e0.platform about1 = true :=
  (Spec.applies_iff w_frames).mpr ⟨w_running, w_runnable, w_alone, w_named, w_hears, w_ripe, w_room, w_tables⟩
theorem atStart : AtStart classFile x code maxLocals ret World_1 tables_1 room_1 Calls_1 rest_1 Pre_1 launch0 p0 e0 about1 theMethod args0 below0 :=
  ⟨lists_1, trivial, launch0.admits_env _ _ _, launch0.least_env, fairChoices_fair.cas, fairChoices_fair.clock, w_frames, w_args, w_heap, w_applies, trivial, trivial, w_case⟩
end start1
theorem witness_1 : WitnessClaimed_1 := ⟨start1.p0, start1.e0, start1.about1, start1.theMethod, start1.args0, start1.below0, start1.atStart⟩
end Jvm.Pilot.@@N@@
