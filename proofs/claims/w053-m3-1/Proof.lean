import JvmDerived
import JvmDerived.Pilot.@@N@@Statement
import JvmDerived.Pilot.@@N@@Code
set_option linter.unusedVariables false
set_option linter.unusedSimpArgs false
namespace Jvm.RoadKit
open Sem ClassFile Op Lib Jvm.Stand Jvm.Free Jvm.LawKit
section New
variable {p : Program} {l : Launch} {e : Env} {R : Room} {s : State} {m : MethodId} {args : Array Value} {below : List Frame} {meth : Method} {c : Code} {T : State} {locs : List Loc} {cells slots : Nat}
theorem retI (X : Stand p l e R s m args below meth c T locs cells slots) (hx : p.tables.exec = Jvm.exec) {pc : Nat} {Ls : Array Slot} {z : Int32} {rest : List Value} (hret : meth.sig.returnType = some .int) (hd : decode c.code pc = .ok (.ireturn, 1)) {fs : List Frame}
    (hl : ∀ (f : JFrame) (acts : List Action), f.method = m → f.locked = none → f.entered = [] → (doReturn e (T.setTop f) acts (some (.int z))).1 = T.setFrames fs) : Steps p.tables e below (T.setTop (mkF m pc Ls (.int z :: rest))) (T.setFrames fs) := by
  have hm' : T.vm.method? m = some meth := X.method'
  have hn : narrow .int (.int z) = .int z := rfl
  show Steps p.tables e below (T.setTop { method := m, pc := pc, locals := Ls, stack := _ :: rest, locked := none }) _
  jvm_step X.here [X.here.top, hx, hd, hm', hret, hn]
  first | (intro acts; rw [hl _ acts rfl rfl rfl]) | rw [hl _ _ rfl rfl rfl]
  exact Steps.refl _
end New
end Jvm.RoadKit
namespace Jvm.Pilot.@@N@@
open Jvm Jvm.ClassFile Sem Op Lib Jvm.Free Jvm.Stand Jvm.LawKit Jvm.RoadKit Bundle Jvm.Pilot.@@N@@.Jvm.D
section Own
variable {p : Program} {l : Launch} {e : Env} {R : Room} {s : State} {m : MethodId} {args : Array Value} {below : List Frame} {meth : Method} {c : Code} {T : State} {locs : List Loc} {cells slots : Nat} {Z : State} {a0 : Array Value} {h h' : Heap}
/-- an array of n places, whose j-th holds f j -/
def own_AF (Z : State) (h : Heap) (a : Addr) (ty : FieldType) (n : Nat) (f : Nat → Value) : Prop := n < 2147483648 ∧ ∃ c : Cell, Arr Z h a c ty ∧ c.slots.size = n ∧ ∀ j, j < n → c.slots[j]? = some (f j)
/-- an array of ints, bytes, chars, booleans -/
def own_AI (Z : State) (h : Heap) (a : Addr) (ty : FieldType) (n : Nat) (f : Nat → Int32) : Prop := own_AF Z h a ty n (fun j => .int (f j))
def own_AL (Z : State) (h : Heap) (a : Addr) (n : Nat) (f : Nat → Int64) : Prop := own_AF Z h a .long n (fun j => .long (f j))
def own_upd {α : Type} (f : Nat → α) (i : Nat) (x : α) : Nat → α := fun j => if j = i then x else f j
theorem own_AF.lt {a : Addr} {ty : FieldType} {n : Nat} {f : Nat → Value} (F : own_AF Z h a ty n f) : a < h.size := by obtain ⟨_, c, A, -⟩ := F; exact A.lt
theorem own_AI.lt {a : Addr} {ty : FieldType} {n : Nat} {f : Nat → Int32} (F : own_AI Z h a ty n f) : a < h.size := own_AF.lt F
theorem own_AL.lt {a : Addr} {n : Nat} {f : Nat → Int64} (F : own_AL Z h a n f) : a < h.size := own_AF.lt F
theorem own_AF.keep {a : Addr} {ty : FieldType} {n : Nat} {f : Nat → Value} {ws : List Addr} (F : own_AF Z h a ty n f) (K : Keep h h' ws) (q : a ∉ ws) : own_AF Z h' a ty n f := by
  obtain ⟨b, c, A, r⟩ := F; exact ⟨b, c, ⟨K.2.1 a c A.1 q, A.2⟩, r⟩
theorem own_AI.keep {a : Addr} {ty : FieldType} {n : Nat} {f : Nat → Int32} {ws : List Addr} (F : own_AI Z h a ty n f) (K : Keep h h' ws) (q : a ∉ ws) : own_AI Z h' a ty n f := own_AF.keep F K q
theorem own_AL.keep {a : Addr} {n : Nat} {f : Nat → Int64} {ws : List Addr} (F : own_AL Z h a n f) (K : Keep h h' ws) (q : a ∉ ws) : own_AL Z h' a n f := own_AF.keep F K q
theorem own_AF.congr {a : Addr} {ty : FieldType} {n : Nat} {f g : Nat → Value} (F : own_AF Z h a ty n f) (q : ∀ j, j < n → f j = g j) : own_AF Z h a ty n g := by
  obtain ⟨b, c, A, s, r⟩ := F; exact ⟨b, c, A, s, fun j hj => by rw [r j hj, q j hj]⟩
theorem own_AI.congr {a : Addr} {ty : FieldType} {n : Nat} {f g : Nat → Int32} (F : own_AI Z h a ty n f) (q : ∀ j, j < n → f j = g j) : own_AI Z h a ty n g := own_AF.congr F fun j hj => by show Value.int (f j) = .int (g j); rw [q j hj]
theorem own_AF.wr {a : Addr} {ty : FieldType} {n i : Nat} {f : Nat → Value} {v : Value} (F : own_AF Z h a ty n f) (hi : i < n) (W : Wr h h' a i v) : own_AF Z h' a ty n (own_upd f i v) := by
  obtain ⟨b, c, A, s, r⟩ := F
  refine ⟨b, _, A.same W, by rw [sz_set]; exact s, fun j hj => ?_⟩
  simp only [Cell.setSlot, own_upd, Array.getElem?_setIfInBounds]
  by_cases q : i = j
  · subst q; simp [s, hi]
  · have q' : ¬ j = i := fun e => q e.symm
    simp [q, q', r j hj]
theorem own_AI.wr {a : Addr} {ty : FieldType} {n i : Nat} {f : Nat → Int32} {x : Int32} (F : own_AI Z h a ty n f) (hi : i < n) (W : Wr h h' a i (.int x)) : own_AI Z h' a ty n (own_upd f i x) :=
  (own_AF.wr F hi W).congr fun j hj => by simp only [own_upd]; split <;> rfl
theorem own_AL.wr {a : Addr} {n i : Nat} {f : Nat → Int64} {x : Int64} (F : own_AL Z h a n f) (hi : i < n) (W : Wr h h' a i (.long x)) : own_AL Z h' a n (own_upd f i x) :=
  (own_AF.wr F hi W).congr fun j hj => by simp only [own_upd]; split <;> rfl
theorem own_idx {j : Int32} {i : Nat} (hj : j.toInt = i) : ¬ j < 0 ∧ j.toNatClampNeg = i := by
  refine ⟨by rw [Int32.lt_iff_toInt_lt, Int32.toInt_zero]; omega, ?_⟩
  have := nat_of (j := j) (by rw [Int32.lt_iff_toInt_lt, Int32.toInt_zero]; omega)
  omega
theorem own_inb {j : Int32} {i n : Nat} {cl : Cell} (hj : j.toInt = i) (hi : i < n) (hs : cl.slots.size = n) : ¬ (j < 0 ∨ cl.slots.size ≤ j.toNatClampNeg) := by
  obtain ⟨h1, h2⟩ := own_idx hj
  rintro (q | q)
  · exact h1 q
  · rw [h2, hs] at q; omega
theorem own_ldF {a : Addr} {n i : Nat} {ty : FieldType} {f : Nat → Value} {j : Int32} {v : Value} (A : own_AF Z h a ty n f) (hj : j.toInt = i) (hi : i < n) (hv : f i = v) : ∃ cl : Cell, Arr Z h a cl ty ∧ ¬ (j < 0 ∨ cl.slots.size ≤ j.toNatClampNeg) ∧ cl.slots[j.toNatClampNeg]? = some v := by
  obtain ⟨b, cl, Ar, hs, hf⟩ := A
  exact ⟨cl, Ar, own_inb hj hi hs, by rw [(own_idx hj).2, hf i hi, hv]⟩
theorem own_ldI (X : Stand p l e R s m args below meth c T locs cells slots) (hx : p.tables.exec = Jvm.exec) (hZ : Z.Warmed39 s.vm) (eT : T.heap = h) {a : Addr} {n i : Nat} {f : Nat → Int32} {j x : Int32} (A : own_AI Z h a .int n f) (hj : j.toInt = i) (hi : i < n) (hv : f i = x) {g : JFrame} (hg : g.method = m) {rest : List Value} (hs : g.stack = .int j :: .ref a :: rest) (hd : decode c.code g.pc = .ok (.iaload, 1)) :
    ∀ target, Steps p.tables e below (T.setTop { g with pc := g.pc + 1, stack := .int x :: rest }) target → Steps p.tables e below (T.setTop g) target := by
  obtain ⟨cl, Ar, h1, h2⟩ := own_ldF A hj hi (by rw [hv])
  exact X.iaload hx (by rw [eT]; exact Ar.1) (State.isArrayOf_alike hZ.alike Ar.2.1) Ar.2.2 h1 h2 hg hs hd
theorem own_ldC (X : Stand p l e R s m args below meth c T locs cells slots) (hx : p.tables.exec = Jvm.exec) (hZ : Z.Warmed39 s.vm) (eT : T.heap = h) {a : Addr} {n i : Nat} {f : Nat → Int32} {j x : Int32} (A : own_AI Z h a .char n f) (hj : j.toInt = i) (hi : i < n) (hv : f i = x) {g : JFrame} (hg : g.method = m) {rest : List Value} (hs : g.stack = .int j :: .ref a :: rest) (hd : decode c.code g.pc = .ok (.caload, 1)) :
    ∀ target, Steps p.tables e below (T.setTop { g with pc := g.pc + 1, stack := .int x :: rest }) target → Steps p.tables e below (T.setTop g) target := by
  obtain ⟨cl, Ar, h1, h2⟩ := own_ldF A hj hi (by rw [hv])
  exact X.caload hx (by rw [eT]; exact Ar.1) (State.isArrayOf_alike hZ.alike Ar.2.1) Ar.2.2 h1 h2 hg hs hd
theorem own_ldB (X : Stand p l e R s m args below meth c T locs cells slots) (hx : p.tables.exec = Jvm.exec) (hZ : Z.Warmed39 s.vm) (eT : T.heap = h) {a : Addr} {n i : Nat} {f : Nat → Int32} {j x : Int32} (A : own_AI Z h a .byte n f) (hj : j.toInt = i) (hi : i < n) (hv : f i = x) {g : JFrame} (hg : g.method = m) {rest : List Value} (hs : g.stack = .int j :: .ref a :: rest) (hd : decode c.code g.pc = .ok (.baload, 1)) :
    ∀ target, Steps p.tables e below (T.setTop { g with pc := g.pc + 1, stack := .int x :: rest }) target → Steps p.tables e below (T.setTop g) target := by
  obtain ⟨cl, Ar, h1, h2⟩ := own_ldF A hj hi (by rw [hv])
  exact X.baloadBytes hx (by rw [eT]; exact Ar.1) (State.isArrayOf_alike hZ.alike Ar.2.1) Ar.2.2 h1 h2 hg hs hd
theorem own_ldZ (X : Stand p l e R s m args below meth c T locs cells slots) (hx : p.tables.exec = Jvm.exec) (hZ : Z.Warmed39 s.vm) (eT : T.heap = h) {a : Addr} {n i : Nat} {f : Nat → Int32} {j x : Int32} (A : own_AI Z h a .boolean n f) (hj : j.toInt = i) (hi : i < n) (hv : f i = x) {g : JFrame} (hg : g.method = m) {rest : List Value} (hs : g.stack = .int j :: .ref a :: rest) (hd : decode c.code g.pc = .ok (.baload, 1)) :
    ∀ target, Steps p.tables e below (T.setTop { g with pc := g.pc + 1, stack := .int x :: rest }) target → Steps p.tables e below (T.setTop g) target := by
  obtain ⟨cl, Ar, h1, h2⟩ := own_ldF A hj hi (by rw [hv])
  exact X.baloadBooleans hx (by rw [eT]; exact Ar.1) (State.isArrayOf_alike hZ.alike Ar.2.1) Ar.2.2 h1 h2 hg hs hd
theorem own_ldJ (X : Stand p l e R s m args below meth c T locs cells slots) (hx : p.tables.exec = Jvm.exec) (hZ : Z.Warmed39 s.vm) (eT : T.heap = h) {a : Addr} {n i : Nat} {f : Nat → Int64} {j : Int32} {x : Int64} (A : own_AL Z h a n f) (hj : j.toInt = i) (hi : i < n) (hv : f i = x) {g : JFrame} (hg : g.method = m) {rest : List Value} (hs : g.stack = .int j :: .ref a :: rest) (hd : decode c.code g.pc = .ok (.laload, 1)) :
    ∀ target, Steps p.tables e below (T.setTop { g with pc := g.pc + 1, stack := .long x :: rest }) target → Steps p.tables e below (T.setTop g) target := by
  obtain ⟨cl, Ar, h1, h2⟩ := own_ldF A hj hi (by rw [hv])
  exact X.laload hx (by rw [eT]; exact Ar.1) (State.isArrayOf_alike hZ.alike Ar.2.1) Ar.2.2 h1 h2 hg hs hd
theorem own_ldR (X : Stand p l e R s m args below meth c T locs cells slots) (hx : p.tables.exec = Jvm.exec) (hZ : Z.Warmed39 s.vm) (eT : T.heap = h) {a : Addr} {n i : Nat} {ty : FieldType} {f : Nat → Value} {j : Int32} {v : Value} (hty : ty.isReference = true) (A : own_AF Z h a ty n f) (hj : j.toInt = i) (hi : i < n) (hv : f i = v) {g : JFrame} (hg : g.method = m) {rest : List Value} (hs : g.stack = .int j :: .ref a :: rest) (hd : decode c.code g.pc = .ok (.aaload, 1)) :
    ∀ target, Steps p.tables e below (T.setTop { g with pc := g.pc + 1, stack := v :: rest }) target → Steps p.tables e below (T.setTop g) target := by
  obtain ⟨cl, Ar, h1, h2⟩ := own_ldF A hj hi hv
  exact X.aaload hx (by rw [eT]; exact Ar.1) (State.isArrayOf_alike hZ.alike Ar.2.1) hty Ar.2.2 h1 h2 hg hs hd
theorem own_len (X : Stand p l e R s m args below meth c T locs cells slots) (hx : p.tables.exec = Jvm.exec) (hZ : Z.Warmed39 s.vm) (eT : T.heap = h) {a : Addr} {n : Nat} {ty : FieldType} {f : Nat → Value} {z : Int32} (A : own_AF Z h a ty n f) (hz : z.toInt = n) {g : JFrame} (hg : g.method = m) {rest : List Value} (hs : g.stack = .ref a :: rest) (hd : decode c.code g.pc = .ok (.arraylength, 1)) :
    ∀ target, Steps p.tables e below (T.setTop { g with pc := g.pc + 1, stack := .int z :: rest }) target → Steps p.tables e below (T.setTop g) target := by
  obtain ⟨b, cl, Ar, hs', hf⟩ := A
  intro target k
  refine X.arraylength hx (by rw [eT]; exact Ar.1) (State.isArrayOf_alike hZ.alike Ar.2.1) hg hs hd target ?_
  have q : cl.slots.size.toInt32 = z := by
    apply Int32.toInt_inj.mp
    rw [hs', len_toInt (by omega), hz]
  rw [q]; exact k
theorem own_stI (X : Stand p l e R s m args below meth c T locs cells slots) (hx : p.tables.exec = Jvm.exec) (hZ : Z.Warmed39 s.vm) (eT : T.heap = h) {a : Addr} {n i : Nat} {f : Nat → Int32} {j x : Int32} (A : own_AI Z h a .int n f) (hj : j.toInt = i) (hi : i < n) {g : JFrame} (hg : g.method = m) {rest : List Value} (hs : g.stack = .int x :: .int j :: .ref a :: rest) (hd : decode c.code g.pc = .ok (.iastore, 1)) :
    ∃ T' h', Stand p l e R s m args below meth c T' (locs ++ [⟨a, i⟩]) cells slots ∧ T'.heap = h' ∧ Wr h h' a i (.int x) ∧ own_AI Z h' a .int n (own_upd f i x) ∧ ∀ target, Steps p.tables e below (T'.setTop { g with pc := g.pc + 1, stack := rest }) target → Steps p.tables e below (T.setTop g) target := by
  obtain ⟨cl, Ar, h1, -⟩ := own_ldF A hj hi rfl
  obtain ⟨T', h', X', e', W, st⟩ := stI X hx hZ eT Ar h1 hg hs hd
  rw [(own_idx hj).2] at X' W
  exact ⟨T', h', X', e', W, A.wr hi W, st⟩
theorem own_stB (X : Stand p l e R s m args below meth c T locs cells slots) (hx : p.tables.exec = Jvm.exec) (hZ : Z.Warmed39 s.vm) (eT : T.heap = h) {a : Addr} {n i : Nat} {f : Nat → Int32} {j x : Int32} (A : own_AI Z h a .byte n f) (hj : j.toInt = i) (hi : i < n) {g : JFrame} (hg : g.method = m) {rest : List Value} (hs : g.stack = .int x :: .int j :: .ref a :: rest) (hd : decode c.code g.pc = .ok (.bastore, 1)) :
    ∃ T' h', Stand p l e R s m args below meth c T' (locs ++ [⟨a, i⟩]) cells slots ∧ T'.heap = h' ∧ Wr h h' a i (.int (x.toInt8.toInt32)) ∧ own_AI Z h' a .byte n (own_upd f i (x.toInt8.toInt32)) ∧ ∀ target, Steps p.tables e below (T'.setTop { g with pc := g.pc + 1, stack := rest }) target → Steps p.tables e below (T.setTop g) target := by
  obtain ⟨cl, Ar, h1, -⟩ := own_ldF A hj hi rfl
  obtain ⟨T', h', X', e', W, st⟩ := stB X hx hZ eT Ar h1 hg hs hd
  rw [(own_idx hj).2] at X' W
  exact ⟨T', h', X', e', W, A.wr hi W, st⟩
theorem own_stZ (X : Stand p l e R s m args below meth c T locs cells slots) (hx : p.tables.exec = Jvm.exec) (hZ : Z.Warmed39 s.vm) (eT : T.heap = h) {a : Addr} {n i : Nat} {f : Nat → Int32} {j x : Int32} (A : own_AI Z h a .boolean n f) (hj : j.toInt = i) (hi : i < n) {g : JFrame} (hg : g.method = m) {rest : List Value} (hs : g.stack = .int x :: .int j :: .ref a :: rest) (hd : decode c.code g.pc = .ok (.bastore, 1)) :
    ∃ T' h', Stand p l e R s m args below meth c T' (locs ++ [⟨a, i⟩]) cells slots ∧ T'.heap = h' ∧ Wr h h' a i (.int (x &&& 1)) ∧ own_AI Z h' a .boolean n (own_upd f i (x &&& 1)) ∧ ∀ target, Steps p.tables e below (T'.setTop { g with pc := g.pc + 1, stack := rest }) target → Steps p.tables e below (T.setTop g) target := by
  obtain ⟨cl, Ar, h1, -⟩ := own_ldF A hj hi rfl
  obtain ⟨T', h', X', e', W, st⟩ := stZ X hx hZ eT Ar h1 hg hs hd
  rw [(own_idx hj).2] at X' W
  exact ⟨T', h', X', e', W, A.wr hi W, st⟩
theorem own_stC (X : Stand p l e R s m args below meth c T locs cells slots) (hx : p.tables.exec = Jvm.exec) (hZ : Z.Warmed39 s.vm) (eT : T.heap = h) {a : Addr} {n i : Nat} {f : Nat → Int32} {j x : Int32} (A : own_AI Z h a .char n f) (hj : j.toInt = i) (hi : i < n) {g : JFrame} (hg : g.method = m) {rest : List Value} (hs : g.stack = .int x :: .int j :: .ref a :: rest) (hd : decode c.code g.pc = .ok (.castore, 1)) :
    ∃ T' h', Stand p l e R s m args below meth c T' (locs ++ [⟨a, i⟩]) cells slots ∧ T'.heap = h' ∧ Wr h h' a i (.int (x.toUInt32.toUInt16.toUInt32.toInt32)) ∧ own_AI Z h' a .char n (own_upd f i (x.toUInt32.toUInt16.toUInt32.toInt32)) ∧ ∀ target, Steps p.tables e below (T'.setTop { g with pc := g.pc + 1, stack := rest }) target → Steps p.tables e below (T.setTop g) target := by
  obtain ⟨cl, Ar, h1, -⟩ := own_ldF A hj hi rfl
  obtain ⟨T', h', X', e', W, st⟩ := stC X hx hZ eT Ar h1 hg hs hd
  rw [(own_idx hj).2] at X' W
  exact ⟨T', h', X', e', W, A.wr hi W, st⟩
theorem own_stJ (X : Stand p l e R s m args below meth c T locs cells slots) (hx : p.tables.exec = Jvm.exec) (hZ : Z.Warmed39 s.vm) (eT : T.heap = h) {a : Addr} {n i : Nat} {f : Nat → Int64} {j : Int32} {x : Int64} (A : own_AL Z h a n f) (hj : j.toInt = i) (hi : i < n) {g : JFrame} (hg : g.method = m) {rest : List Value} (hs : g.stack = .long x :: .int j :: .ref a :: rest) (hd : decode c.code g.pc = .ok (.lastore, 1)) :
    ∃ T' h', Stand p l e R s m args below meth c T' (locs ++ [⟨a, i⟩]) cells slots ∧ T'.heap = h' ∧ Wr h h' a i (.long x) ∧ own_AL Z h' a n (own_upd f i x) ∧ ∀ target, Steps p.tables e below (T'.setTop { g with pc := g.pc + 1, stack := rest }) target → Steps p.tables e below (T.setTop g) target := by
  obtain ⟨cl, Ar, h1, -⟩ := own_ldF A hj hi rfl
  obtain ⟨T', h', X', e', W, st⟩ := stJ X hx hZ eT Ar h1 hg hs hd
  rw [(own_idx hj).2] at X' W
  exact ⟨T', h', X', e', W, A.wr hi W, st⟩
theorem own_newF {a : Addr} {cA : ClassId} {ty : FieldType} {n : Int32} {i : Nat} (hn : n.toInt = i) (A : Arr Z h a (newA cA ty n) ty) : own_AF Z h a ty i (fun _ => defaultValue ty) := by
  obtain ⟨h1, h2⟩ := own_idx hn
  have := n.toInt_lt
  refine ⟨by omega, _, A, by rw [sz_new, h2], fun j hj => ?_⟩
  simp [newA, h2, hj]
theorem own_newI {a : Addr} {cA : ClassId} {ty : FieldType} {n : Int32} {i : Nat} (hn : n.toInt = i) (A : Arr Z h a (newA cA ty n) ty) (hd : defaultValue ty = .int 0) : own_AI Z h a ty i (fun _ => 0) :=
  (own_newF hn A).congr fun _ _ => hd
theorem own_newL {a : Addr} {cA : ClassId} {n : Int32} {i : Nat} (hn : n.toInt = i) (A : Arr Z h a (newA cA .long n) .long) : own_AL Z h a i (fun _ => 0) :=
  (own_newF hn A).congr fun _ _ => rfl
theorem own_Sta.keep {C n d : String} {v : Value} {ws : List Addr} (F : Sta Z h C n d v) (K : Keep h h' ws) (q : ∀ x ∈ ws, ∀ cl : Cell, h[x]? = some cl → cl.vm.isStatics = false) : Sta Z h' C n d v := by
  obtain ⟨cf, i, k, f, st, cell, h1, h2, h3, h4, h5, h6, h7⟩ := F
  refine ⟨cf, i, k, f, st, cell, h1, h2, h3, h4, K.2.1 st cell h5 (fun q' => ?_), h6, h7⟩
  have := q st q' cell h5
  rw [h6] at this; cases this
theorem own_selP {args : Array Value} {C : String} {y y' : MethodName} (hcls : y'.cls = y.cls) (hs : (Jvm.Cond.selects C y' y').before args s = true) (hi' : (Jvm.Cond.instanceMethod y').before args s = true) (hp : (Jvm.Cond.privateMethod y).before args s = true) (hi : (Jvm.Cond.instanceMethod y).before args s = true) (hy : y.cls ≠ "java/lang/invoke/MethodHandle" ∧ y.cls ≠ "java/lang/invoke/VarHandle") : (Jvm.Cond.selects y.cls y y).before args s = true := by
  obtain ⟨mk, methM, hnamed, -⟩ := Cond.instanceMethod_spec hi'
  obtain ⟨kr, hk, hni⟩ := notFace_of_selects hs mk hnamed
  have hc := findClass_of_methodNamed hnamed
  rw [hcls] at hc
  exact selects_self_of_private hc hk hni (Cond.privateMethod_at hp) hi hy
end Own
section OwnStr
variable {p : Program} {l : Launch} {e : Env} {R : Room} {s : State} {m : MethodId} {args : Array Value} {below : List Frame} {meth : Method} {c : Code} {T : State} {locs : List Loc} {cells slots : Nat} {Z : State} {a0 : Array Value} {h h' : Heap}
theorem own_exa_ne {a b : Addr} {C D : String} (A : Exa Z h a C) (B : Exa Z h b D) (q : C ≠ D) : a ≠ b := by
  rintro rfl
  obtain ⟨c1, k1, e1, f1, -⟩ := A
  obtain ⟨c2, k2, e2, f2, -⟩ := B
  cases e1.symm.trans e2
  obtain ⟨k3, q1, q2⟩ := Vm.findClass_spec f1
  obtain ⟨k4, q3, q4⟩ := Vm.findClass_spec f2
  cases q1.symm.trans q3
  exact q (q2.symm.trans q4)
theorem own_toArv {a : Addr} {n : Nat} {f : Nat → Int32} (F : own_AI Z h a .byte n f) {z : Int32} (hz : z.toInt = n) (hf : ∀ j, j < n → fits .byte (.int (f j)) = true) : ∃ k, Arv Z h a k .byte z ((List.range n).map fun j => Value.int (f j)) (.int 0) := by
  obtain ⟨b, cl, A, sz, r⟩ := F
  obtain ⟨z1, z2⟩ := own_idx hz
  refine ⟨cl.cls, cl, A, rfl, by rw [sz, z2], z1, fun k hk => ?_, fun k hk => ?_⟩
  · rw [sz] at hk
    rw [r k hk]; simp [hk]
  · rw [sz] at hk
    have q : ((List.range n).map fun j => Value.int (f j)).getD k (.int 0) = .int (f k) := by simp [hk]
    rw [q]; exact hf k hk
theorem own_ofArv {a : Addr} {k : ClassId} {z : Int32} {vs : List Value} {d : Value} {n : Nat} {f : Nat → Int32} (F : Arv Z h a k .byte z vs d) (hz : z.toInt = n) (hn : n < 2147483648) (hv : ∀ j, j < n → vs.getD j d = .int (f j)) : own_AI Z h a .byte n f := by
  obtain ⟨cl, A, -, sz, -, H, -⟩ := F
  have e : cl.slots.size = n := by rw [sz]; exact (own_idx hz).2
  exact ⟨hn, cl, A, e, fun j hj => by rw [H j (by rw [e]; exact hj), hv j hj]⟩
theorem own_cpB (X : Stand p l e R s m args below meth c T locs cells slots) (hx : p.tables.exec = Jvm.exec) (hZ : Z.Warmed39 s.vm) {own : String} {index : Nat} (hown : s.vm.findClass own = some m.cls)
    (w1 : (Cond.methodLink own index Jvm.Stand.acN).before a0 Z = true) (w2 : (Cond.native Jvm.Stand.acN).before a0 Z = true) (w3 : (Cond.static Jvm.Stand.acN).before a0 Z = true) (w4 : (Cond.initialized "java/lang/System").before a0 Z = true) (eT : T.heap = h)
    {a b : Addr} {n k i : Nat} {f g : Nat → Int32} {za zb sp nn : Int32} (A : own_AI Z h a .byte n f) (B : own_AI Z h b .byte k g) (hza : za.toInt = n) (hzb : zb.toInt = k) (fa : ∀ j, j < n → fits .byte (.int (f j)) = true) (fb : ∀ j, j < k → fits .byte (.int (g j)) = true)
    (hsp : sp.toInt = i) (hnn : nn.toInt = k) (hle : i + k ≤ n) {n0 : Nat} (N : Fr n0 locs) (ge : n0 ≤ b) {fr : JFrame} (hg : fr.method = m) (hsize : fr.locals.size = c.maxLocals) {rest : List Value} (hs : fr.stack = .int nn :: .int 0 :: .ref b :: .int sp :: .ref a :: rest) (hd : decode c.code fr.pc = .ok (.invokestatic index, 3))
    (hf : 1 ≤ R.frames) {W : Nat} (hW : 2 * fr.monitorRoom + (rest.map fun v => v.category).sum ≤ W) (hlo : W + (nativeFrameWords "java/lang/System" "arraycopy" 5 + 11) ≤ R.locals) :
    ∃ T' h' L, Stand p l e R s m args below meth c T' L cells slots ∧ T'.heap = h' ∧ Fr n0 L ∧ Keep h h' [b] ∧ own_AI Z h' b .byte k (fun j => f (i + j)) ∧ ∀ target, Steps p.tables e below (T'.setTop { fr with pc := fr.pc + 3, stack := rest }) target → Steps p.tables e below (T.setTop fr) target := by
  obtain ⟨ka, KA⟩ := own_toArv A hza fa
  obtain ⟨kb, KB⟩ := own_toArv B hzb fb
  have e1 := own_idx hsp
  have e2 := own_idx hnn
  have e3 := own_idx hza
  have e4 := own_idx hzb
  have z0 : (0 : Int32).toNatClampNeg = 0 := by decide
  have bk : k < 2147483648 := (show own_AF Z h b .byte k _ from B).1
  obtain ⟨T', h', L, X', e', N', K, R', st⟩ := cpA X hx hZ hown w1 w2 w3 w4 eT KA KB (Or.inl ⟨rfl, rfl⟩) (sp := sp) (dp := 0) (nn := nn) e1.1 (by decide) e2.1 (by rw [e1.2, e2.2, e3.2]; exact hle) (by rw [e2.2, e4.2, z0]; omega) rfl (by rw [e2.2, z0]; simp) N ge hg hsize hs hd hf hW hlo
  refine ⟨T', h', L, X', e', N', K, own_ofArv R' hzb bk (fun j hj => ?_), st⟩
  rw [z0, e1.2, e2.2]
  simp [hj, show i + j < n by omega]
theorem own_inc {x : Int32} {k : Nat} (h : x.toInt = (k : Int)) (hk : k < 1000) : (x + (1 : Int32)).toInt = ((k + 1 : Nat) : Int) := by
  have a := c_iadd x 1
  have b := rng32 (x + 1)
  have o : (1 : Int32).toInt = 1 := by decide
  omega
theorem own_or8 {o cn : Int32} {k : Nat} (ho : o.toInt = (k : Int)) (hk : k ≤ 3) (hc : cn.toInt = 4) : ¬ (((8 : Int32) ||| o) ||| cn) < (0 : Int32) ∧ ¬ ((8 : Int32) - o) < cn := by
  have ec : cn = 4 := Int32.toInt_inj.mp (by rw [hc]; decide)
  have eo : o = 0 ∨ o = 1 ∨ o = 2 ∨ o = 3 := by
    rcases (by omega : k = 0 ∨ k = 1 ∨ k = 2 ∨ k = 3) with rfl | rfl | rfl | rfl
    · exact Or.inl (Int32.toInt_inj.mp (by rw [ho]; decide))
    · exact Or.inr (Or.inl (Int32.toInt_inj.mp (by rw [ho]; decide)))
    · exact Or.inr (Or.inr (Or.inl (Int32.toInt_inj.mp (by rw [ho]; decide))))
    · exact Or.inr (Or.inr (Or.inr (Int32.toInt_inj.mp (by rw [ho]; decide))))
  subst ec
  rcases eo with rfl | rfl | rfl | rfl <;> decide
end OwnStr

theorem own_EW {Z : State} {a0 : Array Value} (hw : ∀ d ∈ tables_1, d.before a0 Z = true) : EW Z a0 consts_1 := (EW.cons (hw _ (List.mem_of_getElem? (i := 132) rfl)) (by decide) (EW.cons (hw _ (List.mem_of_getElem? (i := 142) rfl)) (by decide) (EW.cons (hw _ (List.mem_of_getElem? (i := 143) rfl)) (by decide) (EW.cons (hw _ (List.mem_of_getElem? (i := 5) rfl)) (by decide) EW.nil))))
def own_tx_true : Nat → Int32 := fun j => ([116, 114, 117, 101] : List Int32).getD j 0
def own_tx_false : Nat → Int32 := fun j => ([102, 97, 108, 115, 101] : List Int32).getD j 0
def own_tx_null : Nat → Int32 := fun j => ([110, 117, 108, 108] : List Int32).getD j 0

def own_sp (x : Int32) : Prop := x = 32 ∨ x = 9 ∨ x = 13 ∨ x = 10
def own_shift (f : Nat → Int32) (k : Nat) : Nat → Int32 := fun j => f (k + j)
def own_pb (i p : Int32) : Int32 := if i < p then 32 else if i < p + 4 then own_tx_null (i - p).toInt.toNat else 33
theorem own_tx_r {t : Nat} (h : t < 4) : own_tx_null t = 110 ∨ own_tx_null t = 117 ∨ own_tx_null t = 108 := by
  rcases (by omega : t = 0 ∨ t = 1 ∨ t = 2 ∨ t = 3) with rfl | rfl | rfl | rfl <;> decide
theorem own_pbi {i p : Int32} {j k : Nat} (h1 : ¬ i < p) (h2 : i < p + 4) (hp : p.toInt = (k : Int)) (hk : k ≤ 3) (hi : i.toInt = (j : Int)) (hj : j < 8) : ∃ t : Nat, (i - p).toInt = (t : Int) ∧ t < 4 ∧ (i - p).toInt.toNat = t := by
  have a := c_isub i p
  have b := rng32 (i - p)
  have d := c_iadd p 4
  have e := rng32 (p + 4)
  have o : (4 : Int32).toInt = 4 := by decide
  rw [Int32.lt_iff_toInt_lt] at h1 h2
  exact ⟨(i - p).toInt.toNat, by omega, by omega, rfl⟩

theorem d7_0 : decode method_2_code 0 = .ok (.iload_n 0, 1) := by decide +kernel
theorem d7_1 : decode method_2_code 1 = .ok (.bipush 32, 2) := by decide +kernel
theorem d7_3 : decode method_2_code 3 = .ok (.if_icmp .eq 25, 3) := by decide +kernel
theorem d7_6 : decode method_2_code 6 = .ok (.iload_n 0, 1) := by decide +kernel
theorem d7_7 : decode method_2_code 7 = .ok (.bipush 9, 2) := by decide +kernel
theorem d7_9 : decode method_2_code 9 = .ok (.if_icmp .eq 19, 3) := by decide +kernel
theorem d7_12 : decode method_2_code 12 = .ok (.iload_n 0, 1) := by decide +kernel
theorem d7_13 : decode method_2_code 13 = .ok (.bipush 13, 2) := by decide +kernel
theorem d7_15 : decode method_2_code 15 = .ok (.if_icmp .eq 13, 3) := by decide +kernel
theorem d7_18 : decode method_2_code 18 = .ok (.iload_n 0, 1) := by decide +kernel
theorem d7_19 : decode method_2_code 19 = .ok (.bipush 10, 2) := by decide +kernel
theorem d7_21 : decode method_2_code 21 = .ok (.if_icmp .eq 7, 3) := by decide +kernel
theorem d7_24 : decode method_2_code 24 = .ok (.iconst 1, 1) := by decide +kernel
theorem d7_25 : decode method_2_code 25 = .ok (.goto 4, 3) := by decide +kernel
theorem d7_28 : decode method_2_code 28 = .ok (.iconst 0, 1) := by decide +kernel
theorem d7_29 : decode method_2_code 29 = .ok (.ireturn, 1) := by decide +kernel
theorem pn_7 : plainName "com/example/benzer/benzer/cli/JsonReaderStartPinLaw" = true := by first | (simp [plainName, overriddenIn]; done) | decide +kernel
theorem ef_7 (m : MethodId) (x0 : Int32) : entryFrame m #[(.int x0)] 1 = mkF m 0 #[.val (.int x0)] [] := by first | (simp [entryFrame, mkF, argsToLocals, Value.category]; done) | rfl
def own_ns (b0 : Int32) : Int32 := (if b0 = (32 : Int32) then (0 : Int32) else (if b0 = (9 : Int32) then (0 : Int32) else (if b0 = (13 : Int32) then (0 : Int32) else (if b0 = (10 : Int32) then (0 : Int32) else (1 : Int32)))))
theorem own_eq_own_ns (b0 : Int32) : own_ns b0 = (if b0 = (32 : Int32) then (0 : Int32) else (if b0 = (9 : Int32) then (0 : Int32) else (if b0 = (13 : Int32) then (0 : Int32) else (if b0 = (10 : Int32) then (0 : Int32) else (1 : Int32))))) := rfl
def Q7 (Z : State) (b0 : Int32) (h0 : Heap) (n0 : Nat) (rv_ : Option Value) (h : Heap) (LL_ : List Loc) : Prop := rv_ = some (.int (own_ns b0)) ∧ Fr n0 LL_ ∧ h = h0
set_option maxRecDepth 65536 in
set_option maxHeartbeats 40000000 in
theorem rm7 (l : Launch) (Z : State) (a0 : Array Value) (hw : ∀ d ∈ tables_1, d.before a0 Z = true) (ws : List Jvm.Cond) (b0 : Int32) (h0 : Heap) (n0 : Nat) :
    MetFree l (⟨"com/example/benzer/benzer/cli/JsonReaderStartPinLaw", "nonSpace", "(B)Z"⟩ : MethodName) (head1 (Jvm.Cond.code (⟨"com/example/benzer/benzer/cli/JsonReaderStartPinLaw", "nonSpace", "(B)Z"⟩ : MethodName) method_2_code 1 (some .boolean) :: ws) ({ frames := 0, cells := 0, slots := 0, locals := 0 } : Room)) (fun aa UU => aa = #[(.int b0)] ∧ Z.Warmed39 UU.vm ∧ UU.heap = h0) (fun _ _ _ _ _ => True) (fun _ UU oo UV => ∃ vv LL, oo = .returned vv ∧ Q7 Z b0 h0 n0 vv UV.heap LL ∧ FrameEnd UU oo UV LL ({ frames := 0, cells := 0, slots := 0, locals := 0 } : Room).cells ({ frames := 0, cells := 0, slots := 0, locals := 0 } : Room).slots) := by
  refine MetFree.of_bodySF (plainFor_of_name pn_7) hisR ?_
  intro p e s m args below meth c s₁ Bd hml0 hP hK
  obtain ⟨rfl, hZ, hh⟩ := hP
  have hx := Bd.exec
  have hby := Bd.bytes
  have hml : c.maxLocals = 1 := hml0
  have hown : s.vm.findClass "com/example/benzer/benzer/cli/JsonReaderStartPinLaw" = some m.cls := findClass_of_methodNamed Bd.named
  have hnm := (name_of_methodNamed Bd.named Bd.method).1
  have X0 : Stand p l e ({ frames := 0, cells := 0, slots := 0, locals := 0 } : Room) s m #[(.int b0)] below meth c s₁ [] 0 0 := Stand.of_body Bd
  have e0 : s₁.heap = h0 := by rw [← hh, Bd.state]; rfl
  have N0 := Fr.nil n0
  have k0 : ∀ tg_, Steps p.tables e below (s₁.setTop (mkF m 0 #[.val (.int b0)] [])) tg_ → Steps p.tables e below (s₁.setTop (entryFrame m #[(.int b0)] 1)) tg_ := fun tg_ k => castTop (ef_7 m b0) k
  have k1 : ∀ tg_, Steps p.tables e below (s₁.setTop (mkF m 3 #[.val (.int b0)] [(.int (32 : Int32)), (.int b0)])) tg_ → Steps p.tables e below (s₁.setTop (entryFrame m #[(.int b0)] 1)) tg_ := by
    intro tg_ kt
    refine k0 tg_ ?_
    refine XS.iloadN X0.here hx rfl (hb hby d7_0) rfl ?_
    show Steps p.tables e below (s₁.setTop (mkF m 1 #[.val (.int b0)] [(.int b0)])) _
    refine XS.bipush X0.here hx rfl (hb hby d7_1) ?_
    show Steps p.tables e below (s₁.setTop (mkF m 3 #[.val (.int b0)] [(.int (32 : Int32)), (.int b0)])) _
    exact kt
  by_cases hc3_2 : b0 = (32 : Int32)
  · have k3 : ∀ tg_, Steps p.tables e below (s₁.setTop (mkF m 29 #[.val (.int b0)] [(.int (0 : Int32))])) tg_ → Steps p.tables e below (s₁.setTop (entryFrame m #[(.int b0)] 1)) tg_ := by
      intro tg_ kt
      refine k1 tg_ ?_
      refine XS.icmpYes X0.here hx rfl (pc0 := 3) (pc' := 28) rfl (hb hby d7_3) rfl (teq hc3_2).1 (by decide) (by decide) ?_
      show Steps p.tables e below (s₁.setTop (mkF m 28 #[.val (.int b0)] [])) _
      refine XS.iconst X0.here hx rfl (hb hby d7_28) ?_
      show Steps p.tables e below (s₁.setTop (mkF m 29 #[.val (.int b0)] [(.int (0 : Int32))])) _
      exact kt
    obtain ⟨fs, hr, hrun, hended, hW, hsame⟩ := X0.leave (v := some (.int (0 : Int32))) (fun h => by rw [Bd.returns] at h; cases h) (hlocks := by first | exact BodyLoose.notSynchronized Bd | exact Body.notSynchronized Bd)
    refine ⟨_, _, k3 _ (retN X0 hx (t := .boolean) Bd.returns (by simp) (hb hby d7_29) hr), hrun, hended, _, _, rfl, ?_, ⟨_, rfl⟩, hW, hsame.mono (by decide) (by decide)⟩
    show Q7 Z b0 h0 n0 _ s₁.heap _
    rw [e0]
    exact ⟨(by rw [own_eq_own_ns]; rw [if_pos hc3_2]), N0, rfl⟩
  · have k4 : ∀ tg_, Steps p.tables e below (s₁.setTop (mkF m 9 #[.val (.int b0)] [(.int (9 : Int32)), (.int b0)])) tg_ → Steps p.tables e below (s₁.setTop (entryFrame m #[(.int b0)] 1)) tg_ := by
      intro tg_ kt
      refine k1 tg_ ?_
      refine XS.icmpNo X0.here hx rfl (hb hby d7_3) rfl (feq hc3_2).1 ?_
      show Steps p.tables e below (s₁.setTop (mkF m 6 #[.val (.int b0)] [])) _
      refine XS.iloadN X0.here hx rfl (hb hby d7_6) rfl ?_
      show Steps p.tables e below (s₁.setTop (mkF m 7 #[.val (.int b0)] [(.int b0)])) _
      refine XS.bipush X0.here hx rfl (hb hby d7_7) ?_
      show Steps p.tables e below (s₁.setTop (mkF m 9 #[.val (.int b0)] [(.int (9 : Int32)), (.int b0)])) _
      exact kt
    by_cases hc9_5 : b0 = (9 : Int32)
    · have k6 : ∀ tg_, Steps p.tables e below (s₁.setTop (mkF m 29 #[.val (.int b0)] [(.int (0 : Int32))])) tg_ → Steps p.tables e below (s₁.setTop (entryFrame m #[(.int b0)] 1)) tg_ := by
        intro tg_ kt
        refine k4 tg_ ?_
        refine XS.icmpYes X0.here hx rfl (pc0 := 9) (pc' := 28) rfl (hb hby d7_9) rfl (teq hc9_5).1 (by decide) (by decide) ?_
        show Steps p.tables e below (s₁.setTop (mkF m 28 #[.val (.int b0)] [])) _
        refine XS.iconst X0.here hx rfl (hb hby d7_28) ?_
        show Steps p.tables e below (s₁.setTop (mkF m 29 #[.val (.int b0)] [(.int (0 : Int32))])) _
        exact kt
      obtain ⟨fs, hr, hrun, hended, hW, hsame⟩ := X0.leave (v := some (.int (0 : Int32))) (fun h => by rw [Bd.returns] at h; cases h) (hlocks := by first | exact BodyLoose.notSynchronized Bd | exact Body.notSynchronized Bd)
      refine ⟨_, _, k6 _ (retN X0 hx (t := .boolean) Bd.returns (by simp) (hb hby d7_29) hr), hrun, hended, _, _, rfl, ?_, ⟨_, rfl⟩, hW, hsame.mono (by decide) (by decide)⟩
      show Q7 Z b0 h0 n0 _ s₁.heap _
      rw [e0]
      exact ⟨(by rw [own_eq_own_ns]; rw [if_neg hc3_2, if_pos hc9_5]), N0, rfl⟩
    · have k7 : ∀ tg_, Steps p.tables e below (s₁.setTop (mkF m 15 #[.val (.int b0)] [(.int (13 : Int32)), (.int b0)])) tg_ → Steps p.tables e below (s₁.setTop (entryFrame m #[(.int b0)] 1)) tg_ := by
        intro tg_ kt
        refine k4 tg_ ?_
        refine XS.icmpNo X0.here hx rfl (hb hby d7_9) rfl (feq hc9_5).1 ?_
        show Steps p.tables e below (s₁.setTop (mkF m 12 #[.val (.int b0)] [])) _
        refine XS.iloadN X0.here hx rfl (hb hby d7_12) rfl ?_
        show Steps p.tables e below (s₁.setTop (mkF m 13 #[.val (.int b0)] [(.int b0)])) _
        refine XS.bipush X0.here hx rfl (hb hby d7_13) ?_
        show Steps p.tables e below (s₁.setTop (mkF m 15 #[.val (.int b0)] [(.int (13 : Int32)), (.int b0)])) _
        exact kt
      by_cases hc15_8 : b0 = (13 : Int32)
      · have k9 : ∀ tg_, Steps p.tables e below (s₁.setTop (mkF m 29 #[.val (.int b0)] [(.int (0 : Int32))])) tg_ → Steps p.tables e below (s₁.setTop (entryFrame m #[(.int b0)] 1)) tg_ := by
          intro tg_ kt
          refine k7 tg_ ?_
          refine XS.icmpYes X0.here hx rfl (pc0 := 15) (pc' := 28) rfl (hb hby d7_15) rfl (teq hc15_8).1 (by decide) (by decide) ?_
          show Steps p.tables e below (s₁.setTop (mkF m 28 #[.val (.int b0)] [])) _
          refine XS.iconst X0.here hx rfl (hb hby d7_28) ?_
          show Steps p.tables e below (s₁.setTop (mkF m 29 #[.val (.int b0)] [(.int (0 : Int32))])) _
          exact kt
        obtain ⟨fs, hr, hrun, hended, hW, hsame⟩ := X0.leave (v := some (.int (0 : Int32))) (fun h => by rw [Bd.returns] at h; cases h) (hlocks := by first | exact BodyLoose.notSynchronized Bd | exact Body.notSynchronized Bd)
        refine ⟨_, _, k9 _ (retN X0 hx (t := .boolean) Bd.returns (by simp) (hb hby d7_29) hr), hrun, hended, _, _, rfl, ?_, ⟨_, rfl⟩, hW, hsame.mono (by decide) (by decide)⟩
        show Q7 Z b0 h0 n0 _ s₁.heap _
        rw [e0]
        exact ⟨(by rw [own_eq_own_ns]; rw [if_neg hc3_2, if_neg hc9_5, if_pos hc15_8]), N0, rfl⟩
      · have k10 : ∀ tg_, Steps p.tables e below (s₁.setTop (mkF m 21 #[.val (.int b0)] [(.int (10 : Int32)), (.int b0)])) tg_ → Steps p.tables e below (s₁.setTop (entryFrame m #[(.int b0)] 1)) tg_ := by
          intro tg_ kt
          refine k7 tg_ ?_
          refine XS.icmpNo X0.here hx rfl (hb hby d7_15) rfl (feq hc15_8).1 ?_
          show Steps p.tables e below (s₁.setTop (mkF m 18 #[.val (.int b0)] [])) _
          refine XS.iloadN X0.here hx rfl (hb hby d7_18) rfl ?_
          show Steps p.tables e below (s₁.setTop (mkF m 19 #[.val (.int b0)] [(.int b0)])) _
          refine XS.bipush X0.here hx rfl (hb hby d7_19) ?_
          show Steps p.tables e below (s₁.setTop (mkF m 21 #[.val (.int b0)] [(.int (10 : Int32)), (.int b0)])) _
          exact kt
        by_cases hc21_11 : b0 = (10 : Int32)
        · have k12 : ∀ tg_, Steps p.tables e below (s₁.setTop (mkF m 29 #[.val (.int b0)] [(.int (0 : Int32))])) tg_ → Steps p.tables e below (s₁.setTop (entryFrame m #[(.int b0)] 1)) tg_ := by
            intro tg_ kt
            refine k10 tg_ ?_
            refine XS.icmpYes X0.here hx rfl (pc0 := 21) (pc' := 28) rfl (hb hby d7_21) rfl (teq hc21_11).1 (by decide) (by decide) ?_
            show Steps p.tables e below (s₁.setTop (mkF m 28 #[.val (.int b0)] [])) _
            refine XS.iconst X0.here hx rfl (hb hby d7_28) ?_
            show Steps p.tables e below (s₁.setTop (mkF m 29 #[.val (.int b0)] [(.int (0 : Int32))])) _
            exact kt
          obtain ⟨fs, hr, hrun, hended, hW, hsame⟩ := X0.leave (v := some (.int (0 : Int32))) (fun h => by rw [Bd.returns] at h; cases h) (hlocks := by first | exact BodyLoose.notSynchronized Bd | exact Body.notSynchronized Bd)
          refine ⟨_, _, k12 _ (retN X0 hx (t := .boolean) Bd.returns (by simp) (hb hby d7_29) hr), hrun, hended, _, _, rfl, ?_, ⟨_, rfl⟩, hW, hsame.mono (by decide) (by decide)⟩
          show Q7 Z b0 h0 n0 _ s₁.heap _
          rw [e0]
          exact ⟨(by rw [own_eq_own_ns]; rw [if_neg hc3_2, if_neg hc9_5, if_neg hc15_8, if_pos hc21_11]), N0, rfl⟩
        · have k13 : ∀ tg_, Steps p.tables e below (s₁.setTop (mkF m 29 #[.val (.int b0)] [(.int (1 : Int32))])) tg_ → Steps p.tables e below (s₁.setTop (entryFrame m #[(.int b0)] 1)) tg_ := by
            intro tg_ kt
            refine k10 tg_ ?_
            refine XS.icmpNo X0.here hx rfl (hb hby d7_21) rfl (feq hc21_11).1 ?_
            show Steps p.tables e below (s₁.setTop (mkF m 24 #[.val (.int b0)] [])) _
            refine XS.iconst X0.here hx rfl (hb hby d7_24) ?_
            show Steps p.tables e below (s₁.setTop (mkF m 25 #[.val (.int b0)] [(.int (1 : Int32))])) _
            refine XS.goto X0.here hx rfl (pc0 := 25) (pc' := 29) rfl (hb hby d7_25) (by decide) (by decide) ?_
            show Steps p.tables e below (s₁.setTop (mkF m 29 #[.val (.int b0)] [(.int (1 : Int32))])) _
            exact kt
          obtain ⟨fs, hr, hrun, hended, hW, hsame⟩ := X0.leave (v := some (.int (1 : Int32))) (fun h => by rw [Bd.returns] at h; cases h) (hlocks := by first | exact BodyLoose.notSynchronized Bd | exact Body.notSynchronized Bd)
          refine ⟨_, _, k13 _ (retN X0 hx (t := .boolean) Bd.returns (by simp) (hb hby d7_29) hr), hrun, hended, _, _, rfl, ?_, ⟨_, rfl⟩, hW, hsame.mono (by decide) (by decide)⟩
          show Q7 Z b0 h0 n0 _ s₁.heap _
          rw [e0]
          exact ⟨(by rw [own_eq_own_ns]; rw [if_neg hc3_2, if_neg hc9_5, if_neg hc15_8, if_neg hc21_11]), N0, rfl⟩
theorem d14_0 : decode prog_23_method_19_code 0 = .ok (.iload_n 0, 1) := by decide +kernel
theorem d14_1 : decode prog_23_method_19_code 1 = .ok (.bipush 48, 2) := by decide +kernel
theorem d14_3 : decode prog_23_method_19_code 3 = .ok (.if_icmp .lt 13, 3) := by decide +kernel
theorem d14_6 : decode prog_23_method_19_code 6 = .ok (.iload_n 0, 1) := by decide +kernel
theorem d14_7 : decode prog_23_method_19_code 7 = .ok (.bipush 57, 2) := by decide +kernel
theorem d14_9 : decode prog_23_method_19_code 9 = .ok (.if_icmp .gt 7, 3) := by decide +kernel
theorem d14_12 : decode prog_23_method_19_code 12 = .ok (.iconst 1, 1) := by decide +kernel
theorem d14_13 : decode prog_23_method_19_code 13 = .ok (.goto 4, 3) := by decide +kernel
theorem d14_16 : decode prog_23_method_19_code 16 = .ok (.iconst 0, 1) := by decide +kernel
theorem d14_17 : decode prog_23_method_19_code 17 = .ok (.ireturn, 1) := by decide +kernel
theorem pn_14 : plainName "com/example/benzer/benzer/cli/JsonReader" = true := by first | (simp [plainName, overriddenIn]; done) | decide +kernel
theorem ef_14 (m : MethodId) (x0 : Int32) : entryFrame m #[(.int x0)] 1 = mkF m 0 #[.val (.int x0)] [] := by first | (simp [entryFrame, mkF, argsToLocals, Value.category]; done) | rfl
def own_dg (b0 : Int32) : Int32 := (if b0 < (48 : Int32) then (0 : Int32) else (if (57 : Int32) < b0 then (0 : Int32) else (1 : Int32)))
theorem own_eq_own_dg (b0 : Int32) : own_dg b0 = (if b0 < (48 : Int32) then (0 : Int32) else (if (57 : Int32) < b0 then (0 : Int32) else (1 : Int32))) := rfl
def Q14 (Z : State) (b0 : Int32) (h0 : Heap) (n0 : Nat) (rv_ : Option Value) (h : Heap) (LL_ : List Loc) : Prop := rv_ = some (.int (own_dg b0)) ∧ Fr n0 LL_ ∧ h = h0
set_option maxRecDepth 65536 in
set_option maxHeartbeats 40000000 in
theorem rm14 (l : Launch) (Z : State) (a0 : Array Value) (hw : ∀ d ∈ tables_1, d.before a0 Z = true) (ws : List Jvm.Cond) (b0 : Int32) (h0 : Heap) (n0 : Nat) :
    MetFree l (⟨"com/example/benzer/benzer/cli/JsonReader", "isDigit", "(B)Z"⟩ : MethodName) (head1 (Jvm.Cond.code (⟨"com/example/benzer/benzer/cli/JsonReader", "isDigit", "(B)Z"⟩ : MethodName) prog_23_method_19_code 1 (some .boolean) :: ws) ({ frames := 0, cells := 0, slots := 0, locals := 0 } : Room)) (fun aa UU => aa = #[(.int b0)] ∧ Z.Warmed39 UU.vm ∧ UU.heap = h0) (fun _ _ _ _ _ => True) (fun _ UU oo UV => ∃ vv LL, oo = .returned vv ∧ Q14 Z b0 h0 n0 vv UV.heap LL ∧ FrameEnd UU oo UV LL ({ frames := 0, cells := 0, slots := 0, locals := 0 } : Room).cells ({ frames := 0, cells := 0, slots := 0, locals := 0 } : Room).slots) := by
  refine MetFree.of_bodySF (plainFor_of_name pn_14) hisR ?_
  intro p e s m args below meth c s₁ Bd hml0 hP hK
  obtain ⟨rfl, hZ, hh⟩ := hP
  have hx := Bd.exec
  have hby := Bd.bytes
  have hml : c.maxLocals = 1 := hml0
  have hown : s.vm.findClass "com/example/benzer/benzer/cli/JsonReader" = some m.cls := findClass_of_methodNamed Bd.named
  have hnm := (name_of_methodNamed Bd.named Bd.method).1
  have X0 : Stand p l e ({ frames := 0, cells := 0, slots := 0, locals := 0 } : Room) s m #[(.int b0)] below meth c s₁ [] 0 0 := Stand.of_body Bd
  have e0 : s₁.heap = h0 := by rw [← hh, Bd.state]; rfl
  have N0 := Fr.nil n0
  have k0 : ∀ tg_, Steps p.tables e below (s₁.setTop (mkF m 0 #[.val (.int b0)] [])) tg_ → Steps p.tables e below (s₁.setTop (entryFrame m #[(.int b0)] 1)) tg_ := fun tg_ k => castTop (ef_14 m b0) k
  have k14 : ∀ tg_, Steps p.tables e below (s₁.setTop (mkF m 3 #[.val (.int b0)] [(.int (48 : Int32)), (.int b0)])) tg_ → Steps p.tables e below (s₁.setTop (entryFrame m #[(.int b0)] 1)) tg_ := by
    intro tg_ kt
    refine k0 tg_ ?_
    refine XS.iloadN X0.here hx rfl (hb hby d14_0) rfl ?_
    show Steps p.tables e below (s₁.setTop (mkF m 1 #[.val (.int b0)] [(.int b0)])) _
    refine XS.bipush X0.here hx rfl (hb hby d14_1) ?_
    show Steps p.tables e below (s₁.setTop (mkF m 3 #[.val (.int b0)] [(.int (48 : Int32)), (.int b0)])) _
    exact kt
  by_cases hc3_15 : b0 < (48 : Int32)
  · have k16 : ∀ tg_, Steps p.tables e below (s₁.setTop (mkF m 17 #[.val (.int b0)] [(.int (0 : Int32))])) tg_ → Steps p.tables e below (s₁.setTop (entryFrame m #[(.int b0)] 1)) tg_ := by
      intro tg_ kt
      refine k14 tg_ ?_
      refine XS.icmpYes X0.here hx rfl (pc0 := 3) (pc' := 16) rfl (hb hby d14_3) rfl (tlt hc3_15).1 (by decide) (by decide) ?_
      show Steps p.tables e below (s₁.setTop (mkF m 16 #[.val (.int b0)] [])) _
      refine XS.iconst X0.here hx rfl (hb hby d14_16) ?_
      show Steps p.tables e below (s₁.setTop (mkF m 17 #[.val (.int b0)] [(.int (0 : Int32))])) _
      exact kt
    obtain ⟨fs, hr, hrun, hended, hW, hsame⟩ := X0.leave (v := some (.int (0 : Int32))) (fun h => by rw [Bd.returns] at h; cases h) (hlocks := by first | exact BodyLoose.notSynchronized Bd | exact Body.notSynchronized Bd)
    refine ⟨_, _, k16 _ (retN X0 hx (t := .boolean) Bd.returns (by simp) (hb hby d14_17) hr), hrun, hended, _, _, rfl, ?_, ⟨_, rfl⟩, hW, hsame.mono (by decide) (by decide)⟩
    show Q14 Z b0 h0 n0 _ s₁.heap _
    rw [e0]
    exact ⟨(by rw [own_eq_own_dg]; rw [if_pos hc3_15]), N0, rfl⟩
  · have k17 : ∀ tg_, Steps p.tables e below (s₁.setTop (mkF m 9 #[.val (.int b0)] [(.int (57 : Int32)), (.int b0)])) tg_ → Steps p.tables e below (s₁.setTop (entryFrame m #[(.int b0)] 1)) tg_ := by
      intro tg_ kt
      refine k14 tg_ ?_
      refine XS.icmpNo X0.here hx rfl (hb hby d14_3) rfl (flt hc3_15).1 ?_
      show Steps p.tables e below (s₁.setTop (mkF m 6 #[.val (.int b0)] [])) _
      refine XS.iloadN X0.here hx rfl (hb hby d14_6) rfl ?_
      show Steps p.tables e below (s₁.setTop (mkF m 7 #[.val (.int b0)] [(.int b0)])) _
      refine XS.bipush X0.here hx rfl (hb hby d14_7) ?_
      show Steps p.tables e below (s₁.setTop (mkF m 9 #[.val (.int b0)] [(.int (57 : Int32)), (.int b0)])) _
      exact kt
    by_cases hc9_18 : (57 : Int32) < b0
    · have k19 : ∀ tg_, Steps p.tables e below (s₁.setTop (mkF m 17 #[.val (.int b0)] [(.int (0 : Int32))])) tg_ → Steps p.tables e below (s₁.setTop (entryFrame m #[(.int b0)] 1)) tg_ := by
        intro tg_ kt
        refine k17 tg_ ?_
        refine XS.icmpYes X0.here hx rfl (pc0 := 9) (pc' := 16) rfl (hb hby d14_9) rfl (tlt hc9_18).2.2.1 (by decide) (by decide) ?_
        show Steps p.tables e below (s₁.setTop (mkF m 16 #[.val (.int b0)] [])) _
        refine XS.iconst X0.here hx rfl (hb hby d14_16) ?_
        show Steps p.tables e below (s₁.setTop (mkF m 17 #[.val (.int b0)] [(.int (0 : Int32))])) _
        exact kt
      obtain ⟨fs, hr, hrun, hended, hW, hsame⟩ := X0.leave (v := some (.int (0 : Int32))) (fun h => by rw [Bd.returns] at h; cases h) (hlocks := by first | exact BodyLoose.notSynchronized Bd | exact Body.notSynchronized Bd)
      refine ⟨_, _, k19 _ (retN X0 hx (t := .boolean) Bd.returns (by simp) (hb hby d14_17) hr), hrun, hended, _, _, rfl, ?_, ⟨_, rfl⟩, hW, hsame.mono (by decide) (by decide)⟩
      show Q14 Z b0 h0 n0 _ s₁.heap _
      rw [e0]
      exact ⟨(by rw [own_eq_own_dg]; rw [if_neg hc3_15, if_pos hc9_18]), N0, rfl⟩
    · have k20 : ∀ tg_, Steps p.tables e below (s₁.setTop (mkF m 17 #[.val (.int b0)] [(.int (1 : Int32))])) tg_ → Steps p.tables e below (s₁.setTop (entryFrame m #[(.int b0)] 1)) tg_ := by
        intro tg_ kt
        refine k17 tg_ ?_
        refine XS.icmpNo X0.here hx rfl (hb hby d14_9) rfl (flt hc9_18).2.2.1 ?_
        show Steps p.tables e below (s₁.setTop (mkF m 12 #[.val (.int b0)] [])) _
        refine XS.iconst X0.here hx rfl (hb hby d14_12) ?_
        show Steps p.tables e below (s₁.setTop (mkF m 13 #[.val (.int b0)] [(.int (1 : Int32))])) _
        refine XS.goto X0.here hx rfl (pc0 := 13) (pc' := 17) rfl (hb hby d14_13) (by decide) (by decide) ?_
        show Steps p.tables e below (s₁.setTop (mkF m 17 #[.val (.int b0)] [(.int (1 : Int32))])) _
        exact kt
      obtain ⟨fs, hr, hrun, hended, hW, hsame⟩ := X0.leave (v := some (.int (1 : Int32))) (fun h => by rw [Bd.returns] at h; cases h) (hlocks := by first | exact BodyLoose.notSynchronized Bd | exact Body.notSynchronized Bd)
      refine ⟨_, _, k20 _ (retN X0 hx (t := .boolean) Bd.returns (by simp) (hb hby d14_17) hr), hrun, hended, _, _, rfl, ?_, ⟨_, rfl⟩, hW, hsame.mono (by decide) (by decide)⟩
      show Q14 Z b0 h0 n0 _ s₁.heap _
      rw [e0]
      exact ⟨(by rw [own_eq_own_dg]; rw [if_neg hc3_15, if_neg hc9_18]), N0, rfl⟩
theorem pd_6 : parseMethodDescriptor "(B)Z" = some ⟨[.byte], some .boolean⟩ := by decide +kernel
theorem d16_0 : decode prog_23_method_20_code 0 = .ok (.iload_n 0, 1) := by decide +kernel
theorem d16_1 : decode prog_23_method_20_code 1 = .ok (.invokestatic 44, 3) := by decide +kernel
theorem d16_4 : decode prog_23_method_20_code 4 = .ok (.ifCond .ne 27, 3) := by decide +kernel
theorem d16_7 : decode prog_23_method_20_code 7 = .ok (.iload_n 0, 1) := by decide +kernel
theorem d16_8 : decode prog_23_method_20_code 8 = .ok (.bipush 97, 2) := by decide +kernel
theorem d16_10 : decode prog_23_method_20_code 10 = .ok (.if_icmp .lt 9, 3) := by decide +kernel
theorem d16_13 : decode prog_23_method_20_code 13 = .ok (.iload_n 0, 1) := by decide +kernel
theorem d16_14 : decode prog_23_method_20_code 14 = .ok (.bipush 122, 2) := by decide +kernel
theorem d16_16 : decode prog_23_method_20_code 16 = .ok (.if_icmp .le 15, 3) := by decide +kernel
theorem d16_19 : decode prog_23_method_20_code 19 = .ok (.iload_n 0, 1) := by decide +kernel
theorem d16_20 : decode prog_23_method_20_code 20 = .ok (.bipush 65, 2) := by decide +kernel
theorem d16_22 : decode prog_23_method_20_code 22 = .ok (.if_icmp .lt 13, 3) := by decide +kernel
theorem d16_25 : decode prog_23_method_20_code 25 = .ok (.iload_n 0, 1) := by decide +kernel
theorem d16_26 : decode prog_23_method_20_code 26 = .ok (.bipush 90, 2) := by decide +kernel
theorem d16_28 : decode prog_23_method_20_code 28 = .ok (.if_icmp .gt 7, 3) := by decide +kernel
theorem d16_31 : decode prog_23_method_20_code 31 = .ok (.iconst 1, 1) := by decide +kernel
theorem d16_32 : decode prog_23_method_20_code 32 = .ok (.goto 4, 3) := by decide +kernel
theorem d16_35 : decode prog_23_method_20_code 35 = .ok (.iconst 0, 1) := by decide +kernel
theorem d16_36 : decode prog_23_method_20_code 36 = .ok (.ireturn, 1) := by decide +kernel
theorem pn_16 : plainName "com/example/benzer/benzer/cli/JsonReader" = true := by first | (simp [plainName, overriddenIn]; done) | decide +kernel
theorem ef_16 (m : MethodId) (x0 : Int32) : entryFrame m #[(.int x0)] 1 = mkF m 0 #[.val (.int x0)] [] := by first | (simp [entryFrame, mkF, argsToLocals, Value.category]; done) | rfl
def own_wc (b0 : Int32) : Int32 := (if (own_dg b0) = (0 : Int32) then (if b0 < (97 : Int32) then (if b0 < (65 : Int32) then (0 : Int32) else (if (90 : Int32) < b0 then (0 : Int32) else (1 : Int32))) else (if (122 : Int32) < b0 then (if b0 < (65 : Int32) then (0 : Int32) else (if (90 : Int32) < b0 then (0 : Int32) else (1 : Int32))) else (1 : Int32))) else (1 : Int32))
theorem own_eq_own_wc (b0 : Int32) : own_wc b0 = (if (own_dg b0) = (0 : Int32) then (if b0 < (97 : Int32) then (if b0 < (65 : Int32) then (0 : Int32) else (if (90 : Int32) < b0 then (0 : Int32) else (1 : Int32))) else (if (122 : Int32) < b0 then (if b0 < (65 : Int32) then (0 : Int32) else (if (90 : Int32) < b0 then (0 : Int32) else (1 : Int32))) else (1 : Int32))) else (1 : Int32)) := rfl
def Q16 (Z : State) (b0 : Int32) (h0 : Heap) (n0 : Nat) (rv_ : Option Value) (h : Heap) (LL_ : List Loc) : Prop := rv_ = some (.int (own_wc b0)) ∧ Fr n0 LL_ ∧ h = h0
set_option maxRecDepth 65536 in
set_option maxHeartbeats 40000000 in
theorem rm16 (l : Launch) (Z : State) (a0 : Array Value) (hw : ∀ d ∈ tables_1, d.before a0 Z = true) (ws : List Jvm.Cond) (b0 : Int32) (h0 : Heap) (n0 : Nat) :
    MetFree l (⟨"com/example/benzer/benzer/cli/JsonReader", "isWordChar", "(B)Z"⟩ : MethodName) (head1 (Jvm.Cond.code (⟨"com/example/benzer/benzer/cli/JsonReader", "isWordChar", "(B)Z"⟩ : MethodName) prog_23_method_20_code 1 (some .boolean) :: ws) ({ frames := 1, cells := 0, slots := 0, locals := 12 } : Room)) (fun aa UU => aa = #[(.int b0)] ∧ Z.Warmed39 UU.vm ∧ UU.heap = h0) (fun _ _ _ _ _ => True) (fun _ UU oo UV => ∃ vv LL, oo = .returned vv ∧ Q16 Z b0 h0 n0 vv UV.heap LL ∧ FrameEnd UU oo UV LL ({ frames := 1, cells := 0, slots := 0, locals := 12 } : Room).cells ({ frames := 1, cells := 0, slots := 0, locals := 12 } : Room).slots) := by
  refine MetFree.of_bodySF (plainFor_of_name pn_16) hisR ?_
  intro p e s m args below meth c s₁ Bd hml0 hP hK
  obtain ⟨rfl, hZ, hh⟩ := hP
  have hx := Bd.exec
  have hby := Bd.bytes
  have hml : c.maxLocals = 1 := hml0
  have hown : s.vm.findClass "com/example/benzer/benzer/cli/JsonReader" = some m.cls := findClass_of_methodNamed Bd.named
  have hnm := (name_of_methodNamed Bd.named Bd.method).1
  have X0 : Stand p l e ({ frames := 1, cells := 0, slots := 0, locals := 12 } : Room) s m #[(.int b0)] below meth c s₁ [] 0 0 := Stand.of_body Bd
  have e0 : s₁.heap = h0 := by rw [← hh, Bd.state]; rfl
  have N0 := Fr.nil n0
  have k0 : ∀ tg_, Steps p.tables e below (s₁.setTop (mkF m 0 #[.val (.int b0)] [])) tg_ → Steps p.tables e below (s₁.setTop (entryFrame m #[(.int b0)] 1)) tg_ := fun tg_ k => castTop (ef_16 m b0) k
  obtain ⟨_, _, ⟨T21, L21, kc21, nc21⟩, -, X21, ⟨Lc21, hQ21, l21, y21, z21⟩, st21⟩ := Jvm.LawKit.callS X0 hx (y := (⟨"com/example/benzer/benzer/cli/JsonReader", "isDigit", "(B)Z"⟩ : MethodName)) hown (mvT hZ (hw _ (List.mem_of_getElem? (i := 77) rfl))) (mvT hZ (hw _ (List.mem_of_getElem? (i := 78) rfl))) (mvT hZ (hw _ (List.mem_of_getElem? (i := 43) rfl))) (mvT hZ (hw _ (List.mem_of_getElem? (i := 79) rfl))) (by decide) (backOf (W := 0) (rm14 l Z a0 hw [] b0 h0 n0 ) hZ (hw _ (List.mem_of_getElem? (i := 79) rfl)) (hw _ (List.mem_of_getElem? (i := 43) rfl)) (by decide) (by decide)) (g := (mkF m 1 #[.val (.int b0)] [(.int b0)])) rfl (by rw [hml]; rfl) (argsL := [(.int b0)]) (rest := []) (lenOf pd_6 rfl) rfl (by show 2 * 0 + _ ≤ _; exact Nat.le_of_eq rfl) (hb hby d16_1) (fun _ _ => ⟨rfl, e0, (by decide : 0 + 0 ≤ _), (by decide : 0 + 0 ≤ _)⟩)
  dsimp only [Pt.U, Pt.locs, Pt.cells, Pt.slots] at X21 l21 y21 z21 st21 hQ21
  rw [l21, y21, z21] at X21
  replace X21 : Stand p l e ({ frames := 1, cells := 0, slots := 0, locals := 12 } : Room) s m #[(.int b0)] below meth c T21 _ 0 0 := X21
  obtain ⟨rfl, Nq21, eq21⟩ := hQ21
  have N21 := Fr.app N0 Nq21
  have k22 : ∀ tg_, Steps p.tables e below (T21.setTop (mkF m 4 #[.val (.int b0)] [(.int (own_dg b0))])) tg_ → Steps p.tables e below (s₁.setTop (entryFrame m #[(.int b0)] 1)) tg_ := by
    intro tg_ kt
    refine k0 tg_ ?_
    refine XS.iloadN X0.here hx rfl (hb hby d16_0) rfl ?_
    show Steps p.tables e below (s₁.setTop (mkF m 1 #[.val (.int b0)] [(.int b0)])) _
    refine st21 _ ?_
    show Steps p.tables e below (T21.setTop (mkF m 4 #[.val (.int b0)] [(.int (own_dg b0))])) _
    exact kt
  by_cases hc4_23 : (own_dg b0) = (0 : Int32)
  · have k24 : ∀ tg_, Steps p.tables e below (T21.setTop (mkF m 10 #[.val (.int b0)] [(.int (97 : Int32)), (.int b0)])) tg_ → Steps p.tables e below (s₁.setTop (entryFrame m #[(.int b0)] 1)) tg_ := by
      intro tg_ kt
      refine k22 tg_ ?_
      refine XS.ifNo X21.here hx rfl (hb hby d16_4) rfl ((if0 _ _).trans (teq hc4_23).2) ?_
      show Steps p.tables e below (T21.setTop (mkF m 7 #[.val (.int b0)] [])) _
      refine XS.iloadN X21.here hx rfl (hb hby d16_7) rfl ?_
      show Steps p.tables e below (T21.setTop (mkF m 8 #[.val (.int b0)] [(.int b0)])) _
      refine XS.bipush X21.here hx rfl (hb hby d16_8) ?_
      show Steps p.tables e below (T21.setTop (mkF m 10 #[.val (.int b0)] [(.int (97 : Int32)), (.int b0)])) _
      exact kt
    by_cases hc10_25 : b0 < (97 : Int32)
    · have k26 : ∀ tg_, Steps p.tables e below (T21.setTop (mkF m 22 #[.val (.int b0)] [(.int (65 : Int32)), (.int b0)])) tg_ → Steps p.tables e below (s₁.setTop (entryFrame m #[(.int b0)] 1)) tg_ := by
        intro tg_ kt
        refine k24 tg_ ?_
        refine XS.icmpYes X21.here hx rfl (pc0 := 10) (pc' := 19) rfl (hb hby d16_10) rfl (tlt hc10_25).1 (by decide) (by decide) ?_
        show Steps p.tables e below (T21.setTop (mkF m 19 #[.val (.int b0)] [])) _
        refine XS.iloadN X21.here hx rfl (hb hby d16_19) rfl ?_
        show Steps p.tables e below (T21.setTop (mkF m 20 #[.val (.int b0)] [(.int b0)])) _
        refine XS.bipush X21.here hx rfl (hb hby d16_20) ?_
        show Steps p.tables e below (T21.setTop (mkF m 22 #[.val (.int b0)] [(.int (65 : Int32)), (.int b0)])) _
        exact kt
      by_cases hc22_27 : b0 < (65 : Int32)
      · have k28 : ∀ tg_, Steps p.tables e below (T21.setTop (mkF m 36 #[.val (.int b0)] [(.int (0 : Int32))])) tg_ → Steps p.tables e below (s₁.setTop (entryFrame m #[(.int b0)] 1)) tg_ := by
          intro tg_ kt
          refine k26 tg_ ?_
          refine XS.icmpYes X21.here hx rfl (pc0 := 22) (pc' := 35) rfl (hb hby d16_22) rfl (tlt hc22_27).1 (by decide) (by decide) ?_
          show Steps p.tables e below (T21.setTop (mkF m 35 #[.val (.int b0)] [])) _
          refine XS.iconst X21.here hx rfl (hb hby d16_35) ?_
          show Steps p.tables e below (T21.setTop (mkF m 36 #[.val (.int b0)] [(.int (0 : Int32))])) _
          exact kt
        obtain ⟨fs, hr, hrun, hended, hW, hsame⟩ := X21.leave (v := some (.int (0 : Int32))) (fun h => by rw [Bd.returns] at h; cases h) (hlocks := by first | exact BodyLoose.notSynchronized Bd | exact Body.notSynchronized Bd)
        refine ⟨_, _, k28 _ (retN X21 hx (t := .boolean) Bd.returns (by simp) (hb hby d16_36) hr), hrun, hended, _, _, rfl, ?_, ⟨_, rfl⟩, hW, hsame.mono (by decide) (by decide)⟩
        show Q16 Z b0 h0 n0 _ T21.heap _
        rw [eq21]
        exact ⟨(by rw [own_eq_own_wc]; rw [if_pos hc4_23, if_pos hc10_25, if_pos hc22_27]), N21, rfl⟩
      · have k29 : ∀ tg_, Steps p.tables e below (T21.setTop (mkF m 28 #[.val (.int b0)] [(.int (90 : Int32)), (.int b0)])) tg_ → Steps p.tables e below (s₁.setTop (entryFrame m #[(.int b0)] 1)) tg_ := by
          intro tg_ kt
          refine k26 tg_ ?_
          refine XS.icmpNo X21.here hx rfl (hb hby d16_22) rfl (flt hc22_27).1 ?_
          show Steps p.tables e below (T21.setTop (mkF m 25 #[.val (.int b0)] [])) _
          refine XS.iloadN X21.here hx rfl (hb hby d16_25) rfl ?_
          show Steps p.tables e below (T21.setTop (mkF m 26 #[.val (.int b0)] [(.int b0)])) _
          refine XS.bipush X21.here hx rfl (hb hby d16_26) ?_
          show Steps p.tables e below (T21.setTop (mkF m 28 #[.val (.int b0)] [(.int (90 : Int32)), (.int b0)])) _
          exact kt
        by_cases hc28_30 : (90 : Int32) < b0
        · have k31 : ∀ tg_, Steps p.tables e below (T21.setTop (mkF m 36 #[.val (.int b0)] [(.int (0 : Int32))])) tg_ → Steps p.tables e below (s₁.setTop (entryFrame m #[(.int b0)] 1)) tg_ := by
            intro tg_ kt
            refine k29 tg_ ?_
            refine XS.icmpYes X21.here hx rfl (pc0 := 28) (pc' := 35) rfl (hb hby d16_28) rfl (tlt hc28_30).2.2.1 (by decide) (by decide) ?_
            show Steps p.tables e below (T21.setTop (mkF m 35 #[.val (.int b0)] [])) _
            refine XS.iconst X21.here hx rfl (hb hby d16_35) ?_
            show Steps p.tables e below (T21.setTop (mkF m 36 #[.val (.int b0)] [(.int (0 : Int32))])) _
            exact kt
          obtain ⟨fs, hr, hrun, hended, hW, hsame⟩ := X21.leave (v := some (.int (0 : Int32))) (fun h => by rw [Bd.returns] at h; cases h) (hlocks := by first | exact BodyLoose.notSynchronized Bd | exact Body.notSynchronized Bd)
          refine ⟨_, _, k31 _ (retN X21 hx (t := .boolean) Bd.returns (by simp) (hb hby d16_36) hr), hrun, hended, _, _, rfl, ?_, ⟨_, rfl⟩, hW, hsame.mono (by decide) (by decide)⟩
          show Q16 Z b0 h0 n0 _ T21.heap _
          rw [eq21]
          exact ⟨(by rw [own_eq_own_wc]; rw [if_pos hc4_23, if_pos hc10_25, if_neg hc22_27, if_pos hc28_30]), N21, rfl⟩
        · have k32 : ∀ tg_, Steps p.tables e below (T21.setTop (mkF m 36 #[.val (.int b0)] [(.int (1 : Int32))])) tg_ → Steps p.tables e below (s₁.setTop (entryFrame m #[(.int b0)] 1)) tg_ := by
            intro tg_ kt
            refine k29 tg_ ?_
            refine XS.icmpNo X21.here hx rfl (hb hby d16_28) rfl (flt hc28_30).2.2.1 ?_
            show Steps p.tables e below (T21.setTop (mkF m 31 #[.val (.int b0)] [])) _
            refine XS.iconst X21.here hx rfl (hb hby d16_31) ?_
            show Steps p.tables e below (T21.setTop (mkF m 32 #[.val (.int b0)] [(.int (1 : Int32))])) _
            refine XS.goto X21.here hx rfl (pc0 := 32) (pc' := 36) rfl (hb hby d16_32) (by decide) (by decide) ?_
            show Steps p.tables e below (T21.setTop (mkF m 36 #[.val (.int b0)] [(.int (1 : Int32))])) _
            exact kt
          obtain ⟨fs, hr, hrun, hended, hW, hsame⟩ := X21.leave (v := some (.int (1 : Int32))) (fun h => by rw [Bd.returns] at h; cases h) (hlocks := by first | exact BodyLoose.notSynchronized Bd | exact Body.notSynchronized Bd)
          refine ⟨_, _, k32 _ (retN X21 hx (t := .boolean) Bd.returns (by simp) (hb hby d16_36) hr), hrun, hended, _, _, rfl, ?_, ⟨_, rfl⟩, hW, hsame.mono (by decide) (by decide)⟩
          show Q16 Z b0 h0 n0 _ T21.heap _
          rw [eq21]
          exact ⟨(by rw [own_eq_own_wc]; rw [if_pos hc4_23, if_pos hc10_25, if_neg hc22_27, if_neg hc28_30]), N21, rfl⟩
    · have k33 : ∀ tg_, Steps p.tables e below (T21.setTop (mkF m 16 #[.val (.int b0)] [(.int (122 : Int32)), (.int b0)])) tg_ → Steps p.tables e below (s₁.setTop (entryFrame m #[(.int b0)] 1)) tg_ := by
        intro tg_ kt
        refine k24 tg_ ?_
        refine XS.icmpNo X21.here hx rfl (hb hby d16_10) rfl (flt hc10_25).1 ?_
        show Steps p.tables e below (T21.setTop (mkF m 13 #[.val (.int b0)] [])) _
        refine XS.iloadN X21.here hx rfl (hb hby d16_13) rfl ?_
        show Steps p.tables e below (T21.setTop (mkF m 14 #[.val (.int b0)] [(.int b0)])) _
        refine XS.bipush X21.here hx rfl (hb hby d16_14) ?_
        show Steps p.tables e below (T21.setTop (mkF m 16 #[.val (.int b0)] [(.int (122 : Int32)), (.int b0)])) _
        exact kt
      by_cases hc16_34 : (122 : Int32) < b0
      · have k35 : ∀ tg_, Steps p.tables e below (T21.setTop (mkF m 22 #[.val (.int b0)] [(.int (65 : Int32)), (.int b0)])) tg_ → Steps p.tables e below (s₁.setTop (entryFrame m #[(.int b0)] 1)) tg_ := by
          intro tg_ kt
          refine k33 tg_ ?_
          refine XS.icmpNo X21.here hx rfl (hb hby d16_16) rfl (tlt hc16_34).2.2.2 ?_
          show Steps p.tables e below (T21.setTop (mkF m 19 #[.val (.int b0)] [])) _
          refine XS.iloadN X21.here hx rfl (hb hby d16_19) rfl ?_
          show Steps p.tables e below (T21.setTop (mkF m 20 #[.val (.int b0)] [(.int b0)])) _
          refine XS.bipush X21.here hx rfl (hb hby d16_20) ?_
          show Steps p.tables e below (T21.setTop (mkF m 22 #[.val (.int b0)] [(.int (65 : Int32)), (.int b0)])) _
          exact kt
        by_cases hc22_36 : b0 < (65 : Int32)
        · have k37 : ∀ tg_, Steps p.tables e below (T21.setTop (mkF m 36 #[.val (.int b0)] [(.int (0 : Int32))])) tg_ → Steps p.tables e below (s₁.setTop (entryFrame m #[(.int b0)] 1)) tg_ := by
            intro tg_ kt
            refine k35 tg_ ?_
            refine XS.icmpYes X21.here hx rfl (pc0 := 22) (pc' := 35) rfl (hb hby d16_22) rfl (tlt hc22_36).1 (by decide) (by decide) ?_
            show Steps p.tables e below (T21.setTop (mkF m 35 #[.val (.int b0)] [])) _
            refine XS.iconst X21.here hx rfl (hb hby d16_35) ?_
            show Steps p.tables e below (T21.setTop (mkF m 36 #[.val (.int b0)] [(.int (0 : Int32))])) _
            exact kt
          obtain ⟨fs, hr, hrun, hended, hW, hsame⟩ := X21.leave (v := some (.int (0 : Int32))) (fun h => by rw [Bd.returns] at h; cases h) (hlocks := by first | exact BodyLoose.notSynchronized Bd | exact Body.notSynchronized Bd)
          refine ⟨_, _, k37 _ (retN X21 hx (t := .boolean) Bd.returns (by simp) (hb hby d16_36) hr), hrun, hended, _, _, rfl, ?_, ⟨_, rfl⟩, hW, hsame.mono (by decide) (by decide)⟩
          show Q16 Z b0 h0 n0 _ T21.heap _
          rw [eq21]
          exact ⟨(by rw [own_eq_own_wc]; rw [if_pos hc4_23, if_neg hc10_25, if_pos hc16_34, if_pos hc22_36]), N21, rfl⟩
        · have k38 : ∀ tg_, Steps p.tables e below (T21.setTop (mkF m 28 #[.val (.int b0)] [(.int (90 : Int32)), (.int b0)])) tg_ → Steps p.tables e below (s₁.setTop (entryFrame m #[(.int b0)] 1)) tg_ := by
            intro tg_ kt
            refine k35 tg_ ?_
            refine XS.icmpNo X21.here hx rfl (hb hby d16_22) rfl (flt hc22_36).1 ?_
            show Steps p.tables e below (T21.setTop (mkF m 25 #[.val (.int b0)] [])) _
            refine XS.iloadN X21.here hx rfl (hb hby d16_25) rfl ?_
            show Steps p.tables e below (T21.setTop (mkF m 26 #[.val (.int b0)] [(.int b0)])) _
            refine XS.bipush X21.here hx rfl (hb hby d16_26) ?_
            show Steps p.tables e below (T21.setTop (mkF m 28 #[.val (.int b0)] [(.int (90 : Int32)), (.int b0)])) _
            exact kt
          by_cases hc28_39 : (90 : Int32) < b0
          · have k40 : ∀ tg_, Steps p.tables e below (T21.setTop (mkF m 36 #[.val (.int b0)] [(.int (0 : Int32))])) tg_ → Steps p.tables e below (s₁.setTop (entryFrame m #[(.int b0)] 1)) tg_ := by
              intro tg_ kt
              refine k38 tg_ ?_
              refine XS.icmpYes X21.here hx rfl (pc0 := 28) (pc' := 35) rfl (hb hby d16_28) rfl (tlt hc28_39).2.2.1 (by decide) (by decide) ?_
              show Steps p.tables e below (T21.setTop (mkF m 35 #[.val (.int b0)] [])) _
              refine XS.iconst X21.here hx rfl (hb hby d16_35) ?_
              show Steps p.tables e below (T21.setTop (mkF m 36 #[.val (.int b0)] [(.int (0 : Int32))])) _
              exact kt
            obtain ⟨fs, hr, hrun, hended, hW, hsame⟩ := X21.leave (v := some (.int (0 : Int32))) (fun h => by rw [Bd.returns] at h; cases h) (hlocks := by first | exact BodyLoose.notSynchronized Bd | exact Body.notSynchronized Bd)
            refine ⟨_, _, k40 _ (retN X21 hx (t := .boolean) Bd.returns (by simp) (hb hby d16_36) hr), hrun, hended, _, _, rfl, ?_, ⟨_, rfl⟩, hW, hsame.mono (by decide) (by decide)⟩
            show Q16 Z b0 h0 n0 _ T21.heap _
            rw [eq21]
            exact ⟨(by rw [own_eq_own_wc]; rw [if_pos hc4_23, if_neg hc10_25, if_pos hc16_34, if_neg hc22_36, if_pos hc28_39]), N21, rfl⟩
          · have k41 : ∀ tg_, Steps p.tables e below (T21.setTop (mkF m 36 #[.val (.int b0)] [(.int (1 : Int32))])) tg_ → Steps p.tables e below (s₁.setTop (entryFrame m #[(.int b0)] 1)) tg_ := by
              intro tg_ kt
              refine k38 tg_ ?_
              refine XS.icmpNo X21.here hx rfl (hb hby d16_28) rfl (flt hc28_39).2.2.1 ?_
              show Steps p.tables e below (T21.setTop (mkF m 31 #[.val (.int b0)] [])) _
              refine XS.iconst X21.here hx rfl (hb hby d16_31) ?_
              show Steps p.tables e below (T21.setTop (mkF m 32 #[.val (.int b0)] [(.int (1 : Int32))])) _
              refine XS.goto X21.here hx rfl (pc0 := 32) (pc' := 36) rfl (hb hby d16_32) (by decide) (by decide) ?_
              show Steps p.tables e below (T21.setTop (mkF m 36 #[.val (.int b0)] [(.int (1 : Int32))])) _
              exact kt
            obtain ⟨fs, hr, hrun, hended, hW, hsame⟩ := X21.leave (v := some (.int (1 : Int32))) (fun h => by rw [Bd.returns] at h; cases h) (hlocks := by first | exact BodyLoose.notSynchronized Bd | exact Body.notSynchronized Bd)
            refine ⟨_, _, k41 _ (retN X21 hx (t := .boolean) Bd.returns (by simp) (hb hby d16_36) hr), hrun, hended, _, _, rfl, ?_, ⟨_, rfl⟩, hW, hsame.mono (by decide) (by decide)⟩
            show Q16 Z b0 h0 n0 _ T21.heap _
            rw [eq21]
            exact ⟨(by rw [own_eq_own_wc]; rw [if_pos hc4_23, if_neg hc10_25, if_pos hc16_34, if_neg hc22_36, if_neg hc28_39]), N21, rfl⟩
      · have k42 : ∀ tg_, Steps p.tables e below (T21.setTop (mkF m 36 #[.val (.int b0)] [(.int (1 : Int32))])) tg_ → Steps p.tables e below (s₁.setTop (entryFrame m #[(.int b0)] 1)) tg_ := by
          intro tg_ kt
          refine k33 tg_ ?_
          refine XS.icmpYes X21.here hx rfl (pc0 := 16) (pc' := 31) rfl (hb hby d16_16) rfl (flt hc16_34).2.2.2 (by decide) (by decide) ?_
          show Steps p.tables e below (T21.setTop (mkF m 31 #[.val (.int b0)] [])) _
          refine XS.iconst X21.here hx rfl (hb hby d16_31) ?_
          show Steps p.tables e below (T21.setTop (mkF m 32 #[.val (.int b0)] [(.int (1 : Int32))])) _
          refine XS.goto X21.here hx rfl (pc0 := 32) (pc' := 36) rfl (hb hby d16_32) (by decide) (by decide) ?_
          show Steps p.tables e below (T21.setTop (mkF m 36 #[.val (.int b0)] [(.int (1 : Int32))])) _
          exact kt
        obtain ⟨fs, hr, hrun, hended, hW, hsame⟩ := X21.leave (v := some (.int (1 : Int32))) (fun h => by rw [Bd.returns] at h; cases h) (hlocks := by first | exact BodyLoose.notSynchronized Bd | exact Body.notSynchronized Bd)
        refine ⟨_, _, k42 _ (retN X21 hx (t := .boolean) Bd.returns (by simp) (hb hby d16_36) hr), hrun, hended, _, _, rfl, ?_, ⟨_, rfl⟩, hW, hsame.mono (by decide) (by decide)⟩
        show Q16 Z b0 h0 n0 _ T21.heap _
        rw [eq21]
        exact ⟨(by rw [own_eq_own_wc]; rw [if_pos hc4_23, if_neg hc10_25, if_neg hc16_34]), N21, rfl⟩
  · have k43 : ∀ tg_, Steps p.tables e below (T21.setTop (mkF m 36 #[.val (.int b0)] [(.int (1 : Int32))])) tg_ → Steps p.tables e below (s₁.setTop (entryFrame m #[(.int b0)] 1)) tg_ := by
      intro tg_ kt
      refine k22 tg_ ?_
      refine XS.ifYes X21.here hx rfl (pc0 := 4) (pc' := 31) rfl (hb hby d16_4) rfl ((if0 _ _).trans (feq hc4_23).2) (by decide) (by decide) ?_
      show Steps p.tables e below (T21.setTop (mkF m 31 #[.val (.int b0)] [])) _
      refine XS.iconst X21.here hx rfl (hb hby d16_31) ?_
      show Steps p.tables e below (T21.setTop (mkF m 32 #[.val (.int b0)] [(.int (1 : Int32))])) _
      refine XS.goto X21.here hx rfl (pc0 := 32) (pc' := 36) rfl (hb hby d16_32) (by decide) (by decide) ?_
      show Steps p.tables e below (T21.setTop (mkF m 36 #[.val (.int b0)] [(.int (1 : Int32))])) _
      exact kt
    obtain ⟨fs, hr, hrun, hended, hW, hsame⟩ := X21.leave (v := some (.int (1 : Int32))) (fun h => by rw [Bd.returns] at h; cases h) (hlocks := by first | exact BodyLoose.notSynchronized Bd | exact Body.notSynchronized Bd)
    refine ⟨_, _, k43 _ (retN X21 hx (t := .boolean) Bd.returns (by simp) (hb hby d16_36) hr), hrun, hended, _, _, rfl, ?_, ⟨_, rfl⟩, hW, hsame.mono (by decide) (by decide)⟩
    show Q16 Z b0 h0 n0 _ T21.heap _
    rw [eq21]
    exact ⟨(by rw [own_eq_own_wc]; rw [if_neg hc4_23]), N21, rfl⟩
theorem d25_0 : decode jdk_29_method_69_code 0 = .ok (.iload_n 0, 1) := by decide +kernel
theorem d25_1 : decode jdk_29_method_69_code 1 = .ok (.iload_n 1, 1) := by decide +kernel
theorem d25_2 : decode jdk_29_method_69_code 2 = .ok (.if_icmp .gt 7, 3) := by decide +kernel
theorem d25_5 : decode jdk_29_method_69_code 5 = .ok (.iload_n 0, 1) := by decide +kernel
theorem d25_6 : decode jdk_29_method_69_code 6 = .ok (.goto 4, 3) := by decide +kernel
theorem d25_9 : decode jdk_29_method_69_code 9 = .ok (.iload_n 1, 1) := by decide +kernel
theorem d25_10 : decode jdk_29_method_69_code 10 = .ok (.ireturn, 1) := by decide +kernel
theorem ef_25 (m : MethodId) (x0 : Int32) (x1 : Int32) : entryFrame m #[(.int x0), (.int x1)] 2 = mkF m 0 #[.val (.int x0), .val (.int x1)] [] := by first | (simp [entryFrame, mkF, argsToLocals, Value.category]; done) | rfl
def own_min (x0 : Int32) (y0 : Int32) : Int32 := (if y0 < x0 then y0 else x0)
theorem own_eq_own_min (x0 : Int32) (y0 : Int32) : own_min x0 y0 = (if y0 < x0 then y0 else x0) := rfl
def Q25 (Z : State) (x0 : Int32) (y0 : Int32) (h0 : Heap) (n0 : Nat) (rv_ : Option Value) (h : Heap) (LL_ : List Loc) : Prop := rv_ = some (.int (own_min x0 y0)) ∧ Fr n0 LL_ ∧ h = h0
set_option maxRecDepth 65536 in
set_option maxHeartbeats 40000000 in
theorem rm25 (l : Launch) (Z : State) (a0 : Array Value) (hw : ∀ d ∈ tables_1, d.before a0 Z = true) (ws : List Jvm.Cond) (x0 : Int32) (y0 : Int32) (h0 : Heap) (n0 : Nat) :
    MetFree l (⟨"java/lang/Math", "min", "(II)I"⟩ : MethodName) (head1 (Jvm.Cond.code (⟨"java/lang/Math", "min", "(II)I"⟩ : MethodName) jdk_29_method_69_code 2 (some .int) :: ws) ({ frames := 0, cells := 0, slots := 0, locals := 0 } : Room)) (fun aa UU => aa = #[(.int x0), (.int y0)] ∧ Z.Warmed39 UU.vm ∧ UU.heap = h0) (fun _ _ _ _ _ => True) (fun _ UU oo UV => ∃ vv LL, oo = .returned vv ∧ Q25 Z x0 y0 h0 n0 vv UV.heap LL ∧ FrameEnd UU oo UV LL ({ frames := 0, cells := 0, slots := 0, locals := 0 } : Room).cells ({ frames := 0, cells := 0, slots := 0, locals := 0 } : Room).slots) := by
  refine MetFree.of_bodySF (Jvm.Free.JP.mathPlain rfl (by decide +kernel)) hisR ?_
  intro p e s m args below meth c s₁ Bd hml0 hP hK
  obtain ⟨rfl, hZ, hh⟩ := hP
  have hx := Bd.exec
  have hby := Bd.bytes
  have hml : c.maxLocals = 2 := hml0
  have hown : s.vm.findClass "java/lang/Math" = some m.cls := findClass_of_methodNamed Bd.named
  have hnm := (name_of_methodNamed Bd.named Bd.method).1
  have X0 : Stand p l e ({ frames := 0, cells := 0, slots := 0, locals := 0 } : Room) s m #[(.int x0), (.int y0)] below meth c s₁ [] 0 0 := Stand.of_body Bd
  have e0 : s₁.heap = h0 := by rw [← hh, Bd.state]; rfl
  have N0 := Fr.nil n0
  have k0 : ∀ tg_, Steps p.tables e below (s₁.setTop (mkF m 0 #[.val (.int x0), .val (.int y0)] [])) tg_ → Steps p.tables e below (s₁.setTop (entryFrame m #[(.int x0), (.int y0)] 2)) tg_ := fun tg_ k => castTop (ef_25 m x0 y0) k
  have k44 : ∀ tg_, Steps p.tables e below (s₁.setTop (mkF m 2 #[.val (.int x0), .val (.int y0)] [(.int y0), (.int x0)])) tg_ → Steps p.tables e below (s₁.setTop (entryFrame m #[(.int x0), (.int y0)] 2)) tg_ := by
    intro tg_ kt
    refine k0 tg_ ?_
    refine XS.iloadN X0.here hx rfl (hb hby d25_0) rfl ?_
    show Steps p.tables e below (s₁.setTop (mkF m 1 #[.val (.int x0), .val (.int y0)] [(.int x0)])) _
    refine XS.iloadN X0.here hx rfl (hb hby d25_1) rfl ?_
    show Steps p.tables e below (s₁.setTop (mkF m 2 #[.val (.int x0), .val (.int y0)] [(.int y0), (.int x0)])) _
    exact kt
  by_cases hc2_45 : y0 < x0
  · have k46 : ∀ tg_, Steps p.tables e below (s₁.setTop (mkF m 10 #[.val (.int x0), .val (.int y0)] [(.int y0)])) tg_ → Steps p.tables e below (s₁.setTop (entryFrame m #[(.int x0), (.int y0)] 2)) tg_ := by
      intro tg_ kt
      refine k44 tg_ ?_
      refine XS.icmpYes X0.here hx rfl (pc0 := 2) (pc' := 9) rfl (hb hby d25_2) rfl (tlt hc2_45).2.2.1 (by decide) (by decide) ?_
      show Steps p.tables e below (s₁.setTop (mkF m 9 #[.val (.int x0), .val (.int y0)] [])) _
      refine XS.iloadN X0.here hx rfl (hb hby d25_9) rfl ?_
      show Steps p.tables e below (s₁.setTop (mkF m 10 #[.val (.int x0), .val (.int y0)] [(.int y0)])) _
      exact kt
    obtain ⟨fs, hr, hrun, hended, hW, hsame⟩ := X0.leave (v := some (.int y0)) (fun h => by rw [Bd.returns] at h; cases h) (hlocks := by first | exact BodyLoose.notSynchronized Bd | exact Body.notSynchronized Bd)
    refine ⟨_, _, k46 _ (retI X0 hx Bd.returns (hb hby d25_10) hr), hrun, hended, _, _, rfl, ?_, ⟨_, rfl⟩, hW, hsame.mono (by decide) (by decide)⟩
    show Q25 Z x0 y0 h0 n0 _ s₁.heap _
    rw [e0]
    exact ⟨(by rw [own_eq_own_min]; rw [if_pos hc2_45]), N0, rfl⟩
  · have k47 : ∀ tg_, Steps p.tables e below (s₁.setTop (mkF m 10 #[.val (.int x0), .val (.int y0)] [(.int x0)])) tg_ → Steps p.tables e below (s₁.setTop (entryFrame m #[(.int x0), (.int y0)] 2)) tg_ := by
      intro tg_ kt
      refine k44 tg_ ?_
      refine XS.icmpNo X0.here hx rfl (hb hby d25_2) rfl (flt hc2_45).2.2.1 ?_
      show Steps p.tables e below (s₁.setTop (mkF m 5 #[.val (.int x0), .val (.int y0)] [])) _
      refine XS.iloadN X0.here hx rfl (hb hby d25_5) rfl ?_
      show Steps p.tables e below (s₁.setTop (mkF m 6 #[.val (.int x0), .val (.int y0)] [(.int x0)])) _
      refine XS.goto X0.here hx rfl (pc0 := 6) (pc' := 10) rfl (hb hby d25_6) (by decide) (by decide) ?_
      show Steps p.tables e below (s₁.setTop (mkF m 10 #[.val (.int x0), .val (.int y0)] [(.int x0)])) _
      exact kt
    obtain ⟨fs, hr, hrun, hended, hW, hsame⟩ := X0.leave (v := some (.int x0)) (fun h => by rw [Bd.returns] at h; cases h) (hlocks := by first | exact BodyLoose.notSynchronized Bd | exact Body.notSynchronized Bd)
    refine ⟨_, _, k47 _ (retI X0 hx Bd.returns (hb hby d25_10) hr), hrun, hended, _, _, rfl, ?_, ⟨_, rfl⟩, hW, hsame.mono (by decide) (by decide)⟩
    show Q25 Z x0 y0 h0 n0 _ s₁.heap _
    rw [e0]
    exact ⟨(by rw [own_eq_own_min]; rw [if_neg hc2_45]), N0, rfl⟩
theorem d6_0 : decode jdk_41_method_11_code 0 = .ok (.iload_n 0, 1) := by decide +kernel
theorem d6_1 : decode jdk_41_method_11_code 1 = .ok (.ifCond .lt 8, 3) := by decide +kernel
theorem d6_4 : decode jdk_41_method_11_code 4 = .ok (.iload_n 0, 1) := by decide +kernel
theorem d6_5 : decode jdk_41_method_11_code 5 = .ok (.iload_n 1, 1) := by decide +kernel
theorem d6_6 : decode jdk_41_method_11_code 6 = .ok (.if_icmp .lt 10, 3) := by decide +kernel
theorem d6_16 : decode jdk_41_method_11_code 16 = .ok (.iload_n 0, 1) := by decide +kernel
theorem d6_17 : decode jdk_41_method_11_code 17 = .ok (.ireturn, 1) := by decide +kernel
theorem pn_6 : plainName "jdk/internal/util/Preconditions" = true := by first | (simp [plainName, overriddenIn]; done) | decide +kernel
theorem ef_6 (m : MethodId) (x0 : Int32) (x1 : Int32) (x2 : Value) (hfm : x2.isRef = true) : entryFrame m #[(.int x0), (.int x1), x2] 3 = mkF m 0 #[.val (.int x0), .val (.int x1), .val x2] [] := by rcases ref_cases hfm with rfl | ⟨q, rfl⟩ <;> first | (simp [entryFrame, mkF, argsToLocals, Value.category]; done) | rfl
def Q6 (Z : State) (i : Int32) (n : Int32) (fm : Value) (h0 : Heap) (n0 : Nat) (rv_ : Option Value) (h : Heap) (LL_ : List Loc) : Prop := rv_ = some (.int i) ∧ Fr n0 LL_ ∧ h = h0
set_option maxRecDepth 65536 in
set_option maxHeartbeats 40000000 in
theorem rm6 (l : Launch) (Z : State) (a0 : Array Value) (hw : ∀ d ∈ tables_1, d.before a0 Z = true) (ws : List Jvm.Cond) (i : Int32) (n : Int32) (fm : Value) (h0 : Heap) (n0 : Nat) (hfm : fm.isRef = true) (h0i : ¬ i < (0 : Int32)) (hin : i < n) :
    MetFree l (⟨"jdk/internal/util/Preconditions", "checkIndex", "(IILjava/util/function/BiFunction;)I"⟩ : MethodName) (head1 (Jvm.Cond.code (⟨"jdk/internal/util/Preconditions", "checkIndex", "(IILjava/util/function/BiFunction;)I"⟩ : MethodName) jdk_41_method_11_code 3 (some .int) :: ws) ({ frames := 0, cells := 0, slots := 0, locals := 0 } : Room)) (fun aa UU => aa = #[(.int i), (.int n), fm] ∧ Z.Warmed39 UU.vm ∧ UU.heap = h0) (fun _ _ _ _ _ => True) (fun _ UU oo UV => ∃ vv LL, oo = .returned vv ∧ Q6 Z i n fm h0 n0 vv UV.heap LL ∧ FrameEnd UU oo UV LL ({ frames := 0, cells := 0, slots := 0, locals := 0 } : Room).cells ({ frames := 0, cells := 0, slots := 0, locals := 0 } : Room).slots) := by
  refine MetFree.of_bodySF (plainFor_of_name pn_6) hisR ?_
  intro p e s m args below meth c s₁ Bd hml0 hP hK
  obtain ⟨rfl, hZ, hh⟩ := hP
  have hx := Bd.exec
  have hby := Bd.bytes
  have hml : c.maxLocals = 3 := hml0
  have hown : s.vm.findClass "jdk/internal/util/Preconditions" = some m.cls := findClass_of_methodNamed Bd.named
  have hnm := (name_of_methodNamed Bd.named Bd.method).1
  have X0 : Stand p l e ({ frames := 0, cells := 0, slots := 0, locals := 0 } : Room) s m #[(.int i), (.int n), fm] below meth c s₁ [] 0 0 := Stand.of_body Bd
  have e0 : s₁.heap = h0 := by rw [← hh, Bd.state]; rfl
  have N0 := Fr.nil n0
  have k0 : ∀ tg_, Steps p.tables e below (s₁.setTop (mkF m 0 #[.val (.int i), .val (.int n), .val fm] [])) tg_ → Steps p.tables e below (s₁.setTop (entryFrame m #[(.int i), (.int n), fm] 3)) tg_ := fun tg_ k => castTop (ef_6 m i n fm hfm) k
  have hc1_48 : ¬ (i < (0 : Int32)) := h0i
  have hc6_49 : i < n := hin
  have k50 : ∀ tg_, Steps p.tables e below (s₁.setTop (mkF m 17 #[.val (.int i), .val (.int n), .val fm] [(.int i)])) tg_ → Steps p.tables e below (s₁.setTop (entryFrame m #[(.int i), (.int n), fm] 3)) tg_ := by
    intro tg_ kt
    refine k0 tg_ ?_
    refine XS.iloadN X0.here hx rfl (hb hby d6_0) rfl ?_
    show Steps p.tables e below (s₁.setTop (mkF m 1 #[.val (.int i), .val (.int n), .val fm] [(.int i)])) _
    refine XS.ifNo X0.here hx rfl (hb hby d6_1) rfl ((if0 _ _).trans (flt hc1_48).1) ?_
    show Steps p.tables e below (s₁.setTop (mkF m 4 #[.val (.int i), .val (.int n), .val fm] [])) _
    refine XS.iloadN X0.here hx rfl (hb hby d6_4) rfl ?_
    show Steps p.tables e below (s₁.setTop (mkF m 5 #[.val (.int i), .val (.int n), .val fm] [(.int i)])) _
    refine XS.iloadN X0.here hx rfl (hb hby d6_5) rfl ?_
    show Steps p.tables e below (s₁.setTop (mkF m 6 #[.val (.int i), .val (.int n), .val fm] [(.int n), (.int i)])) _
    refine XS.icmpYes X0.here hx rfl (pc0 := 6) (pc' := 16) rfl (hb hby d6_6) rfl (tlt hc6_49).1 (by decide) (by decide) ?_
    show Steps p.tables e below (s₁.setTop (mkF m 16 #[.val (.int i), .val (.int n), .val fm] [])) _
    refine XS.iloadN X0.here hx rfl (hb hby d6_16) rfl ?_
    show Steps p.tables e below (s₁.setTop (mkF m 17 #[.val (.int i), .val (.int n), .val fm] [(.int i)])) _
    exact kt
  obtain ⟨fs, hr, hrun, hended, hW, hsame⟩ := X0.leave (v := some (.int i)) (fun h => by rw [Bd.returns] at h; cases h) (hlocks := by first | exact BodyLoose.notSynchronized Bd | exact Body.notSynchronized Bd)
  refine ⟨_, _, k50 _ (retI X0 hx Bd.returns (hb hby d6_17) hr), hrun, hended, _, _, rfl, ?_, ⟨_, rfl⟩, hW, hsame.mono (by decide) (by decide)⟩
  show Q6 Z i n fm h0 n0 _ s₁.heap _
  rw [e0]
  exact ⟨rfl, N0, rfl⟩
theorem pd_5 : parseMethodDescriptor "(IILjava/util/function/BiFunction;)I" = some ⟨[.int, .int, (.object "java/util/function/BiFunction")], some .int⟩ := by decide +kernel
theorem d5_0 : decode jdk_42_method_155_code 0 = .ok (.iload_n 0, 1) := by decide +kernel
theorem d5_1 : decode jdk_42_method_155_code 1 = .ok (.iload_n 1, 1) := by decide +kernel
theorem d5_2 : decode jdk_42_method_155_code 2 = .ok (.getstatic 1053, 3) := by decide +kernel
theorem d5_5 : decode jdk_42_method_155_code 5 = .ok (.invokestatic 1059, 3) := by decide +kernel
theorem d5_8 : decode jdk_42_method_155_code 8 = .ok (.pop, 1) := by decide +kernel
theorem d5_9 : decode jdk_42_method_155_code 9 = .ok (.return_, 1) := by decide +kernel
theorem pn_5 : plainName "java/lang/String" = true := by first | (simp [plainName, overriddenIn]; done) | decide +kernel
theorem ef_5 (m : MethodId) (x0 : Int32) (x1 : Int32) : entryFrame m #[(.int x0), (.int x1)] 2 = mkF m 0 #[.val (.int x0), .val (.int x1)] [] := by first | (simp [entryFrame, mkF, argsToLocals, Value.category]; done) | rfl
def Q5 (Z : State) (i : Int32) (n : Int32) (fm : Value) (h0 : Heap) (n0 : Nat) (rv_ : Option Value) (h : Heap) (LL_ : List Loc) : Prop := rv_ = none ∧ Fr n0 LL_ ∧ h = h0
set_option maxRecDepth 65536 in
set_option maxHeartbeats 40000000 in
theorem rm5 (l : Launch) (Z : State) (a0 : Array Value) (hw : ∀ d ∈ tables_1, d.before a0 Z = true) (ws : List Jvm.Cond) (i : Int32) (n : Int32) (fm : Value) (h0 : Heap) (n0 : Nat) (S_SIOOBE_FORMATTER : Sta Z h0 "jdk/internal/util/Preconditions" "SIOOBE_FORMATTER" "Ljava/util/function/BiFunction;" fm) (hfm : fm.isRef = true) (h0i : ¬ i < (0 : Int32)) (hin : i < n) :
    MetFree l (⟨"java/lang/String", "checkIndex", "(II)V"⟩ : MethodName) (head1 (Jvm.Cond.code (⟨"java/lang/String", "checkIndex", "(II)V"⟩ : MethodName) jdk_42_method_155_code 2 none :: ws) ({ frames := 1, cells := 0, slots := 0, locals := 14 } : Room)) (fun aa UU => aa = #[(.int i), (.int n)] ∧ Z.Warmed39 UU.vm ∧ UU.heap = h0) (fun _ _ _ _ _ => True) (fun _ UU oo UV => ∃ vv LL, oo = .returned vv ∧ Q5 Z i n fm h0 n0 vv UV.heap LL ∧ FrameEnd UU oo UV LL ({ frames := 1, cells := 0, slots := 0, locals := 14 } : Room).cells ({ frames := 1, cells := 0, slots := 0, locals := 14 } : Room).slots) := by
  refine MetFree.of_bodySF (plainFor_of_name pn_5) hisR ?_
  intro p e s m args below meth c s₁ Bd hml0 hP hK
  obtain ⟨rfl, hZ, hh⟩ := hP
  have hx := Bd.exec
  have hby := Bd.bytes
  have hml : c.maxLocals = 2 := hml0
  have hown : s.vm.findClass "java/lang/String" = some m.cls := findClass_of_methodNamed Bd.named
  have hnm := (name_of_methodNamed Bd.named Bd.method).1
  have X0 : Stand p l e ({ frames := 1, cells := 0, slots := 0, locals := 14 } : Room) s m #[(.int i), (.int n)] below meth c s₁ [] 0 0 := Stand.of_body Bd
  have e0 : s₁.heap = h0 := by rw [← hh, Bd.state]; rfl
  have N0 := Fr.nil n0
  have k0 : ∀ tg_, Steps p.tables e below (s₁.setTop (mkF m 0 #[.val (.int i), .val (.int n)] [])) tg_ → Steps p.tables e below (s₁.setTop (entryFrame m #[(.int i), (.int n)] 2)) tg_ := fun tg_ k => castTop (ef_5 m i n) k
  obtain ⟨T51, X51, e51, st51⟩ := getS2 X0 hx hZ hown (host := "") (Or.inl (hw _ (List.mem_of_getElem? (i := 32) rfl))) Via.refl e0 S_SIOOBE_FORMATTER (g := (mkF m 2 #[.val (.int i), .val (.int n)] [(.int n), (.int i)])) rfl (hb hby d5_2)
  obtain ⟨_, _, ⟨T52, L52, kc52, nc52⟩, -, X52, ⟨Lc52, hQ52, l52, y52, z52⟩, st52⟩ := Jvm.LawKit.callS X51 hx (y := (⟨"jdk/internal/util/Preconditions", "checkIndex", "(IILjava/util/function/BiFunction;)I"⟩ : MethodName)) hown (mvT hZ (hw _ (List.mem_of_getElem? (i := 34) rfl))) (mvT hZ (hw _ (List.mem_of_getElem? (i := 35) rfl))) (mvT hZ (hw _ (List.mem_of_getElem? (i := 33) rfl))) (mvT hZ (hw _ (List.mem_of_getElem? (i := 36) rfl))) (by decide) (backOf (W := 0) (rm6 l Z a0 hw [] i n fm h0 n0 hfm h0i hin) hZ (hw _ (List.mem_of_getElem? (i := 36) rfl)) (hw _ (List.mem_of_getElem? (i := 33) rfl)) (by decide) (by decide)) (g := (mkF m 5 #[.val (.int i), .val (.int n)] [fm, (.int n), (.int i)])) rfl (by rw [hml]; rfl) (argsL := [(.int i), (.int n), fm]) (rest := []) (lenOf pd_5 rfl) rfl (by show 2 * 0 + _ ≤ _; exact Nat.le_of_eq rfl) (hb hby d5_5) (fun _ _ => ⟨rfl, e51, (by decide : 0 + 0 ≤ _), (by decide : 0 + 0 ≤ _)⟩)
  dsimp only [Pt.U, Pt.locs, Pt.cells, Pt.slots] at X52 l52 y52 z52 st52 hQ52
  rw [l52, y52, z52] at X52
  replace X52 : Stand p l e ({ frames := 1, cells := 0, slots := 0, locals := 14 } : Room) s m #[(.int i), (.int n)] below meth c T52 _ 0 0 := X52
  obtain ⟨rfl, Nq52, eq52⟩ := hQ52
  have N52 := Fr.app N0 Nq52
  have k53 : ∀ tg_, Steps p.tables e below (T52.setTop (mkF m 9 #[.val (.int i), .val (.int n)] [])) tg_ → Steps p.tables e below (s₁.setTop (entryFrame m #[(.int i), (.int n)] 2)) tg_ := by
    intro tg_ kt
    refine k0 tg_ ?_
    refine XS.iloadN X0.here hx rfl (hb hby d5_0) rfl ?_
    show Steps p.tables e below (s₁.setTop (mkF m 1 #[.val (.int i), .val (.int n)] [(.int i)])) _
    refine XS.iloadN X0.here hx rfl (hb hby d5_1) rfl ?_
    show Steps p.tables e below (s₁.setTop (mkF m 2 #[.val (.int i), .val (.int n)] [(.int n), (.int i)])) _
    refine st51 _ ?_
    show Steps p.tables e below (T51.setTop (mkF m 5 #[.val (.int i), .val (.int n)] [fm, (.int n), (.int i)])) _
    refine st52 _ ?_
    show Steps p.tables e below (T52.setTop (mkF m 8 #[.val (.int i), .val (.int n)] [(.int i)])) _
    refine XS.pop X52.here hx rfl (hb hby d5_8) rfl rfl ?_
    show Steps p.tables e below (T52.setTop (mkF m 9 #[.val (.int i), .val (.int n)] [])) _
    exact kt
  obtain ⟨fs, hr, hrun, hended, hW, hsame⟩ := X52.leave (v := none) (fun _ => rfl) (hlocks := by first | exact BodyLoose.notSynchronized Bd | exact Body.notSynchronized Bd)
  refine ⟨_, _, k53 _ (X52.returnOut hx Bd.returns (hb hby d5_9) hr), hrun, hended, _, _, rfl, ?_, ⟨_, rfl⟩, hW, hsame.mono (by decide) (by decide)⟩
  show Q5 Z i n fm h0 n0 _ T52.heap _
  rw [eq52]
  exact ⟨rfl, N52, rfl⟩
theorem pd_4 : parseMethodDescriptor "(II)V" = some ⟨[.int, .int], none⟩ := by decide +kernel
theorem d4_0 : decode jdk_43_method_2_code 0 = .ok (.iload_n 1, 1) := by decide +kernel
theorem d4_1 : decode jdk_43_method_2_code 1 = .ok (.aload_n 0, 1) := by decide +kernel
theorem d4_2 : decode jdk_43_method_2_code 2 = .ok (.arraylength, 1) := by decide +kernel
theorem d4_3 : decode jdk_43_method_2_code 3 = .ok (.invokestatic 9, 3) := by decide +kernel
theorem d4_6 : decode jdk_43_method_2_code 6 = .ok (.aload_n 0, 1) := by decide +kernel
theorem d4_7 : decode jdk_43_method_2_code 7 = .ok (.iload_n 1, 1) := by decide +kernel
theorem d4_8 : decode jdk_43_method_2_code 8 = .ok (.baload, 1) := by decide +kernel
theorem d4_9 : decode jdk_43_method_2_code 9 = .ok (.sipush 255, 3) := by decide +kernel
theorem d4_12 : decode jdk_43_method_2_code 12 = .ok (.iand, 1) := by decide +kernel
theorem d4_13 : decode jdk_43_method_2_code 13 = .ok (.i2c, 1) := by decide +kernel
theorem d4_14 : decode jdk_43_method_2_code 14 = .ok (.ireturn, 1) := by decide +kernel
theorem pn_4 : plainName "java/lang/StringLatin1" = true := by first | (simp [plainName, overriddenIn]; done) | decide +kernel
theorem ef_4 (m : MethodId) (x0 : Addr) (x1 : Int32) : entryFrame m #[(.ref x0), (.int x1)] 2 = mkF m 0 #[.val (.ref x0), .val (.int x1)] [] := by first | (simp [entryFrame, mkF, argsToLocals, Value.category]; done) | rfl
def Q4 (Z : State) (va : Addr) (i : Int32) (fm : Value) (f : Nat → Int32) (t : Nat) (y : Int32) (h0 : Heap) (n0 : Nat) (rv_ : Option Value) (h : Heap) (LL_ : List Loc) : Prop := rv_ = some (.int y) ∧ Fr n0 LL_ ∧ h = h0
set_option maxRecDepth 65536 in
set_option maxHeartbeats 40000000 in
theorem rm4 (l : Launch) (Z : State) (a0 : Array Value) (hw : ∀ d ∈ tables_1, d.before a0 Z = true) (ws : List Jvm.Cond) (va : Addr) (i : Int32) (fm : Value) (f : Nat → Int32) (t : Nat) (y : Int32) (h0 : Heap) (n0 : Nat) (V_va : own_AI Z h0 va .byte 4 f) (S_SIOOBE_FORMATTER : Sta Z h0 "jdk/internal/util/Preconditions" "SIOOBE_FORMATTER" "Ljava/util/function/BiFunction;" fm) (hfm : fm.isRef = true) (ht : i.toInt = (t : Int)) (ht4 : t < 4) (hy : f t = y) (hyr : y = 110 ∨ y = 117 ∨ y = 108) :
    MetFree l (⟨"java/lang/StringLatin1", "charAt", "([BI)C"⟩ : MethodName) (head1 (Jvm.Cond.code (⟨"java/lang/StringLatin1", "charAt", "([BI)C"⟩ : MethodName) jdk_43_method_2_code 2 (some .char) :: ws) ({ frames := 2, cells := 0, slots := 0, locals := 27 } : Room)) (fun aa UU => aa = #[(.ref va), (.int i)] ∧ Z.Warmed39 UU.vm ∧ UU.heap = h0) (fun _ _ _ _ _ => True) (fun _ UU oo UV => ∃ vv LL, oo = .returned vv ∧ Q4 Z va i fm f t y h0 n0 vv UV.heap LL ∧ FrameEnd UU oo UV LL ({ frames := 2, cells := 0, slots := 0, locals := 27 } : Room).cells ({ frames := 2, cells := 0, slots := 0, locals := 27 } : Room).slots) := by
  refine MetFree.of_bodySF (plainFor_of_name pn_4) hisR ?_
  intro p e s m args below meth c s₁ Bd hml0 hP hK
  obtain ⟨rfl, hZ, hh⟩ := hP
  have hx := Bd.exec
  have hby := Bd.bytes
  have hml : c.maxLocals = 2 := hml0
  have hown : s.vm.findClass "java/lang/StringLatin1" = some m.cls := findClass_of_methodNamed Bd.named
  have hnm := (name_of_methodNamed Bd.named Bd.method).1
  have X0 : Stand p l e ({ frames := 2, cells := 0, slots := 0, locals := 27 } : Room) s m #[(.ref va), (.int i)] below meth c s₁ [] 0 0 := Stand.of_body Bd
  have e0 : s₁.heap = h0 := by rw [← hh, Bd.state]; rfl
  have N0 := Fr.nil n0
  have k0 : ∀ tg_, Steps p.tables e below (s₁.setTop (mkF m 0 #[.val (.ref va), .val (.int i)] [])) tg_ → Steps p.tables e below (s₁.setTop (entryFrame m #[(.ref va), (.int i)] 2)) tg_ := fun tg_ k => castTop (ef_4 m va i) k
  have h0i : ¬ i < (0 : Int32) := (own_idx ht).1
  have hin : i < (4 : Int32) := Int32.lt_iff_toInt_lt.mpr (by rw [ht]; show ((t : Nat) : Int) < 4; omega)
  obtain ⟨_, _, ⟨T54, L54, kc54, nc54⟩, -, X54, ⟨Lc54, hQ54, l54, y54, z54⟩, st54⟩ := Jvm.LawKit.callS X0 hx (y := (⟨"java/lang/String", "checkIndex", "(II)V"⟩ : MethodName)) hown (mvT hZ (hw _ (List.mem_of_getElem? (i := 29) rfl))) (mvT hZ (hw _ (List.mem_of_getElem? (i := 30) rfl))) (mvT hZ (hw _ (List.mem_of_getElem? (i := 6) rfl))) (mvT hZ (hw _ (List.mem_of_getElem? (i := 31) rfl))) (by decide) (backOf (W := 0) (rm5 l Z a0 hw [] i (4 : Int32) fm h0 n0 S_SIOOBE_FORMATTER hfm h0i hin) hZ (hw _ (List.mem_of_getElem? (i := 31) rfl)) (hw _ (List.mem_of_getElem? (i := 6) rfl)) (by decide) (by decide)) (g := (mkF m 3 #[.val (.ref va), .val (.int i)] [(.int (4 : Int32)), (.int i)])) rfl (by rw [hml]; rfl) (argsL := [(.int i), (.int (4 : Int32))]) (rest := []) (lenOf pd_4 rfl) rfl (by show 2 * 0 + _ ≤ _; exact Nat.le_of_eq rfl) (hb hby d4_3) (fun _ _ => ⟨rfl, e0, (by decide : 0 + 0 ≤ _), (by decide : 0 + 0 ≤ _)⟩)
  dsimp only [Pt.U, Pt.locs, Pt.cells, Pt.slots] at X54 l54 y54 z54 st54 hQ54
  rw [l54, y54, z54] at X54
  replace X54 : Stand p l e ({ frames := 2, cells := 0, slots := 0, locals := 27 } : Room) s m #[(.ref va), (.int i)] below meth c T54 _ 0 0 := X54
  obtain ⟨rfl, Nq54, eq54⟩ := hQ54
  have N54 := Fr.app N0 Nq54
  have k55 : ∀ tg_, Steps p.tables e below (T54.setTop (mkF m 14 #[.val (.ref va), .val (.int i)] [(.int ((y &&& (255 : Int32)).toUInt32.toUInt16.toUInt32.toInt32))])) tg_ → Steps p.tables e below (s₁.setTop (entryFrame m #[(.ref va), (.int i)] 2)) tg_ := by
    intro tg_ kt
    refine k0 tg_ ?_
    refine XS.iloadN X0.here hx rfl (hb hby d4_0) rfl ?_
    show Steps p.tables e below (s₁.setTop (mkF m 1 #[.val (.ref va), .val (.int i)] [(.int i)])) _
    refine XS.aloadN X0.here hx rfl (hb hby d4_1) rfl rfl ?_
    show Steps p.tables e below (s₁.setTop (mkF m 2 #[.val (.ref va), .val (.int i)] [(.ref va), (.int i)])) _
    refine own_len X0 hx hZ e0 V_va (z := (4 : Int32)) (by decide) (g := (mkF m 2 #[.val (.ref va), .val (.int i)] [(.ref va), (.int i)])) rfl rfl (hb hby d4_2) _ ?_
    show Steps p.tables e below (s₁.setTop (mkF m 3 #[.val (.ref va), .val (.int i)] [(.int (4 : Int32)), (.int i)])) _
    refine st54 _ ?_
    show Steps p.tables e below (T54.setTop (mkF m 6 #[.val (.ref va), .val (.int i)] [])) _
    refine XS.aloadN X54.here hx rfl (hb hby d4_6) rfl rfl ?_
    show Steps p.tables e below (T54.setTop (mkF m 7 #[.val (.ref va), .val (.int i)] [(.ref va)])) _
    refine XS.iloadN X54.here hx rfl (hb hby d4_7) rfl ?_
    show Steps p.tables e below (T54.setTop (mkF m 8 #[.val (.ref va), .val (.int i)] [(.int i), (.ref va)])) _
    refine own_ldB X54 hx hZ eq54 V_va (i := t) ht ht4 hy (g := (mkF m 8 #[.val (.ref va), .val (.int i)] [(.int i), (.ref va)])) rfl rfl (hb hby d4_8) _ ?_
    show Steps p.tables e below (T54.setTop (mkF m 9 #[.val (.ref va), .val (.int i)] [(.int y)])) _
    refine XS.sipush X54.here hx rfl (hb hby d4_9) ?_
    show Steps p.tables e below (T54.setTop (mkF m 12 #[.val (.ref va), .val (.int i)] [(.int (255 : Int32)), (.int y)])) _
    refine XS.iand X54.here hx rfl (hb hby d4_12) rfl ?_
    show Steps p.tables e below (T54.setTop (mkF m 13 #[.val (.ref va), .val (.int i)] [(.int (y &&& (255 : Int32)))])) _
    refine XS.i2c X54.here hx rfl (hb hby d4_13) rfl ?_
    show Steps p.tables e below (T54.setTop (mkF m 14 #[.val (.ref va), .val (.int i)] [(.int ((y &&& (255 : Int32)).toUInt32.toUInt16.toUInt32.toInt32))])) _
    exact kt
  obtain ⟨fs, hr, hrun, hended, hW, hsame⟩ := X54.leave (v := some (.int (nar .char ((y &&& (255 : Int32)).toUInt32.toUInt16.toUInt32.toInt32)))) (fun h => by rw [Bd.returns] at h; cases h) (hlocks := by first | exact BodyLoose.notSynchronized Bd | exact Body.notSynchronized Bd)
  refine ⟨_, _, k55 _ (retN X54 hx (t := .char) Bd.returns (by simp) (hb hby d4_14) hr), hrun, hended, _, _, rfl, ?_, ⟨_, rfl⟩, hW, hsame.mono (by decide) (by decide)⟩
  show Q4 Z va i fm f t y h0 n0 _ T54.heap _
  rw [eq54]
  exact ⟨(by rcases hyr with rfl | rfl | rfl <;> first | rfl | decide), N54, rfl⟩
theorem d3_0 : decode jdk_42_method_154_code 0 = .ok (.getstatic 38, 3) := by decide +kernel
theorem d3_3 : decode jdk_42_method_154_code 3 = .ok (.ifCond .eq 14, 3) := by decide +kernel
theorem d3_6 : decode jdk_42_method_154_code 6 = .ok (.aload_n 0, 1) := by decide +kernel
theorem d3_7 : decode jdk_42_method_154_code 7 = .ok (.getfield 15, 3) := by decide +kernel
theorem d3_10 : decode jdk_42_method_154_code 10 = .ok (.ifCond .ne 7, 3) := by decide +kernel
theorem d3_13 : decode jdk_42_method_154_code 13 = .ok (.iconst 1, 1) := by decide +kernel
theorem d3_14 : decode jdk_42_method_154_code 14 = .ok (.goto 4, 3) := by decide +kernel
theorem d3_18 : decode jdk_42_method_154_code 18 = .ok (.ireturn, 1) := by decide +kernel
theorem pn_3 : plainName "java/lang/String" = true := by first | (simp [plainName, overriddenIn]; done) | decide +kernel
theorem ef_3 (m : MethodId) (x0 : Addr) : entryFrame m #[(.ref x0)] 1 = mkF m 0 #[.val (.ref x0)] [] := by first | (simp [entryFrame, mkF, argsToLocals, Value.category]; done) | rfl
def Q3 (Z : State) (s0 : Addr) (zc : Int32) (h0 : Heap) (n0 : Nat) (rv_ : Option Value) (h : Heap) (LL_ : List Loc) : Prop := rv_ = some (.int (1 : Int32)) ∧ Fr n0 LL_ ∧ h = h0
set_option maxRecDepth 65536 in
set_option maxHeartbeats 40000000 in
theorem rm3 (l : Launch) (Z : State) (a0 : Array Value) (hw : ∀ d ∈ tables_1, d.before a0 Z = true) (ws : List Jvm.Cond) (s0 : Addr) (zc : Int32) (h0 : Heap) (n0 : Nat) (F_s0_coder : Fld Z h0 s0 "java/lang/String" "coder" "B" (.int (0 : Int32))) (S_COMPACT_STRINGS : Sta Z h0 "java/lang/String" "COMPACT_STRINGS" "Z" (.int zc)) (hz : ¬ zc = (0 : Int32)) :
    MetFree l (⟨"java/lang/String", "isLatin1", "()Z"⟩ : MethodName) (head1 (Jvm.Cond.code (⟨"java/lang/String", "isLatin1", "()Z"⟩ : MethodName) jdk_42_method_154_code 1 (some .boolean) :: ws) ({ frames := 0, cells := 0, slots := 0, locals := 0 } : Room)) (fun aa UU => aa = #[(.ref s0)] ∧ Z.Warmed39 UU.vm ∧ UU.heap = h0) (fun _ _ _ _ _ => True) (fun _ UU oo UV => ∃ vv LL, oo = .returned vv ∧ Q3 Z s0 zc h0 n0 vv UV.heap LL ∧ FrameEnd UU oo UV LL ({ frames := 0, cells := 0, slots := 0, locals := 0 } : Room).cells ({ frames := 0, cells := 0, slots := 0, locals := 0 } : Room).slots) := by
  refine MetFree.of_bodySF (plainFor_of_name pn_3) hisR ?_
  intro p e s m args below meth c s₁ Bd hml0 hP hK
  obtain ⟨rfl, hZ, hh⟩ := hP
  have hx := Bd.exec
  have hby := Bd.bytes
  have hml : c.maxLocals = 1 := hml0
  have hown : s.vm.findClass "java/lang/String" = some m.cls := findClass_of_methodNamed Bd.named
  have hnm := (name_of_methodNamed Bd.named Bd.method).1
  have X0 : Stand p l e ({ frames := 0, cells := 0, slots := 0, locals := 0 } : Room) s m #[(.ref s0)] below meth c s₁ [] 0 0 := Stand.of_body Bd
  have e0 : s₁.heap = h0 := by rw [← hh, Bd.state]; rfl
  have N0 := Fr.nil n0
  have k0 : ∀ tg_, Steps p.tables e below (s₁.setTop (mkF m 0 #[.val (.ref s0)] [])) tg_ → Steps p.tables e below (s₁.setTop (entryFrame m #[(.ref s0)] 1)) tg_ := fun tg_ k => castTop (ef_3 m s0) k
  obtain ⟨T56, X56, e56, st56⟩ := getS2 X0 hx hZ hown (host := "") (Or.inl (hw _ (List.mem_of_getElem? (i := 22) rfl))) Via.refl e0 S_COMPACT_STRINGS (g := (mkF m 0 #[.val (.ref s0)] [])) rfl (hb hby d3_0)
  have hc3_57 : ¬ (zc = (0 : Int32)) := hz
  obtain ⟨T58, X58, e58, st58⟩ := getF X56 hx hZ hown (host := "") (Or.inl (hw _ (List.mem_of_getElem? (i := 23) rfl))) Via.refl e56 F_s0_coder (g := (mkF m 7 #[.val (.ref s0)] [(.ref s0)])) rfl rfl (hb hby d3_7)
  have k59 : ∀ tg_, Steps p.tables e below (T58.setTop (mkF m 18 #[.val (.ref s0)] [(.int (1 : Int32))])) tg_ → Steps p.tables e below (s₁.setTop (entryFrame m #[(.ref s0)] 1)) tg_ := by
    intro tg_ kt
    refine k0 tg_ ?_
    refine st56 _ ?_
    show Steps p.tables e below (T56.setTop (mkF m 3 #[.val (.ref s0)] [(.int zc)])) _
    refine XS.ifNo X56.here hx rfl (hb hby d3_3) rfl ((if0 _ _).trans (feq hc3_57).1) ?_
    show Steps p.tables e below (T56.setTop (mkF m 6 #[.val (.ref s0)] [])) _
    refine XS.aloadN X56.here hx rfl (hb hby d3_6) rfl rfl ?_
    show Steps p.tables e below (T56.setTop (mkF m 7 #[.val (.ref s0)] [(.ref s0)])) _
    refine st58 _ ?_
    show Steps p.tables e below (T58.setTop (mkF m 10 #[.val (.ref s0)] [(.int (0 : Int32))])) _
    refine XS.ifNo X58.here hx rfl (hb hby d3_10) rfl ((if0 _ _).trans (teq (by decide : (0 : Int32) = (0 : Int32))).2) ?_
    show Steps p.tables e below (T58.setTop (mkF m 13 #[.val (.ref s0)] [])) _
    refine XS.iconst X58.here hx rfl (hb hby d3_13) ?_
    show Steps p.tables e below (T58.setTop (mkF m 14 #[.val (.ref s0)] [(.int (1 : Int32))])) _
    refine XS.goto X58.here hx rfl (pc0 := 14) (pc' := 18) rfl (hb hby d3_14) (by decide) (by decide) ?_
    show Steps p.tables e below (T58.setTop (mkF m 18 #[.val (.ref s0)] [(.int (1 : Int32))])) _
    exact kt
  obtain ⟨fs, hr, hrun, hended, hW, hsame⟩ := X58.leave (v := some (.int (1 : Int32))) (fun h => by rw [Bd.returns] at h; cases h) (hlocks := by first | exact BodyLoose.notSynchronized Bd | exact Body.notSynchronized Bd)
  refine ⟨_, _, k59 _ (retN X58 hx (t := .boolean) Bd.returns (by simp) (hb hby d3_18) hr), hrun, hended, _, _, rfl, ?_, ⟨_, rfl⟩, hW, hsame.mono (by decide) (by decide)⟩
  show Q3 Z s0 zc h0 n0 _ T58.heap _
  rw [e58]
  exact ⟨rfl, N0, rfl⟩
theorem pd_2 : parseMethodDescriptor "()Z" = some ⟨[], some .boolean⟩ := by decide +kernel
theorem pd_3 : parseMethodDescriptor "([BI)C" = some ⟨[(.array .byte), .int], some .char⟩ := by decide +kernel
theorem d2_0 : decode jdk_42_method_56_code 0 = .ok (.aload_n 0, 1) := by decide +kernel
theorem d2_1 : decode jdk_42_method_56_code 1 = .ok (.invokevirtual 492, 3) := by decide +kernel
theorem d2_4 : decode jdk_42_method_56_code 4 = .ok (.ifCond .eq 12, 3) := by decide +kernel
theorem d2_7 : decode jdk_42_method_56_code 7 = .ok (.aload_n 0, 1) := by decide +kernel
theorem d2_8 : decode jdk_42_method_56_code 8 = .ok (.getfield 9, 3) := by decide +kernel
theorem d2_11 : decode jdk_42_method_56_code 11 = .ok (.iload_n 1, 1) := by decide +kernel
theorem d2_12 : decode jdk_42_method_56_code 12 = .ok (.invokestatic 495, 3) := by decide +kernel
theorem d2_15 : decode jdk_42_method_56_code 15 = .ok (.ireturn, 1) := by decide +kernel
theorem pn_2 : plainName "java/lang/String" = true := by first | (simp [plainName, overriddenIn]; done) | decide +kernel
theorem ef_2 (m : MethodId) (x0 : Addr) (x1 : Int32) : entryFrame m #[(.ref x0), (.int x1)] 2 = mkF m 0 #[.val (.ref x0), .val (.int x1)] [] := by first | (simp [entryFrame, mkF, argsToLocals, Value.category]; done) | rfl
def Q2 (Z : State) (s0 : Addr) (i : Int32) (zc : Int32) (fm : Value) (va : Addr) (f : Nat → Int32) (t : Nat) (y : Int32) (h0 : Heap) (n0 : Nat) (rv_ : Option Value) (h : Heap) (LL_ : List Loc) : Prop := rv_ = some (.int y) ∧ Fr n0 LL_ ∧ h = h0
set_option maxRecDepth 65536 in
set_option maxHeartbeats 40000000 in
theorem rm2 (l : Launch) (Z : State) (a0 : Array Value) (hw : ∀ d ∈ tables_1, d.before a0 Z = true) (ws : List Jvm.Cond) (s0 : Addr) (i : Int32) (zc : Int32) (fm : Value) (va : Addr) (f : Nat → Int32) (t : Nat) (y : Int32) (h0 : Heap) (n0 : Nat) (E_s0 : Exa Z h0 s0 "java/lang/String") (F_s0_value : Fld Z h0 s0 "java/lang/String" "value" "[B" (.ref va)) (F_s0_coder : Fld Z h0 s0 "java/lang/String" "coder" "B" (.int (0 : Int32))) (V_va : own_AI Z h0 va .byte 4 f) (S_COMPACT_STRINGS : Sta Z h0 "java/lang/String" "COMPACT_STRINGS" "Z" (.int zc)) (S_SIOOBE_FORMATTER : Sta Z h0 "jdk/internal/util/Preconditions" "SIOOBE_FORMATTER" "Ljava/util/function/BiFunction;" fm) (hz : ¬ zc = (0 : Int32)) (hfm : fm.isRef = true) (ht : i.toInt = (t : Int)) (ht4 : t < 4) (hy : f t = y) (hyr : y = 110 ∨ y = 117 ∨ y = 108) :
    MetFree l (⟨"java/lang/String", "charAt", "(I)C"⟩ : MethodName) (head1 (Jvm.Cond.code (⟨"java/lang/String", "charAt", "(I)C"⟩ : MethodName) jdk_42_method_56_code 2 (some .char) :: ws) ({ frames := 3, cells := 0, slots := 0, locals := 40 } : Room)) (fun aa UU => aa = #[(.ref s0), (.int i)] ∧ Z.Warmed39 UU.vm ∧ UU.heap = h0) (fun _ _ _ _ _ => True) (fun _ UU oo UV => ∃ vv LL, oo = .returned vv ∧ Q2 Z s0 i zc fm va f t y h0 n0 vv UV.heap LL ∧ FrameEnd UU oo UV LL ({ frames := 3, cells := 0, slots := 0, locals := 40 } : Room).cells ({ frames := 3, cells := 0, slots := 0, locals := 40 } : Room).slots) := by
  refine MetFree.of_bodySF (plainFor_of_name pn_2) hisR ?_
  intro p e s m args below meth c s₁ Bd hml0 hP hK
  obtain ⟨rfl, hZ, hh⟩ := hP
  have hx := Bd.exec
  have hby := Bd.bytes
  have hml : c.maxLocals = 2 := hml0
  have hown : s.vm.findClass "java/lang/String" = some m.cls := findClass_of_methodNamed Bd.named
  have hnm := (name_of_methodNamed Bd.named Bd.method).1
  have X0 : Stand p l e ({ frames := 3, cells := 0, slots := 0, locals := 40 } : Room) s m #[(.ref s0), (.int i)] below meth c s₁ [] 0 0 := Stand.of_body Bd
  have e0 : s₁.heap = h0 := by rw [← hh, Bd.state]; rfl
  have N0 := Fr.nil n0
  have k0 : ∀ tg_, Steps p.tables e below (s₁.setTop (mkF m 0 #[.val (.ref s0), .val (.int i)] [])) tg_ → Steps p.tables e below (s₁.setTop (entryFrame m #[(.ref s0), (.int i)] 2)) tg_ := fun tg_ k => castTop (ef_2 m s0 i) k
  obtain ⟨cq60, kq60, q60a, q60b, q60c⟩ := isOf hZ e0 E_s0
  obtain ⟨_, _, ⟨T60, L60, kc60, nc60⟩, -, X60, ⟨Lc60, hQ60, l60, y60, z60⟩, st60⟩ := X0.virtualBack hx (y := (⟨"java/lang/String", "isLatin1", "()Z"⟩ : MethodName)) (z := (⟨"java/lang/String", "isLatin1", "()Z"⟩ : MethodName)) hown (mvT hZ (hw _ (List.mem_of_getElem? (i := 17) rfl))) (mvT hZ (hw _ (List.mem_of_getElem? (i := 18) rfl))) (notFace_of_selects (args := #[]) (mvT hZ (hw _ (List.mem_of_getElem? (i := 20) rfl)))) (mvT hZ (hw _ (List.mem_of_getElem? (i := 20) rfl))) (mvT hZ (hw _ (List.mem_of_getElem? (i := 19) rfl))) (by decide) (backOf (W := 0) (rm3 l Z a0 hw [] s0 zc h0 n0 F_s0_coder S_COMPACT_STRINGS hz) hZ (hw _ (List.mem_of_getElem? (i := 21) rfl)) (hw _ (List.mem_of_getElem? (i := 6) rfl)) (by decide) (by decide)) q60a q60c (g := (mkF m 1 #[.val (.ref s0), .val (.int i)] [(.ref s0)])) rfl (by rw [hml]; rfl) (Steps.refl _) (argsL := []) (rest := []) (lenOf pd_2 rfl) rfl (by show 2 * 0 + _ ≤ _; exact Nat.le_of_eq rfl) (hb hby d2_1) (fun _ _ => ⟨rfl, e0, (by decide : 0 + 0 ≤ _), (by decide : 0 + 0 ≤ _)⟩)
  dsimp only [Pt.U, Pt.locs, Pt.cells, Pt.slots] at X60 l60 y60 z60 st60 hQ60
  rw [l60, y60, z60] at X60
  replace X60 : Stand p l e ({ frames := 3, cells := 0, slots := 0, locals := 40 } : Room) s m #[(.ref s0), (.int i)] below meth c T60 _ 0 0 := X60
  obtain ⟨rfl, Nq60, eq60⟩ := hQ60
  have N60 := Fr.app N0 Nq60
  obtain ⟨T61, X61, e61, st61⟩ := getF X60 hx hZ hown (host := "") (Or.inl (hw _ (List.mem_of_getElem? (i := 24) rfl))) Via.refl eq60 F_s0_value (g := (mkF m 8 #[.val (.ref s0), .val (.int i)] [(.ref s0)])) rfl rfl (hb hby d2_8)
  obtain ⟨_, _, ⟨T62, L62, kc62, nc62⟩, -, X62, ⟨Lc62, hQ62, l62, y62, z62⟩, st62⟩ := Jvm.LawKit.callS X61 hx (y := (⟨"java/lang/StringLatin1", "charAt", "([BI)C"⟩ : MethodName)) hown (mvT hZ (hw _ (List.mem_of_getElem? (i := 25) rfl))) (mvT hZ (hw _ (List.mem_of_getElem? (i := 26) rfl))) (mvT hZ (hw _ (List.mem_of_getElem? (i := 27) rfl))) (mvT hZ (hw _ (List.mem_of_getElem? (i := 28) rfl))) (by decide) (backOf (W := 0) (rm4 l Z a0 hw [] va i fm f t y h0 n0 V_va S_SIOOBE_FORMATTER hfm ht ht4 hy hyr) hZ (hw _ (List.mem_of_getElem? (i := 28) rfl)) (hw _ (List.mem_of_getElem? (i := 27) rfl)) (by decide) (by decide)) (g := (mkF m 12 #[.val (.ref s0), .val (.int i)] [(.int i), (.ref va)])) rfl (by rw [hml]; rfl) (argsL := [(.ref va), (.int i)]) (rest := []) (lenOf pd_3 rfl) rfl (by show 2 * 0 + _ ≤ _; exact Nat.le_of_eq rfl) (hb hby d2_12) (fun _ _ => ⟨rfl, e61, (by decide : 0 + 0 ≤ _), (by decide : 0 + 0 ≤ _)⟩)
  dsimp only [Pt.U, Pt.locs, Pt.cells, Pt.slots] at X62 l62 y62 z62 st62 hQ62
  rw [l62, y62, z62] at X62
  replace X62 : Stand p l e ({ frames := 3, cells := 0, slots := 0, locals := 40 } : Room) s m #[(.ref s0), (.int i)] below meth c T62 _ 0 0 := X62
  obtain ⟨rfl, Nq62, eq62⟩ := hQ62
  have N62 := Fr.app N60 Nq62
  have k63 : ∀ tg_, Steps p.tables e below (T62.setTop (mkF m 15 #[.val (.ref s0), .val (.int i)] [(.int y)])) tg_ → Steps p.tables e below (s₁.setTop (entryFrame m #[(.ref s0), (.int i)] 2)) tg_ := by
    intro tg_ kt
    refine k0 tg_ ?_
    refine XS.aloadN X0.here hx rfl (hb hby d2_0) rfl rfl ?_
    show Steps p.tables e below (s₁.setTop (mkF m 1 #[.val (.ref s0), .val (.int i)] [(.ref s0)])) _
    refine st60.trans ?_
    show Steps p.tables e below (T60.setTop (mkF m 4 #[.val (.ref s0), .val (.int i)] [(.int (1 : Int32))])) _
    refine XS.ifNo X60.here hx rfl (hb hby d2_4) rfl ((if0 _ _).trans (feq (by decide : ¬ ((1 : Int32) = (0 : Int32)))).1) ?_
    show Steps p.tables e below (T60.setTop (mkF m 7 #[.val (.ref s0), .val (.int i)] [])) _
    refine XS.aloadN X60.here hx rfl (hb hby d2_7) rfl rfl ?_
    show Steps p.tables e below (T60.setTop (mkF m 8 #[.val (.ref s0), .val (.int i)] [(.ref s0)])) _
    refine st61 _ ?_
    show Steps p.tables e below (T61.setTop (mkF m 11 #[.val (.ref s0), .val (.int i)] [(.ref va)])) _
    refine XS.iloadN X61.here hx rfl (hb hby d2_11) rfl ?_
    show Steps p.tables e below (T61.setTop (mkF m 12 #[.val (.ref s0), .val (.int i)] [(.int i), (.ref va)])) _
    refine st62 _ ?_
    show Steps p.tables e below (T62.setTop (mkF m 15 #[.val (.ref s0), .val (.int i)] [(.int y)])) _
    exact kt
  obtain ⟨fs, hr, hrun, hended, hW, hsame⟩ := X62.leave (v := some (.int (nar .char y))) (fun h => by rw [Bd.returns] at h; cases h) (hlocks := by first | exact BodyLoose.notSynchronized Bd | exact Body.notSynchronized Bd)
  refine ⟨_, _, k63 _ (retN X62 hx (t := .char) Bd.returns (by simp) (hb hby d2_15) hr), hrun, hended, _, _, rfl, ?_, ⟨_, rfl⟩, hW, hsame.mono (by decide) (by decide)⟩
  show Q2 Z s0 i zc fm va f t y h0 n0 _ T62.heap _
  rw [eq62]
  exact ⟨(by rcases hyr with rfl | rfl | rfl <;> first | rfl | decide), N62, rfl⟩
theorem strW : ∀ d ∈ Bundle.stringAtoms, d ∈ tables_1 := by decide +kernel
theorem pd_1 : parseMethodDescriptor "(I)C" = some ⟨[.int], some .char⟩ := by decide +kernel
theorem d1_0 : decode method_3_code 0 = .ok (.iload_n 0, 1) := by decide +kernel
theorem d1_1 : decode method_3_code 1 = .ok (.iload_n 1, 1) := by decide +kernel
theorem d1_2 : decode method_3_code 2 = .ok (.if_icmp .ge 6, 3) := by decide +kernel
theorem d1_5 : decode method_3_code 5 = .ok (.bipush 32, 2) := by decide +kernel
theorem d1_7 : decode method_3_code 7 = .ok (.ireturn, 1) := by decide +kernel
theorem d1_8 : decode method_3_code 8 = .ok (.iload_n 0, 1) := by decide +kernel
theorem d1_9 : decode method_3_code 9 = .ok (.iload_n 1, 1) := by decide +kernel
theorem d1_10 : decode method_3_code 10 = .ok (.iconst 4, 1) := by decide +kernel
theorem d1_11 : decode method_3_code 11 = .ok (.iadd, 1) := by decide +kernel
theorem d1_12 : decode method_3_code 12 = .ok (.if_icmp .ge 13, 3) := by decide +kernel
theorem d1_15 : decode method_3_code 15 = .ok (.ldc 7, 2) := by decide +kernel
theorem d1_17 : decode method_3_code 17 = .ok (.iload_n 0, 1) := by decide +kernel
theorem d1_18 : decode method_3_code 18 = .ok (.iload_n 1, 1) := by decide +kernel
theorem d1_19 : decode method_3_code 19 = .ok (.isub, 1) := by decide +kernel
theorem d1_20 : decode method_3_code 20 = .ok (.invokevirtual 9, 3) := by decide +kernel
theorem d1_23 : decode method_3_code 23 = .ok (.i2b, 1) := by decide +kernel
theorem d1_24 : decode method_3_code 24 = .ok (.ireturn, 1) := by decide +kernel
theorem d1_25 : decode method_3_code 25 = .ok (.bipush 33, 2) := by decide +kernel
theorem d1_27 : decode method_3_code 27 = .ok (.ireturn, 1) := by decide +kernel
theorem pn_1 : plainName "com/example/benzer/benzer/cli/JsonReaderStartPinLaw" = true := by first | (simp [plainName, overriddenIn]; done) | decide +kernel
theorem ef_1 (m : MethodId) (x0 : Int32) (x1 : Int32) : entryFrame m #[(.int x0), (.int x1)] 2 = mkF m 0 #[.val (.int x0), .val (.int x1)] [] := by first | (simp [entryFrame, mkF, argsToLocals, Value.category]; done) | rfl
def Q1 (Z : State) (i : Int32) (pp : Int32) (zc : Int32) (fm : Value) (k : Nat) (j : Nat) (h0 : Heap) (n0 : Nat) (rv_ : Option Value) (h : Heap) (LL_ : List Loc) : Prop := rv_ = some (.int (own_pb i pp)) ∧ Fr n0 LL_ ∧ Keep h0 h []
set_option maxRecDepth 65536 in
set_option maxHeartbeats 40000000 in
theorem rm1 (l : Launch) (Z : State) (a0 : Array Value) (hw : ∀ d ∈ tables_1, d.before a0 Z = true) (ws : List Jvm.Cond) (i : Int32) (pp : Int32) (zc : Int32) (fm : Value) (k : Nat) (j : Nat) (h0 : Heap) (n0 : Nat) (Z0 : n0 ≤ h0.size) (S_COMPACT_STRINGS : Sta Z h0 "java/lang/String" "COMPACT_STRINGS" "Z" (.int zc)) (S_SIOOBE_FORMATTER : Sta Z h0 "jdk/internal/util/Preconditions" "SIOOBE_FORMATTER" "Ljava/util/function/BiFunction;" fm) (hz : ¬ zc = (0 : Int32)) (hfm : fm.isRef = true) (hp : pp.toInt = (k : Int)) (hk3 : k ≤ 3) (hi : i.toInt = (j : Int)) (hj : j < 8) :
    MetFree l (⟨"com/example/benzer/benzer/cli/JsonReaderStartPinLaw", "prevByte", "(II)B"⟩ : MethodName) (head1 (Jvm.Cond.code (⟨"com/example/benzer/benzer/cli/JsonReaderStartPinLaw", "prevByte", "(II)B"⟩ : MethodName) method_3_code 2 (some .byte) :: ws) ({ frames := 4, cells := 2, slots := 20, locals := 53 } : Room)) (fun aa UU => aa = #[(.int i), (.int pp)] ∧ Z.Warmed39 UU.vm ∧ UU.heap = h0 ∧ CHv Z consts_1 UU.vm h0) (fun _ _ _ _ _ => True) (fun _ UU oo UV => ∃ vv LL, oo = .returned vv ∧ Q1 Z i pp zc fm k j h0 n0 vv UV.heap LL ∧ CHr Z consts_1 UU.vm UU.heap UV.vm UV.heap ∧ ReturnedEndW UU oo UV LL ({ frames := 4, cells := 2, slots := 20, locals := 53 } : Room).cells ({ frames := 4, cells := 2, slots := 20, locals := 53 } : Room).slots) := by
  refine MetFree.of_bodySF (plainFor_of_name pn_1) hisR ?_
  intro p e s m args below meth c s₁ Bd hml0 hP hK
  obtain ⟨rfl, hZ, hh, hH0⟩ := hP
  have hx := Bd.exec
  have hby := Bd.bytes
  have hml : c.maxLocals = 2 := hml0
  have hown : s.vm.findClass "com/example/benzer/benzer/cli/JsonReaderStartPinLaw" = some m.cls := findClass_of_methodNamed Bd.named
  have hnm := (name_of_methodNamed Bd.named Bd.method).1
  have X0 : Stand p l e ({ frames := 4, cells := 2, slots := 20, locals := 53 } : Room) s m #[(.int i), (.int pp)] below meth c s₁ [] 0 0 := Stand.of_body Bd
  have e0 : s₁.heap = h0 := by rw [← hh, Bd.state]; rfl
  have N0 := Fr.nil n0
  have k0 : ∀ tg_, Steps p.tables e below (s₁.setTop (mkF m 0 #[.val (.int i), .val (.int pp)] [])) tg_ → Steps p.tables e below (s₁.setTop (entryFrame m #[(.int i), (.int pp)] 2)) tg_ := fun tg_ k => castTop (ef_1 m i pp) k
  have hS0 : s.Since s.vm s.heap.size := (State.WarmedH.refl s).since _
  have hY0 : s.heap.size ≤ h0.size := Nat.le_of_eq (by rw [← hh])
  have hEL : EW Z a0 consts_1 := own_EW hw
  have R0 := CHr.refl hH0
  have k64 : ∀ tg_, Steps p.tables e below (s₁.setTop (mkF m 2 #[.val (.int i), .val (.int pp)] [(.int pp), (.int i)])) tg_ → Steps p.tables e below (s₁.setTop (entryFrame m #[(.int i), (.int pp)] 2)) tg_ := by
    intro tg_ kt
    refine k0 tg_ ?_
    refine XS.iloadN X0.here hx rfl (hb hby d1_0) rfl ?_
    show Steps p.tables e below (s₁.setTop (mkF m 1 #[.val (.int i), .val (.int pp)] [(.int i)])) _
    refine XS.iloadN X0.here hx rfl (hb hby d1_1) rfl ?_
    show Steps p.tables e below (s₁.setTop (mkF m 2 #[.val (.int i), .val (.int pp)] [(.int pp), (.int i)])) _
    exact kt
  by_cases hc2_65 : i < pp
  · have k66 : ∀ tg_, Steps p.tables e below (s₁.setTop (mkF m 7 #[.val (.int i), .val (.int pp)] [(.int (32 : Int32))])) tg_ → Steps p.tables e below (s₁.setTop (entryFrame m #[(.int i), (.int pp)] 2)) tg_ := by
      intro tg_ kt
      refine k64 tg_ ?_
      refine XS.icmpNo X0.here hx rfl (hb hby d1_2) rfl (tlt hc2_65).2.1 ?_
      show Steps p.tables e below (s₁.setTop (mkF m 5 #[.val (.int i), .val (.int pp)] [])) _
      refine XS.bipush X0.here hx rfl (hb hby d1_5) ?_
      show Steps p.tables e below (s₁.setTop (mkF m 7 #[.val (.int i), .val (.int pp)] [(.int (32 : Int32))])) _
      exact kt
    obtain ⟨fs, hr, hrun, hended, hW1, hW2, hW3, hsame⟩ := Stand.leaveW (s := s) (vm₁ := s.vm) X0 hS0 (Nat.le_trans hY0 (Nat.le_of_eq (congrArg Array.size (Eq.symm (show s₁.heap = h0 from e0))))) (v := some (.int (nar .byte (32 : Int32)))) (fun h => by rw [Bd.returns] at h; cases h) (hlocks := by first | exact BodyLoose.notSynchronized Bd | exact Body.notSynchronized Bd)
    have hfin : CHr Z consts_1 s.vm s.heap s₁.vm s₁.heap := by
      rw [hh, show s₁.heap = h0 from e0]
      exact R0.trans (CHv.at (s := s) (vm0 := s.vm) X0 hZ hEL R0.1)
    refine ⟨_, _, k66 _ (retN X0 hx (t := .byte) Bd.returns (by simp) (hb hby d1_7) hr), hrun, hended, _, _, rfl, ?_, hfin, hW1, hW2, hW3, hsame.mono (by decide) (by decide)⟩
    show Q1 Z i pp zc fm k j h0 n0 _ s₁.heap _
    rw [e0]
    exact ⟨(congrArg (fun q => some (Value.int q)) (show (nar .byte (32 : Int32)) = (own_pb i pp) from by rw [own_pb, if_pos hc2_65]; decide)), N0, (Keep.refl h0 [])⟩
  · have k67 : ∀ tg_, Steps p.tables e below (s₁.setTop (mkF m 12 #[.val (.int i), .val (.int pp)] [(.int (pp + (4 : Int32))), (.int i)])) tg_ → Steps p.tables e below (s₁.setTop (entryFrame m #[(.int i), (.int pp)] 2)) tg_ := by
      intro tg_ kt
      refine k64 tg_ ?_
      refine XS.icmpYes X0.here hx rfl (pc0 := 2) (pc' := 8) rfl (hb hby d1_2) rfl (flt hc2_65).2.1 (by decide) (by decide) ?_
      show Steps p.tables e below (s₁.setTop (mkF m 8 #[.val (.int i), .val (.int pp)] [])) _
      refine XS.iloadN X0.here hx rfl (hb hby d1_8) rfl ?_
      show Steps p.tables e below (s₁.setTop (mkF m 9 #[.val (.int i), .val (.int pp)] [(.int i)])) _
      refine XS.iloadN X0.here hx rfl (hb hby d1_9) rfl ?_
      show Steps p.tables e below (s₁.setTop (mkF m 10 #[.val (.int i), .val (.int pp)] [(.int pp), (.int i)])) _
      refine XS.iconst X0.here hx rfl (hb hby d1_10) ?_
      show Steps p.tables e below (s₁.setTop (mkF m 11 #[.val (.int i), .val (.int pp)] [(.int (4 : Int32)), (.int pp), (.int i)])) _
      refine XS.iadd X0.here hx rfl (hb hby d1_11) rfl ?_
      show Steps p.tables e below (s₁.setTop (mkF m 12 #[.val (.int i), .val (.int pp)] [(.int (pp + (4 : Int32))), (.int i)])) _
      exact kt
    by_cases hc12_68 : i < (pp + (4 : Int32))
    · have k69 : ∀ tg_, Steps p.tables e below (s₁.setTop (mkF m 15 #[.val (.int i), .val (.int pp)] [])) tg_ → Steps p.tables e below (s₁.setTop (entryFrame m #[(.int i), (.int pp)] 2)) tg_ := by
        intro tg_ kt
        refine k67 tg_ ?_
        refine XS.icmpNo X0.here hx rfl (hb hby d1_12) rfl (tlt hc12_68).2.1 ?_
        show Steps p.tables e below (s₁.setTop (mkF m 15 #[.val (.int i), .val (.int pp)] [])) _
        exact kt
      obtain ⟨b70, T70, h70, k70, d70, kd70, X70, e70, E70, hS70, hk70, hZ, hown, Ex70, Fc70, Fv70, Av70, -, -, ch70, -, ns70, st70⟩ := ldcCH (s := s) (vm0 := s.vm) X0 hx hZ hown (hw _ (List.mem_of_getElem? (i := 5) rfl)) (fun d hd => hw d (strW d hd)) e0 hS0 hY0 hEL (by decide) R0.1 (vs := ([110, 117, 108, 108] : List Int32).map Value.int) (z := (4 : Int32)) (by decide +kernel) (by decide) (by decide) (g := (mkF m 15 #[.val (.int i), .val (.int pp)] [])) rfl (hb hby d1_15) (n := 16) (by decide) (by decide) (by decide) (by decide)
      have R71 := R0.trans ch70
      replace X70 : Stand p l e ({ frames := 4, cells := 2, slots := 20, locals := 53 } : Room) (s.setVm T70.vm) m #[(.int i), (.int pp)] below meth c T70 _ 2 20 := X70
      have V70 : own_AI Z h70 d70 .byte 4 own_tx_null := own_ofArv Av70 (by decide) (by decide) (by decide)
      have k72 : ∀ tg_, Steps p.tables e below (T70.setTop (mkF m 17 #[.val (.int i), .val (.int pp)] [(.ref b70)])) tg_ → Steps p.tables e below (s₁.setTop (entryFrame m #[(.int i), (.int pp)] 2)) tg_ := by
        intro tg_ kt
        refine k69 tg_ ?_
        refine st70 _ ?_
        show Steps p.tables e below (T70.setTop (mkF m 17 #[.val (.int i), .val (.int pp)] [(.ref b70)])) _
        exact kt
      obtain ⟨t, ht, ht4, htt⟩ := own_pbi hc2_65 hc12_68 hp hk3 hi hj
      have f73 := (own_Sta.keep S_COMPACT_STRINGS ((Keep.refl _ []).ext E70) (fun _ q => nomatch q))
      have f74 := (own_Sta.keep S_SIOOBE_FORMATTER ((Keep.refl _ []).ext E70) (fun _ q => nomatch q))
      obtain ⟨cq75, kq75, q75a, q75b, q75c⟩ := isOf hZ e70 Ex70
      obtain ⟨_, _, ⟨T75, L75, kc75, nc75⟩, -, X75, ⟨Lc75, hQ75, l75, y75, z75⟩, st75⟩ := X70.virtualBack hx (y := (⟨"java/lang/String", "charAt", "(I)C"⟩ : MethodName)) (z := (⟨"java/lang/String", "charAt", "(I)C"⟩ : MethodName)) hown (mvT hZ (hw _ (List.mem_of_getElem? (i := 12) rfl))) (mvT hZ (hw _ (List.mem_of_getElem? (i := 13) rfl))) (notFace_of_selects (args := #[]) (mvT hZ (hw _ (List.mem_of_getElem? (i := 15) rfl)))) (mvT hZ (hw _ (List.mem_of_getElem? (i := 15) rfl))) (mvT hZ (hw _ (List.mem_of_getElem? (i := 14) rfl))) (by decide) (backOf (W := 0) (rm2 l Z a0 hw [] b70 (i - pp) zc fm d70 own_tx_null t (own_tx_null t) h70 n0 Ex70 Fv70 Fc70 V70 f73 f74 hz hfm ht ht4 rfl (own_tx_r ht4)) hZ (hw _ (List.mem_of_getElem? (i := 16) rfl)) (hw _ (List.mem_of_getElem? (i := 6) rfl)) (by decide) (by decide)) q75a q75c (g := (mkF m 20 #[.val (.int i), .val (.int pp)] [(.int (i - pp)), (.ref b70)])) rfl (by rw [hml]; rfl) (Steps.refl _) (argsL := [(.int (i - pp))]) (rest := []) (lenOf pd_1 rfl) rfl (by show 2 * 0 + _ ≤ _; exact Nat.le_of_eq rfl) (hb hby d1_20) (fun _ _ => ⟨rfl, e70, (by decide : 2 + 0 ≤ _), (by decide : 20 + 0 ≤ _)⟩)
      dsimp only [Pt.U, Pt.locs, Pt.cells, Pt.slots] at X75 l75 y75 z75 st75 hQ75
      rw [l75, y75, z75] at X75
      replace X75 : Stand p l e ({ frames := 4, cells := 2, slots := 20, locals := 53 } : Room) (s.setVm T70.vm) m #[(.int i), (.int pp)] below meth c T75 _ 2 20 := X75
      obtain ⟨rfl, Nq75, eq75⟩ := hQ75
      have N75 := Fr.app N0 Nq75
      have k76 : ∀ tg_, Steps p.tables e below (T75.setTop (mkF m 24 #[.val (.int i), .val (.int pp)] [(.int ((own_tx_null t).toInt8.toInt32))])) tg_ → Steps p.tables e below (s₁.setTop (entryFrame m #[(.int i), (.int pp)] 2)) tg_ := by
        intro tg_ kt
        refine k72 tg_ ?_
        refine XS.iloadN X70.here hx rfl (hb hby d1_17) rfl ?_
        show Steps p.tables e below (T70.setTop (mkF m 18 #[.val (.int i), .val (.int pp)] [(.int i), (.ref b70)])) _
        refine XS.iloadN X70.here hx rfl (hb hby d1_18) rfl ?_
        show Steps p.tables e below (T70.setTop (mkF m 19 #[.val (.int i), .val (.int pp)] [(.int pp), (.int i), (.ref b70)])) _
        refine XS.isub X70.here hx rfl (hb hby d1_19) rfl ?_
        show Steps p.tables e below (T70.setTop (mkF m 20 #[.val (.int i), .val (.int pp)] [(.int (i - pp)), (.ref b70)])) _
        refine st75.trans ?_
        show Steps p.tables e below (T75.setTop (mkF m 23 #[.val (.int i), .val (.int pp)] [(.int (own_tx_null t))])) _
        refine XS.i2b X75.here hx rfl (hb hby d1_23) rfl ?_
        show Steps p.tables e below (T75.setTop (mkF m 24 #[.val (.int i), .val (.int pp)] [(.int ((own_tx_null t).toInt8.toInt32))])) _
        exact kt
      have f77 := ((Keep.refl h0 []).trans ((Keep.refl _ []).ext E70) all0)
      obtain ⟨fs, hr, hrun, hended, hW1, hW2, hW3, hsame⟩ := Stand.leaveW (s := s) (vm₁ := T70.vm) X75 hS70 (Nat.le_trans hk70 (Nat.le_of_eq (congrArg Array.size (Eq.symm (show T75.heap = h70 from eq75))))) (v := some (.int (nar .byte ((own_tx_null t).toInt8.toInt32)))) (fun h => by rw [Bd.returns] at h; cases h) (hlocks := by first | exact BodyLoose.notSynchronized Bd | exact Body.notSynchronized Bd)
      have hfin : CHr Z consts_1 s.vm s.heap T75.vm T75.heap := by
        rw [hh, show T75.heap = h70 from eq75]
        exact R71.trans (CHv.at (s := s) (vm0 := T70.vm) X75 hZ hEL R71.1)
      refine ⟨_, _, k76 _ (retN X75 hx (t := .byte) Bd.returns (by simp) (hb hby d1_24) hr), hrun, hended, _, _, rfl, ?_, hfin, hW1, hW2, hW3, hsame.mono (by decide) (by decide)⟩
      show Q1 Z i pp zc fm k j h0 n0 _ T75.heap _
      rw [eq75]
      exact ⟨(congrArg (fun q => some (Value.int q)) (show (nar .byte ((own_tx_null t).toInt8.toInt32)) = (own_pb i pp) from by rw [own_pb, if_neg hc2_65, if_pos hc12_68, htt]; rcases own_tx_r ht4 with q | q | q <;> rw [q] <;> decide)), N75, f77⟩
    · have k78 : ∀ tg_, Steps p.tables e below (s₁.setTop (mkF m 27 #[.val (.int i), .val (.int pp)] [(.int (33 : Int32))])) tg_ → Steps p.tables e below (s₁.setTop (entryFrame m #[(.int i), (.int pp)] 2)) tg_ := by
        intro tg_ kt
        refine k67 tg_ ?_
        refine XS.icmpYes X0.here hx rfl (pc0 := 12) (pc' := 25) rfl (hb hby d1_12) rfl (flt hc12_68).2.1 (by decide) (by decide) ?_
        show Steps p.tables e below (s₁.setTop (mkF m 25 #[.val (.int i), .val (.int pp)] [])) _
        refine XS.bipush X0.here hx rfl (hb hby d1_25) ?_
        show Steps p.tables e below (s₁.setTop (mkF m 27 #[.val (.int i), .val (.int pp)] [(.int (33 : Int32))])) _
        exact kt
      obtain ⟨fs, hr, hrun, hended, hW1, hW2, hW3, hsame⟩ := Stand.leaveW (s := s) (vm₁ := s.vm) X0 hS0 (Nat.le_trans hY0 (Nat.le_of_eq (congrArg Array.size (Eq.symm (show s₁.heap = h0 from e0))))) (v := some (.int (nar .byte (33 : Int32)))) (fun h => by rw [Bd.returns] at h; cases h) (hlocks := by first | exact BodyLoose.notSynchronized Bd | exact Body.notSynchronized Bd)
      have hfin : CHr Z consts_1 s.vm s.heap s₁.vm s₁.heap := by
        rw [hh, show s₁.heap = h0 from e0]
        exact R0.trans (CHv.at (s := s) (vm0 := s.vm) X0 hZ hEL R0.1)
      refine ⟨_, _, k78 _ (retN X0 hx (t := .byte) Bd.returns (by simp) (hb hby d1_27) hr), hrun, hended, _, _, rfl, ?_, hfin, hW1, hW2, hW3, hsame.mono (by decide) (by decide)⟩
      show Q1 Z i pp zc fm k j h0 n0 _ s₁.heap _
      rw [e0]
      exact ⟨(congrArg (fun q => some (Value.int q)) (show (nar .byte (33 : Int32)) = (own_pb i pp) from by rw [own_pb, if_neg hc2_65, if_neg hc12_68]; decide)), N0, (Keep.refl h0 [])⟩
theorem d8_0 : decode prog_23_method_1_code 0 = .ok (.aload_n 0, 1) := by decide +kernel
theorem d8_1 : decode prog_23_method_1_code 1 = .ok (.invokespecial 1, 3) := by decide +kernel
theorem d8_4 : decode prog_23_method_1_code 4 = .ok (.return_, 1) := by decide +kernel
theorem pn_8 : plainName "com/example/benzer/benzer/cli/JsonReader" = true := by first | (simp [plainName, overriddenIn]; done) | decide +kernel
theorem ef_8 (m : MethodId) (x0 : Addr) : entryFrame m #[(.ref x0)] 1 = mkF m 0 #[.val (.ref x0)] [] := by first | (simp [entryFrame, mkF, argsToLocals, Value.category]; done) | rfl
def Q8 (Z : State) (a : Addr) (h0 : Heap) (n0 : Nat) (rv_ : Option Value) (h : Heap) (LL_ : List Loc) : Prop := rv_ = none ∧ Fr n0 LL_ ∧ h = h0
set_option maxRecDepth 65536 in
set_option maxHeartbeats 40000000 in
theorem rm8 (l : Launch) (Z : State) (a0 : Array Value) (hw : ∀ d ∈ tables_1, d.before a0 Z = true) (ws : List Jvm.Cond) (a : Addr) (h0 : Heap) (n0 : Nat) :
    MetFree l (⟨"com/example/benzer/benzer/cli/JsonReader", "<init>", "()V"⟩ : MethodName) (head1 (Jvm.Cond.code (⟨"com/example/benzer/benzer/cli/JsonReader", "<init>", "()V"⟩ : MethodName) prog_23_method_1_code 1 none :: ws) ({ frames := 1, cells := 0, slots := 0, locals := 12 } : Room)) (fun aa UU => aa = #[(.ref a)] ∧ Z.Warmed39 UU.vm ∧ UU.heap = h0) (fun _ _ _ _ _ => True) (fun _ UU oo UV => ∃ vv LL, oo = .returned vv ∧ Q8 Z a h0 n0 vv UV.heap LL ∧ FrameEnd UU oo UV LL ({ frames := 1, cells := 0, slots := 0, locals := 12 } : Room).cells ({ frames := 1, cells := 0, slots := 0, locals := 12 } : Room).slots) := by
  refine MetFree.of_bodySF (plainFor_of_name pn_8) hisR ?_
  intro p e s m args below meth c s₁ Bd hml0 hP hK
  obtain ⟨rfl, hZ, hh⟩ := hP
  have hx := Bd.exec
  have hby := Bd.bytes
  have hml : c.maxLocals = 1 := hml0
  have hown : s.vm.findClass "com/example/benzer/benzer/cli/JsonReader" = some m.cls := findClass_of_methodNamed Bd.named
  have hnm := (name_of_methodNamed Bd.named Bd.method).1
  have X0 : Stand p l e ({ frames := 1, cells := 0, slots := 0, locals := 12 } : Room) s m #[(.ref a)] below meth c s₁ [] 0 0 := Stand.of_body Bd
  have e0 : s₁.heap = h0 := by rw [← hh, Bd.state]; rfl
  have N0 := Fr.nil n0
  have k0 : ∀ tg_, Steps p.tables e below (s₁.setTop (mkF m 0 #[.val (.ref a)] [])) tg_ → Steps p.tables e below (s₁.setTop (entryFrame m #[(.ref a)] 1)) tg_ := fun tg_ k => castTop (ef_8 m a) k
  obtain ⟨T79, X79, e79, st79⟩ := initO X0 hx hZ hown (hw _ (List.mem_of_getElem? (i := 47) rfl)) (hw _ (List.mem_of_getElem? (i := 48) rfl)) (hw _ (List.mem_of_getElem? (i := 49) rfl)) e0 (g := (mkF m 1 #[.val (.ref a)] [(.ref a)])) rfl (by rw [hml]; rfl) rfl (hb hby d8_1) (by decide) (W := 0) (by show 2 * 0 + _ ≤ _; exact Nat.le_of_eq rfl) (by decide)
  have k80 : ∀ tg_, Steps p.tables e below (T79.setTop (mkF m 4 #[.val (.ref a)] [])) tg_ → Steps p.tables e below (s₁.setTop (entryFrame m #[(.ref a)] 1)) tg_ := by
    intro tg_ kt
    refine k0 tg_ ?_
    refine XS.aloadN X0.here hx rfl (hb hby d8_0) rfl rfl ?_
    show Steps p.tables e below (s₁.setTop (mkF m 1 #[.val (.ref a)] [(.ref a)])) _
    refine st79 _ ?_
    show Steps p.tables e below (T79.setTop (mkF m 4 #[.val (.ref a)] [])) _
    exact kt
  obtain ⟨fs, hr, hrun, hended, hW, hsame⟩ := X79.leave (v := none) (fun _ => rfl) (hlocks := by first | exact BodyLoose.notSynchronized Bd | exact Body.notSynchronized Bd)
  refine ⟨_, _, k80 _ (X79.returnOut hx Bd.returns (hb hby d8_4) hr), hrun, hended, _, _, rfl, ?_, ⟨_, rfl⟩, hW, hsame.mono (by decide) (by decide)⟩
  show Q8 Z a h0 n0 _ T79.heap _
  rw [e79]
  exact ⟨rfl, N0, rfl⟩
theorem d10_0 : decode prog_23_method_2_code 0 = .ok (.aload_n 0, 1) := by decide +kernel
theorem d10_1 : decode prog_23_method_2_code 1 = .ok (.aload_n 1, 1) := by decide +kernel
theorem d10_2 : decode prog_23_method_2_code 2 = .ok (.putfield 7, 3) := by decide +kernel
theorem d10_5 : decode prog_23_method_2_code 5 = .ok (.aload_n 0, 1) := by decide +kernel
theorem d10_6 : decode prog_23_method_2_code 6 = .ok (.iload_n 2, 1) := by decide +kernel
theorem d10_7 : decode prog_23_method_2_code 7 = .ok (.putfield 13, 3) := by decide +kernel
theorem d10_10 : decode prog_23_method_2_code 10 = .ok (.aload_n 0, 1) := by decide +kernel
theorem d10_11 : decode prog_23_method_2_code 11 = .ok (.iconst 0, 1) := by decide +kernel
theorem d10_12 : decode prog_23_method_2_code 12 = .ok (.putfield 17, 3) := by decide +kernel
theorem d10_15 : decode prog_23_method_2_code 15 = .ok (.aload_n 0, 1) := by decide +kernel
theorem d10_16 : decode prog_23_method_2_code 16 = .ok (.iconst 0, 1) := by decide +kernel
theorem d10_17 : decode prog_23_method_2_code 17 = .ok (.putfield 20, 3) := by decide +kernel
theorem d10_20 : decode prog_23_method_2_code 20 = .ok (.return_, 1) := by decide +kernel
theorem pn_10 : plainName "com/example/benzer/benzer/cli/JsonReader" = true := by first | (simp [plainName, overriddenIn]; done) | decide +kernel
theorem ef_10 (m : MethodId) (x0 : Addr) (x1 : Addr) (x2 : Int32) : entryFrame m #[(.ref x0), (.ref x1), (.int x2)] 3 = mkF m 0 #[.val (.ref x0), .val (.ref x1), .val (.int x2)] [] := by first | (simp [entryFrame, mkF, argsToLocals, Value.category]; done) | rfl
def Q10 (Z : State) (a : Addr) (bt : Addr) (en : Int32) (ob : Value) (oe : Int32) (oa : Int32) (on : Int32) (h0 : Heap) (n0 : Nat) (rv_ : Option Value) (h : Heap) (LL_ : List Loc) : Prop := rv_ = none ∧ Fr n0 LL_ ∧ Keep h0 h [a] ∧ Fld Z h a "com/example/benzer/benzer/cli/JsonReader" "bytes" "[B" (.ref bt) ∧ Fld Z h a "com/example/benzer/benzer/cli/JsonReader" "end" "I" (.int en) ∧ Fld Z h a "com/example/benzer/benzer/cli/JsonReader" "at" "I" (.int (0 : Int32)) ∧ Fld Z h a "com/example/benzer/benzer/cli/JsonReader" "nested" "I" (.int (0 : Int32))
set_option maxRecDepth 65536 in
set_option maxHeartbeats 40000000 in
theorem rm10 (l : Launch) (Z : State) (a0 : Array Value) (hw : ∀ d ∈ tables_1, d.before a0 Z = true) (ws : List Jvm.Cond) (a : Addr) (bt : Addr) (en : Int32) (ob : Value) (oe : Int32) (oa : Int32) (on : Int32) (h0 : Heap) (n0 : Nat) (Z0 : n0 ≤ h0.size) (E_a : Exa Z h0 a "com/example/benzer/benzer/cli/JsonReader") (F_a_bytes : Fld Z h0 a "com/example/benzer/benzer/cli/JsonReader" "bytes" "[B" ob) (F_a_end : Fld Z h0 a "com/example/benzer/benzer/cli/JsonReader" "end" "I" (.int oe)) (F_a_at : Fld Z h0 a "com/example/benzer/benzer/cli/JsonReader" "at" "I" (.int oa)) (F_a_nested : Fld Z h0 a "com/example/benzer/benzer/cli/JsonReader" "nested" "I" (.int on)) (g_a : n0 ≤ a) :
    MetFree l (⟨"com/example/benzer/benzer/cli/JsonReader", "start", "([BI)V"⟩ : MethodName) (head1 (Jvm.Cond.code (⟨"com/example/benzer/benzer/cli/JsonReader", "start", "([BI)V"⟩ : MethodName) prog_23_method_2_code 3 none :: ws) ({ frames := 0, cells := 0, slots := 0, locals := 0 } : Room)) (fun aa UU => aa = #[(.ref a), (.ref bt), (.int en)] ∧ Z.Warmed39 UU.vm ∧ UU.heap = h0) (fun _ _ _ _ _ => True) (fun _ UU oo UV => ∃ vv LL, oo = .returned vv ∧ Q10 Z a bt en ob oe oa on h0 n0 vv UV.heap LL ∧ FrameEnd UU oo UV LL ({ frames := 0, cells := 0, slots := 0, locals := 0 } : Room).cells ({ frames := 0, cells := 0, slots := 0, locals := 0 } : Room).slots) := by
  refine MetFree.of_bodySF (plainFor_of_name pn_10) hisR ?_
  intro p e s m args below meth c s₁ Bd hml0 hP hK
  obtain ⟨rfl, hZ, hh⟩ := hP
  have hx := Bd.exec
  have hby := Bd.bytes
  have hml : c.maxLocals = 3 := hml0
  have hown : s.vm.findClass "com/example/benzer/benzer/cli/JsonReader" = some m.cls := findClass_of_methodNamed Bd.named
  have hnm := (name_of_methodNamed Bd.named Bd.method).1
  have X0 : Stand p l e ({ frames := 0, cells := 0, slots := 0, locals := 0 } : Room) s m #[(.ref a), (.ref bt), (.int en)] below meth c s₁ [] 0 0 := Stand.of_body Bd
  have e0 : s₁.heap = h0 := by rw [← hh, Bd.state]; rfl
  have N0 := Fr.nil n0
  have k0 : ∀ tg_, Steps p.tables e below (s₁.setTop (mkF m 0 #[.val (.ref a), .val (.ref bt), .val (.int en)] [])) tg_ → Steps p.tables e below (s₁.setTop (entryFrame m #[(.ref a), (.ref bt), (.int en)] 3)) tg_ := fun tg_ k => castTop (ef_10 m a bt en) k
  obtain ⟨T81, h81, X81, e81, W81, st81⟩ := putF X0 hx hZ hown (host := "") (Or.inl (hw _ (List.mem_of_getElem? (i := 55) rfl))) Via.refl e0 F_a_bytes E_a (Or.inl (hw _ (List.mem_of_getElem? (i := 56) rfl))) (hw _ (List.mem_of_getElem? (i := 42) rfl)) (ty := (.array .byte)) (by decide) rfl rfl (g := (mkF m 2 #[.val (.ref a), .val (.ref bt), .val (.int en)] [(.ref bt), (.ref a)])) rfl rfl (hb hby d10_2)
  have N81 := Fr.snoc X81 N0 g_a
  have F81 := Fld.same W81 F_a_bytes
  have f82 := (Fld.other W81 F_a_end (Or.inr (slot_ne (Or.inl (hw _ (List.mem_of_getElem? (i := 58) rfl))) (Or.inl (hw _ (List.mem_of_getElem? (i := 56) rfl))) (by decide) (t := .int) (t' := (.array .byte)) (by decide) (by decide))))
  have f83 := (E_a.keep (Keep.of_wr W81))
  obtain ⟨T84, h84, X84, e84, W84, st84⟩ := putF X81 hx hZ hown (host := "") (Or.inl (hw _ (List.mem_of_getElem? (i := 57) rfl))) Via.refl e81 f82 f83 (Or.inl (hw _ (List.mem_of_getElem? (i := 58) rfl))) (hw _ (List.mem_of_getElem? (i := 42) rfl)) (ty := .int) (by decide) rfl rfl (g := (mkF m 7 #[.val (.ref a), .val (.ref bt), .val (.int en)] [(.int en), (.ref a)])) rfl rfl (hb hby d10_7)
  have N84 := Fr.snoc X84 N81 g_a
  have F84 := Fld.same W84 f82
  have f85 := (Fld.other W84 (Fld.other W81 F_a_at (Or.inr (slot_ne (Or.inl (hw _ (List.mem_of_getElem? (i := 60) rfl))) (Or.inl (hw _ (List.mem_of_getElem? (i := 56) rfl))) (by decide) (t := .int) (t' := (.array .byte)) (by decide) (by decide)))) (Or.inr (slot_ne (Or.inl (hw _ (List.mem_of_getElem? (i := 60) rfl))) (Or.inl (hw _ (List.mem_of_getElem? (i := 58) rfl))) (by decide) (t := .int) (t' := .int) (by decide) (by decide))))
  have f86 := (f83.keep (Keep.of_wr W84))
  obtain ⟨T87, h87, X87, e87, W87, st87⟩ := putF X84 hx hZ hown (host := "") (Or.inl (hw _ (List.mem_of_getElem? (i := 59) rfl))) Via.refl e84 f85 f86 (Or.inl (hw _ (List.mem_of_getElem? (i := 60) rfl))) (hw _ (List.mem_of_getElem? (i := 42) rfl)) (ty := .int) (by decide) rfl rfl (g := (mkF m 12 #[.val (.ref a), .val (.ref bt), .val (.int en)] [(.int (0 : Int32)), (.ref a)])) rfl rfl (hb hby d10_12)
  have N87 := Fr.snoc X87 N84 g_a
  have F87 := Fld.same W87 f85
  have f88 := (Fld.other W87 (Fld.other W84 (Fld.other W81 F_a_nested (Or.inr (slot_ne (Or.inl (hw _ (List.mem_of_getElem? (i := 62) rfl))) (Or.inl (hw _ (List.mem_of_getElem? (i := 56) rfl))) (by decide) (t := .int) (t' := (.array .byte)) (by decide) (by decide)))) (Or.inr (slot_ne (Or.inl (hw _ (List.mem_of_getElem? (i := 62) rfl))) (Or.inl (hw _ (List.mem_of_getElem? (i := 58) rfl))) (by decide) (t := .int) (t' := .int) (by decide) (by decide)))) (Or.inr (slot_ne (Or.inl (hw _ (List.mem_of_getElem? (i := 62) rfl))) (Or.inl (hw _ (List.mem_of_getElem? (i := 60) rfl))) (by decide) (t := .int) (t' := .int) (by decide) (by decide))))
  have f89 := (f86.keep (Keep.of_wr W87))
  obtain ⟨T90, h90, X90, e90, W90, st90⟩ := putF X87 hx hZ hown (host := "") (Or.inl (hw _ (List.mem_of_getElem? (i := 61) rfl))) Via.refl e87 f88 f89 (Or.inl (hw _ (List.mem_of_getElem? (i := 62) rfl))) (hw _ (List.mem_of_getElem? (i := 42) rfl)) (ty := .int) (by decide) rfl rfl (g := (mkF m 17 #[.val (.ref a), .val (.ref bt), .val (.int en)] [(.int (0 : Int32)), (.ref a)])) rfl rfl (hb hby d10_17)
  have N90 := Fr.snoc X90 N87 g_a
  have F90 := Fld.same W90 f88
  have k91 : ∀ tg_, Steps p.tables e below (T90.setTop (mkF m 20 #[.val (.ref a), .val (.ref bt), .val (.int en)] [])) tg_ → Steps p.tables e below (s₁.setTop (entryFrame m #[(.ref a), (.ref bt), (.int en)] 3)) tg_ := by
    intro tg_ kt
    refine k0 tg_ ?_
    refine XS.aloadN X0.here hx rfl (hb hby d10_0) rfl rfl ?_
    show Steps p.tables e below (s₁.setTop (mkF m 1 #[.val (.ref a), .val (.ref bt), .val (.int en)] [(.ref a)])) _
    refine XS.aloadN X0.here hx rfl (hb hby d10_1) rfl rfl ?_
    show Steps p.tables e below (s₁.setTop (mkF m 2 #[.val (.ref a), .val (.ref bt), .val (.int en)] [(.ref bt), (.ref a)])) _
    refine st81 _ ?_
    show Steps p.tables e below (T81.setTop (mkF m 5 #[.val (.ref a), .val (.ref bt), .val (.int en)] [])) _
    refine XS.aloadN X81.here hx rfl (hb hby d10_5) rfl rfl ?_
    show Steps p.tables e below (T81.setTop (mkF m 6 #[.val (.ref a), .val (.ref bt), .val (.int en)] [(.ref a)])) _
    refine XS.iloadN X81.here hx rfl (hb hby d10_6) rfl ?_
    show Steps p.tables e below (T81.setTop (mkF m 7 #[.val (.ref a), .val (.ref bt), .val (.int en)] [(.int en), (.ref a)])) _
    refine st84 _ ?_
    show Steps p.tables e below (T84.setTop (mkF m 10 #[.val (.ref a), .val (.ref bt), .val (.int en)] [])) _
    refine XS.aloadN X84.here hx rfl (hb hby d10_10) rfl rfl ?_
    show Steps p.tables e below (T84.setTop (mkF m 11 #[.val (.ref a), .val (.ref bt), .val (.int en)] [(.ref a)])) _
    refine XS.iconst X84.here hx rfl (hb hby d10_11) ?_
    show Steps p.tables e below (T84.setTop (mkF m 12 #[.val (.ref a), .val (.ref bt), .val (.int en)] [(.int (0 : Int32)), (.ref a)])) _
    refine st87 _ ?_
    show Steps p.tables e below (T87.setTop (mkF m 15 #[.val (.ref a), .val (.ref bt), .val (.int en)] [])) _
    refine XS.aloadN X87.here hx rfl (hb hby d10_15) rfl rfl ?_
    show Steps p.tables e below (T87.setTop (mkF m 16 #[.val (.ref a), .val (.ref bt), .val (.int en)] [(.ref a)])) _
    refine XS.iconst X87.here hx rfl (hb hby d10_16) ?_
    show Steps p.tables e below (T87.setTop (mkF m 17 #[.val (.ref a), .val (.ref bt), .val (.int en)] [(.int (0 : Int32)), (.ref a)])) _
    refine st90 _ ?_
    show Steps p.tables e below (T90.setTop (mkF m 20 #[.val (.ref a), .val (.ref bt), .val (.int en)] [])) _
    exact kt
  have f92 := (((((Keep.refl h0 [a]).trans (Keep.of_wr W81) (allS (Or.inl (List.mem_of_getElem? (i := 0) rfl)) all0)).trans (Keep.of_wr W84) (allS (Or.inl (List.mem_of_getElem? (i := 0) rfl)) all0)).trans (Keep.of_wr W87) (allS (Or.inl (List.mem_of_getElem? (i := 0) rfl)) all0)).trans (Keep.of_wr W90) (allS (Or.inl (List.mem_of_getElem? (i := 0) rfl)) all0))
  have f93 := (Fld.other W90 (Fld.other W87 (Fld.other W84 F81 (Or.inr (slot_ne (Or.inl (hw _ (List.mem_of_getElem? (i := 56) rfl))) (Or.inl (hw _ (List.mem_of_getElem? (i := 58) rfl))) (by decide) (t := (.array .byte)) (t' := .int) (by decide) (by decide)))) (Or.inr (slot_ne (Or.inl (hw _ (List.mem_of_getElem? (i := 56) rfl))) (Or.inl (hw _ (List.mem_of_getElem? (i := 60) rfl))) (by decide) (t := (.array .byte)) (t' := .int) (by decide) (by decide)))) (Or.inr (slot_ne (Or.inl (hw _ (List.mem_of_getElem? (i := 56) rfl))) (Or.inl (hw _ (List.mem_of_getElem? (i := 62) rfl))) (by decide) (t := (.array .byte)) (t' := .int) (by decide) (by decide))))
  have f94 := (Fld.other W90 (Fld.other W87 F84 (Or.inr (slot_ne (Or.inl (hw _ (List.mem_of_getElem? (i := 58) rfl))) (Or.inl (hw _ (List.mem_of_getElem? (i := 60) rfl))) (by decide) (t := .int) (t' := .int) (by decide) (by decide)))) (Or.inr (slot_ne (Or.inl (hw _ (List.mem_of_getElem? (i := 58) rfl))) (Or.inl (hw _ (List.mem_of_getElem? (i := 62) rfl))) (by decide) (t := .int) (t' := .int) (by decide) (by decide))))
  have f95 := (Fld.other W90 F87 (Or.inr (slot_ne (Or.inl (hw _ (List.mem_of_getElem? (i := 60) rfl))) (Or.inl (hw _ (List.mem_of_getElem? (i := 62) rfl))) (by decide) (t := .int) (t' := .int) (by decide) (by decide))))
  obtain ⟨fs, hr, hrun, hended, hW, hsame⟩ := X90.leave (v := none) (fun _ => rfl) (hlocks := by first | exact BodyLoose.notSynchronized Bd | exact Body.notSynchronized Bd)
  refine ⟨_, _, k91 _ (X90.returnOut hx Bd.returns (hb hby d10_20) hr), hrun, hended, _, _, rfl, ?_, ⟨_, rfl⟩, hW, hsame.mono (by decide) (by decide)⟩
  show Q10 Z a bt en ob oe oa on h0 n0 _ T90.heap _
  rw [e90]
  exact ⟨rfl, N90, f92, f93, f94, f95, F90⟩
theorem d12_0 : decode prog_23_method_17_code 0 = .ok (.aload_n 0, 1) := by decide +kernel
theorem d12_1 : decode prog_23_method_17_code 1 = .ok (.getfield 17, 3) := by decide +kernel
theorem d12_4 : decode prog_23_method_17_code 4 = .ok (.aload_n 0, 1) := by decide +kernel
theorem d12_5 : decode prog_23_method_17_code 5 = .ok (.getfield 13, 3) := by decide +kernel
theorem d12_8 : decode prog_23_method_17_code 8 = .ok (.if_icmp .ge 72, 3) := by decide +kernel
theorem d12_11 : decode prog_23_method_17_code 11 = .ok (.aload_n 0, 1) := by decide +kernel
theorem d12_12 : decode prog_23_method_17_code 12 = .ok (.getfield 7, 3) := by decide +kernel
theorem d12_15 : decode prog_23_method_17_code 15 = .ok (.aload_n 0, 1) := by decide +kernel
theorem d12_16 : decode prog_23_method_17_code 16 = .ok (.getfield 17, 3) := by decide +kernel
theorem d12_19 : decode prog_23_method_17_code 19 = .ok (.baload, 1) := by decide +kernel
theorem d12_20 : decode prog_23_method_17_code 20 = .ok (.bipush 32, 2) := by decide +kernel
theorem d12_22 : decode prog_23_method_17_code 22 = .ok (.if_icmp .eq 45, 3) := by decide +kernel
theorem d12_25 : decode prog_23_method_17_code 25 = .ok (.aload_n 0, 1) := by decide +kernel
theorem d12_26 : decode prog_23_method_17_code 26 = .ok (.getfield 7, 3) := by decide +kernel
theorem d12_29 : decode prog_23_method_17_code 29 = .ok (.aload_n 0, 1) := by decide +kernel
theorem d12_30 : decode prog_23_method_17_code 30 = .ok (.getfield 17, 3) := by decide +kernel
theorem d12_33 : decode prog_23_method_17_code 33 = .ok (.baload, 1) := by decide +kernel
theorem d12_34 : decode prog_23_method_17_code 34 = .ok (.bipush 9, 2) := by decide +kernel
theorem d12_36 : decode prog_23_method_17_code 36 = .ok (.if_icmp .eq 31, 3) := by decide +kernel
theorem d12_39 : decode prog_23_method_17_code 39 = .ok (.aload_n 0, 1) := by decide +kernel
theorem d12_40 : decode prog_23_method_17_code 40 = .ok (.getfield 7, 3) := by decide +kernel
theorem d12_43 : decode prog_23_method_17_code 43 = .ok (.aload_n 0, 1) := by decide +kernel
theorem d12_44 : decode prog_23_method_17_code 44 = .ok (.getfield 17, 3) := by decide +kernel
theorem d12_47 : decode prog_23_method_17_code 47 = .ok (.baload, 1) := by decide +kernel
theorem d12_48 : decode prog_23_method_17_code 48 = .ok (.bipush 13, 2) := by decide +kernel
theorem d12_50 : decode prog_23_method_17_code 50 = .ok (.if_icmp .eq 17, 3) := by decide +kernel
theorem d12_53 : decode prog_23_method_17_code 53 = .ok (.aload_n 0, 1) := by decide +kernel
theorem d12_54 : decode prog_23_method_17_code 54 = .ok (.getfield 7, 3) := by decide +kernel
theorem d12_57 : decode prog_23_method_17_code 57 = .ok (.aload_n 0, 1) := by decide +kernel
theorem d12_58 : decode prog_23_method_17_code 58 = .ok (.getfield 17, 3) := by decide +kernel
theorem d12_61 : decode prog_23_method_17_code 61 = .ok (.baload, 1) := by decide +kernel
theorem d12_62 : decode prog_23_method_17_code 62 = .ok (.bipush 10, 2) := by decide +kernel
theorem d12_64 : decode prog_23_method_17_code 64 = .ok (.if_icmp .ne 16, 3) := by decide +kernel
theorem d12_67 : decode prog_23_method_17_code 67 = .ok (.aload_n 0, 1) := by decide +kernel
theorem d12_68 : decode prog_23_method_17_code 68 = .ok (.dup, 1) := by decide +kernel
theorem d12_69 : decode prog_23_method_17_code 69 = .ok (.getfield 17, 3) := by decide +kernel
theorem d12_72 : decode prog_23_method_17_code 72 = .ok (.iconst 1, 1) := by decide +kernel
theorem d12_73 : decode prog_23_method_17_code 73 = .ok (.iadd, 1) := by decide +kernel
theorem d12_74 : decode prog_23_method_17_code 74 = .ok (.putfield 17, 3) := by decide +kernel
theorem d12_77 : decode prog_23_method_17_code 77 = .ok (.goto (-77), 3) := by decide +kernel
theorem d12_80 : decode prog_23_method_17_code 80 = .ok (.return_, 1) := by decide +kernel
theorem pn_12 : plainName "com/example/benzer/benzer/cli/JsonReader" = true := by first | (simp [plainName, overriddenIn]; done) | decide +kernel
theorem ef_12 (m : MethodId) (x0 : Addr) : entryFrame m #[(.ref x0)] 1 = mkF m 0 #[.val (.ref x0)] [] := by first | (simp [entryFrame, mkF, argsToLocals, Value.category]; done) | rfl
def Q12 (Z : State) (a : Addr) (bt : Addr) (en : Int32) (at0 : Int32) (ne0 : Int32) (n : Nat) (f : Nat → Int32) (A : Nat) (M : Nat) (E : Nat) (z : Int32) (h0 : Heap) (n0 : Nat) (rv_ : Option Value) (h : Heap) (LL_ : List Loc) : Prop := rv_ = none ∧ Fr n0 LL_ ∧ Keep h0 h [a] ∧ Fld Z h a "com/example/benzer/benzer/cli/JsonReader" "bytes" "[B" (.ref bt) ∧ Fld Z h a "com/example/benzer/benzer/cli/JsonReader" "end" "I" (.int en) ∧ Fld Z h a "com/example/benzer/benzer/cli/JsonReader" "at" "I" (.int z) ∧ Fld Z h a "com/example/benzer/benzer/cli/JsonReader" "nested" "I" (.int ne0)
set_option maxRecDepth 65536 in
set_option maxHeartbeats 40000000 in
theorem rm12 (l : Launch) (Z : State) (a0 : Array Value) (hw : ∀ d ∈ tables_1, d.before a0 Z = true) (ws : List Jvm.Cond) (a : Addr) (bt : Addr) (en : Int32) (at0 : Int32) (ne0 : Int32) (n : Nat) (f : Nat → Int32) (A : Nat) (M : Nat) (E : Nat) (z : Int32) (h0 : Heap) (n0 : Nat) (Z0 : n0 ≤ h0.size) (E_a : Exa Z h0 a "com/example/benzer/benzer/cli/JsonReader") (F_a_bytes : Fld Z h0 a "com/example/benzer/benzer/cli/JsonReader" "bytes" "[B" (.ref bt)) (F_a_end : Fld Z h0 a "com/example/benzer/benzer/cli/JsonReader" "end" "I" (.int en)) (F_a_at : Fld Z h0 a "com/example/benzer/benzer/cli/JsonReader" "at" "I" (.int at0)) (F_a_nested : Fld Z h0 a "com/example/benzer/benzer/cli/JsonReader" "nested" "I" (.int ne0)) (V_bt : own_AI Z h0 bt .byte n f) (g_a : n0 ≤ a) (ne_a_bt : a ≠ bt) (hat : at0.toInt = (A : Int)) (hen : en.toInt = (E : Int)) (hM : A + M ≤ E) (hEn : E ≤ n) (hbig : E < 900) (hsp : ∀ x, x < M → own_sp (f (A + x))) (hst : A + M < E → ¬ own_sp (f (A + M))) (hzz : z.toInt = ((A + M : Nat) : Int)) :
    MetFree l (⟨"com/example/benzer/benzer/cli/JsonReader", "skipSpace", "()V"⟩ : MethodName) (head1 (Jvm.Cond.code (⟨"com/example/benzer/benzer/cli/JsonReader", "skipSpace", "()V"⟩ : MethodName) prog_23_method_17_code 1 none :: ws) ({ frames := 0, cells := 0, slots := 0, locals := 0 } : Room)) (fun aa UU => aa = #[(.ref a)] ∧ Z.Warmed39 UU.vm ∧ UU.heap = h0) (fun _ _ _ _ _ => True) (fun _ UU oo UV => ∃ vv LL, oo = .returned vv ∧ Q12 Z a bt en at0 ne0 n f A M E z h0 n0 vv UV.heap LL ∧ FrameEnd UU oo UV LL ({ frames := 0, cells := 0, slots := 0, locals := 0 } : Room).cells ({ frames := 0, cells := 0, slots := 0, locals := 0 } : Room).slots) := by
  refine MetFree.of_bodySF (plainFor_of_name pn_12) hisR ?_
  intro p e s m args below meth c s₁ Bd hml0 hP hK
  obtain ⟨rfl, hZ, hh⟩ := hP
  have hx := Bd.exec
  have hby := Bd.bytes
  have hml : c.maxLocals = 1 := hml0
  have hown : s.vm.findClass "com/example/benzer/benzer/cli/JsonReader" = some m.cls := findClass_of_methodNamed Bd.named
  have hnm := (name_of_methodNamed Bd.named Bd.method).1
  have X0 : Stand p l e ({ frames := 0, cells := 0, slots := 0, locals := 0 } : Room) s m #[(.ref a)] below meth c s₁ [] 0 0 := Stand.of_body Bd
  have e0 : s₁.heap = h0 := by rw [← hh, Bd.state]; rfl
  have N0 := Fr.nil n0
  have k0 : ∀ tg_, Steps p.tables e below (s₁.setTop (mkF m 0 #[.val (.ref a)] [])) tg_ → Steps p.tables e below (s₁.setTop (entryFrame m #[(.ref a)] 1)) tg_ := fun tg_ k => castTop (ef_12 m a) k
  have lp96 : ∀ (r x96 : Nat) (Ta96 : State) (La96 : List Loc) (Ha96 : Heap) (ava96 : Int32), x96 + r = M → Stand p l e ({ frames := 0, cells := 0, slots := 0, locals := 0 } : Room) s m #[(.ref a)] below meth c Ta96 La96 0 0 → Ta96.heap = Ha96 → Fr n0 La96 → n0 ≤ Ha96.size → Exa Z Ha96 a "com/example/benzer/benzer/cli/JsonReader" → Fld Z Ha96 a "com/example/benzer/benzer/cli/JsonReader" "bytes" "[B" (.ref bt) → Fld Z Ha96 a "com/example/benzer/benzer/cli/JsonReader" "end" "I" (.int en) → Fld Z Ha96 a "com/example/benzer/benzer/cli/JsonReader" "at" "I" (.int ava96) → Fld Z Ha96 a "com/example/benzer/benzer/cli/JsonReader" "nested" "I" (.int ne0) → own_AI Z Ha96 bt .byte n f → (ava96.toInt = ((A + x96 : Nat) : Int)) → Keep h0 Ha96 [a] → ∃ (Tb96 : State) (Lb96 : List Loc) (Hb96 : Heap) (avb96 : Int32), Stand p l e ({ frames := 0, cells := 0, slots := 0, locals := 0 } : Room) s m #[(.ref a)] below meth c Tb96 Lb96 0 0 ∧ Tb96.heap = Hb96 ∧ Fr n0 Lb96 ∧ n0 ≤ Hb96.size ∧ Exa Z Hb96 a "com/example/benzer/benzer/cli/JsonReader" ∧ Fld Z Hb96 a "com/example/benzer/benzer/cli/JsonReader" "bytes" "[B" (.ref bt) ∧ Fld Z Hb96 a "com/example/benzer/benzer/cli/JsonReader" "end" "I" (.int en) ∧ Fld Z Hb96 a "com/example/benzer/benzer/cli/JsonReader" "at" "I" (.int avb96) ∧ Fld Z Hb96 a "com/example/benzer/benzer/cli/JsonReader" "nested" "I" (.int ne0) ∧ own_AI Z Hb96 bt .byte n f ∧ (avb96.toInt = ((A + M : Nat) : Int)) ∧ Keep h0 Hb96 [a] ∧ ∀ tg_, Steps p.tables e below (Tb96.setTop (mkF m 80 #[.val (.ref a)] [])) tg_ → Steps p.tables e below (Ta96.setTop (mkF m 0 #[.val (.ref a)] [])) tg_ := by
    intro r
    induction r with
    | zero =>
      intro x96 Ta96 La96 Ha96 ava96 hxr96 X96 e96 N96 z96 j0_96 j1_96 j2_96 j3_96 j4_96 j5_96 pr0_96 kk96
      have kid96 : ∀ tg_, Steps p.tables e below (Ta96.setTop (mkF m 0 #[.val (.ref a)] [])) tg_ → Steps p.tables e below (Ta96.setTop (mkF m 0 #[.val (.ref a)] [])) tg_ := fun tg_ k => k
      have hxN : x96 = M := by omega
      obtain ⟨T97, X97, e97, st97⟩ := getF X96 hx hZ hown (host := "") (Or.inl (hw _ (List.mem_of_getElem? (i := 59) rfl))) Via.refl e96 j3_96 (g := (mkF m 1 #[.val (.ref a)] [(.ref a)])) rfl rfl (hb hby d12_1)
      obtain ⟨T98, X98, e98, st98⟩ := getF X97 hx hZ hown (host := "") (Or.inl (hw _ (List.mem_of_getElem? (i := 57) rfl))) Via.refl e97 j2_96 (g := (mkF m 5 #[.val (.ref a)] [(.ref a), (.int ava96)])) rfl rfl (hb hby d12_5)
      have k99 : ∀ tg_, Steps p.tables e below (T98.setTop (mkF m 8 #[.val (.ref a)] [(.int en), (.int ava96)])) tg_ → Steps p.tables e below (Ta96.setTop (mkF m 0 #[.val (.ref a)] [])) tg_ := by
        intro tg_ kt
        refine kid96 tg_ ?_
        refine XS.aloadN X96.here hx rfl (hb hby d12_0) rfl rfl ?_
        show Steps p.tables e below (Ta96.setTop (mkF m 1 #[.val (.ref a)] [(.ref a)])) _
        refine st97 _ ?_
        show Steps p.tables e below (T97.setTop (mkF m 4 #[.val (.ref a)] [(.int ava96)])) _
        refine XS.aloadN X97.here hx rfl (hb hby d12_4) rfl rfl ?_
        show Steps p.tables e below (T97.setTop (mkF m 5 #[.val (.ref a)] [(.ref a), (.int ava96)])) _
        refine st98 _ ?_
        show Steps p.tables e below (T98.setTop (mkF m 8 #[.val (.ref a)] [(.int en), (.int ava96)])) _
        exact kt
      by_cases hc8_100 : ava96 < en
      · obtain ⟨T101, X101, e101, st101⟩ := getF X98 hx hZ hown (host := "") (Or.inl (hw _ (List.mem_of_getElem? (i := 55) rfl))) Via.refl e98 j1_96 (g := (mkF m 12 #[.val (.ref a)] [(.ref a)])) rfl rfl (hb hby d12_12)
        obtain ⟨T102, X102, e102, st102⟩ := getF X101 hx hZ hown (host := "") (Or.inl (hw _ (List.mem_of_getElem? (i := 59) rfl))) Via.refl e101 j3_96 (g := (mkF m 16 #[.val (.ref a)] [(.ref a), (.ref bt)])) rfl rfl (hb hby d12_16)
        have hns : ¬ own_sp (f (A + x96)) := by
          have q := Int32.lt_iff_toInt_lt.mp hc8_100
          rw [pr0_96, hen] at q
          have q2 := hst (by omega)
          rw [← hxN] at q2; exact q2
        have hc22_103 : ¬ ((f (A + x96)) = (32 : Int32)) := (fun q => hns (Or.inl q))
        obtain ⟨T104, X104, e104, st104⟩ := getF X102 hx hZ hown (host := "") (Or.inl (hw _ (List.mem_of_getElem? (i := 55) rfl))) Via.refl e102 j1_96 (g := (mkF m 26 #[.val (.ref a)] [(.ref a)])) rfl rfl (hb hby d12_26)
        obtain ⟨T105, X105, e105, st105⟩ := getF X104 hx hZ hown (host := "") (Or.inl (hw _ (List.mem_of_getElem? (i := 59) rfl))) Via.refl e104 j3_96 (g := (mkF m 30 #[.val (.ref a)] [(.ref a), (.ref bt)])) rfl rfl (hb hby d12_30)
        have hc36_106 : ¬ ((f (A + x96)) = (9 : Int32)) := (fun q => hns (Or.inr <| Or.inl q))
        obtain ⟨T107, X107, e107, st107⟩ := getF X105 hx hZ hown (host := "") (Or.inl (hw _ (List.mem_of_getElem? (i := 55) rfl))) Via.refl e105 j1_96 (g := (mkF m 40 #[.val (.ref a)] [(.ref a)])) rfl rfl (hb hby d12_40)
        obtain ⟨T108, X108, e108, st108⟩ := getF X107 hx hZ hown (host := "") (Or.inl (hw _ (List.mem_of_getElem? (i := 59) rfl))) Via.refl e107 j3_96 (g := (mkF m 44 #[.val (.ref a)] [(.ref a), (.ref bt)])) rfl rfl (hb hby d12_44)
        have hc50_109 : ¬ ((f (A + x96)) = (13 : Int32)) := (fun q => hns (Or.inr <| Or.inr <| Or.inl q))
        obtain ⟨T110, X110, e110, st110⟩ := getF X108 hx hZ hown (host := "") (Or.inl (hw _ (List.mem_of_getElem? (i := 55) rfl))) Via.refl e108 j1_96 (g := (mkF m 54 #[.val (.ref a)] [(.ref a)])) rfl rfl (hb hby d12_54)
        obtain ⟨T111, X111, e111, st111⟩ := getF X110 hx hZ hown (host := "") (Or.inl (hw _ (List.mem_of_getElem? (i := 59) rfl))) Via.refl e110 j3_96 (g := (mkF m 58 #[.val (.ref a)] [(.ref a), (.ref bt)])) rfl rfl (hb hby d12_58)
        have k112 : ∀ tg_, Steps p.tables e below (T111.setTop (mkF m 61 #[.val (.ref a)] [(.int ava96), (.ref bt)])) tg_ → Steps p.tables e below (Ta96.setTop (mkF m 0 #[.val (.ref a)] [])) tg_ := by
          intro tg_ kt
          refine k99 tg_ ?_
          refine XS.icmpNo X98.here hx rfl (hb hby d12_8) rfl (tlt hc8_100).2.1 ?_
          show Steps p.tables e below (T98.setTop (mkF m 11 #[.val (.ref a)] [])) _
          refine XS.aloadN X98.here hx rfl (hb hby d12_11) rfl rfl ?_
          show Steps p.tables e below (T98.setTop (mkF m 12 #[.val (.ref a)] [(.ref a)])) _
          refine st101 _ ?_
          show Steps p.tables e below (T101.setTop (mkF m 15 #[.val (.ref a)] [(.ref bt)])) _
          refine XS.aloadN X101.here hx rfl (hb hby d12_15) rfl rfl ?_
          show Steps p.tables e below (T101.setTop (mkF m 16 #[.val (.ref a)] [(.ref a), (.ref bt)])) _
          refine st102 _ ?_
          show Steps p.tables e below (T102.setTop (mkF m 19 #[.val (.ref a)] [(.int ava96), (.ref bt)])) _
          refine own_ldB X102 hx hZ e102 j5_96 (i := (A + x96)) pr0_96 (by have q := Int32.lt_iff_toInt_lt.mp hc8_100; rw [pr0_96, hen] at q; omega) rfl (g := (mkF m 19 #[.val (.ref a)] [(.int ava96), (.ref bt)])) rfl rfl (hb hby d12_19) _ ?_
          show Steps p.tables e below (T102.setTop (mkF m 20 #[.val (.ref a)] [(.int (f (A + x96)))])) _
          refine XS.bipush X102.here hx rfl (hb hby d12_20) ?_
          show Steps p.tables e below (T102.setTop (mkF m 22 #[.val (.ref a)] [(.int (32 : Int32)), (.int (f (A + x96)))])) _
          refine XS.icmpNo X102.here hx rfl (hb hby d12_22) rfl (feq hc22_103).1 ?_
          show Steps p.tables e below (T102.setTop (mkF m 25 #[.val (.ref a)] [])) _
          refine XS.aloadN X102.here hx rfl (hb hby d12_25) rfl rfl ?_
          show Steps p.tables e below (T102.setTop (mkF m 26 #[.val (.ref a)] [(.ref a)])) _
          refine st104 _ ?_
          show Steps p.tables e below (T104.setTop (mkF m 29 #[.val (.ref a)] [(.ref bt)])) _
          refine XS.aloadN X104.here hx rfl (hb hby d12_29) rfl rfl ?_
          show Steps p.tables e below (T104.setTop (mkF m 30 #[.val (.ref a)] [(.ref a), (.ref bt)])) _
          refine st105 _ ?_
          show Steps p.tables e below (T105.setTop (mkF m 33 #[.val (.ref a)] [(.int ava96), (.ref bt)])) _
          refine own_ldB X105 hx hZ e105 j5_96 (i := (A + x96)) pr0_96 (by have q := Int32.lt_iff_toInt_lt.mp hc8_100; rw [pr0_96, hen] at q; omega) rfl (g := (mkF m 33 #[.val (.ref a)] [(.int ava96), (.ref bt)])) rfl rfl (hb hby d12_33) _ ?_
          show Steps p.tables e below (T105.setTop (mkF m 34 #[.val (.ref a)] [(.int (f (A + x96)))])) _
          refine XS.bipush X105.here hx rfl (hb hby d12_34) ?_
          show Steps p.tables e below (T105.setTop (mkF m 36 #[.val (.ref a)] [(.int (9 : Int32)), (.int (f (A + x96)))])) _
          refine XS.icmpNo X105.here hx rfl (hb hby d12_36) rfl (feq hc36_106).1 ?_
          show Steps p.tables e below (T105.setTop (mkF m 39 #[.val (.ref a)] [])) _
          refine XS.aloadN X105.here hx rfl (hb hby d12_39) rfl rfl ?_
          show Steps p.tables e below (T105.setTop (mkF m 40 #[.val (.ref a)] [(.ref a)])) _
          refine st107 _ ?_
          show Steps p.tables e below (T107.setTop (mkF m 43 #[.val (.ref a)] [(.ref bt)])) _
          refine XS.aloadN X107.here hx rfl (hb hby d12_43) rfl rfl ?_
          show Steps p.tables e below (T107.setTop (mkF m 44 #[.val (.ref a)] [(.ref a), (.ref bt)])) _
          refine st108 _ ?_
          show Steps p.tables e below (T108.setTop (mkF m 47 #[.val (.ref a)] [(.int ava96), (.ref bt)])) _
          refine own_ldB X108 hx hZ e108 j5_96 (i := (A + x96)) pr0_96 (by have q := Int32.lt_iff_toInt_lt.mp hc8_100; rw [pr0_96, hen] at q; omega) rfl (g := (mkF m 47 #[.val (.ref a)] [(.int ava96), (.ref bt)])) rfl rfl (hb hby d12_47) _ ?_
          show Steps p.tables e below (T108.setTop (mkF m 48 #[.val (.ref a)] [(.int (f (A + x96)))])) _
          refine XS.bipush X108.here hx rfl (hb hby d12_48) ?_
          show Steps p.tables e below (T108.setTop (mkF m 50 #[.val (.ref a)] [(.int (13 : Int32)), (.int (f (A + x96)))])) _
          refine XS.icmpNo X108.here hx rfl (hb hby d12_50) rfl (feq hc50_109).1 ?_
          show Steps p.tables e below (T108.setTop (mkF m 53 #[.val (.ref a)] [])) _
          refine XS.aloadN X108.here hx rfl (hb hby d12_53) rfl rfl ?_
          show Steps p.tables e below (T108.setTop (mkF m 54 #[.val (.ref a)] [(.ref a)])) _
          refine st110 _ ?_
          show Steps p.tables e below (T110.setTop (mkF m 57 #[.val (.ref a)] [(.ref bt)])) _
          refine XS.aloadN X110.here hx rfl (hb hby d12_57) rfl rfl ?_
          show Steps p.tables e below (T110.setTop (mkF m 58 #[.val (.ref a)] [(.ref a), (.ref bt)])) _
          refine st111 _ ?_
          show Steps p.tables e below (T111.setTop (mkF m 61 #[.val (.ref a)] [(.int ava96), (.ref bt)])) _
          exact kt
        have hc64_113 : ¬ ((f (A + x96)) = (10 : Int32)) := (fun q => hns (Or.inr <| Or.inr <| Or.inr q))
        have k114 : ∀ tg_, Steps p.tables e below (T111.setTop (mkF m 80 #[.val (.ref a)] [])) tg_ → Steps p.tables e below (Ta96.setTop (mkF m 0 #[.val (.ref a)] [])) tg_ := by
          intro tg_ kt
          refine k112 tg_ ?_
          refine own_ldB X111 hx hZ e111 j5_96 (i := (A + x96)) pr0_96 (by have q := Int32.lt_iff_toInt_lt.mp hc8_100; rw [pr0_96, hen] at q; omega) rfl (g := (mkF m 61 #[.val (.ref a)] [(.int ava96), (.ref bt)])) rfl rfl (hb hby d12_61) _ ?_
          show Steps p.tables e below (T111.setTop (mkF m 62 #[.val (.ref a)] [(.int (f (A + x96)))])) _
          refine XS.bipush X111.here hx rfl (hb hby d12_62) ?_
          show Steps p.tables e below (T111.setTop (mkF m 64 #[.val (.ref a)] [(.int (10 : Int32)), (.int (f (A + x96)))])) _
          refine XS.icmpYes X111.here hx rfl (pc0 := 64) (pc' := 80) rfl (hb hby d12_64) rfl (feq hc64_113).2 (by decide) (by decide) ?_
          show Steps p.tables e below (T111.setTop (mkF m 80 #[.val (.ref a)] [])) _
          exact kt
        exact ⟨T111, _, Ha96, ava96, X111, e111, N96, z96, j0_96, j1_96, j2_96, j3_96, j4_96, j5_96, (by rw [← hxN]; exact pr0_96), kk96, k114⟩
      · have k115 : ∀ tg_, Steps p.tables e below (T98.setTop (mkF m 80 #[.val (.ref a)] [])) tg_ → Steps p.tables e below (Ta96.setTop (mkF m 0 #[.val (.ref a)] [])) tg_ := by
          intro tg_ kt
          refine k99 tg_ ?_
          refine XS.icmpYes X98.here hx rfl (pc0 := 8) (pc' := 80) rfl (hb hby d12_8) rfl (flt hc8_100).2.1 (by decide) (by decide) ?_
          show Steps p.tables e below (T98.setTop (mkF m 80 #[.val (.ref a)] [])) _
          exact kt
        exact ⟨T98, _, Ha96, ava96, X98, e98, N96, z96, j0_96, j1_96, j2_96, j3_96, j4_96, j5_96, (by rw [← hxN]; exact pr0_96), kk96, k115⟩
    | succ r ih =>
      intro x96 Ta96 La96 Ha96 ava96 hxr96 X96 e96 N96 z96 j0_96 j1_96 j2_96 j3_96 j4_96 j5_96 pr0_96 kk96
      have kid96 : ∀ tg_, Steps p.tables e below (Ta96.setTop (mkF m 0 #[.val (.ref a)] [])) tg_ → Steps p.tables e below (Ta96.setTop (mkF m 0 #[.val (.ref a)] [])) tg_ := fun tg_ k => k
      have hxN : x96 < M := by omega
      obtain ⟨T116, X116, e116, st116⟩ := getF X96 hx hZ hown (host := "") (Or.inl (hw _ (List.mem_of_getElem? (i := 59) rfl))) Via.refl e96 j3_96 (g := (mkF m 1 #[.val (.ref a)] [(.ref a)])) rfl rfl (hb hby d12_1)
      obtain ⟨T117, X117, e117, st117⟩ := getF X116 hx hZ hown (host := "") (Or.inl (hw _ (List.mem_of_getElem? (i := 57) rfl))) Via.refl e116 j2_96 (g := (mkF m 5 #[.val (.ref a)] [(.ref a), (.int ava96)])) rfl rfl (hb hby d12_5)
      have hc8_118 : ava96 < en := (Int32.lt_iff_toInt_lt.mpr (by rw [pr0_96, hen]; omega))
      obtain ⟨T119, X119, e119, st119⟩ := getF X117 hx hZ hown (host := "") (Or.inl (hw _ (List.mem_of_getElem? (i := 55) rfl))) Via.refl e117 j1_96 (g := (mkF m 12 #[.val (.ref a)] [(.ref a)])) rfl rfl (hb hby d12_12)
      obtain ⟨T120, X120, e120, st120⟩ := getF X119 hx hZ hown (host := "") (Or.inl (hw _ (List.mem_of_getElem? (i := 59) rfl))) Via.refl e119 j3_96 (g := (mkF m 16 #[.val (.ref a)] [(.ref a), (.ref bt)])) rfl rfl (hb hby d12_16)
      have k121 : ∀ tg_, Steps p.tables e below (T120.setTop (mkF m 22 #[.val (.ref a)] [(.int (32 : Int32)), (.int (f (A + x96)))])) tg_ → Steps p.tables e below (Ta96.setTop (mkF m 0 #[.val (.ref a)] [])) tg_ := by
        intro tg_ kt
        refine kid96 tg_ ?_
        refine XS.aloadN X96.here hx rfl (hb hby d12_0) rfl rfl ?_
        show Steps p.tables e below (Ta96.setTop (mkF m 1 #[.val (.ref a)] [(.ref a)])) _
        refine st116 _ ?_
        show Steps p.tables e below (T116.setTop (mkF m 4 #[.val (.ref a)] [(.int ava96)])) _
        refine XS.aloadN X116.here hx rfl (hb hby d12_4) rfl rfl ?_
        show Steps p.tables e below (T116.setTop (mkF m 5 #[.val (.ref a)] [(.ref a), (.int ava96)])) _
        refine st117 _ ?_
        show Steps p.tables e below (T117.setTop (mkF m 8 #[.val (.ref a)] [(.int en), (.int ava96)])) _
        refine XS.icmpNo X117.here hx rfl (hb hby d12_8) rfl (tlt hc8_118).2.1 ?_
        show Steps p.tables e below (T117.setTop (mkF m 11 #[.val (.ref a)] [])) _
        refine XS.aloadN X117.here hx rfl (hb hby d12_11) rfl rfl ?_
        show Steps p.tables e below (T117.setTop (mkF m 12 #[.val (.ref a)] [(.ref a)])) _
        refine st119 _ ?_
        show Steps p.tables e below (T119.setTop (mkF m 15 #[.val (.ref a)] [(.ref bt)])) _
        refine XS.aloadN X119.here hx rfl (hb hby d12_15) rfl rfl ?_
        show Steps p.tables e below (T119.setTop (mkF m 16 #[.val (.ref a)] [(.ref a), (.ref bt)])) _
        refine st120 _ ?_
        show Steps p.tables e below (T120.setTop (mkF m 19 #[.val (.ref a)] [(.int ava96), (.ref bt)])) _
        refine own_ldB X120 hx hZ e120 j5_96 (i := (A + x96)) pr0_96 (by have q := Int32.lt_iff_toInt_lt.mp hc8_118; rw [pr0_96, hen] at q; omega) rfl (g := (mkF m 19 #[.val (.ref a)] [(.int ava96), (.ref bt)])) rfl rfl (hb hby d12_19) _ ?_
        show Steps p.tables e below (T120.setTop (mkF m 20 #[.val (.ref a)] [(.int (f (A + x96)))])) _
        refine XS.bipush X120.here hx rfl (hb hby d12_20) ?_
        show Steps p.tables e below (T120.setTop (mkF m 22 #[.val (.ref a)] [(.int (32 : Int32)), (.int (f (A + x96)))])) _
        exact kt
      by_cases hc22_122 : (f (A + x96)) = (32 : Int32)
      · obtain ⟨T123, X123, e123, st123⟩ := getF X120 hx hZ hown (host := "") (Or.inl (hw _ (List.mem_of_getElem? (i := 59) rfl))) Via.refl e120 j3_96 (g := (mkF m 69 #[.val (.ref a)] [(.ref a), (.ref a)])) rfl rfl (hb hby d12_69)
        obtain ⟨T124, h124, X124, e124, W124, st124⟩ := putF X123 hx hZ hown (host := "") (Or.inl (hw _ (List.mem_of_getElem? (i := 59) rfl))) Via.refl e123 j3_96 j0_96 (Or.inl (hw _ (List.mem_of_getElem? (i := 60) rfl))) (hw _ (List.mem_of_getElem? (i := 42) rfl)) (ty := .int) (by decide) rfl rfl (g := (mkF m 74 #[.val (.ref a)] [(.int (ava96 + (1 : Int32))), (.ref a)])) rfl rfl (hb hby d12_74)
        have N124 := Fr.snoc X124 N96 g_a
        have F124 := Fld.same W124 j3_96
        have k125 : ∀ tg_, Steps p.tables e below (T124.setTop (mkF m 0 #[.val (.ref a)] [])) tg_ → Steps p.tables e below (Ta96.setTop (mkF m 0 #[.val (.ref a)] [])) tg_ := by
          intro tg_ kt
          refine k121 tg_ ?_
          refine XS.icmpYes X120.here hx rfl (pc0 := 22) (pc' := 67) rfl (hb hby d12_22) rfl (teq hc22_122).1 (by decide) (by decide) ?_
          show Steps p.tables e below (T120.setTop (mkF m 67 #[.val (.ref a)] [])) _
          refine XS.aloadN X120.here hx rfl (hb hby d12_67) rfl rfl ?_
          show Steps p.tables e below (T120.setTop (mkF m 68 #[.val (.ref a)] [(.ref a)])) _
          refine XS.dup X120.here hx rfl (hb hby d12_68) rfl rfl ?_
          show Steps p.tables e below (T120.setTop (mkF m 69 #[.val (.ref a)] [(.ref a), (.ref a)])) _
          refine st123 _ ?_
          show Steps p.tables e below (T123.setTop (mkF m 72 #[.val (.ref a)] [(.int ava96), (.ref a)])) _
          refine XS.iconst X123.here hx rfl (hb hby d12_72) ?_
          show Steps p.tables e below (T123.setTop (mkF m 73 #[.val (.ref a)] [(.int (1 : Int32)), (.int ava96), (.ref a)])) _
          refine XS.iadd X123.here hx rfl (hb hby d12_73) rfl ?_
          show Steps p.tables e below (T123.setTop (mkF m 74 #[.val (.ref a)] [(.int (ava96 + (1 : Int32))), (.ref a)])) _
          refine st124 _ ?_
          show Steps p.tables e below (T124.setTop (mkF m 77 #[.val (.ref a)] [])) _
          refine XS.goto X124.here hx rfl (pc0 := 77) (pc' := 0) rfl (hb hby d12_77) (by decide) (by decide) ?_
          show Steps p.tables e below (T124.setTop (mkF m 0 #[.val (.ref a)] [])) _
          exact kt
        have f127 := (Nat.le_trans z96 (Keep.of_wr W124).1)
        have f128 := (j0_96.keep (Keep.of_wr W124))
        have f129 := (Fld.other W124 j1_96 (Or.inr (slot_ne (Or.inl (hw _ (List.mem_of_getElem? (i := 56) rfl))) (Or.inl (hw _ (List.mem_of_getElem? (i := 60) rfl))) (by decide) (t := (.array .byte)) (t' := .int) (by decide) (by decide))))
        have f130 := (Fld.other W124 j2_96 (Or.inr (slot_ne (Or.inl (hw _ (List.mem_of_getElem? (i := 58) rfl))) (Or.inl (hw _ (List.mem_of_getElem? (i := 60) rfl))) (by decide) (t := .int) (t' := .int) (by decide) (by decide))))
        have f131 := (Fld.other W124 j4_96 (Or.inr (slot_ne (Or.inl (hw _ (List.mem_of_getElem? (i := 62) rfl))) (Or.inl (hw _ (List.mem_of_getElem? (i := 60) rfl))) (by decide) (t := .int) (t' := .int) (by decide) (by decide))))
        have f132 := (j5_96.keep (Keep.of_wr W124) (ninS (Ne.symm ne_a_bt) nin0))
        have f133 := (kk96.trans (Keep.of_wr W124) (allS (Or.inl (List.mem_of_getElem? (i := 0) rfl)) all0))
        obtain ⟨T126, L126, H126, avb96126, q0_126, q1_126, q2_126, q3_126, q4_126, q5_126, q6_126, q7_126, q8_126, q9_126, q10_126, q11_126, k126⟩ := ih (x96 + 1) T124 _ h124 (ava96 + (1 : Int32)) (by omega) X124 e124 N124 f127 f128 f129 f130 F124 f131 f132 (own_inc (k := A + x96) pr0_96 (by omega)) f133
        exact ⟨T126, L126, H126, avb96126, q0_126, q1_126, q2_126, q3_126, q4_126, q5_126, q6_126, q7_126, q8_126, q9_126, q10_126, q11_126, fun tg_ kt => k125 tg_ (k126 tg_ kt)⟩
      · obtain ⟨T134, X134, e134, st134⟩ := getF X120 hx hZ hown (host := "") (Or.inl (hw _ (List.mem_of_getElem? (i := 55) rfl))) Via.refl e120 j1_96 (g := (mkF m 26 #[.val (.ref a)] [(.ref a)])) rfl rfl (hb hby d12_26)
        obtain ⟨T135, X135, e135, st135⟩ := getF X134 hx hZ hown (host := "") (Or.inl (hw _ (List.mem_of_getElem? (i := 59) rfl))) Via.refl e134 j3_96 (g := (mkF m 30 #[.val (.ref a)] [(.ref a), (.ref bt)])) rfl rfl (hb hby d12_30)
        have k136 : ∀ tg_, Steps p.tables e below (T135.setTop (mkF m 36 #[.val (.ref a)] [(.int (9 : Int32)), (.int (f (A + x96)))])) tg_ → Steps p.tables e below (Ta96.setTop (mkF m 0 #[.val (.ref a)] [])) tg_ := by
          intro tg_ kt
          refine k121 tg_ ?_
          refine XS.icmpNo X120.here hx rfl (hb hby d12_22) rfl (feq hc22_122).1 ?_
          show Steps p.tables e below (T120.setTop (mkF m 25 #[.val (.ref a)] [])) _
          refine XS.aloadN X120.here hx rfl (hb hby d12_25) rfl rfl ?_
          show Steps p.tables e below (T120.setTop (mkF m 26 #[.val (.ref a)] [(.ref a)])) _
          refine st134 _ ?_
          show Steps p.tables e below (T134.setTop (mkF m 29 #[.val (.ref a)] [(.ref bt)])) _
          refine XS.aloadN X134.here hx rfl (hb hby d12_29) rfl rfl ?_
          show Steps p.tables e below (T134.setTop (mkF m 30 #[.val (.ref a)] [(.ref a), (.ref bt)])) _
          refine st135 _ ?_
          show Steps p.tables e below (T135.setTop (mkF m 33 #[.val (.ref a)] [(.int ava96), (.ref bt)])) _
          refine own_ldB X135 hx hZ e135 j5_96 (i := (A + x96)) pr0_96 (by have q := Int32.lt_iff_toInt_lt.mp hc8_118; rw [pr0_96, hen] at q; omega) rfl (g := (mkF m 33 #[.val (.ref a)] [(.int ava96), (.ref bt)])) rfl rfl (hb hby d12_33) _ ?_
          show Steps p.tables e below (T135.setTop (mkF m 34 #[.val (.ref a)] [(.int (f (A + x96)))])) _
          refine XS.bipush X135.here hx rfl (hb hby d12_34) ?_
          show Steps p.tables e below (T135.setTop (mkF m 36 #[.val (.ref a)] [(.int (9 : Int32)), (.int (f (A + x96)))])) _
          exact kt
        by_cases hc36_137 : (f (A + x96)) = (9 : Int32)
        · obtain ⟨T138, X138, e138, st138⟩ := getF X135 hx hZ hown (host := "") (Or.inl (hw _ (List.mem_of_getElem? (i := 59) rfl))) Via.refl e135 j3_96 (g := (mkF m 69 #[.val (.ref a)] [(.ref a), (.ref a)])) rfl rfl (hb hby d12_69)
          obtain ⟨T139, h139, X139, e139, W139, st139⟩ := putF X138 hx hZ hown (host := "") (Or.inl (hw _ (List.mem_of_getElem? (i := 59) rfl))) Via.refl e138 j3_96 j0_96 (Or.inl (hw _ (List.mem_of_getElem? (i := 60) rfl))) (hw _ (List.mem_of_getElem? (i := 42) rfl)) (ty := .int) (by decide) rfl rfl (g := (mkF m 74 #[.val (.ref a)] [(.int (ava96 + (1 : Int32))), (.ref a)])) rfl rfl (hb hby d12_74)
          have N139 := Fr.snoc X139 N96 g_a
          have F139 := Fld.same W139 j3_96
          have k140 : ∀ tg_, Steps p.tables e below (T139.setTop (mkF m 0 #[.val (.ref a)] [])) tg_ → Steps p.tables e below (Ta96.setTop (mkF m 0 #[.val (.ref a)] [])) tg_ := by
            intro tg_ kt
            refine k136 tg_ ?_
            refine XS.icmpYes X135.here hx rfl (pc0 := 36) (pc' := 67) rfl (hb hby d12_36) rfl (teq hc36_137).1 (by decide) (by decide) ?_
            show Steps p.tables e below (T135.setTop (mkF m 67 #[.val (.ref a)] [])) _
            refine XS.aloadN X135.here hx rfl (hb hby d12_67) rfl rfl ?_
            show Steps p.tables e below (T135.setTop (mkF m 68 #[.val (.ref a)] [(.ref a)])) _
            refine XS.dup X135.here hx rfl (hb hby d12_68) rfl rfl ?_
            show Steps p.tables e below (T135.setTop (mkF m 69 #[.val (.ref a)] [(.ref a), (.ref a)])) _
            refine st138 _ ?_
            show Steps p.tables e below (T138.setTop (mkF m 72 #[.val (.ref a)] [(.int ava96), (.ref a)])) _
            refine XS.iconst X138.here hx rfl (hb hby d12_72) ?_
            show Steps p.tables e below (T138.setTop (mkF m 73 #[.val (.ref a)] [(.int (1 : Int32)), (.int ava96), (.ref a)])) _
            refine XS.iadd X138.here hx rfl (hb hby d12_73) rfl ?_
            show Steps p.tables e below (T138.setTop (mkF m 74 #[.val (.ref a)] [(.int (ava96 + (1 : Int32))), (.ref a)])) _
            refine st139 _ ?_
            show Steps p.tables e below (T139.setTop (mkF m 77 #[.val (.ref a)] [])) _
            refine XS.goto X139.here hx rfl (pc0 := 77) (pc' := 0) rfl (hb hby d12_77) (by decide) (by decide) ?_
            show Steps p.tables e below (T139.setTop (mkF m 0 #[.val (.ref a)] [])) _
            exact kt
          have f142 := (Nat.le_trans z96 (Keep.of_wr W139).1)
          have f143 := (j0_96.keep (Keep.of_wr W139))
          have f144 := (Fld.other W139 j1_96 (Or.inr (slot_ne (Or.inl (hw _ (List.mem_of_getElem? (i := 56) rfl))) (Or.inl (hw _ (List.mem_of_getElem? (i := 60) rfl))) (by decide) (t := (.array .byte)) (t' := .int) (by decide) (by decide))))
          have f145 := (Fld.other W139 j2_96 (Or.inr (slot_ne (Or.inl (hw _ (List.mem_of_getElem? (i := 58) rfl))) (Or.inl (hw _ (List.mem_of_getElem? (i := 60) rfl))) (by decide) (t := .int) (t' := .int) (by decide) (by decide))))
          have f146 := (Fld.other W139 j4_96 (Or.inr (slot_ne (Or.inl (hw _ (List.mem_of_getElem? (i := 62) rfl))) (Or.inl (hw _ (List.mem_of_getElem? (i := 60) rfl))) (by decide) (t := .int) (t' := .int) (by decide) (by decide))))
          have f147 := (j5_96.keep (Keep.of_wr W139) (ninS (Ne.symm ne_a_bt) nin0))
          have f148 := (kk96.trans (Keep.of_wr W139) (allS (Or.inl (List.mem_of_getElem? (i := 0) rfl)) all0))
          obtain ⟨T141, L141, H141, avb96141, q0_141, q1_141, q2_141, q3_141, q4_141, q5_141, q6_141, q7_141, q8_141, q9_141, q10_141, q11_141, k141⟩ := ih (x96 + 1) T139 _ h139 (ava96 + (1 : Int32)) (by omega) X139 e139 N139 f142 f143 f144 f145 F139 f146 f147 (own_inc (k := A + x96) pr0_96 (by omega)) f148
          exact ⟨T141, L141, H141, avb96141, q0_141, q1_141, q2_141, q3_141, q4_141, q5_141, q6_141, q7_141, q8_141, q9_141, q10_141, q11_141, fun tg_ kt => k140 tg_ (k141 tg_ kt)⟩
        · obtain ⟨T149, X149, e149, st149⟩ := getF X135 hx hZ hown (host := "") (Or.inl (hw _ (List.mem_of_getElem? (i := 55) rfl))) Via.refl e135 j1_96 (g := (mkF m 40 #[.val (.ref a)] [(.ref a)])) rfl rfl (hb hby d12_40)
          obtain ⟨T150, X150, e150, st150⟩ := getF X149 hx hZ hown (host := "") (Or.inl (hw _ (List.mem_of_getElem? (i := 59) rfl))) Via.refl e149 j3_96 (g := (mkF m 44 #[.val (.ref a)] [(.ref a), (.ref bt)])) rfl rfl (hb hby d12_44)
          have k151 : ∀ tg_, Steps p.tables e below (T150.setTop (mkF m 50 #[.val (.ref a)] [(.int (13 : Int32)), (.int (f (A + x96)))])) tg_ → Steps p.tables e below (Ta96.setTop (mkF m 0 #[.val (.ref a)] [])) tg_ := by
            intro tg_ kt
            refine k136 tg_ ?_
            refine XS.icmpNo X135.here hx rfl (hb hby d12_36) rfl (feq hc36_137).1 ?_
            show Steps p.tables e below (T135.setTop (mkF m 39 #[.val (.ref a)] [])) _
            refine XS.aloadN X135.here hx rfl (hb hby d12_39) rfl rfl ?_
            show Steps p.tables e below (T135.setTop (mkF m 40 #[.val (.ref a)] [(.ref a)])) _
            refine st149 _ ?_
            show Steps p.tables e below (T149.setTop (mkF m 43 #[.val (.ref a)] [(.ref bt)])) _
            refine XS.aloadN X149.here hx rfl (hb hby d12_43) rfl rfl ?_
            show Steps p.tables e below (T149.setTop (mkF m 44 #[.val (.ref a)] [(.ref a), (.ref bt)])) _
            refine st150 _ ?_
            show Steps p.tables e below (T150.setTop (mkF m 47 #[.val (.ref a)] [(.int ava96), (.ref bt)])) _
            refine own_ldB X150 hx hZ e150 j5_96 (i := (A + x96)) pr0_96 (by have q := Int32.lt_iff_toInt_lt.mp hc8_118; rw [pr0_96, hen] at q; omega) rfl (g := (mkF m 47 #[.val (.ref a)] [(.int ava96), (.ref bt)])) rfl rfl (hb hby d12_47) _ ?_
            show Steps p.tables e below (T150.setTop (mkF m 48 #[.val (.ref a)] [(.int (f (A + x96)))])) _
            refine XS.bipush X150.here hx rfl (hb hby d12_48) ?_
            show Steps p.tables e below (T150.setTop (mkF m 50 #[.val (.ref a)] [(.int (13 : Int32)), (.int (f (A + x96)))])) _
            exact kt
          by_cases hc50_152 : (f (A + x96)) = (13 : Int32)
          · obtain ⟨T153, X153, e153, st153⟩ := getF X150 hx hZ hown (host := "") (Or.inl (hw _ (List.mem_of_getElem? (i := 59) rfl))) Via.refl e150 j3_96 (g := (mkF m 69 #[.val (.ref a)] [(.ref a), (.ref a)])) rfl rfl (hb hby d12_69)
            obtain ⟨T154, h154, X154, e154, W154, st154⟩ := putF X153 hx hZ hown (host := "") (Or.inl (hw _ (List.mem_of_getElem? (i := 59) rfl))) Via.refl e153 j3_96 j0_96 (Or.inl (hw _ (List.mem_of_getElem? (i := 60) rfl))) (hw _ (List.mem_of_getElem? (i := 42) rfl)) (ty := .int) (by decide) rfl rfl (g := (mkF m 74 #[.val (.ref a)] [(.int (ava96 + (1 : Int32))), (.ref a)])) rfl rfl (hb hby d12_74)
            have N154 := Fr.snoc X154 N96 g_a
            have F154 := Fld.same W154 j3_96
            have k155 : ∀ tg_, Steps p.tables e below (T154.setTop (mkF m 0 #[.val (.ref a)] [])) tg_ → Steps p.tables e below (Ta96.setTop (mkF m 0 #[.val (.ref a)] [])) tg_ := by
              intro tg_ kt
              refine k151 tg_ ?_
              refine XS.icmpYes X150.here hx rfl (pc0 := 50) (pc' := 67) rfl (hb hby d12_50) rfl (teq hc50_152).1 (by decide) (by decide) ?_
              show Steps p.tables e below (T150.setTop (mkF m 67 #[.val (.ref a)] [])) _
              refine XS.aloadN X150.here hx rfl (hb hby d12_67) rfl rfl ?_
              show Steps p.tables e below (T150.setTop (mkF m 68 #[.val (.ref a)] [(.ref a)])) _
              refine XS.dup X150.here hx rfl (hb hby d12_68) rfl rfl ?_
              show Steps p.tables e below (T150.setTop (mkF m 69 #[.val (.ref a)] [(.ref a), (.ref a)])) _
              refine st153 _ ?_
              show Steps p.tables e below (T153.setTop (mkF m 72 #[.val (.ref a)] [(.int ava96), (.ref a)])) _
              refine XS.iconst X153.here hx rfl (hb hby d12_72) ?_
              show Steps p.tables e below (T153.setTop (mkF m 73 #[.val (.ref a)] [(.int (1 : Int32)), (.int ava96), (.ref a)])) _
              refine XS.iadd X153.here hx rfl (hb hby d12_73) rfl ?_
              show Steps p.tables e below (T153.setTop (mkF m 74 #[.val (.ref a)] [(.int (ava96 + (1 : Int32))), (.ref a)])) _
              refine st154 _ ?_
              show Steps p.tables e below (T154.setTop (mkF m 77 #[.val (.ref a)] [])) _
              refine XS.goto X154.here hx rfl (pc0 := 77) (pc' := 0) rfl (hb hby d12_77) (by decide) (by decide) ?_
              show Steps p.tables e below (T154.setTop (mkF m 0 #[.val (.ref a)] [])) _
              exact kt
            have f157 := (Nat.le_trans z96 (Keep.of_wr W154).1)
            have f158 := (j0_96.keep (Keep.of_wr W154))
            have f159 := (Fld.other W154 j1_96 (Or.inr (slot_ne (Or.inl (hw _ (List.mem_of_getElem? (i := 56) rfl))) (Or.inl (hw _ (List.mem_of_getElem? (i := 60) rfl))) (by decide) (t := (.array .byte)) (t' := .int) (by decide) (by decide))))
            have f160 := (Fld.other W154 j2_96 (Or.inr (slot_ne (Or.inl (hw _ (List.mem_of_getElem? (i := 58) rfl))) (Or.inl (hw _ (List.mem_of_getElem? (i := 60) rfl))) (by decide) (t := .int) (t' := .int) (by decide) (by decide))))
            have f161 := (Fld.other W154 j4_96 (Or.inr (slot_ne (Or.inl (hw _ (List.mem_of_getElem? (i := 62) rfl))) (Or.inl (hw _ (List.mem_of_getElem? (i := 60) rfl))) (by decide) (t := .int) (t' := .int) (by decide) (by decide))))
            have f162 := (j5_96.keep (Keep.of_wr W154) (ninS (Ne.symm ne_a_bt) nin0))
            have f163 := (kk96.trans (Keep.of_wr W154) (allS (Or.inl (List.mem_of_getElem? (i := 0) rfl)) all0))
            obtain ⟨T156, L156, H156, avb96156, q0_156, q1_156, q2_156, q3_156, q4_156, q5_156, q6_156, q7_156, q8_156, q9_156, q10_156, q11_156, k156⟩ := ih (x96 + 1) T154 _ h154 (ava96 + (1 : Int32)) (by omega) X154 e154 N154 f157 f158 f159 f160 F154 f161 f162 (own_inc (k := A + x96) pr0_96 (by omega)) f163
            exact ⟨T156, L156, H156, avb96156, q0_156, q1_156, q2_156, q3_156, q4_156, q5_156, q6_156, q7_156, q8_156, q9_156, q10_156, q11_156, fun tg_ kt => k155 tg_ (k156 tg_ kt)⟩
          · obtain ⟨T164, X164, e164, st164⟩ := getF X150 hx hZ hown (host := "") (Or.inl (hw _ (List.mem_of_getElem? (i := 55) rfl))) Via.refl e150 j1_96 (g := (mkF m 54 #[.val (.ref a)] [(.ref a)])) rfl rfl (hb hby d12_54)
            obtain ⟨T165, X165, e165, st165⟩ := getF X164 hx hZ hown (host := "") (Or.inl (hw _ (List.mem_of_getElem? (i := 59) rfl))) Via.refl e164 j3_96 (g := (mkF m 58 #[.val (.ref a)] [(.ref a), (.ref bt)])) rfl rfl (hb hby d12_58)
            have hc64_166 : (f (A + x96)) = (10 : Int32) := ((hsp x96 hxN).elim (fun q => absurd q hc22_122) (fun q => q.elim (fun q => absurd q hc36_137) (fun q => q.elim (fun q => absurd q hc50_152) (fun q => q))))
            obtain ⟨T167, X167, e167, st167⟩ := getF X165 hx hZ hown (host := "") (Or.inl (hw _ (List.mem_of_getElem? (i := 59) rfl))) Via.refl e165 j3_96 (g := (mkF m 69 #[.val (.ref a)] [(.ref a), (.ref a)])) rfl rfl (hb hby d12_69)
            obtain ⟨T168, h168, X168, e168, W168, st168⟩ := putF X167 hx hZ hown (host := "") (Or.inl (hw _ (List.mem_of_getElem? (i := 59) rfl))) Via.refl e167 j3_96 j0_96 (Or.inl (hw _ (List.mem_of_getElem? (i := 60) rfl))) (hw _ (List.mem_of_getElem? (i := 42) rfl)) (ty := .int) (by decide) rfl rfl (g := (mkF m 74 #[.val (.ref a)] [(.int (ava96 + (1 : Int32))), (.ref a)])) rfl rfl (hb hby d12_74)
            have N168 := Fr.snoc X168 N96 g_a
            have F168 := Fld.same W168 j3_96
            have k169 : ∀ tg_, Steps p.tables e below (T168.setTop (mkF m 0 #[.val (.ref a)] [])) tg_ → Steps p.tables e below (Ta96.setTop (mkF m 0 #[.val (.ref a)] [])) tg_ := by
              intro tg_ kt
              refine k151 tg_ ?_
              refine XS.icmpNo X150.here hx rfl (hb hby d12_50) rfl (feq hc50_152).1 ?_
              show Steps p.tables e below (T150.setTop (mkF m 53 #[.val (.ref a)] [])) _
              refine XS.aloadN X150.here hx rfl (hb hby d12_53) rfl rfl ?_
              show Steps p.tables e below (T150.setTop (mkF m 54 #[.val (.ref a)] [(.ref a)])) _
              refine st164 _ ?_
              show Steps p.tables e below (T164.setTop (mkF m 57 #[.val (.ref a)] [(.ref bt)])) _
              refine XS.aloadN X164.here hx rfl (hb hby d12_57) rfl rfl ?_
              show Steps p.tables e below (T164.setTop (mkF m 58 #[.val (.ref a)] [(.ref a), (.ref bt)])) _
              refine st165 _ ?_
              show Steps p.tables e below (T165.setTop (mkF m 61 #[.val (.ref a)] [(.int ava96), (.ref bt)])) _
              refine own_ldB X165 hx hZ e165 j5_96 (i := (A + x96)) pr0_96 (by have q := Int32.lt_iff_toInt_lt.mp hc8_118; rw [pr0_96, hen] at q; omega) rfl (g := (mkF m 61 #[.val (.ref a)] [(.int ava96), (.ref bt)])) rfl rfl (hb hby d12_61) _ ?_
              show Steps p.tables e below (T165.setTop (mkF m 62 #[.val (.ref a)] [(.int (f (A + x96)))])) _
              refine XS.bipush X165.here hx rfl (hb hby d12_62) ?_
              show Steps p.tables e below (T165.setTop (mkF m 64 #[.val (.ref a)] [(.int (10 : Int32)), (.int (f (A + x96)))])) _
              refine XS.icmpNo X165.here hx rfl (hb hby d12_64) rfl (teq hc64_166).2 ?_
              show Steps p.tables e below (T165.setTop (mkF m 67 #[.val (.ref a)] [])) _
              refine XS.aloadN X165.here hx rfl (hb hby d12_67) rfl rfl ?_
              show Steps p.tables e below (T165.setTop (mkF m 68 #[.val (.ref a)] [(.ref a)])) _
              refine XS.dup X165.here hx rfl (hb hby d12_68) rfl rfl ?_
              show Steps p.tables e below (T165.setTop (mkF m 69 #[.val (.ref a)] [(.ref a), (.ref a)])) _
              refine st167 _ ?_
              show Steps p.tables e below (T167.setTop (mkF m 72 #[.val (.ref a)] [(.int ava96), (.ref a)])) _
              refine XS.iconst X167.here hx rfl (hb hby d12_72) ?_
              show Steps p.tables e below (T167.setTop (mkF m 73 #[.val (.ref a)] [(.int (1 : Int32)), (.int ava96), (.ref a)])) _
              refine XS.iadd X167.here hx rfl (hb hby d12_73) rfl ?_
              show Steps p.tables e below (T167.setTop (mkF m 74 #[.val (.ref a)] [(.int (ava96 + (1 : Int32))), (.ref a)])) _
              refine st168 _ ?_
              show Steps p.tables e below (T168.setTop (mkF m 77 #[.val (.ref a)] [])) _
              refine XS.goto X168.here hx rfl (pc0 := 77) (pc' := 0) rfl (hb hby d12_77) (by decide) (by decide) ?_
              show Steps p.tables e below (T168.setTop (mkF m 0 #[.val (.ref a)] [])) _
              exact kt
            have f171 := (Nat.le_trans z96 (Keep.of_wr W168).1)
            have f172 := (j0_96.keep (Keep.of_wr W168))
            have f173 := (Fld.other W168 j1_96 (Or.inr (slot_ne (Or.inl (hw _ (List.mem_of_getElem? (i := 56) rfl))) (Or.inl (hw _ (List.mem_of_getElem? (i := 60) rfl))) (by decide) (t := (.array .byte)) (t' := .int) (by decide) (by decide))))
            have f174 := (Fld.other W168 j2_96 (Or.inr (slot_ne (Or.inl (hw _ (List.mem_of_getElem? (i := 58) rfl))) (Or.inl (hw _ (List.mem_of_getElem? (i := 60) rfl))) (by decide) (t := .int) (t' := .int) (by decide) (by decide))))
            have f175 := (Fld.other W168 j4_96 (Or.inr (slot_ne (Or.inl (hw _ (List.mem_of_getElem? (i := 62) rfl))) (Or.inl (hw _ (List.mem_of_getElem? (i := 60) rfl))) (by decide) (t := .int) (t' := .int) (by decide) (by decide))))
            have f176 := (j5_96.keep (Keep.of_wr W168) (ninS (Ne.symm ne_a_bt) nin0))
            have f177 := (kk96.trans (Keep.of_wr W168) (allS (Or.inl (List.mem_of_getElem? (i := 0) rfl)) all0))
            obtain ⟨T170, L170, H170, avb96170, q0_170, q1_170, q2_170, q3_170, q4_170, q5_170, q6_170, q7_170, q8_170, q9_170, q10_170, q11_170, k170⟩ := ih (x96 + 1) T168 _ h168 (ava96 + (1 : Int32)) (by omega) X168 e168 N168 f171 f172 f173 f174 F168 f175 f176 (own_inc (k := A + x96) pr0_96 (by omega)) f177
            exact ⟨T170, L170, H170, avb96170, q0_170, q1_170, q2_170, q3_170, q4_170, q5_170, q6_170, q7_170, q8_170, q9_170, q10_170, q11_170, fun tg_ kt => k169 tg_ (k170 tg_ kt)⟩
  obtain ⟨T178, L178, H178, avb96178, X178, e178, N178, z178, j0_178, j1_178, j2_178, j3_178, j4_178, j5_178, pr0_178, kk178, kl178⟩ := lp96 M 0 s₁ _ h0 at0 (by omega) X0 e0 N0 Z0 E_a F_a_bytes F_a_end F_a_at F_a_nested V_bt (by simpa using hat) (Keep.refl h0 [a])
  have k178 : ∀ tg_, Steps p.tables e below (T178.setTop (mkF m 80 #[.val (.ref a)] [])) tg_ → Steps p.tables e below (s₁.setTop (entryFrame m #[(.ref a)] 1)) tg_ := fun tg_ kt => k0 tg_ (kl178 tg_ kt)
  have hatz : avb96178 = z := Int32.toInt_inj.mp (by rw [hzz]; exact pr0_178)
  obtain ⟨fs, hr, hrun, hended, hW, hsame⟩ := X178.leave (v := none) (fun _ => rfl) (hlocks := by first | exact BodyLoose.notSynchronized Bd | exact Body.notSynchronized Bd)
  refine ⟨_, _, k178 _ (X178.returnOut hx Bd.returns (hb hby d12_80) hr), hrun, hended, _, _, rfl, ?_, ⟨_, rfl⟩, hW, hsame.mono (by decide) (by decide)⟩
  show Q12 Z a bt en at0 ne0 n f A M E z h0 n0 _ T178.heap _
  rw [e178]
  exact ⟨rfl, N178, kk178, j1_178, j2_178, (hatz ▸ j3_178), j4_178⟩
theorem pd_7 : parseMethodDescriptor "()V" = some ⟨[], none⟩ := by decide +kernel
theorem d11_0 : decode prog_23_method_3_code 0 = .ok (.aload_n 0, 1) := by decide +kernel
theorem d11_1 : decode prog_23_method_3_code 1 = .ok (.invokevirtual 23, 3) := by decide +kernel
theorem d11_4 : decode prog_23_method_3_code 4 = .ok (.aload_n 0, 1) := by decide +kernel
theorem d11_5 : decode prog_23_method_3_code 5 = .ok (.getfield 17, 3) := by decide +kernel
theorem d11_8 : decode prog_23_method_3_code 8 = .ok (.aload_n 0, 1) := by decide +kernel
theorem d11_9 : decode prog_23_method_3_code 9 = .ok (.getfield 13, 3) := by decide +kernel
theorem d11_12 : decode prog_23_method_3_code 12 = .ok (.if_icmp .ge 7, 3) := by decide +kernel
theorem d11_15 : decode prog_23_method_3_code 15 = .ok (.iconst 1, 1) := by decide +kernel
theorem d11_16 : decode prog_23_method_3_code 16 = .ok (.goto 4, 3) := by decide +kernel
theorem d11_19 : decode prog_23_method_3_code 19 = .ok (.iconst 0, 1) := by decide +kernel
theorem d11_20 : decode prog_23_method_3_code 20 = .ok (.ireturn, 1) := by decide +kernel
theorem pn_11 : plainName "com/example/benzer/benzer/cli/JsonReader" = true := by first | (simp [plainName, overriddenIn]; done) | decide +kernel
theorem ef_11 (m : MethodId) (x0 : Addr) : entryFrame m #[(.ref x0)] 1 = mkF m 0 #[.val (.ref x0)] [] := by first | (simp [entryFrame, mkF, argsToLocals, Value.category]; done) | rfl
def own_hm (z : Int32) (en : Int32) : Int32 := (if z < en then (1 : Int32) else (0 : Int32))
theorem own_eq_own_hm (z : Int32) (en : Int32) : own_hm z en = (if z < en then (1 : Int32) else (0 : Int32)) := rfl
def Q11 (Z : State) (a : Addr) (bt : Addr) (en : Int32) (at0 : Int32) (ne0 : Int32) (n : Nat) (f : Nat → Int32) (A : Nat) (M : Nat) (E : Nat) (z : Int32) (h0 : Heap) (n0 : Nat) (rv_ : Option Value) (h : Heap) (LL_ : List Loc) : Prop := rv_ = some (.int (own_hm z en)) ∧ Fr n0 LL_ ∧ Keep h0 h [a] ∧ Fld Z h a "com/example/benzer/benzer/cli/JsonReader" "bytes" "[B" (.ref bt) ∧ Fld Z h a "com/example/benzer/benzer/cli/JsonReader" "end" "I" (.int en) ∧ Fld Z h a "com/example/benzer/benzer/cli/JsonReader" "at" "I" (.int z) ∧ Fld Z h a "com/example/benzer/benzer/cli/JsonReader" "nested" "I" (.int ne0)
set_option maxRecDepth 65536 in
set_option maxHeartbeats 40000000 in
theorem rm11 (l : Launch) (Z : State) (a0 : Array Value) (hw : ∀ d ∈ tables_1, d.before a0 Z = true) (ws : List Jvm.Cond) (a : Addr) (bt : Addr) (en : Int32) (at0 : Int32) (ne0 : Int32) (n : Nat) (f : Nat → Int32) (A : Nat) (M : Nat) (E : Nat) (z : Int32) (h0 : Heap) (n0 : Nat) (Z0 : n0 ≤ h0.size) (E_a : Exa Z h0 a "com/example/benzer/benzer/cli/JsonReader") (F_a_bytes : Fld Z h0 a "com/example/benzer/benzer/cli/JsonReader" "bytes" "[B" (.ref bt)) (F_a_end : Fld Z h0 a "com/example/benzer/benzer/cli/JsonReader" "end" "I" (.int en)) (F_a_at : Fld Z h0 a "com/example/benzer/benzer/cli/JsonReader" "at" "I" (.int at0)) (F_a_nested : Fld Z h0 a "com/example/benzer/benzer/cli/JsonReader" "nested" "I" (.int ne0)) (V_bt : own_AI Z h0 bt .byte n f) (g_a : n0 ≤ a) (ne_a_bt : a ≠ bt) (hat : at0.toInt = (A : Int)) (hen : en.toInt = (E : Int)) (hM : A + M ≤ E) (hEn : E ≤ n) (hbig : E < 900) (hsp : ∀ x, x < M → own_sp (f (A + x))) (hst : A + M < E → ¬ own_sp (f (A + M))) (hzz : z.toInt = ((A + M : Nat) : Int)) :
    MetFree l (⟨"com/example/benzer/benzer/cli/JsonReader", "hasMore", "()Z"⟩ : MethodName) (head1 (Jvm.Cond.code (⟨"com/example/benzer/benzer/cli/JsonReader", "hasMore", "()Z"⟩ : MethodName) prog_23_method_3_code 1 (some .boolean) :: ws) ({ frames := 1, cells := 0, slots := 0, locals := 12 } : Room)) (fun aa UU => aa = #[(.ref a)] ∧ Z.Warmed39 UU.vm ∧ UU.heap = h0) (fun _ _ _ _ _ => True) (fun _ UU oo UV => ∃ vv LL, oo = .returned vv ∧ Q11 Z a bt en at0 ne0 n f A M E z h0 n0 vv UV.heap LL ∧ FrameEnd UU oo UV LL ({ frames := 1, cells := 0, slots := 0, locals := 12 } : Room).cells ({ frames := 1, cells := 0, slots := 0, locals := 12 } : Room).slots) := by
  refine MetFree.of_bodySF (plainFor_of_name pn_11) hisR ?_
  intro p e s m args below meth c s₁ Bd hml0 hP hK
  obtain ⟨rfl, hZ, hh⟩ := hP
  have hx := Bd.exec
  have hby := Bd.bytes
  have hml : c.maxLocals = 1 := hml0
  have hown : s.vm.findClass "com/example/benzer/benzer/cli/JsonReader" = some m.cls := findClass_of_methodNamed Bd.named
  have hnm := (name_of_methodNamed Bd.named Bd.method).1
  have X0 : Stand p l e ({ frames := 1, cells := 0, slots := 0, locals := 12 } : Room) s m #[(.ref a)] below meth c s₁ [] 0 0 := Stand.of_body Bd
  have e0 : s₁.heap = h0 := by rw [← hh, Bd.state]; rfl
  have N0 := Fr.nil n0
  have k0 : ∀ tg_, Steps p.tables e below (s₁.setTop (mkF m 0 #[.val (.ref a)] [])) tg_ → Steps p.tables e below (s₁.setTop (entryFrame m #[(.ref a)] 1)) tg_ := fun tg_ k => castTop (ef_11 m a) k
  obtain ⟨cq179, q179, q179'⟩ := Exa.cell E_a
  obtain ⟨_, _, ⟨T179, L179, kc179, nc179⟩, -, X179, ⟨Lc179, hQ179, l179, y179, z179⟩, st179⟩ := X0.privateBack hx (y := (⟨"com/example/benzer/benzer/cli/JsonReader", "skipSpace", "()V"⟩ : MethodName)) hown (mvT hZ (hw _ (List.mem_of_getElem? (i := 68) rfl))) (mvT hZ (hw _ (List.mem_of_getElem? (i := 69) rfl))) (own_selP (y' := (⟨"com/example/benzer/benzer/cli/JsonReader", "start", "([BI)V"⟩ : MethodName)) rfl (mvT hZ (hw _ (List.mem_of_getElem? (i := 53) rfl))) (mvT hZ (hw _ (List.mem_of_getElem? (i := 52) rfl))) (mvP hZ (hw _ (List.mem_of_getElem? (i := 70) rfl))) (mvT hZ (hw _ (List.mem_of_getElem? (i := 69) rfl))) (by decide)) (Cond.privateMethod_at (mvP hZ (hw _ (List.mem_of_getElem? (i := 70) rfl)) (args := #[]))) (mvT hZ (hw _ (List.mem_of_getElem? (i := 71) rfl))) (by decide) (backOf (W := 0) (rm12 l Z a0 hw [] a bt en at0 ne0 n f A M E z h0 n0 Z0 E_a F_a_bytes F_a_end F_a_at F_a_nested V_bt g_a ne_a_bt hat hen hM hEn hbig hsp hst hzz) hZ (hw _ (List.mem_of_getElem? (i := 71) rfl)) (hw _ (List.mem_of_getElem? (i := 43) rfl)) (by decide) (by decide)) (g := (mkF m 1 #[.val (.ref a)] [(.ref a)])) rfl (by rw [hml]; rfl) (Steps.refl _) (a := a) (by rw [e0]; exact q179) q179' (argsL := []) (rest := []) (lenOf pd_7 rfl) rfl (by show 2 * 0 + _ ≤ _; exact Nat.le_of_eq rfl) (hb hby d11_1) (fun _ _ => ⟨rfl, e0, (by decide : 0 + 0 ≤ _), (by decide : 0 + 0 ≤ _)⟩)
  dsimp only [Pt.U, Pt.locs, Pt.cells, Pt.slots] at X179 l179 y179 z179 st179 hQ179
  rw [l179, y179, z179] at X179
  replace X179 : Stand p l e ({ frames := 1, cells := 0, slots := 0, locals := 12 } : Room) s m #[(.ref a)] below meth c T179 _ 0 0 := X179
  obtain ⟨rfl, Nq179, oK179, oFabytes179, oFaend179, oFaat179, oFanested179⟩ := hQ179
  have N179 := Fr.app N0 Nq179
  obtain ⟨T180, X180, e180, st180⟩ := getF X179 hx hZ hown (host := "") (Or.inl (hw _ (List.mem_of_getElem? (i := 59) rfl))) Via.refl rfl oFaat179 (g := (mkF m 5 #[.val (.ref a)] [(.ref a)])) rfl rfl (hb hby d11_5)
  obtain ⟨T181, X181, e181, st181⟩ := getF X180 hx hZ hown (host := "") (Or.inl (hw _ (List.mem_of_getElem? (i := 57) rfl))) Via.refl e180 oFaend179 (g := (mkF m 9 #[.val (.ref a)] [(.ref a), (.int z)])) rfl rfl (hb hby d11_9)
  have k182 : ∀ tg_, Steps p.tables e below (T181.setTop (mkF m 12 #[.val (.ref a)] [(.int en), (.int z)])) tg_ → Steps p.tables e below (s₁.setTop (entryFrame m #[(.ref a)] 1)) tg_ := by
    intro tg_ kt
    refine k0 tg_ ?_
    refine XS.aloadN X0.here hx rfl (hb hby d11_0) rfl rfl ?_
    show Steps p.tables e below (s₁.setTop (mkF m 1 #[.val (.ref a)] [(.ref a)])) _
    refine st179.trans ?_
    show Steps p.tables e below (T179.setTop (mkF m 4 #[.val (.ref a)] [])) _
    refine XS.aloadN X179.here hx rfl (hb hby d11_4) rfl rfl ?_
    show Steps p.tables e below (T179.setTop (mkF m 5 #[.val (.ref a)] [(.ref a)])) _
    refine st180 _ ?_
    show Steps p.tables e below (T180.setTop (mkF m 8 #[.val (.ref a)] [(.int z)])) _
    refine XS.aloadN X180.here hx rfl (hb hby d11_8) rfl rfl ?_
    show Steps p.tables e below (T180.setTop (mkF m 9 #[.val (.ref a)] [(.ref a), (.int z)])) _
    refine st181 _ ?_
    show Steps p.tables e below (T181.setTop (mkF m 12 #[.val (.ref a)] [(.int en), (.int z)])) _
    exact kt
  by_cases hc12_183 : z < en
  · have k184 : ∀ tg_, Steps p.tables e below (T181.setTop (mkF m 20 #[.val (.ref a)] [(.int (1 : Int32))])) tg_ → Steps p.tables e below (s₁.setTop (entryFrame m #[(.ref a)] 1)) tg_ := by
      intro tg_ kt
      refine k182 tg_ ?_
      refine XS.icmpNo X181.here hx rfl (hb hby d11_12) rfl (tlt hc12_183).2.1 ?_
      show Steps p.tables e below (T181.setTop (mkF m 15 #[.val (.ref a)] [])) _
      refine XS.iconst X181.here hx rfl (hb hby d11_15) ?_
      show Steps p.tables e below (T181.setTop (mkF m 16 #[.val (.ref a)] [(.int (1 : Int32))])) _
      refine XS.goto X181.here hx rfl (pc0 := 16) (pc' := 20) rfl (hb hby d11_16) (by decide) (by decide) ?_
      show Steps p.tables e below (T181.setTop (mkF m 20 #[.val (.ref a)] [(.int (1 : Int32))])) _
      exact kt
    have f185 := ((Keep.refl h0 [a]).trans oK179 (allS (Or.inl (List.mem_of_getElem? (i := 0) rfl)) all0))
    obtain ⟨fs, hr, hrun, hended, hW, hsame⟩ := X181.leave (v := some (.int (1 : Int32))) (fun h => by rw [Bd.returns] at h; cases h) (hlocks := by first | exact BodyLoose.notSynchronized Bd | exact Body.notSynchronized Bd)
    refine ⟨_, _, k184 _ (retN X181 hx (t := .boolean) Bd.returns (by simp) (hb hby d11_20) hr), hrun, hended, _, _, rfl, ?_, ⟨_, rfl⟩, hW, hsame.mono (by decide) (by decide)⟩
    show Q11 Z a bt en at0 ne0 n f A M E z h0 n0 _ T181.heap _
    rw [e181]
    exact ⟨(by rw [own_eq_own_hm]; rw [if_pos hc12_183]), N179, f185, oFabytes179, oFaend179, oFaat179, oFanested179⟩
  · have k186 : ∀ tg_, Steps p.tables e below (T181.setTop (mkF m 20 #[.val (.ref a)] [(.int (0 : Int32))])) tg_ → Steps p.tables e below (s₁.setTop (entryFrame m #[(.ref a)] 1)) tg_ := by
      intro tg_ kt
      refine k182 tg_ ?_
      refine XS.icmpYes X181.here hx rfl (pc0 := 12) (pc' := 19) rfl (hb hby d11_12) rfl (flt hc12_183).2.1 (by decide) (by decide) ?_
      show Steps p.tables e below (T181.setTop (mkF m 19 #[.val (.ref a)] [])) _
      refine XS.iconst X181.here hx rfl (hb hby d11_19) ?_
      show Steps p.tables e below (T181.setTop (mkF m 20 #[.val (.ref a)] [(.int (0 : Int32))])) _
      exact kt
    have f187 := ((Keep.refl h0 [a]).trans oK179 (allS (Or.inl (List.mem_of_getElem? (i := 0) rfl)) all0))
    obtain ⟨fs, hr, hrun, hended, hW, hsame⟩ := X181.leave (v := some (.int (0 : Int32))) (fun h => by rw [Bd.returns] at h; cases h) (hlocks := by first | exact BodyLoose.notSynchronized Bd | exact Body.notSynchronized Bd)
    refine ⟨_, _, k186 _ (retN X181 hx (t := .boolean) Bd.returns (by simp) (hb hby d11_20) hr), hrun, hended, _, _, rfl, ?_, ⟨_, rfl⟩, hW, hsame.mono (by decide) (by decide)⟩
    show Q11 Z a bt en at0 ne0 n f A M E z h0 n0 _ T181.heap _
    rw [e181]
    exact ⟨(by rw [own_eq_own_hm]; rw [if_neg hc12_183]), N179, f187, oFabytes179, oFaend179, oFaat179, oFanested179⟩
theorem d18_0 : decode jdk_31_method_10_code 0 = .ok (.aload_n 0, 1) := by decide +kernel
theorem d18_1 : decode jdk_31_method_10_code 1 = .ok (.ifnonnull 11, 3) := by decide +kernel
theorem d18_12 : decode jdk_31_method_10_code 12 = .ok (.aload_n 0, 1) := by decide +kernel
theorem d18_13 : decode jdk_31_method_10_code 13 = .ok (.areturn, 1) := by decide +kernel
theorem pn_18 : plainName "java/util/Objects" = true := by first | (simp [plainName, overriddenIn]; done) | decide +kernel
theorem ef_18 (m : MethodId) (x0 : Addr) : entryFrame m #[(.ref x0)] 1 = mkF m 0 #[.val (.ref x0)] [] := by first | (simp [entryFrame, mkF, argsToLocals, Value.category]; done) | rfl
def Q18 (Z : State) (x : Addr) (h0 : Heap) (n0 : Nat) (rv_ : Option Value) (h : Heap) (LL_ : List Loc) : Prop := rv_ = some (.ref x) ∧ Fr n0 LL_ ∧ h = h0
set_option maxRecDepth 65536 in
set_option maxHeartbeats 40000000 in
theorem rm18 (l : Launch) (Z : State) (a0 : Array Value) (hw : ∀ d ∈ tables_1, d.before a0 Z = true) (ws : List Jvm.Cond) (x : Addr) (h0 : Heap) (n0 : Nat) :
    MetFree l (⟨"java/util/Objects", "requireNonNull", "(Ljava/lang/Object;)Ljava/lang/Object;"⟩ : MethodName) (head1 (Jvm.Cond.code (⟨"java/util/Objects", "requireNonNull", "(Ljava/lang/Object;)Ljava/lang/Object;"⟩ : MethodName) jdk_31_method_10_code 1 (some (.object "java/lang/Object")) :: ws) ({ frames := 0, cells := 0, slots := 0, locals := 0 } : Room)) (fun aa UU => aa = #[(.ref x)] ∧ Z.Warmed39 UU.vm ∧ UU.heap = h0) (fun _ _ _ _ _ => True) (fun _ UU oo UV => ∃ vv LL, oo = .returned vv ∧ Q18 Z x h0 n0 vv UV.heap LL ∧ FrameEnd UU oo UV LL ({ frames := 0, cells := 0, slots := 0, locals := 0 } : Room).cells ({ frames := 0, cells := 0, slots := 0, locals := 0 } : Room).slots) := by
  refine MetFree.of_bodySF (plainFor_of_name pn_18) hisR ?_
  intro p e s m args below meth c s₁ Bd hml0 hP hK
  obtain ⟨rfl, hZ, hh⟩ := hP
  have hx := Bd.exec
  have hby := Bd.bytes
  have hml : c.maxLocals = 1 := hml0
  have hown : s.vm.findClass "java/util/Objects" = some m.cls := findClass_of_methodNamed Bd.named
  have hnm := (name_of_methodNamed Bd.named Bd.method).1
  have X0 : Stand p l e ({ frames := 0, cells := 0, slots := 0, locals := 0 } : Room) s m #[(.ref x)] below meth c s₁ [] 0 0 := Stand.of_body Bd
  have e0 : s₁.heap = h0 := by rw [← hh, Bd.state]; rfl
  have N0 := Fr.nil n0
  have k0 : ∀ tg_, Steps p.tables e below (s₁.setTop (mkF m 0 #[.val (.ref x)] [])) tg_ → Steps p.tables e below (s₁.setTop (entryFrame m #[(.ref x)] 1)) tg_ := fun tg_ k => castTop (ef_18 m x) k
  have k188 : ∀ tg_, Steps p.tables e below (s₁.setTop (mkF m 13 #[.val (.ref x)] [(.ref x)])) tg_ → Steps p.tables e below (s₁.setTop (entryFrame m #[(.ref x)] 1)) tg_ := by
    intro tg_ kt
    refine k0 tg_ ?_
    refine XS.aloadN X0.here hx rfl (hb hby d18_0) rfl rfl ?_
    show Steps p.tables e below (s₁.setTop (mkF m 1 #[.val (.ref x)] [(.ref x)])) _
    refine XS.ifnonnullYes X0.here hx rfl (pc0 := 1) (pc' := 12) rfl (hb hby d18_1) rfl (by decide) (by decide) ?_
    show Steps p.tables e below (s₁.setTop (mkF m 12 #[.val (.ref x)] [])) _
    refine XS.aloadN X0.here hx rfl (hb hby d18_12) rfl rfl ?_
    show Steps p.tables e below (s₁.setTop (mkF m 13 #[.val (.ref x)] [(.ref x)])) _
    exact kt
  obtain ⟨fs, hr, hrun, hended, hW, hsame⟩ := X0.leave (v := some (.ref x)) (fun h => by rw [Bd.returns] at h; cases h) (hlocks := by first | exact BodyLoose.notSynchronized Bd | exact Body.notSynchronized Bd)
  refine ⟨_, _, k188 _ (retOut X0 hx Bd.returns rfl (Or.inr (Or.inr (Or.inr (Or.inr ⟨rfl, rfl, rfl⟩)))) (hb hby d18_13) hr), hrun, hended, _, _, rfl, ?_, ⟨_, rfl⟩, hW, hsame.mono (by decide) (by decide)⟩
  show Q18 Z x h0 n0 _ s₁.heap _
  rw [e0]
  exact ⟨rfl, N0, rfl⟩
theorem d20_0 : decode jdk_41_method_13_code 0 = .ok (.iload_n 2, 1) := by decide +kernel
theorem d20_1 : decode jdk_41_method_13_code 1 = .ok (.iload_n 0, 1) := by decide +kernel
theorem d20_2 : decode jdk_41_method_13_code 2 = .ok (.ior, 1) := by decide +kernel
theorem d20_3 : decode jdk_41_method_13_code 3 = .ok (.iload_n 1, 1) := by decide +kernel
theorem d20_4 : decode jdk_41_method_13_code 4 = .ok (.ior, 1) := by decide +kernel
theorem d20_5 : decode jdk_41_method_13_code 5 = .ok (.ifCond .lt 10, 3) := by decide +kernel
theorem d20_8 : decode jdk_41_method_13_code 8 = .ok (.iload_n 1, 1) := by decide +kernel
theorem d20_9 : decode jdk_41_method_13_code 9 = .ok (.iload_n 2, 1) := by decide +kernel
theorem d20_10 : decode jdk_41_method_13_code 10 = .ok (.iload_n 0, 1) := by decide +kernel
theorem d20_11 : decode jdk_41_method_13_code 11 = .ok (.isub, 1) := by decide +kernel
theorem d20_12 : decode jdk_41_method_13_code 12 = .ok (.if_icmp .le 11, 3) := by decide +kernel
theorem d20_23 : decode jdk_41_method_13_code 23 = .ok (.iload_n 0, 1) := by decide +kernel
theorem d20_24 : decode jdk_41_method_13_code 24 = .ok (.ireturn, 1) := by decide +kernel
theorem pn_20 : plainName "jdk/internal/util/Preconditions" = true := by first | (simp [plainName, overriddenIn]; done) | decide +kernel
theorem ef_20 (m : MethodId) (x0 : Int32) (x1 : Int32) (x2 : Int32) (x3 : Value) (hfm : x3.isRef = true) : entryFrame m #[(.int x0), (.int x1), (.int x2), x3] 4 = mkF m 0 #[.val (.int x0), .val (.int x1), .val (.int x2), .val x3] [] := by rcases ref_cases hfm with rfl | ⟨q, rfl⟩ <;> first | (simp [entryFrame, mkF, argsToLocals, Value.category]; done) | rfl
def Q20 (Z : State) (o : Int32) (cn : Int32) (n : Int32) (fm : Value) (h0 : Heap) (n0 : Nat) (rv_ : Option Value) (h : Heap) (LL_ : List Loc) : Prop := rv_ = some (.int o) ∧ Fr n0 LL_ ∧ h = h0
set_option maxRecDepth 65536 in
set_option maxHeartbeats 40000000 in
theorem rm20 (l : Launch) (Z : State) (a0 : Array Value) (hw : ∀ d ∈ tables_1, d.before a0 Z = true) (ws : List Jvm.Cond) (o : Int32) (cn : Int32) (n : Int32) (fm : Value) (h0 : Heap) (n0 : Nat) (hfm : fm.isRef = true) (h1 : ¬ ((n ||| o) ||| cn) < (0 : Int32)) (h2 : ¬ (n - o) < cn) :
    MetFree l (⟨"jdk/internal/util/Preconditions", "checkFromIndexSize", "(IIILjava/util/function/BiFunction;)I"⟩ : MethodName) (head1 (Jvm.Cond.code (⟨"jdk/internal/util/Preconditions", "checkFromIndexSize", "(IIILjava/util/function/BiFunction;)I"⟩ : MethodName) jdk_41_method_13_code 4 (some .int) :: ws) ({ frames := 0, cells := 0, slots := 0, locals := 0 } : Room)) (fun aa UU => aa = #[(.int o), (.int cn), (.int n), fm] ∧ Z.Warmed39 UU.vm ∧ UU.heap = h0) (fun _ _ _ _ _ => True) (fun _ UU oo UV => ∃ vv LL, oo = .returned vv ∧ Q20 Z o cn n fm h0 n0 vv UV.heap LL ∧ FrameEnd UU oo UV LL ({ frames := 0, cells := 0, slots := 0, locals := 0 } : Room).cells ({ frames := 0, cells := 0, slots := 0, locals := 0 } : Room).slots) := by
  refine MetFree.of_bodySF (plainFor_of_name pn_20) hisR ?_
  intro p e s m args below meth c s₁ Bd hml0 hP hK
  obtain ⟨rfl, hZ, hh⟩ := hP
  have hx := Bd.exec
  have hby := Bd.bytes
  have hml : c.maxLocals = 4 := hml0
  have hown : s.vm.findClass "jdk/internal/util/Preconditions" = some m.cls := findClass_of_methodNamed Bd.named
  have hnm := (name_of_methodNamed Bd.named Bd.method).1
  have X0 : Stand p l e ({ frames := 0, cells := 0, slots := 0, locals := 0 } : Room) s m #[(.int o), (.int cn), (.int n), fm] below meth c s₁ [] 0 0 := Stand.of_body Bd
  have e0 : s₁.heap = h0 := by rw [← hh, Bd.state]; rfl
  have N0 := Fr.nil n0
  have k0 : ∀ tg_, Steps p.tables e below (s₁.setTop (mkF m 0 #[.val (.int o), .val (.int cn), .val (.int n), .val fm] [])) tg_ → Steps p.tables e below (s₁.setTop (entryFrame m #[(.int o), (.int cn), (.int n), fm] 4)) tg_ := fun tg_ k => castTop (ef_20 m o cn n fm hfm) k
  have hc5_189 : ¬ (((n ||| o) ||| cn) < (0 : Int32)) := h1
  have hc12_190 : ¬ ((n - o) < cn) := h2
  have k191 : ∀ tg_, Steps p.tables e below (s₁.setTop (mkF m 24 #[.val (.int o), .val (.int cn), .val (.int n), .val fm] [(.int o)])) tg_ → Steps p.tables e below (s₁.setTop (entryFrame m #[(.int o), (.int cn), (.int n), fm] 4)) tg_ := by
    intro tg_ kt
    refine k0 tg_ ?_
    refine XS.iloadN X0.here hx rfl (hb hby d20_0) rfl ?_
    show Steps p.tables e below (s₁.setTop (mkF m 1 #[.val (.int o), .val (.int cn), .val (.int n), .val fm] [(.int n)])) _
    refine XS.iloadN X0.here hx rfl (hb hby d20_1) rfl ?_
    show Steps p.tables e below (s₁.setTop (mkF m 2 #[.val (.int o), .val (.int cn), .val (.int n), .val fm] [(.int o), (.int n)])) _
    refine XS.ior X0.here hx rfl (hb hby d20_2) rfl ?_
    show Steps p.tables e below (s₁.setTop (mkF m 3 #[.val (.int o), .val (.int cn), .val (.int n), .val fm] [(.int (n ||| o))])) _
    refine XS.iloadN X0.here hx rfl (hb hby d20_3) rfl ?_
    show Steps p.tables e below (s₁.setTop (mkF m 4 #[.val (.int o), .val (.int cn), .val (.int n), .val fm] [(.int cn), (.int (n ||| o))])) _
    refine XS.ior X0.here hx rfl (hb hby d20_4) rfl ?_
    show Steps p.tables e below (s₁.setTop (mkF m 5 #[.val (.int o), .val (.int cn), .val (.int n), .val fm] [(.int ((n ||| o) ||| cn))])) _
    refine XS.ifNo X0.here hx rfl (hb hby d20_5) rfl ((if0 _ _).trans (flt hc5_189).1) ?_
    show Steps p.tables e below (s₁.setTop (mkF m 8 #[.val (.int o), .val (.int cn), .val (.int n), .val fm] [])) _
    refine XS.iloadN X0.here hx rfl (hb hby d20_8) rfl ?_
    show Steps p.tables e below (s₁.setTop (mkF m 9 #[.val (.int o), .val (.int cn), .val (.int n), .val fm] [(.int cn)])) _
    refine XS.iloadN X0.here hx rfl (hb hby d20_9) rfl ?_
    show Steps p.tables e below (s₁.setTop (mkF m 10 #[.val (.int o), .val (.int cn), .val (.int n), .val fm] [(.int n), (.int cn)])) _
    refine XS.iloadN X0.here hx rfl (hb hby d20_10) rfl ?_
    show Steps p.tables e below (s₁.setTop (mkF m 11 #[.val (.int o), .val (.int cn), .val (.int n), .val fm] [(.int o), (.int n), (.int cn)])) _
    refine XS.isub X0.here hx rfl (hb hby d20_11) rfl ?_
    show Steps p.tables e below (s₁.setTop (mkF m 12 #[.val (.int o), .val (.int cn), .val (.int n), .val fm] [(.int (n - o)), (.int cn)])) _
    refine XS.icmpYes X0.here hx rfl (pc0 := 12) (pc' := 23) rfl (hb hby d20_12) rfl (flt hc12_190).2.2.2 (by decide) (by decide) ?_
    show Steps p.tables e below (s₁.setTop (mkF m 23 #[.val (.int o), .val (.int cn), .val (.int n), .val fm] [])) _
    refine XS.iloadN X0.here hx rfl (hb hby d20_23) rfl ?_
    show Steps p.tables e below (s₁.setTop (mkF m 24 #[.val (.int o), .val (.int cn), .val (.int n), .val fm] [(.int o)])) _
    exact kt
  obtain ⟨fs, hr, hrun, hended, hW, hsame⟩ := X0.leave (v := some (.int o)) (fun h => by rw [Bd.returns] at h; cases h) (hlocks := by first | exact BodyLoose.notSynchronized Bd | exact Body.notSynchronized Bd)
  refine ⟨_, _, k191 _ (retI X0 hx Bd.returns (hb hby d20_24) hr), hrun, hended, _, _, rfl, ?_, ⟨_, rfl⟩, hW, hsame.mono (by decide) (by decide)⟩
  show Q20 Z o cn n fm h0 n0 _ s₁.heap _
  rw [e0]
  exact ⟨rfl, N0, rfl⟩
theorem pd_13 : parseMethodDescriptor "(IIILjava/util/function/BiFunction;)I" = some ⟨[.int, .int, .int, (.object "java/util/function/BiFunction")], some .int⟩ := by decide +kernel
theorem d19_0 : decode jdk_42_method_157_code 0 = .ok (.iload_n 0, 1) := by decide +kernel
theorem d19_1 : decode jdk_42_method_157_code 1 = .ok (.iload_n 1, 1) := by decide +kernel
theorem d19_2 : decode jdk_42_method_157_code 2 = .ok (.iload_n 2, 1) := by decide +kernel
theorem d19_3 : decode jdk_42_method_157_code 3 = .ok (.getstatic 1053, 3) := by decide +kernel
theorem d19_6 : decode jdk_42_method_157_code 6 = .ok (.invokestatic 1065, 3) := by decide +kernel
theorem d19_9 : decode jdk_42_method_157_code 9 = .ok (.ireturn, 1) := by decide +kernel
theorem pn_19 : plainName "java/lang/String" = true := by first | (simp [plainName, overriddenIn]; done) | decide +kernel
theorem ef_19 (m : MethodId) (x0 : Int32) (x1 : Int32) (x2 : Int32) : entryFrame m #[(.int x0), (.int x1), (.int x2)] 3 = mkF m 0 #[.val (.int x0), .val (.int x1), .val (.int x2)] [] := by first | (simp [entryFrame, mkF, argsToLocals, Value.category]; done) | rfl
def Q19 (Z : State) (o : Int32) (cn : Int32) (n : Int32) (fm : Value) (h0 : Heap) (n0 : Nat) (rv_ : Option Value) (h : Heap) (LL_ : List Loc) : Prop := rv_ = some (.int o) ∧ Fr n0 LL_ ∧ h = h0
set_option maxRecDepth 65536 in
set_option maxHeartbeats 40000000 in
theorem rm19 (l : Launch) (Z : State) (a0 : Array Value) (hw : ∀ d ∈ tables_1, d.before a0 Z = true) (ws : List Jvm.Cond) (o : Int32) (cn : Int32) (n : Int32) (fm : Value) (h0 : Heap) (n0 : Nat) (S_SIOOBE_FORMATTER : Sta Z h0 "jdk/internal/util/Preconditions" "SIOOBE_FORMATTER" "Ljava/util/function/BiFunction;" fm) (hfm : fm.isRef = true) (h1 : ¬ ((n ||| o) ||| cn) < (0 : Int32)) (h2 : ¬ (n - o) < cn) :
    MetFree l (⟨"java/lang/String", "checkBoundsOffCount", "(III)I"⟩ : MethodName) (head1 (Jvm.Cond.code (⟨"java/lang/String", "checkBoundsOffCount", "(III)I"⟩ : MethodName) jdk_42_method_157_code 3 (some .int) :: ws) ({ frames := 1, cells := 0, slots := 0, locals := 15 } : Room)) (fun aa UU => aa = #[(.int o), (.int cn), (.int n)] ∧ Z.Warmed39 UU.vm ∧ UU.heap = h0) (fun _ _ _ _ _ => True) (fun _ UU oo UV => ∃ vv LL, oo = .returned vv ∧ Q19 Z o cn n fm h0 n0 vv UV.heap LL ∧ FrameEnd UU oo UV LL ({ frames := 1, cells := 0, slots := 0, locals := 15 } : Room).cells ({ frames := 1, cells := 0, slots := 0, locals := 15 } : Room).slots) := by
  refine MetFree.of_bodySF (plainFor_of_name pn_19) hisR ?_
  intro p e s m args below meth c s₁ Bd hml0 hP hK
  obtain ⟨rfl, hZ, hh⟩ := hP
  have hx := Bd.exec
  have hby := Bd.bytes
  have hml : c.maxLocals = 3 := hml0
  have hown : s.vm.findClass "java/lang/String" = some m.cls := findClass_of_methodNamed Bd.named
  have hnm := (name_of_methodNamed Bd.named Bd.method).1
  have X0 : Stand p l e ({ frames := 1, cells := 0, slots := 0, locals := 15 } : Room) s m #[(.int o), (.int cn), (.int n)] below meth c s₁ [] 0 0 := Stand.of_body Bd
  have e0 : s₁.heap = h0 := by rw [← hh, Bd.state]; rfl
  have N0 := Fr.nil n0
  have k0 : ∀ tg_, Steps p.tables e below (s₁.setTop (mkF m 0 #[.val (.int o), .val (.int cn), .val (.int n)] [])) tg_ → Steps p.tables e below (s₁.setTop (entryFrame m #[(.int o), (.int cn), (.int n)] 3)) tg_ := fun tg_ k => castTop (ef_19 m o cn n) k
  obtain ⟨T192, X192, e192, st192⟩ := getS2 X0 hx hZ hown (host := "") (Or.inl (hw _ (List.mem_of_getElem? (i := 32) rfl))) Via.refl e0 S_SIOOBE_FORMATTER (g := (mkF m 3 #[.val (.int o), .val (.int cn), .val (.int n)] [(.int n), (.int cn), (.int o)])) rfl (hb hby d19_3)
  obtain ⟨_, _, ⟨T193, L193, kc193, nc193⟩, -, X193, ⟨Lc193, hQ193, l193, y193, z193⟩, st193⟩ := Jvm.LawKit.callS X192 hx (y := (⟨"jdk/internal/util/Preconditions", "checkFromIndexSize", "(IIILjava/util/function/BiFunction;)I"⟩ : MethodName)) hown (mvT hZ (hw _ (List.mem_of_getElem? (i := 102) rfl))) (mvT hZ (hw _ (List.mem_of_getElem? (i := 103) rfl))) (mvT hZ (hw _ (List.mem_of_getElem? (i := 33) rfl))) (mvT hZ (hw _ (List.mem_of_getElem? (i := 104) rfl))) (by decide) (backOf (W := 0) (rm20 l Z a0 hw [] o cn n fm h0 n0 hfm h1 h2) hZ (hw _ (List.mem_of_getElem? (i := 104) rfl)) (hw _ (List.mem_of_getElem? (i := 33) rfl)) (by decide) (by decide)) (g := (mkF m 6 #[.val (.int o), .val (.int cn), .val (.int n)] [fm, (.int n), (.int cn), (.int o)])) rfl (by rw [hml]; rfl) (argsL := [(.int o), (.int cn), (.int n), fm]) (rest := []) (lenOf pd_13 rfl) rfl (by show 2 * 0 + _ ≤ _; exact Nat.le_of_eq rfl) (hb hby d19_6) (fun _ _ => ⟨rfl, e192, (by decide : 0 + 0 ≤ _), (by decide : 0 + 0 ≤ _)⟩)
  dsimp only [Pt.U, Pt.locs, Pt.cells, Pt.slots] at X193 l193 y193 z193 st193 hQ193
  rw [l193, y193, z193] at X193
  replace X193 : Stand p l e ({ frames := 1, cells := 0, slots := 0, locals := 15 } : Room) s m #[(.int o), (.int cn), (.int n)] below meth c T193 _ 0 0 := X193
  obtain ⟨rfl, Nq193, eq193⟩ := hQ193
  have N193 := Fr.app N0 Nq193
  have k194 : ∀ tg_, Steps p.tables e below (T193.setTop (mkF m 9 #[.val (.int o), .val (.int cn), .val (.int n)] [(.int o)])) tg_ → Steps p.tables e below (s₁.setTop (entryFrame m #[(.int o), (.int cn), (.int n)] 3)) tg_ := by
    intro tg_ kt
    refine k0 tg_ ?_
    refine XS.iloadN X0.here hx rfl (hb hby d19_0) rfl ?_
    show Steps p.tables e below (s₁.setTop (mkF m 1 #[.val (.int o), .val (.int cn), .val (.int n)] [(.int o)])) _
    refine XS.iloadN X0.here hx rfl (hb hby d19_1) rfl ?_
    show Steps p.tables e below (s₁.setTop (mkF m 2 #[.val (.int o), .val (.int cn), .val (.int n)] [(.int cn), (.int o)])) _
    refine XS.iloadN X0.here hx rfl (hb hby d19_2) rfl ?_
    show Steps p.tables e below (s₁.setTop (mkF m 3 #[.val (.int o), .val (.int cn), .val (.int n)] [(.int n), (.int cn), (.int o)])) _
    refine st192 _ ?_
    show Steps p.tables e below (T192.setTop (mkF m 6 #[.val (.int o), .val (.int cn), .val (.int n)] [fm, (.int n), (.int cn), (.int o)])) _
    refine st193 _ ?_
    show Steps p.tables e below (T193.setTop (mkF m 9 #[.val (.int o), .val (.int cn), .val (.int n)] [(.int o)])) _
    exact kt
  obtain ⟨fs, hr, hrun, hended, hW, hsame⟩ := X193.leave (v := some (.int o)) (fun h => by rw [Bd.returns] at h; cases h) (hlocks := by first | exact BodyLoose.notSynchronized Bd | exact Body.notSynchronized Bd)
  refine ⟨_, _, k194 _ (retI X193 hx Bd.returns (hb hby d19_9) hr), hrun, hended, _, _, rfl, ?_, ⟨_, rfl⟩, hW, hsame.mono (by decide) (by decide)⟩
  show Q19 Z o cn n fm h0 n0 _ T193.heap _
  rw [eq193]
  exact ⟨rfl, N193, rfl⟩
theorem d24_0 : decode jdk_65_method_131_code 0 = .ok (.iload_n 1, 1) := by decide +kernel
theorem d24_1 : decode jdk_65_method_131_code 1 = .ok (.iload_n 0, 1) := by decide +kernel
theorem d24_2 : decode jdk_65_method_131_code 2 = .ok (.if_icmp .ge 35, 3) := by decide +kernel
theorem d24_37 : decode jdk_65_method_131_code 37 = .ok (.return_, 1) := by decide +kernel
theorem pn_24 : plainName "java/util/Arrays" = true := by first | (simp [plainName, overriddenIn]; done) | decide +kernel
theorem ef_24 (m : MethodId) (x0 : Int32) (x1 : Int32) : entryFrame m #[(.int x0), (.int x1)] 2 = mkF m 0 #[.val (.int x0), .val (.int x1)] [] := by first | (simp [entryFrame, mkF, argsToLocals, Value.category]; done) | rfl
def Q24 (Z : State) (f0 : Int32) (t0 : Int32) (h0 : Heap) (n0 : Nat) (rv_ : Option Value) (h : Heap) (LL_ : List Loc) : Prop := rv_ = none ∧ Fr n0 LL_ ∧ h = h0
set_option maxRecDepth 65536 in
set_option maxHeartbeats 40000000 in
theorem rm24 (l : Launch) (Z : State) (a0 : Array Value) (hw : ∀ d ∈ tables_1, d.before a0 Z = true) (ws : List Jvm.Cond) (f0 : Int32) (t0 : Int32) (h0 : Heap) (n0 : Nat) (hft : ¬ t0 < f0) :
    MetFree l (⟨"java/util/Arrays", "checkLength", "(II)V"⟩ : MethodName) (head1 (Jvm.Cond.code (⟨"java/util/Arrays", "checkLength", "(II)V"⟩ : MethodName) jdk_65_method_131_code 2 none :: ws) ({ frames := 0, cells := 0, slots := 0, locals := 0 } : Room)) (fun aa UU => aa = #[(.int f0), (.int t0)] ∧ Z.Warmed39 UU.vm ∧ UU.heap = h0) (fun _ _ _ _ _ => True) (fun _ UU oo UV => ∃ vv LL, oo = .returned vv ∧ Q24 Z f0 t0 h0 n0 vv UV.heap LL ∧ FrameEnd UU oo UV LL ({ frames := 0, cells := 0, slots := 0, locals := 0 } : Room).cells ({ frames := 0, cells := 0, slots := 0, locals := 0 } : Room).slots) := by
  refine MetFree.of_bodySF (plainFor_of_name pn_24) hisR ?_
  intro p e s m args below meth c s₁ Bd hml0 hP hK
  obtain ⟨rfl, hZ, hh⟩ := hP
  have hx := Bd.exec
  have hby := Bd.bytes
  have hml : c.maxLocals = 2 := hml0
  have hown : s.vm.findClass "java/util/Arrays" = some m.cls := findClass_of_methodNamed Bd.named
  have hnm := (name_of_methodNamed Bd.named Bd.method).1
  have X0 : Stand p l e ({ frames := 0, cells := 0, slots := 0, locals := 0 } : Room) s m #[(.int f0), (.int t0)] below meth c s₁ [] 0 0 := Stand.of_body Bd
  have e0 : s₁.heap = h0 := by rw [← hh, Bd.state]; rfl
  have N0 := Fr.nil n0
  have k0 : ∀ tg_, Steps p.tables e below (s₁.setTop (mkF m 0 #[.val (.int f0), .val (.int t0)] [])) tg_ → Steps p.tables e below (s₁.setTop (entryFrame m #[(.int f0), (.int t0)] 2)) tg_ := fun tg_ k => castTop (ef_24 m f0 t0) k
  have hc2_195 : ¬ (t0 < f0) := hft
  have k196 : ∀ tg_, Steps p.tables e below (s₁.setTop (mkF m 37 #[.val (.int f0), .val (.int t0)] [])) tg_ → Steps p.tables e below (s₁.setTop (entryFrame m #[(.int f0), (.int t0)] 2)) tg_ := by
    intro tg_ kt
    refine k0 tg_ ?_
    refine XS.iloadN X0.here hx rfl (hb hby d24_0) rfl ?_
    show Steps p.tables e below (s₁.setTop (mkF m 1 #[.val (.int f0), .val (.int t0)] [(.int t0)])) _
    refine XS.iloadN X0.here hx rfl (hb hby d24_1) rfl ?_
    show Steps p.tables e below (s₁.setTop (mkF m 2 #[.val (.int f0), .val (.int t0)] [(.int f0), (.int t0)])) _
    refine XS.icmpYes X0.here hx rfl (pc0 := 2) (pc' := 37) rfl (hb hby d24_2) rfl (flt hc2_195).2.1 (by decide) (by decide) ?_
    show Steps p.tables e below (s₁.setTop (mkF m 37 #[.val (.int f0), .val (.int t0)] [])) _
    exact kt
  obtain ⟨fs, hr, hrun, hended, hW, hsame⟩ := X0.leave (v := none) (fun _ => rfl) (hlocks := by first | exact BodyLoose.notSynchronized Bd | exact Body.notSynchronized Bd)
  refine ⟨_, _, k196 _ (X0.returnOut hx Bd.returns (hb hby d24_37) hr), hrun, hended, _, _, rfl, ?_, ⟨_, rfl⟩, hW, hsame.mono (by decide) (by decide)⟩
  show Q24 Z f0 t0 h0 n0 _ s₁.heap _
  rw [e0]
  exact ⟨rfl, N0, rfl⟩

theorem own_min4 {a b : Int32} (ha : 4 ≤ a.toInt) (hb : b.toInt = ((4 : Nat) : Int)) : (own_min a b).toInt = ((4 : Nat) : Int) := by
  rw [own_min]; split
  · exact hb
  · rename_i h; rw [Int32.lt_iff_toInt_lt] at h; omega
theorem own_sub4 {a b : Int32} {k : Nat} (ha : a.toInt = (k : Int)) (hk : k ≤ 3) (hb : b.toInt = ((k + 4 : Nat) : Int)) : (b - a).toInt = ((4 : Nat) : Int) ∧ ¬ b < a ∧ 4 ≤ ((8 : Int32) - a).toInt := by
  have x := c_isub b a
  have y := rng32 (b - a)
  have x2 := c_isub 8 a
  have y2 := rng32 ((8 : Int32) - a)
  have o : (8 : Int32).toInt = 8 := by decide
  rw [Int32.lt_iff_toInt_lt]
  refine ⟨by omega, by omega, by omega⟩
theorem own_add4 {a c : Int32} {k : Nat} (ha : a.toInt = (k : Int)) (hk : k ≤ 3) (hc : c.toInt = ((4 : Nat) : Int)) : (a + c).toInt = ((k + 4 : Nat) : Int) := by
  have x := c_iadd a c
  have y := rng32 (a + c)
  omega

theorem pd_16 : parseMethodDescriptor "(II)I" = some ⟨[.int, .int], some .int⟩ := by decide +kernel
theorem d23_0 : decode jdk_65_method_133_code 0 = .ok (.iload_n 1, 1) := by decide +kernel
theorem d23_1 : decode jdk_65_method_133_code 1 = .ok (.iload_n 2, 1) := by decide +kernel
theorem d23_2 : decode jdk_65_method_133_code 2 = .ok (.invokestatic 343, 3) := by decide +kernel
theorem d23_5 : decode jdk_65_method_133_code 5 = .ok (.iload_n 2, 1) := by decide +kernel
theorem d23_6 : decode jdk_65_method_133_code 6 = .ok (.iload_n 1, 1) := by decide +kernel
theorem d23_7 : decode jdk_65_method_133_code 7 = .ok (.isub, 1) := by decide +kernel
theorem d23_8 : decode jdk_65_method_133_code 8 = .ok (.istore_n 3, 1) := by decide +kernel
theorem d23_9 : decode jdk_65_method_133_code 9 = .ok (.iload_n 3, 1) := by decide +kernel
theorem d23_10 : decode jdk_65_method_133_code 10 = .ok (.newarray .byte, 2) := by decide +kernel
theorem d23_12 : decode jdk_65_method_133_code 12 = .ok (.astore 4, 2) := by decide +kernel
theorem d23_14 : decode jdk_65_method_133_code 14 = .ok (.aload_n 0, 1) := by decide +kernel
theorem d23_15 : decode jdk_65_method_133_code 15 = .ok (.iload_n 1, 1) := by decide +kernel
theorem d23_16 : decode jdk_65_method_133_code 16 = .ok (.aload 4, 2) := by decide +kernel
theorem d23_18 : decode jdk_65_method_133_code 18 = .ok (.iconst 0, 1) := by decide +kernel
theorem d23_19 : decode jdk_65_method_133_code 19 = .ok (.aload_n 0, 1) := by decide +kernel
theorem d23_20 : decode jdk_65_method_133_code 20 = .ok (.arraylength, 1) := by decide +kernel
theorem d23_21 : decode jdk_65_method_133_code 21 = .ok (.iload_n 1, 1) := by decide +kernel
theorem d23_22 : decode jdk_65_method_133_code 22 = .ok (.isub, 1) := by decide +kernel
theorem d23_23 : decode jdk_65_method_133_code 23 = .ok (.iload_n 3, 1) := by decide +kernel
theorem d23_24 : decode jdk_65_method_133_code 24 = .ok (.invokestatic 304, 3) := by decide +kernel
theorem d23_27 : decode jdk_65_method_133_code 27 = .ok (.invokestatic 150, 3) := by decide +kernel
theorem d23_30 : decode jdk_65_method_133_code 30 = .ok (.aload 4, 2) := by decide +kernel
theorem d23_32 : decode jdk_65_method_133_code 32 = .ok (.areturn, 1) := by decide +kernel
theorem pn_23 : plainName "java/util/Arrays" = true := by first | (simp [plainName, overriddenIn]; done) | decide +kernel
theorem ef_23 (m : MethodId) (x0 : Addr) (x1 : Int32) (x2 : Int32) : entryFrame m #[(.ref x0), (.int x1), (.int x2)] 5 = mkF m 0 #[.val (.ref x0), .val (.int x1), .val (.int x2), .unset, .unset] [] := by first | (simp [entryFrame, mkF, argsToLocals, Value.category]; done) | rfl
def Q23 (Z : State) (src : Addr) (fr0 : Int32) (to0 : Int32) (k : Nat) (f : Nat → Int32) (h0 : Heap) (n0 : Nat) (rv_ : Option Value) (h : Heap) (LL_ : List Loc) : Prop := True ∧ Fr n0 LL_ ∧ Keep h0 h [] ∧ (∃ va : Addr, rv_ = some (.ref va) ∧ n0 ≤ va ∧ h0.size ≤ va ∧ own_AI Z h va .byte 4 (own_shift f k))
set_option maxRecDepth 65536 in
set_option maxHeartbeats 40000000 in
theorem rm23 (l : Launch) (Z : State) (a0 : Array Value) (hw : ∀ d ∈ tables_1, d.before a0 Z = true) (ws : List Jvm.Cond) (src : Addr) (fr0 : Int32) (to0 : Int32) (k : Nat) (f : Nat → Int32) (h0 : Heap) (n0 : Nat) (Z0 : n0 ≤ h0.size) (V_src : own_AI Z h0 src .byte 8 f) (hfo : fr0.toInt = (k : Int)) (hk3 : k ≤ 3) (hto : to0.toInt = ((k + 4 : Nat) : Int)) (hfit : ∀ j, j < 8 → fits .byte (.int (f j)) = true) :
    MetFree l (⟨"java/util/Arrays", "copyOfRangeByte", "([BII)[B"⟩ : MethodName) (head1 (Jvm.Cond.code (⟨"java/util/Arrays", "copyOfRangeByte", "([BII)[B"⟩ : MethodName) jdk_65_method_133_code 5 (some (.array .byte)) :: ws) ({ frames := 1, cells := 1, slots := 4, locals := 40 } : Room)) (fun aa UU => aa = #[(.ref src), (.int fr0), (.int to0)] ∧ Z.Warmed39 UU.vm ∧ UU.heap = h0) (fun _ _ _ _ _ => True) (fun _ UU oo UV => ∃ vv LL, oo = .returned vv ∧ Q23 Z src fr0 to0 k f h0 n0 vv UV.heap LL ∧ FrameEnd UU oo UV LL ({ frames := 1, cells := 1, slots := 4, locals := 40 } : Room).cells ({ frames := 1, cells := 1, slots := 4, locals := 40 } : Room).slots) := by
  refine MetFree.of_bodySF (plainFor_of_name pn_23) hisR ?_
  intro p e s m args below meth c s₁ Bd hml0 hP hK
  obtain ⟨rfl, hZ, hh⟩ := hP
  have hx := Bd.exec
  have hby := Bd.bytes
  have hml : c.maxLocals = 5 := hml0
  have hown : s.vm.findClass "java/util/Arrays" = some m.cls := findClass_of_methodNamed Bd.named
  have hnm := (name_of_methodNamed Bd.named Bd.method).1
  have X0 : Stand p l e ({ frames := 1, cells := 1, slots := 4, locals := 40 } : Room) s m #[(.ref src), (.int fr0), (.int to0)] below meth c s₁ [] 0 0 := Stand.of_body Bd
  have e0 : s₁.heap = h0 := by rw [← hh, Bd.state]; rfl
  have N0 := Fr.nil n0
  have k0 : ∀ tg_, Steps p.tables e below (s₁.setTop (mkF m 0 #[.val (.ref src), .val (.int fr0), .val (.int to0), .unset, .unset] [])) tg_ → Steps p.tables e below (s₁.setTop (entryFrame m #[(.ref src), (.int fr0), (.int to0)] 5)) tg_ := fun tg_ k => castTop (ef_23 m src fr0 to0) k
  obtain ⟨hln, hft, h84⟩ := own_sub4 hfo hk3 hto
  obtain ⟨_, _, ⟨T197, L197, kc197, nc197⟩, -, X197, ⟨Lc197, hQ197, l197, y197, z197⟩, st197⟩ := Jvm.LawKit.callS X0 hx (y := (⟨"java/util/Arrays", "checkLength", "(II)V"⟩ : MethodName)) hown (mvT hZ (hw _ (List.mem_of_getElem? (i := 121) rfl))) (mvT hZ (hw _ (List.mem_of_getElem? (i := 122) rfl))) (mvT hZ (hw _ (List.mem_of_getElem? (i := 116) rfl))) (mvT hZ (hw _ (List.mem_of_getElem? (i := 123) rfl))) (by decide) (backOf (W := 0) (rm24 l Z a0 hw [] fr0 to0 h0 n0 hft) hZ (hw _ (List.mem_of_getElem? (i := 123) rfl)) (hw _ (List.mem_of_getElem? (i := 116) rfl)) (by decide) (by decide)) (g := (mkF m 2 #[.val (.ref src), .val (.int fr0), .val (.int to0), .unset, .unset] [(.int to0), (.int fr0)])) rfl (by rw [hml]; rfl) (argsL := [(.int fr0), (.int to0)]) (rest := []) (lenOf pd_4 rfl) rfl (by show 2 * 0 + _ ≤ _; exact Nat.le_of_eq rfl) (hb hby d23_2) (fun _ _ => ⟨rfl, e0, (by decide : 0 + 0 ≤ _), (by decide : 0 + 0 ≤ _)⟩)
  dsimp only [Pt.U, Pt.locs, Pt.cells, Pt.slots] at X197 l197 y197 z197 st197 hQ197
  rw [l197, y197, z197] at X197
  replace X197 : Stand p l e ({ frames := 1, cells := 1, slots := 4, locals := 40 } : Room) s m #[(.ref src), (.int fr0), (.int to0)] below meth c T197 _ 0 0 := X197
  obtain ⟨rfl, Nq197, eq197⟩ := hQ197
  have N197 := Fr.app N0 Nq197
  obtain ⟨T198, h198, kA198, X198, e198, E198, A198, st198⟩ := newP X197 hx hZ (hw _ (List.mem_of_getElem? (i := 0) rfl)) eq197 (g := (mkF m 10 #[.val (.ref src), .val (.int fr0), .val (.int to0), .val (.int (to0 - fr0)), .unset] [(.int (to0 - fr0))])) rfl (hb hby d23_10) rfl (own_idx hln).1 (cap := 4) (by rw [(own_idx hln).2]; omega) (by decide) (by decide) (by decide)
  obtain ⟨b198, g198⟩ : ∃ z, z = h0.size := ⟨_, rfl⟩
  rw [← g198] at A198 st198
  have ne_src_b198 : src ≠ b198 := Nat.ne_of_lt (Nat.lt_of_lt_of_le (V_src).lt (Nat.le_of_eq g198.symm))
  have ge_b198 : n0 ≤ b198 := Nat.le_trans Z0 (Nat.le_of_eq g198.symm)
  have sz_b198 : h0.size ≤ b198 := Nat.le_trans (Keep.refl h0 []).1 (Nat.le_of_eq g198.symm)
  have V198 : own_AI Z h198 b198 .byte 4 (fun _ => 0) := own_newI hln A198 rfl
  have f199 := (V_src.keep ((Keep.refl _ []).ext E198) nin0)
  obtain ⟨_, _, ⟨T200, L200, kc200, nc200⟩, -, X200, ⟨Lc200, hQ200, l200, y200, z200⟩, st200⟩ := Jvm.LawKit.callS X198 hx (y := (⟨"java/lang/Math", "min", "(II)I"⟩ : MethodName)) hown (mvT hZ (hw _ (List.mem_of_getElem? (i := 124) rfl))) (mvT hZ (hw _ (List.mem_of_getElem? (i := 125) rfl))) (mvT hZ (hw _ (List.mem_of_getElem? (i := 126) rfl))) (mvT hZ (hw _ (List.mem_of_getElem? (i := 127) rfl))) (by decide) (backOf (W := 4) (rm25 l Z a0 hw [] ((8 : Int32) - fr0) (to0 - fr0) h198 n0 ) hZ (hw _ (List.mem_of_getElem? (i := 127) rfl)) (hw _ (List.mem_of_getElem? (i := 126) rfl)) (by decide) (by decide)) (g := (mkF m 24 #[.val (.ref src), .val (.int fr0), .val (.int to0), .val (.int (to0 - fr0)), .val (.ref b198)] [(.int (to0 - fr0)), (.int ((8 : Int32) - fr0)), (.int (0 : Int32)), (.ref b198), (.int fr0), (.ref src)])) rfl (by rw [hml]; rfl) (argsL := [(.int ((8 : Int32) - fr0)), (.int (to0 - fr0))]) (rest := [(.int (0 : Int32)), (.ref b198), (.int fr0), (.ref src)]) (lenOf pd_16 rfl) rfl (by show 2 * 0 + _ ≤ _; exact Nat.le_of_eq rfl) (hb hby d23_24) (fun _ _ => ⟨rfl, e198, (by decide : 1 + 0 ≤ _), (by decide : 4 + 0 ≤ _)⟩)
  dsimp only [Pt.U, Pt.locs, Pt.cells, Pt.slots] at X200 l200 y200 z200 st200 hQ200
  rw [l200, y200, z200] at X200
  replace X200 : Stand p l e ({ frames := 1, cells := 1, slots := 4, locals := 40 } : Room) s m #[(.ref src), (.int fr0), (.int to0)] below meth c T200 _ 1 4 := X200
  obtain ⟨rfl, Nq200, eq200⟩ := hQ200
  have N200 := Fr.app N197 Nq200
  have k201 : ∀ tg_, Steps p.tables e below (T200.setTop (mkF m 27 #[.val (.ref src), .val (.int fr0), .val (.int to0), .val (.int (to0 - fr0)), .val (.ref b198)] [(.int (own_min ((8 : Int32) - fr0) (to0 - fr0))), (.int (0 : Int32)), (.ref b198), (.int fr0), (.ref src)])) tg_ → Steps p.tables e below (s₁.setTop (entryFrame m #[(.ref src), (.int fr0), (.int to0)] 5)) tg_ := by
    intro tg_ kt
    refine k0 tg_ ?_
    refine XS.iloadN X0.here hx rfl (hb hby d23_0) rfl ?_
    show Steps p.tables e below (s₁.setTop (mkF m 1 #[.val (.ref src), .val (.int fr0), .val (.int to0), .unset, .unset] [(.int fr0)])) _
    refine XS.iloadN X0.here hx rfl (hb hby d23_1) rfl ?_
    show Steps p.tables e below (s₁.setTop (mkF m 2 #[.val (.ref src), .val (.int fr0), .val (.int to0), .unset, .unset] [(.int to0), (.int fr0)])) _
    refine st197 _ ?_
    show Steps p.tables e below (T197.setTop (mkF m 5 #[.val (.ref src), .val (.int fr0), .val (.int to0), .unset, .unset] [])) _
    refine XS.iloadN X197.here hx rfl (hb hby d23_5) rfl ?_
    show Steps p.tables e below (T197.setTop (mkF m 6 #[.val (.ref src), .val (.int fr0), .val (.int to0), .unset, .unset] [(.int to0)])) _
    refine XS.iloadN X197.here hx rfl (hb hby d23_6) rfl ?_
    show Steps p.tables e below (T197.setTop (mkF m 7 #[.val (.ref src), .val (.int fr0), .val (.int to0), .unset, .unset] [(.int fr0), (.int to0)])) _
    refine XS.isub X197.here hx rfl (hb hby d23_7) rfl ?_
    show Steps p.tables e below (T197.setTop (mkF m 8 #[.val (.ref src), .val (.int fr0), .val (.int to0), .unset, .unset] [(.int (to0 - fr0))])) _
    refine XS.istoreN X197.here hx rfl (hb hby d23_8) rfl (l' := #[.val (.ref src), .val (.int fr0), .val (.int to0), .val (.int (to0 - fr0)), .unset]) rfl ?_
    show Steps p.tables e below (T197.setTop (mkF m 9 #[.val (.ref src), .val (.int fr0), .val (.int to0), .val (.int (to0 - fr0)), .unset] [])) _
    refine XS.iloadN X197.here hx rfl (hb hby d23_9) rfl ?_
    show Steps p.tables e below (T197.setTop (mkF m 10 #[.val (.ref src), .val (.int fr0), .val (.int to0), .val (.int (to0 - fr0)), .unset] [(.int (to0 - fr0))])) _
    refine st198 _ ?_
    show Steps p.tables e below (T198.setTop (mkF m 12 #[.val (.ref src), .val (.int fr0), .val (.int to0), .val (.int (to0 - fr0)), .unset] [(.ref b198)])) _
    refine XS.astore X198.here hx rfl (hb hby d23_12) rfl rfl (l' := #[.val (.ref src), .val (.int fr0), .val (.int to0), .val (.int (to0 - fr0)), .val (.ref b198)]) rfl ?_
    show Steps p.tables e below (T198.setTop (mkF m 14 #[.val (.ref src), .val (.int fr0), .val (.int to0), .val (.int (to0 - fr0)), .val (.ref b198)] [])) _
    refine XS.aloadN X198.here hx rfl (hb hby d23_14) rfl rfl ?_
    show Steps p.tables e below (T198.setTop (mkF m 15 #[.val (.ref src), .val (.int fr0), .val (.int to0), .val (.int (to0 - fr0)), .val (.ref b198)] [(.ref src)])) _
    refine XS.iloadN X198.here hx rfl (hb hby d23_15) rfl ?_
    show Steps p.tables e below (T198.setTop (mkF m 16 #[.val (.ref src), .val (.int fr0), .val (.int to0), .val (.int (to0 - fr0)), .val (.ref b198)] [(.int fr0), (.ref src)])) _
    refine XS.aload X198.here hx rfl (hb hby d23_16) rfl rfl ?_
    show Steps p.tables e below (T198.setTop (mkF m 18 #[.val (.ref src), .val (.int fr0), .val (.int to0), .val (.int (to0 - fr0)), .val (.ref b198)] [(.ref b198), (.int fr0), (.ref src)])) _
    refine XS.iconst X198.here hx rfl (hb hby d23_18) ?_
    show Steps p.tables e below (T198.setTop (mkF m 19 #[.val (.ref src), .val (.int fr0), .val (.int to0), .val (.int (to0 - fr0)), .val (.ref b198)] [(.int (0 : Int32)), (.ref b198), (.int fr0), (.ref src)])) _
    refine XS.aloadN X198.here hx rfl (hb hby d23_19) rfl rfl ?_
    show Steps p.tables e below (T198.setTop (mkF m 20 #[.val (.ref src), .val (.int fr0), .val (.int to0), .val (.int (to0 - fr0)), .val (.ref b198)] [(.ref src), (.int (0 : Int32)), (.ref b198), (.int fr0), (.ref src)])) _
    refine own_len X198 hx hZ e198 f199 (z := (8 : Int32)) (by decide) (g := (mkF m 20 #[.val (.ref src), .val (.int fr0), .val (.int to0), .val (.int (to0 - fr0)), .val (.ref b198)] [(.ref src), (.int (0 : Int32)), (.ref b198), (.int fr0), (.ref src)])) rfl rfl (hb hby d23_20) _ ?_
    show Steps p.tables e below (T198.setTop (mkF m 21 #[.val (.ref src), .val (.int fr0), .val (.int to0), .val (.int (to0 - fr0)), .val (.ref b198)] [(.int (8 : Int32)), (.int (0 : Int32)), (.ref b198), (.int fr0), (.ref src)])) _
    refine XS.iloadN X198.here hx rfl (hb hby d23_21) rfl ?_
    show Steps p.tables e below (T198.setTop (mkF m 22 #[.val (.ref src), .val (.int fr0), .val (.int to0), .val (.int (to0 - fr0)), .val (.ref b198)] [(.int fr0), (.int (8 : Int32)), (.int (0 : Int32)), (.ref b198), (.int fr0), (.ref src)])) _
    refine XS.isub X198.here hx rfl (hb hby d23_22) rfl ?_
    show Steps p.tables e below (T198.setTop (mkF m 23 #[.val (.ref src), .val (.int fr0), .val (.int to0), .val (.int (to0 - fr0)), .val (.ref b198)] [(.int ((8 : Int32) - fr0)), (.int (0 : Int32)), (.ref b198), (.int fr0), (.ref src)])) _
    refine XS.iloadN X198.here hx rfl (hb hby d23_23) rfl ?_
    show Steps p.tables e below (T198.setTop (mkF m 24 #[.val (.ref src), .val (.int fr0), .val (.int to0), .val (.int (to0 - fr0)), .val (.ref b198)] [(.int (to0 - fr0)), (.int ((8 : Int32) - fr0)), (.int (0 : Int32)), (.ref b198), (.int fr0), (.ref src)])) _
    refine st200 _ ?_
    show Steps p.tables e below (T200.setTop (mkF m 27 #[.val (.ref src), .val (.int fr0), .val (.int to0), .val (.int (to0 - fr0)), .val (.ref b198)] [(.int (own_min ((8 : Int32) - fr0) (to0 - fr0))), (.int (0 : Int32)), (.ref b198), (.int fr0), (.ref src)])) _
    exact kt
  have hmn : (own_min ((8 : Int32) - fr0) (to0 - fr0)).toInt = ((4 : Nat) : Int) := own_min4 h84 hln
  obtain ⟨T202, h202, L202, X202, e202, N202, K202, V202, st202⟩ := own_cpB X200 hx hZ hown (hw _ (List.mem_of_getElem? (i := 128) rfl)) (hw _ (List.mem_of_getElem? (i := 131) rfl)) (hw _ (List.mem_of_getElem? (i := 129) rfl)) (hw _ (List.mem_of_getElem? (i := 130) rfl)) eq200 f199 V198 (za := (8 : Int32)) (zb := (4 : Int32)) (by decide) (by decide) hfit (fun _ _ => by decide) hfo hmn (by omega) N200 ge_b198 (fr := (mkF m 27 #[.val (.ref src), .val (.int fr0), .val (.int to0), .val (.int (to0 - fr0)), .val (.ref b198)] [(.int (own_min ((8 : Int32) - fr0) (to0 - fr0))), (.int (0 : Int32)), (.ref b198), (.int fr0), (.ref src)])) rfl (by rw [hml]; rfl) (rest := []) rfl (hb hby d23_27) (by decide) (W := 0) (by show 2 * 0 + _ ≤ _; exact Nat.le_of_eq rfl) (by decide)
  have k203 : ∀ tg_, Steps p.tables e below (T202.setTop (mkF m 32 #[.val (.ref src), .val (.int fr0), .val (.int to0), .val (.int (to0 - fr0)), .val (.ref b198)] [(.ref b198)])) tg_ → Steps p.tables e below (s₁.setTop (entryFrame m #[(.ref src), (.int fr0), (.int to0)] 5)) tg_ := by
    intro tg_ kt
    refine k201 tg_ ?_
    refine st202 _ ?_
    show Steps p.tables e below (T202.setTop (mkF m 30 #[.val (.ref src), .val (.int fr0), .val (.int to0), .val (.int (to0 - fr0)), .val (.ref b198)] [])) _
    refine XS.aload X202.here hx rfl (hb hby d23_30) rfl rfl ?_
    show Steps p.tables e below (T202.setTop (mkF m 32 #[.val (.ref src), .val (.int fr0), .val (.int to0), .val (.int (to0 - fr0)), .val (.ref b198)] [(.ref b198)])) _
    exact kt
  have f204 := (((Keep.refl h0 []).trans ((Keep.refl _ []).ext E198) all0).trans K202 (allS (Or.inr sz_b198) all0))
  obtain ⟨fs, hr, hrun, hended, hW, hsame⟩ := X202.leave (v := some (.ref b198)) (fun h => by rw [Bd.returns] at h; cases h) (hlocks := by first | exact BodyLoose.notSynchronized Bd | exact Body.notSynchronized Bd)
  refine ⟨_, _, k203 _ (retOut X202 hx Bd.returns rfl (Or.inr (Or.inr (Or.inr (Or.inr ⟨rfl, rfl, rfl⟩)))) (hb hby d23_32) hr), hrun, hended, _, _, rfl, ?_, ⟨_, rfl⟩, hW, hsame.mono (by decide) (by decide)⟩
  show Q23 Z src fr0 to0 k f h0 n0 _ T202.heap _
  rw [e202]
  exact ⟨trivial, N202, f204, ⟨b198, rfl, ge_b198, sz_b198, V202⟩⟩
theorem pd_15 : parseMethodDescriptor "([BII)[B" = some ⟨[(.array .byte), .int, .int], some (.array .byte)⟩ := by decide +kernel
theorem d22_0 : decode jdk_65_method_132_code 0 = .ok (.iload_n 1, 1) := by decide +kernel
theorem d22_1 : decode jdk_65_method_132_code 1 = .ok (.ifCond .ne 9, 3) := by decide +kernel
theorem d22_4 : decode jdk_65_method_132_code 4 = .ok (.iload_n 2, 1) := by decide +kernel
theorem d22_5 : decode jdk_65_method_132_code 5 = .ok (.aload_n 0, 1) := by decide +kernel
theorem d22_6 : decode jdk_65_method_132_code 6 = .ok (.arraylength, 1) := by decide +kernel
theorem d22_7 : decode jdk_65_method_132_code 7 = .ok (.if_icmp .eq 10, 3) := by decide +kernel
theorem d22_10 : decode jdk_65_method_132_code 10 = .ok (.aload_n 0, 1) := by decide +kernel
theorem d22_11 : decode jdk_65_method_132_code 11 = .ok (.iload_n 1, 1) := by decide +kernel
theorem d22_12 : decode jdk_65_method_132_code 12 = .ok (.iload_n 2, 1) := by decide +kernel
theorem d22_13 : decode jdk_65_method_132_code 13 = .ok (.invokestatic 339, 3) := by decide +kernel
theorem d22_16 : decode jdk_65_method_132_code 16 = .ok (.areturn, 1) := by decide +kernel
theorem pn_22 : plainName "java/util/Arrays" = true := by first | (simp [plainName, overriddenIn]; done) | decide +kernel
theorem ef_22 (m : MethodId) (x0 : Addr) (x1 : Int32) (x2 : Int32) : entryFrame m #[(.ref x0), (.int x1), (.int x2)] 3 = mkF m 0 #[.val (.ref x0), .val (.int x1), .val (.int x2)] [] := by first | (simp [entryFrame, mkF, argsToLocals, Value.category]; done) | rfl
def Q22 (Z : State) (src : Addr) (fr0 : Int32) (to0 : Int32) (k : Nat) (f : Nat → Int32) (h0 : Heap) (n0 : Nat) (rv_ : Option Value) (h : Heap) (LL_ : List Loc) : Prop := True ∧ Fr n0 LL_ ∧ Keep h0 h [] ∧ (∃ va : Addr, rv_ = some (.ref va) ∧ n0 ≤ va ∧ h0.size ≤ va ∧ own_AI Z h va .byte 4 (own_shift f k))
set_option maxRecDepth 65536 in
set_option maxHeartbeats 40000000 in
theorem rm22 (l : Launch) (Z : State) (a0 : Array Value) (hw : ∀ d ∈ tables_1, d.before a0 Z = true) (ws : List Jvm.Cond) (src : Addr) (fr0 : Int32) (to0 : Int32) (k : Nat) (f : Nat → Int32) (h0 : Heap) (n0 : Nat) (Z0 : n0 ≤ h0.size) (V_src : own_AI Z h0 src .byte 8 f) (hfo : fr0.toInt = (k : Int)) (hk3 : k ≤ 3) (hto : to0.toInt = ((k + 4 : Nat) : Int)) (hfit : ∀ j, j < 8 → fits .byte (.int (f j)) = true) :
    MetFree l (⟨"java/util/Arrays", "copyOfRange", "([BII)[B"⟩ : MethodName) (head1 (Jvm.Cond.code (⟨"java/util/Arrays", "copyOfRange", "([BII)[B"⟩ : MethodName) jdk_65_method_132_code 3 (some (.array .byte)) :: ws) ({ frames := 2, cells := 1, slots := 4, locals := 56 } : Room)) (fun aa UU => aa = #[(.ref src), (.int fr0), (.int to0)] ∧ Z.Warmed39 UU.vm ∧ UU.heap = h0) (fun _ _ _ _ _ => True) (fun _ UU oo UV => ∃ vv LL, oo = .returned vv ∧ Q22 Z src fr0 to0 k f h0 n0 vv UV.heap LL ∧ FrameEnd UU oo UV LL ({ frames := 2, cells := 1, slots := 4, locals := 56 } : Room).cells ({ frames := 2, cells := 1, slots := 4, locals := 56 } : Room).slots) := by
  refine MetFree.of_bodySF (plainFor_of_name pn_22) hisR ?_
  intro p e s m args below meth c s₁ Bd hml0 hP hK
  obtain ⟨rfl, hZ, hh⟩ := hP
  have hx := Bd.exec
  have hby := Bd.bytes
  have hml : c.maxLocals = 3 := hml0
  have hown : s.vm.findClass "java/util/Arrays" = some m.cls := findClass_of_methodNamed Bd.named
  have hnm := (name_of_methodNamed Bd.named Bd.method).1
  have X0 : Stand p l e ({ frames := 2, cells := 1, slots := 4, locals := 56 } : Room) s m #[(.ref src), (.int fr0), (.int to0)] below meth c s₁ [] 0 0 := Stand.of_body Bd
  have e0 : s₁.heap = h0 := by rw [← hh, Bd.state]; rfl
  have N0 := Fr.nil n0
  have k0 : ∀ tg_, Steps p.tables e below (s₁.setTop (mkF m 0 #[.val (.ref src), .val (.int fr0), .val (.int to0)] [])) tg_ → Steps p.tables e below (s₁.setTop (entryFrame m #[(.ref src), (.int fr0), (.int to0)] 3)) tg_ := fun tg_ k => castTop (ef_22 m src fr0 to0) k
  have k205 : ∀ tg_, Steps p.tables e below (s₁.setTop (mkF m 1 #[.val (.ref src), .val (.int fr0), .val (.int to0)] [(.int fr0)])) tg_ → Steps p.tables e below (s₁.setTop (entryFrame m #[(.ref src), (.int fr0), (.int to0)] 3)) tg_ := by
    intro tg_ kt
    refine k0 tg_ ?_
    refine XS.iloadN X0.here hx rfl (hb hby d22_0) rfl ?_
    show Steps p.tables e below (s₁.setTop (mkF m 1 #[.val (.ref src), .val (.int fr0), .val (.int to0)] [(.int fr0)])) _
    exact kt
  by_cases hc1_206 : fr0 = (0 : Int32)
  · have hc7_207 : ¬ (to0 = (8 : Int32)) := (fun q => by rw [q] at hto; have o : (8 : Int32).toInt = 8 := (by decide); omega)
    obtain ⟨_, _, ⟨T208, L208, kc208, nc208⟩, -, X208, ⟨Lc208, hQ208, l208, y208, z208⟩, st208⟩ := Jvm.LawKit.callS X0 hx (y := (⟨"java/util/Arrays", "copyOfRangeByte", "([BII)[B"⟩ : MethodName)) hown (mvT hZ (hw _ (List.mem_of_getElem? (i := 118) rfl))) (mvT hZ (hw _ (List.mem_of_getElem? (i := 119) rfl))) (mvT hZ (hw _ (List.mem_of_getElem? (i := 116) rfl))) (mvT hZ (hw _ (List.mem_of_getElem? (i := 120) rfl))) (by decide) (backOf (W := 0) (rm23 l Z a0 hw [] src fr0 to0 k f h0 n0 Z0 V_src hfo hk3 hto hfit) hZ (hw _ (List.mem_of_getElem? (i := 120) rfl)) (hw _ (List.mem_of_getElem? (i := 116) rfl)) (by decide) (by decide)) (g := (mkF m 13 #[.val (.ref src), .val (.int fr0), .val (.int to0)] [(.int to0), (.int fr0), (.ref src)])) rfl (by rw [hml]; rfl) (argsL := [(.ref src), (.int fr0), (.int to0)]) (rest := []) (lenOf pd_15 rfl) rfl (by show 2 * 0 + _ ≤ _; exact Nat.le_of_eq rfl) (hb hby d22_13) (fun _ _ => ⟨rfl, e0, (by decide : 0 + 1 ≤ _), (by decide : 0 + 4 ≤ _)⟩)
    dsimp only [Pt.U, Pt.locs, Pt.cells, Pt.slots] at X208 l208 y208 z208 st208 hQ208
    rw [l208, y208, z208] at X208
    replace X208 : Stand p l e ({ frames := 2, cells := 1, slots := 4, locals := 56 } : Room) s m #[(.ref src), (.int fr0), (.int to0)] below meth c T208 _ 1 4 := X208
    obtain ⟨-, Nq208, oK208, m0_208⟩ := hQ208
    have N208 := Fr.app N0 Nq208
    obtain ⟨b208, rfl, gb208, sb208, Vr208⟩ := m0_208
    have ne_src_b208 : src ≠ b208 := Nat.ne_of_lt (Nat.lt_of_lt_of_le (V_src).lt sb208)
    have sz_b208 : h0.size ≤ b208 := Nat.le_trans (Keep.refl h0 []).1 sb208
    have k209 : ∀ tg_, Steps p.tables e below (T208.setTop (mkF m 16 #[.val (.ref src), .val (.int fr0), .val (.int to0)] [(.ref b208)])) tg_ → Steps p.tables e below (s₁.setTop (entryFrame m #[(.ref src), (.int fr0), (.int to0)] 3)) tg_ := by
      intro tg_ kt
      refine k205 tg_ ?_
      refine XS.ifNo X0.here hx rfl (hb hby d22_1) rfl ((if0 _ _).trans (teq hc1_206).2) ?_
      show Steps p.tables e below (s₁.setTop (mkF m 4 #[.val (.ref src), .val (.int fr0), .val (.int to0)] [])) _
      refine XS.iloadN X0.here hx rfl (hb hby d22_4) rfl ?_
      show Steps p.tables e below (s₁.setTop (mkF m 5 #[.val (.ref src), .val (.int fr0), .val (.int to0)] [(.int to0)])) _
      refine XS.aloadN X0.here hx rfl (hb hby d22_5) rfl rfl ?_
      show Steps p.tables e below (s₁.setTop (mkF m 6 #[.val (.ref src), .val (.int fr0), .val (.int to0)] [(.ref src), (.int to0)])) _
      refine own_len X0 hx hZ e0 V_src (z := (8 : Int32)) (by decide) (g := (mkF m 6 #[.val (.ref src), .val (.int fr0), .val (.int to0)] [(.ref src), (.int to0)])) rfl rfl (hb hby d22_6) _ ?_
      show Steps p.tables e below (s₁.setTop (mkF m 7 #[.val (.ref src), .val (.int fr0), .val (.int to0)] [(.int (8 : Int32)), (.int to0)])) _
      refine XS.icmpNo X0.here hx rfl (hb hby d22_7) rfl (feq hc7_207).1 ?_
      show Steps p.tables e below (s₁.setTop (mkF m 10 #[.val (.ref src), .val (.int fr0), .val (.int to0)] [])) _
      refine XS.aloadN X0.here hx rfl (hb hby d22_10) rfl rfl ?_
      show Steps p.tables e below (s₁.setTop (mkF m 11 #[.val (.ref src), .val (.int fr0), .val (.int to0)] [(.ref src)])) _
      refine XS.iloadN X0.here hx rfl (hb hby d22_11) rfl ?_
      show Steps p.tables e below (s₁.setTop (mkF m 12 #[.val (.ref src), .val (.int fr0), .val (.int to0)] [(.int fr0), (.ref src)])) _
      refine XS.iloadN X0.here hx rfl (hb hby d22_12) rfl ?_
      show Steps p.tables e below (s₁.setTop (mkF m 13 #[.val (.ref src), .val (.int fr0), .val (.int to0)] [(.int to0), (.int fr0), (.ref src)])) _
      refine st208 _ ?_
      show Steps p.tables e below (T208.setTop (mkF m 16 #[.val (.ref src), .val (.int fr0), .val (.int to0)] [(.ref b208)])) _
      exact kt
    have f210 := ((Keep.refl h0 []).trans oK208 all0)
    obtain ⟨fs, hr, hrun, hended, hW, hsame⟩ := X208.leave (v := some (.ref b208)) (fun h => by rw [Bd.returns] at h; cases h) (hlocks := by first | exact BodyLoose.notSynchronized Bd | exact Body.notSynchronized Bd)
    refine ⟨_, _, k209 _ (retOut X208 hx Bd.returns rfl (Or.inr (Or.inr (Or.inr (Or.inr ⟨rfl, rfl, rfl⟩)))) (hb hby d22_16) hr), hrun, hended, _, _, rfl, ?_, ⟨_, rfl⟩, hW, hsame.mono (by decide) (by decide)⟩
    show Q22 Z src fr0 to0 k f h0 n0 _ T208.heap _
    exact ⟨trivial, N208, f210, ⟨b208, rfl, gb208, sz_b208, Vr208⟩⟩
  · obtain ⟨_, _, ⟨T211, L211, kc211, nc211⟩, -, X211, ⟨Lc211, hQ211, l211, y211, z211⟩, st211⟩ := Jvm.LawKit.callS X0 hx (y := (⟨"java/util/Arrays", "copyOfRangeByte", "([BII)[B"⟩ : MethodName)) hown (mvT hZ (hw _ (List.mem_of_getElem? (i := 118) rfl))) (mvT hZ (hw _ (List.mem_of_getElem? (i := 119) rfl))) (mvT hZ (hw _ (List.mem_of_getElem? (i := 116) rfl))) (mvT hZ (hw _ (List.mem_of_getElem? (i := 120) rfl))) (by decide) (backOf (W := 0) (rm23 l Z a0 hw [] src fr0 to0 k f h0 n0 Z0 V_src hfo hk3 hto hfit) hZ (hw _ (List.mem_of_getElem? (i := 120) rfl)) (hw _ (List.mem_of_getElem? (i := 116) rfl)) (by decide) (by decide)) (g := (mkF m 13 #[.val (.ref src), .val (.int fr0), .val (.int to0)] [(.int to0), (.int fr0), (.ref src)])) rfl (by rw [hml]; rfl) (argsL := [(.ref src), (.int fr0), (.int to0)]) (rest := []) (lenOf pd_15 rfl) rfl (by show 2 * 0 + _ ≤ _; exact Nat.le_of_eq rfl) (hb hby d22_13) (fun _ _ => ⟨rfl, e0, (by decide : 0 + 1 ≤ _), (by decide : 0 + 4 ≤ _)⟩)
    dsimp only [Pt.U, Pt.locs, Pt.cells, Pt.slots] at X211 l211 y211 z211 st211 hQ211
    rw [l211, y211, z211] at X211
    replace X211 : Stand p l e ({ frames := 2, cells := 1, slots := 4, locals := 56 } : Room) s m #[(.ref src), (.int fr0), (.int to0)] below meth c T211 _ 1 4 := X211
    obtain ⟨-, Nq211, oK211, m0_211⟩ := hQ211
    have N211 := Fr.app N0 Nq211
    obtain ⟨b211, rfl, gb211, sb211, Vr211⟩ := m0_211
    have ne_src_b211 : src ≠ b211 := Nat.ne_of_lt (Nat.lt_of_lt_of_le (V_src).lt sb211)
    have sz_b211 : h0.size ≤ b211 := Nat.le_trans (Keep.refl h0 []).1 sb211
    have k212 : ∀ tg_, Steps p.tables e below (T211.setTop (mkF m 16 #[.val (.ref src), .val (.int fr0), .val (.int to0)] [(.ref b211)])) tg_ → Steps p.tables e below (s₁.setTop (entryFrame m #[(.ref src), (.int fr0), (.int to0)] 3)) tg_ := by
      intro tg_ kt
      refine k205 tg_ ?_
      refine XS.ifYes X0.here hx rfl (pc0 := 1) (pc' := 10) rfl (hb hby d22_1) rfl ((if0 _ _).trans (feq hc1_206).2) (by decide) (by decide) ?_
      show Steps p.tables e below (s₁.setTop (mkF m 10 #[.val (.ref src), .val (.int fr0), .val (.int to0)] [])) _
      refine XS.aloadN X0.here hx rfl (hb hby d22_10) rfl rfl ?_
      show Steps p.tables e below (s₁.setTop (mkF m 11 #[.val (.ref src), .val (.int fr0), .val (.int to0)] [(.ref src)])) _
      refine XS.iloadN X0.here hx rfl (hb hby d22_11) rfl ?_
      show Steps p.tables e below (s₁.setTop (mkF m 12 #[.val (.ref src), .val (.int fr0), .val (.int to0)] [(.int fr0), (.ref src)])) _
      refine XS.iloadN X0.here hx rfl (hb hby d22_12) rfl ?_
      show Steps p.tables e below (s₁.setTop (mkF m 13 #[.val (.ref src), .val (.int fr0), .val (.int to0)] [(.int to0), (.int fr0), (.ref src)])) _
      refine st211 _ ?_
      show Steps p.tables e below (T211.setTop (mkF m 16 #[.val (.ref src), .val (.int fr0), .val (.int to0)] [(.ref b211)])) _
      exact kt
    have f213 := ((Keep.refl h0 []).trans oK211 all0)
    obtain ⟨fs, hr, hrun, hended, hW, hsame⟩ := X211.leave (v := some (.ref b211)) (fun h => by rw [Bd.returns] at h; cases h) (hlocks := by first | exact BodyLoose.notSynchronized Bd | exact Body.notSynchronized Bd)
    refine ⟨_, _, k212 _ (retOut X211 hx Bd.returns rfl (Or.inr (Or.inr (Or.inr (Or.inr ⟨rfl, rfl, rfl⟩)))) (hb hby d22_16) hr), hrun, hended, _, _, rfl, ?_, ⟨_, rfl⟩, hW, hsame.mono (by decide) (by decide)⟩
    show Q22 Z src fr0 to0 k f h0 n0 _ T211.heap _
    exact ⟨trivial, N211, f213, ⟨b211, rfl, gb211, sz_b211, Vr211⟩⟩
theorem d21_0 : decode jdk_42_method_11_code 0 = .ok (.aload_n 0, 1) := by decide +kernel
theorem d21_1 : decode jdk_42_method_11_code 1 = .ok (.invokespecial 1, 3) := by decide +kernel
theorem d21_4 : decode jdk_42_method_11_code 4 = .ok (.iload 4, 2) := by decide +kernel
theorem d21_6 : decode jdk_42_method_11_code 6 = .ok (.ifCond .ne 24, 3) := by decide +kernel
theorem d21_30 : decode jdk_42_method_11_code 30 = .ok (.aload_n 1, 1) := by decide +kernel
theorem d21_31 : decode jdk_42_method_11_code 31 = .ok (.getstatic 86, 3) := by decide +kernel
theorem d21_34 : decode jdk_42_method_11_code 34 = .ok (.if_acmp .ne 312, 3) := by decide +kernel
theorem d21_346 : decode jdk_42_method_11_code 346 = .ok (.aload_n 1, 1) := by decide +kernel
theorem d21_347 : decode jdk_42_method_11_code 347 = .ok (.getstatic 116, 3) := by decide +kernel
theorem d21_350 : decode jdk_42_method_11_code 350 = .ok (.if_acmp .ne 49, 3) := by decide +kernel
theorem d21_353 : decode jdk_42_method_11_code 353 = .ok (.getstatic 38, 3) := by decide +kernel
theorem d21_356 : decode jdk_42_method_11_code 356 = .ok (.ifCond .eq 24, 3) := by decide +kernel
theorem d21_359 : decode jdk_42_method_11_code 359 = .ok (.aload_n 0, 1) := by decide +kernel
theorem d21_360 : decode jdk_42_method_11_code 360 = .ok (.aload_n 2, 1) := by decide +kernel
theorem d21_361 : decode jdk_42_method_11_code 361 = .ok (.iload_n 3, 1) := by decide +kernel
theorem d21_362 : decode jdk_42_method_11_code 362 = .ok (.iload_n 3, 1) := by decide +kernel
theorem d21_363 : decode jdk_42_method_11_code 363 = .ok (.iload 4, 2) := by decide +kernel
theorem d21_365 : decode jdk_42_method_11_code 365 = .ok (.iadd, 1) := by decide +kernel
theorem d21_366 : decode jdk_42_method_11_code 366 = .ok (.invokestatic 54, 3) := by decide +kernel
theorem d21_369 : decode jdk_42_method_11_code 369 = .ok (.putfield 9, 3) := by decide +kernel
theorem d21_372 : decode jdk_42_method_11_code 372 = .ok (.aload_n 0, 1) := by decide +kernel
theorem d21_373 : decode jdk_42_method_11_code 373 = .ok (.iconst 0, 1) := by decide +kernel
theorem d21_374 : decode jdk_42_method_11_code 374 = .ok (.putfield 15, 3) := by decide +kernel
theorem d21_377 : decode jdk_42_method_11_code 377 = .ok (.goto 502, 3) := by decide +kernel
theorem d21_879 : decode jdk_42_method_11_code 879 = .ok (.return_, 1) := by decide +kernel
theorem pn_21 : plainName "java/lang/String" = true := by first | (simp [plainName, overriddenIn]; done) | decide +kernel
theorem ef_21 (m : MethodId) (x0 : Addr) (x1 : Addr) (x2 : Addr) (x3 : Int32) (x4 : Int32) : entryFrame m #[(.ref x0), (.ref x1), (.ref x2), (.int x3), (.int x4)] 11 = mkF m 0 #[.val (.ref x0), .val (.ref x1), .val (.ref x2), .val (.int x3), .val (.int x4), .unset, .unset, .unset, .unset, .unset, .unset] [] := by first | (simp [entryFrame, mkF, argsToLocals, Value.category]; done) | rfl
def Q21 (Z : State) (a : Addr) (cs : Addr) (src : Addr) (o : Int32) (cn : Int32) (zc : Int32) (u8 : Addr) (k : Nat) (f : Nat → Int32) (h0 : Heap) (n0 : Nat) (rv_ : Option Value) (h : Heap) (LL_ : List Loc) : Prop := rv_ = none ∧ Fr n0 LL_ ∧ Keep h0 h [a] ∧ Fld Z h a "java/lang/String" "coder" "B" (.int (0 : Int32)) ∧ (∃ va : Addr, n0 ≤ va ∧ h0.size ≤ va ∧ Fld Z h a "java/lang/String" "value" "[B" (.ref va) ∧ own_AI Z h va .byte 4 (own_shift f k))
set_option maxRecDepth 65536 in
set_option maxHeartbeats 40000000 in
theorem rm21 (l : Launch) (Z : State) (a0 : Array Value) (hw : ∀ d ∈ tables_1, d.before a0 Z = true) (ws : List Jvm.Cond) (a : Addr) (cs : Addr) (src : Addr) (o : Int32) (cn : Int32) (zc : Int32) (u8 : Addr) (k : Nat) (f : Nat → Int32) (h0 : Heap) (n0 : Nat) (Z0 : n0 ≤ h0.size) (E_a : Exa Z h0 a "java/lang/String") (F_a_value : Fld Z h0 a "java/lang/String" "value" "[B" .null) (F_a_coder : Fld Z h0 a "java/lang/String" "coder" "B" (.int (0 : Int32))) (V_src : own_AI Z h0 src .byte 8 f) (S_INSTANCE0 : Sta Z h0 "sun/nio/cs/UTF_8" "INSTANCE" "Lsun/nio/cs/UTF_8;" (.ref u8)) (S_INSTANCE1 : Sta Z h0 "sun/nio/cs/ISO_8859_1" "INSTANCE" "Lsun/nio/cs/ISO_8859_1;" (.ref cs)) (S_COMPACT_STRINGS : Sta Z h0 "java/lang/String" "COMPACT_STRINGS" "Z" (.int zc)) (g_a : n0 ≤ a) (ne_cs_u8 : cs ≠ u8) (ne_a_src : a ≠ src) (hz : ¬ zc = (0 : Int32)) (ho : o.toInt = (k : Int)) (hk3 : k ≤ 3) (hc : cn.toInt = ((4 : Nat) : Int)) (hfit : ∀ j, j < 8 → fits .byte (.int (f j)) = true) :
    MetFree l (⟨"java/lang/String", "<init>", "(Ljava/nio/charset/Charset;[BII)V"⟩ : MethodName) (head1 (Jvm.Cond.codeWith (⟨"java/lang/String", "<init>", "(Ljava/nio/charset/Charset;[BII)V"⟩ : MethodName) jdk_42_method_11_code 11 none [((800 : Nat), (813 : Nat), (816 : Nat), (202 : Nat))] :: ws) ({ frames := 3, cells := 1, slots := 4, locals := 71 } : Room)) (fun aa UU => aa = #[(.ref a), (.ref cs), (.ref src), (.int o), (.int cn)] ∧ Z.Warmed39 UU.vm ∧ UU.heap = h0) (fun _ _ _ _ _ => True) (fun _ UU oo UV => ∃ vv LL, oo = .returned vv ∧ Q21 Z a cs src o cn zc u8 k f h0 n0 vv UV.heap LL ∧ FrameEnd UU oo UV LL ({ frames := 3, cells := 1, slots := 4, locals := 71 } : Room).cells ({ frames := 3, cells := 1, slots := 4, locals := 71 } : Room).slots) := by
  refine MetFree.of_bodySF (plainFor_of_name pn_21) hisWith ?_
  intro p e s m args below meth c s₁ Bd hml0 hP hK
  obtain ⟨rfl, hZ, hh⟩ := hP
  have hx := Bd.exec
  have hby := Bd.bytes
  have hml : c.maxLocals = 11 := hml0
  have hown : s.vm.findClass "java/lang/String" = some m.cls := findClass_of_methodNamed Bd.named
  have hnm := (name_of_methodNamed Bd.named Bd.method).1
  have X0 : Stand p l e ({ frames := 3, cells := 1, slots := 4, locals := 71 } : Room) s m #[(.ref a), (.ref cs), (.ref src), (.int o), (.int cn)] below meth c s₁ [] 0 0 := Stand.of_body Bd
  have e0 : s₁.heap = h0 := by rw [← hh, Bd.state]; rfl
  have N0 := Fr.nil n0
  have k0 : ∀ tg_, Steps p.tables e below (s₁.setTop (mkF m 0 #[.val (.ref a), .val (.ref cs), .val (.ref src), .val (.int o), .val (.int cn), .unset, .unset, .unset, .unset, .unset, .unset] [])) tg_ → Steps p.tables e below (s₁.setTop (entryFrame m #[(.ref a), (.ref cs), (.ref src), (.int o), (.int cn)] 11)) tg_ := fun tg_ k => castTop (ef_21 m a cs src o cn) k
  have hto := own_add4 ho hk3 hc
  obtain ⟨T214, X214, e214, st214⟩ := initO X0 hx hZ hown (hw _ (List.mem_of_getElem? (i := 109) rfl)) (hw _ (List.mem_of_getElem? (i := 48) rfl)) (hw _ (List.mem_of_getElem? (i := 49) rfl)) e0 (g := (mkF m 1 #[.val (.ref a), .val (.ref cs), .val (.ref src), .val (.int o), .val (.int cn), .unset, .unset, .unset, .unset, .unset, .unset] [(.ref a)])) rfl (by rw [hml]; rfl) rfl (hb hby d21_1) (by decide) (W := 0) (by show 2 * 0 + _ ≤ _; exact Nat.le_of_eq rfl) (by decide)
  have hc6_215 : ¬ (cn = (0 : Int32)) := (fun q => by rw [q] at hc; exact absurd hc (by decide))
  obtain ⟨T216, X216, e216, st216⟩ := getS2 X214 hx hZ hown (host := "") (Or.inl (hw _ (List.mem_of_getElem? (i := 110) rfl))) Via.refl e214 S_INSTANCE0 (g := (mkF m 31 #[.val (.ref a), .val (.ref cs), .val (.ref src), .val (.int o), .val (.int cn), .unset, .unset, .unset, .unset, .unset, .unset] [(.ref cs)])) rfl (hb hby d21_31)
  obtain ⟨T217, X217, e217, st217⟩ := getS2 X216 hx hZ hown (host := "") (Or.inl (hw _ (List.mem_of_getElem? (i := 112) rfl))) Via.refl e216 S_INSTANCE1 (g := (mkF m 347 #[.val (.ref a), .val (.ref cs), .val (.ref src), .val (.int o), .val (.int cn), .unset, .unset, .unset, .unset, .unset, .unset] [(.ref cs)])) rfl (hb hby d21_347)
  obtain ⟨T218, X218, e218, st218⟩ := getS2 X217 hx hZ hown (host := "") (Or.inl (hw _ (List.mem_of_getElem? (i := 22) rfl))) Via.refl e217 S_COMPACT_STRINGS (g := (mkF m 353 #[.val (.ref a), .val (.ref cs), .val (.ref src), .val (.int o), .val (.int cn), .unset, .unset, .unset, .unset, .unset, .unset] [])) rfl (hb hby d21_353)
  have hc356_219 : ¬ (zc = (0 : Int32)) := hz
  obtain ⟨_, _, ⟨T220, L220, kc220, nc220⟩, -, X220, ⟨Lc220, hQ220, l220, y220, z220⟩, st220⟩ := Jvm.LawKit.callS X218 hx (y := (⟨"java/util/Arrays", "copyOfRange", "([BII)[B"⟩ : MethodName)) hown (mvT hZ (hw _ (List.mem_of_getElem? (i := 114) rfl))) (mvT hZ (hw _ (List.mem_of_getElem? (i := 115) rfl))) (mvT hZ (hw _ (List.mem_of_getElem? (i := 116) rfl))) (mvT hZ (hw _ (List.mem_of_getElem? (i := 117) rfl))) (by decide) (backOf (W := 1) (rm22 l Z a0 hw [] src o (o + cn) k f h0 n0 Z0 V_src ho hk3 hto hfit) hZ (hw _ (List.mem_of_getElem? (i := 117) rfl)) (hw _ (List.mem_of_getElem? (i := 116) rfl)) (by decide) (by decide)) (g := (mkF m 366 #[.val (.ref a), .val (.ref cs), .val (.ref src), .val (.int o), .val (.int cn), .unset, .unset, .unset, .unset, .unset, .unset] [(.int (o + cn)), (.int o), (.ref src), (.ref a)])) rfl (by rw [hml]; rfl) (argsL := [(.ref src), (.int o), (.int (o + cn))]) (rest := [(.ref a)]) (lenOf pd_15 rfl) rfl (by show 2 * 0 + _ ≤ _; exact Nat.le_of_eq rfl) (hb hby d21_366) (fun _ _ => ⟨rfl, e218, (by decide : 0 + 1 ≤ _), (by decide : 0 + 4 ≤ _)⟩)
  dsimp only [Pt.U, Pt.locs, Pt.cells, Pt.slots] at X220 l220 y220 z220 st220 hQ220
  rw [l220, y220, z220] at X220
  replace X220 : Stand p l e ({ frames := 3, cells := 1, slots := 4, locals := 71 } : Room) s m #[(.ref a), (.ref cs), (.ref src), (.int o), (.int cn)] below meth c T220 _ 1 4 := X220
  obtain ⟨-, Nq220, oK220, m0_220⟩ := hQ220
  have N220 := Fr.app N0 Nq220
  obtain ⟨b220, rfl, gb220, sb220, Vr220⟩ := m0_220
  have ne_a_b220 : a ≠ b220 := Nat.ne_of_lt (Nat.lt_of_lt_of_le (E_a).lt sb220)
  have ne_src_b220 : src ≠ b220 := Nat.ne_of_lt (Nat.lt_of_lt_of_le (V_src).lt sb220)
  have sz_b220 : h0.size ≤ b220 := Nat.le_trans (Keep.refl h0 [a]).1 sb220
  have f221 := (F_a_value.keep oK220 nin0)
  have f222 := (E_a.keep oK220)
  obtain ⟨T223, h223, X223, e223, W223, st223⟩ := putF X220 hx hZ hown (host := "") (Or.inl (hw _ (List.mem_of_getElem? (i := 24) rfl))) Via.refl rfl f221 f222 (Or.inr ⟨(hw _ (List.mem_of_getElem? (i := 8) rfl)), rfl, hnm⟩) (hw _ (List.mem_of_getElem? (i := 7) rfl)) (ty := (.array .byte)) (by decide) rfl rfl (g := (mkF m 369 #[.val (.ref a), .val (.ref cs), .val (.ref src), .val (.int o), .val (.int cn), .unset, .unset, .unset, .unset, .unset, .unset] [(.ref b220), (.ref a)])) rfl rfl (hb hby d21_369)
  have N223 := Fr.snoc X223 N220 g_a
  have F223 := Fld.same W223 f221
  have f224 := (Fld.other W223 (F_a_coder.keep oK220 nin0) (Or.inr (slot_ne (Or.inr (hw _ (List.mem_of_getElem? (i := 9) rfl))) (Or.inr (hw _ (List.mem_of_getElem? (i := 8) rfl))) (by decide) (t := .byte) (t' := (.array .byte)) (by decide) (by decide))))
  have f225 := (f222.keep (Keep.of_wr W223))
  obtain ⟨T226, h226, X226, e226, W226, st226⟩ := putFN X223 hx hZ hown (hw _ (List.mem_of_getElem? (i := 23) rfl)) Via.refl e223 f224 f225 (Or.inr ⟨(hw _ (List.mem_of_getElem? (i := 9) rfl)), rfl, hnm⟩) (hw _ (List.mem_of_getElem? (i := 7) rfl)) (ty := .byte) (v' := (.int (0 : Int32))) (by decide) rfl (by decide) (g := (mkF m 374 #[.val (.ref a), .val (.ref cs), .val (.ref src), .val (.int o), .val (.int cn), .unset, .unset, .unset, .unset, .unset, .unset] [(.int (0 : Int32)), (.ref a)])) rfl rfl (hb hby d21_374)
  have N226 := Fr.snoc X226 N223 g_a
  have F226 := Fld.same W226 f224
  have k227 : ∀ tg_, Steps p.tables e below (T226.setTop (mkF m 879 #[.val (.ref a), .val (.ref cs), .val (.ref src), .val (.int o), .val (.int cn), .unset, .unset, .unset, .unset, .unset, .unset] [])) tg_ → Steps p.tables e below (s₁.setTop (entryFrame m #[(.ref a), (.ref cs), (.ref src), (.int o), (.int cn)] 11)) tg_ := by
    intro tg_ kt
    refine k0 tg_ ?_
    refine XS.aloadN X0.here hx rfl (hb hby d21_0) rfl rfl ?_
    show Steps p.tables e below (s₁.setTop (mkF m 1 #[.val (.ref a), .val (.ref cs), .val (.ref src), .val (.int o), .val (.int cn), .unset, .unset, .unset, .unset, .unset, .unset] [(.ref a)])) _
    refine st214 _ ?_
    show Steps p.tables e below (T214.setTop (mkF m 4 #[.val (.ref a), .val (.ref cs), .val (.ref src), .val (.int o), .val (.int cn), .unset, .unset, .unset, .unset, .unset, .unset] [])) _
    refine XS.iload X214.here hx rfl (hb hby d21_4) rfl ?_
    show Steps p.tables e below (T214.setTop (mkF m 6 #[.val (.ref a), .val (.ref cs), .val (.ref src), .val (.int o), .val (.int cn), .unset, .unset, .unset, .unset, .unset, .unset] [(.int cn)])) _
    refine XS.ifYes X214.here hx rfl (pc0 := 6) (pc' := 30) rfl (hb hby d21_6) rfl ((if0 _ _).trans (feq hc6_215).2) (by decide) (by decide) ?_
    show Steps p.tables e below (T214.setTop (mkF m 30 #[.val (.ref a), .val (.ref cs), .val (.ref src), .val (.int o), .val (.int cn), .unset, .unset, .unset, .unset, .unset, .unset] [])) _
    refine XS.aloadN X214.here hx rfl (hb hby d21_30) rfl rfl ?_
    show Steps p.tables e below (T214.setTop (mkF m 31 #[.val (.ref a), .val (.ref cs), .val (.ref src), .val (.int o), .val (.int cn), .unset, .unset, .unset, .unset, .unset, .unset] [(.ref cs)])) _
    refine st216 _ ?_
    show Steps p.tables e below (T216.setTop (mkF m 34 #[.val (.ref a), .val (.ref cs), .val (.ref src), .val (.int o), .val (.int cn), .unset, .unset, .unset, .unset, .unset, .unset] [(.ref u8), (.ref cs)])) _
    refine Jvm.RoadKit.acmp (g := (mkF m 34 #[.val (.ref a), .val (.ref cs), .val (.ref src), .val (.int o), .val (.int cn), .unset, .unset, .unset, .unset, .unset, .unset] [(.ref u8), (.ref cs)])) X216 hx rfl rfl rfl (pc0 := 34) (pc' := 346) (same := false) rfl (hb hby d21_34) rfl (decide_eq_false fun q => ne_cs_u8 (Value.ref.inj q)) (by decide) (by decide) ?_
    show Steps p.tables e below (T216.setTop (mkF m 346 #[.val (.ref a), .val (.ref cs), .val (.ref src), .val (.int o), .val (.int cn), .unset, .unset, .unset, .unset, .unset, .unset] [])) _
    refine XS.aloadN X216.here hx rfl (hb hby d21_346) rfl rfl ?_
    show Steps p.tables e below (T216.setTop (mkF m 347 #[.val (.ref a), .val (.ref cs), .val (.ref src), .val (.int o), .val (.int cn), .unset, .unset, .unset, .unset, .unset, .unset] [(.ref cs)])) _
    refine st217 _ ?_
    show Steps p.tables e below (T217.setTop (mkF m 350 #[.val (.ref a), .val (.ref cs), .val (.ref src), .val (.int o), .val (.int cn), .unset, .unset, .unset, .unset, .unset, .unset] [(.ref cs), (.ref cs)])) _
    refine Jvm.RoadKit.acmp (g := (mkF m 350 #[.val (.ref a), .val (.ref cs), .val (.ref src), .val (.int o), .val (.int cn), .unset, .unset, .unset, .unset, .unset, .unset] [(.ref cs), (.ref cs)])) X217 hx rfl rfl rfl (pc0 := 350) (pc' := 353) (same := true) rfl (hb hby d21_350) rfl (decide_eq_true rfl) (by decide) (by decide) ?_
    show Steps p.tables e below (T217.setTop (mkF m 353 #[.val (.ref a), .val (.ref cs), .val (.ref src), .val (.int o), .val (.int cn), .unset, .unset, .unset, .unset, .unset, .unset] [])) _
    refine st218 _ ?_
    show Steps p.tables e below (T218.setTop (mkF m 356 #[.val (.ref a), .val (.ref cs), .val (.ref src), .val (.int o), .val (.int cn), .unset, .unset, .unset, .unset, .unset, .unset] [(.int zc)])) _
    refine XS.ifNo X218.here hx rfl (hb hby d21_356) rfl ((if0 _ _).trans (feq hc356_219).1) ?_
    show Steps p.tables e below (T218.setTop (mkF m 359 #[.val (.ref a), .val (.ref cs), .val (.ref src), .val (.int o), .val (.int cn), .unset, .unset, .unset, .unset, .unset, .unset] [])) _
    refine XS.aloadN X218.here hx rfl (hb hby d21_359) rfl rfl ?_
    show Steps p.tables e below (T218.setTop (mkF m 360 #[.val (.ref a), .val (.ref cs), .val (.ref src), .val (.int o), .val (.int cn), .unset, .unset, .unset, .unset, .unset, .unset] [(.ref a)])) _
    refine XS.aloadN X218.here hx rfl (hb hby d21_360) rfl rfl ?_
    show Steps p.tables e below (T218.setTop (mkF m 361 #[.val (.ref a), .val (.ref cs), .val (.ref src), .val (.int o), .val (.int cn), .unset, .unset, .unset, .unset, .unset, .unset] [(.ref src), (.ref a)])) _
    refine XS.iloadN X218.here hx rfl (hb hby d21_361) rfl ?_
    show Steps p.tables e below (T218.setTop (mkF m 362 #[.val (.ref a), .val (.ref cs), .val (.ref src), .val (.int o), .val (.int cn), .unset, .unset, .unset, .unset, .unset, .unset] [(.int o), (.ref src), (.ref a)])) _
    refine XS.iloadN X218.here hx rfl (hb hby d21_362) rfl ?_
    show Steps p.tables e below (T218.setTop (mkF m 363 #[.val (.ref a), .val (.ref cs), .val (.ref src), .val (.int o), .val (.int cn), .unset, .unset, .unset, .unset, .unset, .unset] [(.int o), (.int o), (.ref src), (.ref a)])) _
    refine XS.iload X218.here hx rfl (hb hby d21_363) rfl ?_
    show Steps p.tables e below (T218.setTop (mkF m 365 #[.val (.ref a), .val (.ref cs), .val (.ref src), .val (.int o), .val (.int cn), .unset, .unset, .unset, .unset, .unset, .unset] [(.int cn), (.int o), (.int o), (.ref src), (.ref a)])) _
    refine XS.iadd X218.here hx rfl (hb hby d21_365) rfl ?_
    show Steps p.tables e below (T218.setTop (mkF m 366 #[.val (.ref a), .val (.ref cs), .val (.ref src), .val (.int o), .val (.int cn), .unset, .unset, .unset, .unset, .unset, .unset] [(.int (o + cn)), (.int o), (.ref src), (.ref a)])) _
    refine st220 _ ?_
    show Steps p.tables e below (T220.setTop (mkF m 369 #[.val (.ref a), .val (.ref cs), .val (.ref src), .val (.int o), .val (.int cn), .unset, .unset, .unset, .unset, .unset, .unset] [(.ref b220), (.ref a)])) _
    refine st223 _ ?_
    show Steps p.tables e below (T223.setTop (mkF m 372 #[.val (.ref a), .val (.ref cs), .val (.ref src), .val (.int o), .val (.int cn), .unset, .unset, .unset, .unset, .unset, .unset] [])) _
    refine XS.aloadN X223.here hx rfl (hb hby d21_372) rfl rfl ?_
    show Steps p.tables e below (T223.setTop (mkF m 373 #[.val (.ref a), .val (.ref cs), .val (.ref src), .val (.int o), .val (.int cn), .unset, .unset, .unset, .unset, .unset, .unset] [(.ref a)])) _
    refine XS.iconst X223.here hx rfl (hb hby d21_373) ?_
    show Steps p.tables e below (T223.setTop (mkF m 374 #[.val (.ref a), .val (.ref cs), .val (.ref src), .val (.int o), .val (.int cn), .unset, .unset, .unset, .unset, .unset, .unset] [(.int (0 : Int32)), (.ref a)])) _
    refine st226 _ ?_
    show Steps p.tables e below (T226.setTop (mkF m 377 #[.val (.ref a), .val (.ref cs), .val (.ref src), .val (.int o), .val (.int cn), .unset, .unset, .unset, .unset, .unset, .unset] [])) _
    refine XS.goto X226.here hx rfl (pc0 := 377) (pc' := 879) rfl (hb hby d21_377) (by decide) (by decide) ?_
    show Steps p.tables e below (T226.setTop (mkF m 879 #[.val (.ref a), .val (.ref cs), .val (.ref src), .val (.int o), .val (.int cn), .unset, .unset, .unset, .unset, .unset, .unset] [])) _
    exact kt
  have f228 := ((((Keep.refl h0 [a]).trans oK220 all0).trans (Keep.of_wr W223) (allS (Or.inl (List.mem_of_getElem? (i := 0) rfl)) all0)).trans (Keep.of_wr W226) (allS (Or.inl (List.mem_of_getElem? (i := 0) rfl)) all0))
  have f229 := (Fld.other W226 F223 (Or.inr (slot_ne (Or.inr (hw _ (List.mem_of_getElem? (i := 8) rfl))) (Or.inr (hw _ (List.mem_of_getElem? (i := 9) rfl))) (by decide) (t := (.array .byte)) (t' := .byte) (by decide) (by decide))))
  have f230 := ((Vr220.keep (Keep.of_wr W223) (ninS (Ne.symm ne_a_b220) nin0)).keep (Keep.of_wr W226) (ninS (Ne.symm ne_a_b220) nin0))
  obtain ⟨fs, hr, hrun, hended, hW, hsame⟩ := X226.leave (v := none) (fun _ => rfl) (hlocks := by first | exact BodyLoose.notSynchronized Bd | exact Body.notSynchronized Bd)
  refine ⟨_, _, k227 _ (X226.returnOut hx Bd.returns (hb hby d21_879) hr), hrun, hended, _, _, rfl, ?_, ⟨_, rfl⟩, hW, hsame.mono (by decide) (by decide)⟩
  show Q21 Z a cs src o cn zc u8 k f h0 n0 _ T226.heap _
  rw [e226]
  exact ⟨rfl, N226, f228, F226, ⟨b220, gb220, sz_b220, f229, f230⟩⟩
theorem pd_11 : parseMethodDescriptor "(Ljava/lang/Object;)Ljava/lang/Object;" = some ⟨[(.object "java/lang/Object")], some (.object "java/lang/Object")⟩ := by decide +kernel
theorem pd_12 : parseMethodDescriptor "(III)I" = some ⟨[.int, .int, .int], some .int⟩ := by decide +kernel
theorem pd_14 : parseMethodDescriptor "(Ljava/nio/charset/Charset;[BII)V" = some ⟨[(.object "java/nio/charset/Charset"), (.array .byte), .int, .int], none⟩ := by decide +kernel
theorem d17_0 : decode jdk_42_method_10_code 0 = .ok (.aload_n 0, 1) := by decide +kernel
theorem d17_1 : decode jdk_42_method_10_code 1 = .ok (.aload 4, 2) := by decide +kernel
theorem d17_3 : decode jdk_42_method_10_code 3 = .ok (.invokestatic 78, 3) := by decide +kernel
theorem d17_6 : decode jdk_42_method_10_code 6 = .ok (.checkcast 84, 3) := by decide +kernel
theorem d17_9 : decode jdk_42_method_10_code 9 = .ok (.aload_n 1, 1) := by decide +kernel
theorem d17_10 : decode jdk_42_method_10_code 10 = .ok (.iload_n 2, 1) := by decide +kernel
theorem d17_11 : decode jdk_42_method_10_code 11 = .ok (.iload_n 3, 1) := by decide +kernel
theorem d17_12 : decode jdk_42_method_10_code 12 = .ok (.aload_n 1, 1) := by decide +kernel
theorem d17_13 : decode jdk_42_method_10_code 13 = .ok (.arraylength, 1) := by decide +kernel
theorem d17_14 : decode jdk_42_method_10_code 14 = .ok (.invokestatic 34, 3) := by decide +kernel
theorem d17_17 : decode jdk_42_method_10_code 17 = .ok (.iload_n 3, 1) := by decide +kernel
theorem d17_18 : decode jdk_42_method_10_code 18 = .ok (.invokespecial 75, 3) := by decide +kernel
theorem d17_21 : decode jdk_42_method_10_code 21 = .ok (.return_, 1) := by decide +kernel
theorem pn_17 : plainName "java/lang/String" = true := by first | (simp [plainName, overriddenIn]; done) | decide +kernel
theorem ef_17 (m : MethodId) (x0 : Addr) (x1 : Addr) (x2 : Int32) (x3 : Int32) (x4 : Addr) : entryFrame m #[(.ref x0), (.ref x1), (.int x2), (.int x3), (.ref x4)] 5 = mkF m 0 #[.val (.ref x0), .val (.ref x1), .val (.int x2), .val (.int x3), .val (.ref x4)] [] := by first | (simp [entryFrame, mkF, argsToLocals, Value.category]; done) | rfl
def Q17 (Z : State) (a : Addr) (src : Addr) (o : Int32) (cn : Int32) (cs : Addr) (zc : Int32) (u8 : Addr) (k : Nat) (f : Nat → Int32) (fm : Value) (h0 : Heap) (n0 : Nat) (rv_ : Option Value) (h : Heap) (LL_ : List Loc) : Prop := rv_ = none ∧ Fr n0 LL_ ∧ Keep h0 h [a] ∧ Fld Z h a "java/lang/String" "coder" "B" (.int (0 : Int32)) ∧ (∃ va : Addr, n0 ≤ va ∧ h0.size ≤ va ∧ Fld Z h a "java/lang/String" "value" "[B" (.ref va) ∧ own_AI Z h va .byte 4 (own_shift f k))
set_option maxRecDepth 65536 in
set_option maxHeartbeats 40000000 in
theorem rm17 (l : Launch) (Z : State) (a0 : Array Value) (hw : ∀ d ∈ tables_1, d.before a0 Z = true) (ws : List Jvm.Cond) (a : Addr) (src : Addr) (o : Int32) (cn : Int32) (cs : Addr) (zc : Int32) (u8 : Addr) (k : Nat) (f : Nat → Int32) (fm : Value) (h0 : Heap) (n0 : Nat) (Z0 : n0 ≤ h0.size) (E_a : Exa Z h0 a "java/lang/String") (E_cs : Exa Z h0 cs "sun/nio/cs/ISO_8859_1") (F_a_value : Fld Z h0 a "java/lang/String" "value" "[B" .null) (F_a_coder : Fld Z h0 a "java/lang/String" "coder" "B" (.int (0 : Int32))) (V_src : own_AI Z h0 src .byte 8 f) (S_INSTANCE0 : Sta Z h0 "sun/nio/cs/UTF_8" "INSTANCE" "Lsun/nio/cs/UTF_8;" (.ref u8)) (S_INSTANCE1 : Sta Z h0 "sun/nio/cs/ISO_8859_1" "INSTANCE" "Lsun/nio/cs/ISO_8859_1;" (.ref cs)) (S_COMPACT_STRINGS : Sta Z h0 "java/lang/String" "COMPACT_STRINGS" "Z" (.int zc)) (S_SIOOBE_FORMATTER : Sta Z h0 "jdk/internal/util/Preconditions" "SIOOBE_FORMATTER" "Ljava/util/function/BiFunction;" fm) (g_a : n0 ≤ a) (ne_cs_u8 : cs ≠ u8) (ne_a_src : a ≠ src) (hz : ¬ zc = (0 : Int32)) (hfm : fm.isRef = true) (ho : o.toInt = (k : Int)) (hk3 : k ≤ 3) (hc : cn.toInt = ((4 : Nat) : Int)) (hfit : ∀ j, j < 8 → fits .byte (.int (f j)) = true) :
    MetFree l (⟨"java/lang/String", "<init>", "([BIILjava/nio/charset/Charset;)V"⟩ : MethodName) (head1 (Jvm.Cond.code (⟨"java/lang/String", "<init>", "([BIILjava/nio/charset/Charset;)V"⟩ : MethodName) jdk_42_method_10_code 5 none :: ws) ({ frames := 4, cells := 1, slots := 4, locals := 93 } : Room)) (fun aa UU => aa = #[(.ref a), (.ref src), (.int o), (.int cn), (.ref cs)] ∧ Z.Warmed39 UU.vm ∧ UU.heap = h0) (fun _ _ _ _ _ => True) (fun _ UU oo UV => ∃ vv LL, oo = .returned vv ∧ Q17 Z a src o cn cs zc u8 k f fm h0 n0 vv UV.heap LL ∧ FrameEnd UU oo UV LL ({ frames := 4, cells := 1, slots := 4, locals := 93 } : Room).cells ({ frames := 4, cells := 1, slots := 4, locals := 93 } : Room).slots) := by
  refine MetFree.of_bodySF (plainFor_of_name pn_17) hisR ?_
  intro p e s m args below meth c s₁ Bd hml0 hP hK
  obtain ⟨rfl, hZ, hh⟩ := hP
  have hx := Bd.exec
  have hby := Bd.bytes
  have hml : c.maxLocals = 5 := hml0
  have hown : s.vm.findClass "java/lang/String" = some m.cls := findClass_of_methodNamed Bd.named
  have hnm := (name_of_methodNamed Bd.named Bd.method).1
  have X0 : Stand p l e ({ frames := 4, cells := 1, slots := 4, locals := 93 } : Room) s m #[(.ref a), (.ref src), (.int o), (.int cn), (.ref cs)] below meth c s₁ [] 0 0 := Stand.of_body Bd
  have e0 : s₁.heap = h0 := by rw [← hh, Bd.state]; rfl
  have N0 := Fr.nil n0
  have k0 : ∀ tg_, Steps p.tables e below (s₁.setTop (mkF m 0 #[.val (.ref a), .val (.ref src), .val (.int o), .val (.int cn), .val (.ref cs)] [])) tg_ → Steps p.tables e below (s₁.setTop (entryFrame m #[(.ref a), (.ref src), (.int o), (.int cn), (.ref cs)] 5)) tg_ := fun tg_ k => castTop (ef_17 m a src o cn cs) k
  have h12 := own_or8 ho hk3 hc
  obtain ⟨_, _, ⟨T231, L231, kc231, nc231⟩, -, X231, ⟨Lc231, hQ231, l231, y231, z231⟩, st231⟩ := Jvm.LawKit.callS X0 hx (y := (⟨"java/util/Objects", "requireNonNull", "(Ljava/lang/Object;)Ljava/lang/Object;"⟩ : MethodName)) hown (mvT hZ (hw _ (List.mem_of_getElem? (i := 93) rfl))) (mvT hZ (hw _ (List.mem_of_getElem? (i := 94) rfl))) (mvT hZ (hw _ (List.mem_of_getElem? (i := 95) rfl))) (mvT hZ (hw _ (List.mem_of_getElem? (i := 96) rfl))) (by decide) (backOf (W := 1) (rm18 l Z a0 hw [] cs h0 n0 ) hZ (hw _ (List.mem_of_getElem? (i := 96) rfl)) (hw _ (List.mem_of_getElem? (i := 95) rfl)) (by decide) (by decide)) (g := (mkF m 3 #[.val (.ref a), .val (.ref src), .val (.int o), .val (.int cn), .val (.ref cs)] [(.ref cs), (.ref a)])) rfl (by rw [hml]; rfl) (argsL := [(.ref cs)]) (rest := [(.ref a)]) (lenOf pd_11 rfl) rfl (by show 2 * 0 + _ ≤ _; exact Nat.le_of_eq rfl) (hb hby d17_3) (fun _ _ => ⟨rfl, e0, (by decide : 0 + 0 ≤ _), (by decide : 0 + 0 ≤ _)⟩)
  dsimp only [Pt.U, Pt.locs, Pt.cells, Pt.slots] at X231 l231 y231 z231 st231 hQ231
  rw [l231, y231, z231] at X231
  replace X231 : Stand p l e ({ frames := 4, cells := 1, slots := 4, locals := 93 } : Room) s m #[(.ref a), (.ref src), (.int o), (.int cn), (.ref cs)] below meth c T231 _ 0 0 := X231
  obtain ⟨rfl, Nq231, eq231⟩ := hQ231
  have N231 := Fr.app N0 Nq231
  obtain ⟨T232, X232, e232, st232⟩ := castY X231 hx hZ hown (hw _ (List.mem_of_getElem? (i := 97) rfl)) eq231 (Ins.of_exa E_cs (hw _ (List.mem_of_getElem? (i := 98) rfl))) (g := (mkF m 6 #[.val (.ref a), .val (.ref src), .val (.int o), .val (.int cn), .val (.ref cs)] [(.ref cs), (.ref a)])) rfl rfl (hb hby d17_6)
  obtain ⟨_, _, ⟨T233, L233, kc233, nc233⟩, -, X233, ⟨Lc233, hQ233, l233, y233, z233⟩, st233⟩ := Jvm.LawKit.callS X232 hx (y := (⟨"java/lang/String", "checkBoundsOffCount", "(III)I"⟩ : MethodName)) hown (mvT hZ (hw _ (List.mem_of_getElem? (i := 99) rfl))) (mvT hZ (hw _ (List.mem_of_getElem? (i := 100) rfl))) (mvT hZ (hw _ (List.mem_of_getElem? (i := 6) rfl))) (mvT hZ (hw _ (List.mem_of_getElem? (i := 101) rfl))) (by decide) (backOf (W := 3) (rm19 l Z a0 hw [] o cn (8 : Int32) fm h0 n0 S_SIOOBE_FORMATTER hfm h12.1 h12.2) hZ (hw _ (List.mem_of_getElem? (i := 101) rfl)) (hw _ (List.mem_of_getElem? (i := 6) rfl)) (by decide) (by decide)) (g := (mkF m 14 #[.val (.ref a), .val (.ref src), .val (.int o), .val (.int cn), .val (.ref cs)] [(.int (8 : Int32)), (.int cn), (.int o), (.ref src), (.ref cs), (.ref a)])) rfl (by rw [hml]; rfl) (argsL := [(.int o), (.int cn), (.int (8 : Int32))]) (rest := [(.ref src), (.ref cs), (.ref a)]) (lenOf pd_12 rfl) rfl (by show 2 * 0 + _ ≤ _; exact Nat.le_of_eq rfl) (hb hby d17_14) (fun _ _ => ⟨rfl, e232, (by decide : 0 + 0 ≤ _), (by decide : 0 + 0 ≤ _)⟩)
  dsimp only [Pt.U, Pt.locs, Pt.cells, Pt.slots] at X233 l233 y233 z233 st233 hQ233
  rw [l233, y233, z233] at X233
  replace X233 : Stand p l e ({ frames := 4, cells := 1, slots := 4, locals := 93 } : Room) s m #[(.ref a), (.ref src), (.int o), (.int cn), (.ref cs)] below meth c T233 _ 0 0 := X233
  obtain ⟨rfl, Nq233, eq233⟩ := hQ233
  have N233 := Fr.app N231 Nq233
  obtain ⟨_, _, ⟨T234, L234, kc234, nc234⟩, -, X234, ⟨Lc234, hQ234, l234, y234, z234⟩, st234⟩ := X233.specialBackH hx (y := (⟨"java/lang/String", "<init>", "(Ljava/nio/charset/Charset;[BII)V"⟩ : MethodName)) rfl hown (mvT hZ (hw _ (List.mem_of_getElem? (i := 105) rfl))) (mvT hZ (hw _ (List.mem_of_getElem? (i := 106) rfl))) (mvT hZ (hw _ (List.mem_of_getElem? (i := 108) rfl))) (by decide) (backOfWith (W := 0) (rm21 l Z a0 hw [] a cs src o cn zc u8 k f h0 n0 Z0 E_a F_a_value F_a_coder V_src S_INSTANCE0 S_INSTANCE1 S_COMPACT_STRINGS g_a ne_cs_u8 ne_a_src hz ho hk3 hc hfit) hZ (hw _ (List.mem_of_getElem? (i := 108) rfl)) (hw _ (List.mem_of_getElem? (i := 6) rfl)) (by decide) (by decide)) (g := (mkF m 18 #[.val (.ref a), .val (.ref src), .val (.int o), .val (.int cn), .val (.ref cs)] [(.int cn), (.int o), (.ref src), (.ref cs), (.ref a)])) rfl (by rw [hml]; rfl) (Steps.refl _) (a := a) (argsL := [(.ref cs), (.ref src), (.int o), (.int cn)]) (rest := []) (lenOf pd_14 rfl) rfl (by show 2 * 0 + _ ≤ _; exact Nat.le_of_eq rfl) (hb hby d17_18) (fun _ _ => ⟨rfl, eq233, (by decide : 0 + 1 ≤ _), (by decide : 0 + 4 ≤ _)⟩)
  dsimp only [Pt.U, Pt.locs, Pt.cells, Pt.slots] at X234 l234 y234 z234 st234 hQ234
  rw [l234, y234, z234] at X234
  replace X234 : Stand p l e ({ frames := 4, cells := 1, slots := 4, locals := 93 } : Room) s m #[(.ref a), (.ref src), (.int o), (.int cn), (.ref cs)] below meth c T234 _ 1 4 := X234
  obtain ⟨rfl, Nq234, oK234, oFacoder234, m0_234⟩ := hQ234
  have N234 := Fr.app N233 Nq234
  obtain ⟨b234, gb234, sb234, Fr234, Vr234⟩ := m0_234
  have ne_a_b234 : a ≠ b234 := Nat.ne_of_lt (Nat.lt_of_lt_of_le (E_a).lt sb234)
  have ne_cs_b234 : cs ≠ b234 := Nat.ne_of_lt (Nat.lt_of_lt_of_le (E_cs).lt sb234)
  have ne_src_b234 : src ≠ b234 := Nat.ne_of_lt (Nat.lt_of_lt_of_le (V_src).lt sb234)
  have sz_b234 : h0.size ≤ b234 := Nat.le_trans (Keep.refl h0 [a]).1 sb234
  have k235 : ∀ tg_, Steps p.tables e below (T234.setTop (mkF m 21 #[.val (.ref a), .val (.ref src), .val (.int o), .val (.int cn), .val (.ref cs)] [])) tg_ → Steps p.tables e below (s₁.setTop (entryFrame m #[(.ref a), (.ref src), (.int o), (.int cn), (.ref cs)] 5)) tg_ := by
    intro tg_ kt
    refine k0 tg_ ?_
    refine XS.aloadN X0.here hx rfl (hb hby d17_0) rfl rfl ?_
    show Steps p.tables e below (s₁.setTop (mkF m 1 #[.val (.ref a), .val (.ref src), .val (.int o), .val (.int cn), .val (.ref cs)] [(.ref a)])) _
    refine XS.aload X0.here hx rfl (hb hby d17_1) rfl rfl ?_
    show Steps p.tables e below (s₁.setTop (mkF m 3 #[.val (.ref a), .val (.ref src), .val (.int o), .val (.int cn), .val (.ref cs)] [(.ref cs), (.ref a)])) _
    refine st231 _ ?_
    show Steps p.tables e below (T231.setTop (mkF m 6 #[.val (.ref a), .val (.ref src), .val (.int o), .val (.int cn), .val (.ref cs)] [(.ref cs), (.ref a)])) _
    refine st232 _ ?_
    show Steps p.tables e below (T232.setTop (mkF m 9 #[.val (.ref a), .val (.ref src), .val (.int o), .val (.int cn), .val (.ref cs)] [(.ref cs), (.ref a)])) _
    refine XS.aloadN X232.here hx rfl (hb hby d17_9) rfl rfl ?_
    show Steps p.tables e below (T232.setTop (mkF m 10 #[.val (.ref a), .val (.ref src), .val (.int o), .val (.int cn), .val (.ref cs)] [(.ref src), (.ref cs), (.ref a)])) _
    refine XS.iloadN X232.here hx rfl (hb hby d17_10) rfl ?_
    show Steps p.tables e below (T232.setTop (mkF m 11 #[.val (.ref a), .val (.ref src), .val (.int o), .val (.int cn), .val (.ref cs)] [(.int o), (.ref src), (.ref cs), (.ref a)])) _
    refine XS.iloadN X232.here hx rfl (hb hby d17_11) rfl ?_
    show Steps p.tables e below (T232.setTop (mkF m 12 #[.val (.ref a), .val (.ref src), .val (.int o), .val (.int cn), .val (.ref cs)] [(.int cn), (.int o), (.ref src), (.ref cs), (.ref a)])) _
    refine XS.aloadN X232.here hx rfl (hb hby d17_12) rfl rfl ?_
    show Steps p.tables e below (T232.setTop (mkF m 13 #[.val (.ref a), .val (.ref src), .val (.int o), .val (.int cn), .val (.ref cs)] [(.ref src), (.int cn), (.int o), (.ref src), (.ref cs), (.ref a)])) _
    refine own_len X232 hx hZ e232 V_src (z := (8 : Int32)) (by decide) (g := (mkF m 13 #[.val (.ref a), .val (.ref src), .val (.int o), .val (.int cn), .val (.ref cs)] [(.ref src), (.int cn), (.int o), (.ref src), (.ref cs), (.ref a)])) rfl rfl (hb hby d17_13) _ ?_
    show Steps p.tables e below (T232.setTop (mkF m 14 #[.val (.ref a), .val (.ref src), .val (.int o), .val (.int cn), .val (.ref cs)] [(.int (8 : Int32)), (.int cn), (.int o), (.ref src), (.ref cs), (.ref a)])) _
    refine st233 _ ?_
    show Steps p.tables e below (T233.setTop (mkF m 17 #[.val (.ref a), .val (.ref src), .val (.int o), .val (.int cn), .val (.ref cs)] [(.int o), (.ref src), (.ref cs), (.ref a)])) _
    refine XS.iloadN X233.here hx rfl (hb hby d17_17) rfl ?_
    show Steps p.tables e below (T233.setTop (mkF m 18 #[.val (.ref a), .val (.ref src), .val (.int o), .val (.int cn), .val (.ref cs)] [(.int cn), (.int o), (.ref src), (.ref cs), (.ref a)])) _
    refine st234.trans ?_
    show Steps p.tables e below (T234.setTop (mkF m 21 #[.val (.ref a), .val (.ref src), .val (.int o), .val (.int cn), .val (.ref cs)] [])) _
    exact kt
  have f236 := ((Keep.refl h0 [a]).trans oK234 (allS (Or.inl (List.mem_of_getElem? (i := 0) rfl)) all0))
  obtain ⟨fs, hr, hrun, hended, hW, hsame⟩ := X234.leave (v := none) (fun _ => rfl) (hlocks := by first | exact BodyLoose.notSynchronized Bd | exact Body.notSynchronized Bd)
  refine ⟨_, _, k235 _ (X234.returnOut hx Bd.returns (hb hby d17_21) hr), hrun, hended, _, _, rfl, ?_, ⟨_, rfl⟩, hW, hsame.mono (by decide) (by decide)⟩
  show Q17 Z a src o cn cs zc u8 k f fm h0 n0 _ T234.heap _
  exact ⟨rfl, N234, f236, oFacoder234, ⟨b234, gb234, sz_b234, Fr234, Vr234⟩⟩
theorem d27_0 : decode jdk_43_method_13_code 0 = .ok (.aload_n 0, 1) := by decide +kernel
theorem d27_1 : decode jdk_43_method_13_code 1 = .ok (.arraylength, 1) := by decide +kernel
theorem d27_2 : decode jdk_43_method_13_code 2 = .ok (.aload_n 1, 1) := by decide +kernel
theorem d27_3 : decode jdk_43_method_13_code 3 = .ok (.arraylength, 1) := by decide +kernel
theorem d27_4 : decode jdk_43_method_13_code 4 = .ok (.if_icmp .ne 30, 3) := by decide +kernel
theorem d27_7 : decode jdk_43_method_13_code 7 = .ok (.iconst 0, 1) := by decide +kernel
theorem d27_8 : decode jdk_43_method_13_code 8 = .ok (.istore_n 2, 1) := by decide +kernel
theorem d27_9 : decode jdk_43_method_13_code 9 = .ok (.iload_n 2, 1) := by decide +kernel
theorem d27_10 : decode jdk_43_method_13_code 10 = .ok (.aload_n 0, 1) := by decide +kernel
theorem d27_11 : decode jdk_43_method_13_code 11 = .ok (.arraylength, 1) := by decide +kernel
theorem d27_12 : decode jdk_43_method_13_code 12 = .ok (.if_icmp .ge 20, 3) := by decide +kernel
theorem d27_15 : decode jdk_43_method_13_code 15 = .ok (.aload_n 0, 1) := by decide +kernel
theorem d27_16 : decode jdk_43_method_13_code 16 = .ok (.iload_n 2, 1) := by decide +kernel
theorem d27_17 : decode jdk_43_method_13_code 17 = .ok (.baload, 1) := by decide +kernel
theorem d27_18 : decode jdk_43_method_13_code 18 = .ok (.aload_n 1, 1) := by decide +kernel
theorem d27_19 : decode jdk_43_method_13_code 19 = .ok (.iload_n 2, 1) := by decide +kernel
theorem d27_20 : decode jdk_43_method_13_code 20 = .ok (.baload, 1) := by decide +kernel
theorem d27_21 : decode jdk_43_method_13_code 21 = .ok (.if_icmp .eq 5, 3) := by decide +kernel
theorem d27_24 : decode jdk_43_method_13_code 24 = .ok (.iconst 0, 1) := by decide +kernel
theorem d27_25 : decode jdk_43_method_13_code 25 = .ok (.ireturn, 1) := by decide +kernel
theorem pn_27 : plainName "java/lang/StringLatin1" = true := by first | (simp [plainName, overriddenIn]; done) | decide +kernel
theorem ef_e1T (m : MethodId) (x0 : Addr) (x1 : Addr) : entryFrame m #[(.ref x0), (.ref x1)] 3 = mkF m 0 #[.val (.ref x0), .val (.ref x1), .unset] [] := by first | (simp [entryFrame, mkF, argsToLocals, Value.category]; done) | rfl
def Qe1T (Z : State) (va : Addr) (vb : Addr) (f : Nat → Int32) (g : Nat → Int32) (h0 : Heap) (n0 : Nat) (rv_ : Option Value) (h : Heap) (LL_ : List Loc) : Prop := rv_ = some (.int (0 : Int32)) ∧ Fr n0 LL_ ∧ h = h0
set_option maxRecDepth 65536 in
set_option maxHeartbeats 40000000 in
theorem rme1T (l : Launch) (Z : State) (a0 : Array Value) (hw : ∀ d ∈ tables_1, d.before a0 Z = true) (ws : List Jvm.Cond) (va : Addr) (vb : Addr) (f : Nat → Int32) (g : Nat → Int32) (h0 : Heap) (n0 : Nat) (V_va : own_AI Z h0 va .byte 4 f) (V_vb : own_AI Z h0 vb .byte 4 g) (hf0 : f 0 = (110 : Int32)) (hg0 : g 0 = (116 : Int32)) :
    MetFree l (⟨"java/lang/StringLatin1", "equals", "([B[B)Z"⟩ : MethodName) (head1 (Jvm.Cond.code (⟨"java/lang/StringLatin1", "equals", "([B[B)Z"⟩ : MethodName) jdk_43_method_13_code 3 (some .boolean) :: ws) ({ frames := 0, cells := 0, slots := 0, locals := 0 } : Room)) (fun aa UU => aa = #[(.ref va), (.ref vb)] ∧ Z.Warmed39 UU.vm ∧ UU.heap = h0) (fun _ _ _ _ _ => True) (fun _ UU oo UV => ∃ vv LL, oo = .returned vv ∧ Qe1T Z va vb f g h0 n0 vv UV.heap LL ∧ FrameEnd UU oo UV LL ({ frames := 0, cells := 0, slots := 0, locals := 0 } : Room).cells ({ frames := 0, cells := 0, slots := 0, locals := 0 } : Room).slots) := by
  refine MetFree.of_bodySF (plainFor_of_name pn_27) hisR ?_
  intro p e s m args below meth c s₁ Bd hml0 hP hK
  obtain ⟨rfl, hZ, hh⟩ := hP
  have hx := Bd.exec
  have hby := Bd.bytes
  have hml : c.maxLocals = 3 := hml0
  have hown : s.vm.findClass "java/lang/StringLatin1" = some m.cls := findClass_of_methodNamed Bd.named
  have hnm := (name_of_methodNamed Bd.named Bd.method).1
  have X0 : Stand p l e ({ frames := 0, cells := 0, slots := 0, locals := 0 } : Room) s m #[(.ref va), (.ref vb)] below meth c s₁ [] 0 0 := Stand.of_body Bd
  have e0 : s₁.heap = h0 := by rw [← hh, Bd.state]; rfl
  have N0 := Fr.nil n0
  have k0 : ∀ tg_, Steps p.tables e below (s₁.setTop (mkF m 0 #[.val (.ref va), .val (.ref vb), .unset] [])) tg_ → Steps p.tables e below (s₁.setTop (entryFrame m #[(.ref va), (.ref vb)] 3)) tg_ := fun tg_ k => castTop (ef_e1T m va vb) k
  have k237 : ∀ tg_, Steps p.tables e below (s₁.setTop (mkF m 25 #[.val (.ref va), .val (.ref vb), .val (.int (0 : Int32))] [(.int (0 : Int32))])) tg_ → Steps p.tables e below (s₁.setTop (entryFrame m #[(.ref va), (.ref vb)] 3)) tg_ := by
    intro tg_ kt
    refine k0 tg_ ?_
    refine XS.aloadN X0.here hx rfl (hb hby d27_0) rfl rfl ?_
    show Steps p.tables e below (s₁.setTop (mkF m 1 #[.val (.ref va), .val (.ref vb), .unset] [(.ref va)])) _
    refine own_len X0 hx hZ e0 V_va (z := (4 : Int32)) (by decide) (g := (mkF m 1 #[.val (.ref va), .val (.ref vb), .unset] [(.ref va)])) rfl rfl (hb hby d27_1) _ ?_
    show Steps p.tables e below (s₁.setTop (mkF m 2 #[.val (.ref va), .val (.ref vb), .unset] [(.int (4 : Int32))])) _
    refine XS.aloadN X0.here hx rfl (hb hby d27_2) rfl rfl ?_
    show Steps p.tables e below (s₁.setTop (mkF m 3 #[.val (.ref va), .val (.ref vb), .unset] [(.ref vb), (.int (4 : Int32))])) _
    refine own_len X0 hx hZ e0 V_vb (z := (4 : Int32)) (by decide) (g := (mkF m 3 #[.val (.ref va), .val (.ref vb), .unset] [(.ref vb), (.int (4 : Int32))])) rfl rfl (hb hby d27_3) _ ?_
    show Steps p.tables e below (s₁.setTop (mkF m 4 #[.val (.ref va), .val (.ref vb), .unset] [(.int (4 : Int32)), (.int (4 : Int32))])) _
    refine XS.icmpNo X0.here hx rfl (hb hby d27_4) rfl (teq (by decide : (4 : Int32) = (4 : Int32))).2 ?_
    show Steps p.tables e below (s₁.setTop (mkF m 7 #[.val (.ref va), .val (.ref vb), .unset] [])) _
    refine XS.iconst X0.here hx rfl (hb hby d27_7) ?_
    show Steps p.tables e below (s₁.setTop (mkF m 8 #[.val (.ref va), .val (.ref vb), .unset] [(.int (0 : Int32))])) _
    refine XS.istoreN X0.here hx rfl (hb hby d27_8) rfl (l' := #[.val (.ref va), .val (.ref vb), .val (.int (0 : Int32))]) rfl ?_
    show Steps p.tables e below (s₁.setTop (mkF m 9 #[.val (.ref va), .val (.ref vb), .val (.int (0 : Int32))] [])) _
    refine XS.iloadN X0.here hx rfl (hb hby d27_9) rfl ?_
    show Steps p.tables e below (s₁.setTop (mkF m 10 #[.val (.ref va), .val (.ref vb), .val (.int (0 : Int32))] [(.int (0 : Int32))])) _
    refine XS.aloadN X0.here hx rfl (hb hby d27_10) rfl rfl ?_
    show Steps p.tables e below (s₁.setTop (mkF m 11 #[.val (.ref va), .val (.ref vb), .val (.int (0 : Int32))] [(.ref va), (.int (0 : Int32))])) _
    refine own_len X0 hx hZ e0 V_va (z := (4 : Int32)) (by decide) (g := (mkF m 11 #[.val (.ref va), .val (.ref vb), .val (.int (0 : Int32))] [(.ref va), (.int (0 : Int32))])) rfl rfl (hb hby d27_11) _ ?_
    show Steps p.tables e below (s₁.setTop (mkF m 12 #[.val (.ref va), .val (.ref vb), .val (.int (0 : Int32))] [(.int (4 : Int32)), (.int (0 : Int32))])) _
    refine XS.icmpNo X0.here hx rfl (hb hby d27_12) rfl (tlt (by decide : (0 : Int32) < (4 : Int32))).2.1 ?_
    show Steps p.tables e below (s₁.setTop (mkF m 15 #[.val (.ref va), .val (.ref vb), .val (.int (0 : Int32))] [])) _
    refine XS.aloadN X0.here hx rfl (hb hby d27_15) rfl rfl ?_
    show Steps p.tables e below (s₁.setTop (mkF m 16 #[.val (.ref va), .val (.ref vb), .val (.int (0 : Int32))] [(.ref va)])) _
    refine XS.iloadN X0.here hx rfl (hb hby d27_16) rfl ?_
    show Steps p.tables e below (s₁.setTop (mkF m 17 #[.val (.ref va), .val (.ref vb), .val (.int (0 : Int32))] [(.int (0 : Int32)), (.ref va)])) _
    refine own_ldB X0 hx hZ e0 V_va (i := 0) (by decide : (0 : Int32).toInt = ((0 : Nat) : Int)) (by decide) hf0 (g := (mkF m 17 #[.val (.ref va), .val (.ref vb), .val (.int (0 : Int32))] [(.int (0 : Int32)), (.ref va)])) rfl rfl (hb hby d27_17) _ ?_
    show Steps p.tables e below (s₁.setTop (mkF m 18 #[.val (.ref va), .val (.ref vb), .val (.int (0 : Int32))] [(.int (110 : Int32))])) _
    refine XS.aloadN X0.here hx rfl (hb hby d27_18) rfl rfl ?_
    show Steps p.tables e below (s₁.setTop (mkF m 19 #[.val (.ref va), .val (.ref vb), .val (.int (0 : Int32))] [(.ref vb), (.int (110 : Int32))])) _
    refine XS.iloadN X0.here hx rfl (hb hby d27_19) rfl ?_
    show Steps p.tables e below (s₁.setTop (mkF m 20 #[.val (.ref va), .val (.ref vb), .val (.int (0 : Int32))] [(.int (0 : Int32)), (.ref vb), (.int (110 : Int32))])) _
    refine own_ldB X0 hx hZ e0 V_vb (i := 0) (by decide : (0 : Int32).toInt = ((0 : Nat) : Int)) (by decide) hg0 (g := (mkF m 20 #[.val (.ref va), .val (.ref vb), .val (.int (0 : Int32))] [(.int (0 : Int32)), (.ref vb), (.int (110 : Int32))])) rfl rfl (hb hby d27_20) _ ?_
    show Steps p.tables e below (s₁.setTop (mkF m 21 #[.val (.ref va), .val (.ref vb), .val (.int (0 : Int32))] [(.int (116 : Int32)), (.int (110 : Int32))])) _
    refine XS.icmpNo X0.here hx rfl (hb hby d27_21) rfl (feq (by decide : ¬ ((110 : Int32) = (116 : Int32)))).1 ?_
    show Steps p.tables e below (s₁.setTop (mkF m 24 #[.val (.ref va), .val (.ref vb), .val (.int (0 : Int32))] [])) _
    refine XS.iconst X0.here hx rfl (hb hby d27_24) ?_
    show Steps p.tables e below (s₁.setTop (mkF m 25 #[.val (.ref va), .val (.ref vb), .val (.int (0 : Int32))] [(.int (0 : Int32))])) _
    exact kt
  obtain ⟨fs, hr, hrun, hended, hW, hsame⟩ := X0.leave (v := some (.int (0 : Int32))) (fun h => by rw [Bd.returns] at h; cases h) (hlocks := by first | exact BodyLoose.notSynchronized Bd | exact Body.notSynchronized Bd)
  refine ⟨_, _, k237 _ (retN X0 hx (t := .boolean) Bd.returns (by simp) (hb hby d27_25) hr), hrun, hended, _, _, rfl, ?_, ⟨_, rfl⟩, hW, hsame.mono (by decide) (by decide)⟩
  show Qe1T Z va vb f g h0 n0 _ s₁.heap _
  rw [e0]
  exact ⟨rfl, N0, rfl⟩
theorem pd_19 : parseMethodDescriptor "([B[B)Z" = some ⟨[(.array .byte), (.array .byte)], some .boolean⟩ := by decide +kernel
theorem d26_0 : decode jdk_42_method_66_code 0 = .ok (.aload_n 0, 1) := by decide +kernel
theorem d26_1 : decode jdk_42_method_66_code 1 = .ok (.aload_n 1, 1) := by decide +kernel
theorem d26_2 : decode jdk_42_method_66_code 2 = .ok (.if_acmp .ne 5, 3) := by decide +kernel
theorem d26_7 : decode jdk_42_method_66_code 7 = .ok (.aload_n 1, 1) := by decide +kernel
theorem d26_8 : decode jdk_42_method_66_code 8 = .ok (.instanceof 10, 3) := by decide +kernel
theorem d26_11 : decode jdk_42_method_66_code 11 = .ok (.ifCond .eq 43, 3) := by decide +kernel
theorem d26_14 : decode jdk_42_method_66_code 14 = .ok (.aload_n 1, 1) := by decide +kernel
theorem d26_15 : decode jdk_42_method_66_code 15 = .ok (.checkcast 10, 3) := by decide +kernel
theorem d26_18 : decode jdk_42_method_66_code 18 = .ok (.astore_n 2, 1) := by decide +kernel
theorem d26_19 : decode jdk_42_method_66_code 19 = .ok (.getstatic 38, 3) := by decide +kernel
theorem d26_22 : decode jdk_42_method_66_code 22 = .ok (.ifCond .eq 14, 3) := by decide +kernel
theorem d26_25 : decode jdk_42_method_66_code 25 = .ok (.aload_n 0, 1) := by decide +kernel
theorem d26_26 : decode jdk_42_method_66_code 26 = .ok (.getfield 15, 3) := by decide +kernel
theorem d26_29 : decode jdk_42_method_66_code 29 = .ok (.aload_n 2, 1) := by decide +kernel
theorem d26_30 : decode jdk_42_method_66_code 30 = .ok (.getfield 15, 3) := by decide +kernel
theorem d26_33 : decode jdk_42_method_66_code 33 = .ok (.if_icmp .ne 21, 3) := by decide +kernel
theorem d26_36 : decode jdk_42_method_66_code 36 = .ok (.aload_n 0, 1) := by decide +kernel
theorem d26_37 : decode jdk_42_method_66_code 37 = .ok (.getfield 9, 3) := by decide +kernel
theorem d26_40 : decode jdk_42_method_66_code 40 = .ok (.aload_n 2, 1) := by decide +kernel
theorem d26_41 : decode jdk_42_method_66_code 41 = .ok (.getfield 9, 3) := by decide +kernel
theorem d26_44 : decode jdk_42_method_66_code 44 = .ok (.invokestatic 541, 3) := by decide +kernel
theorem d26_47 : decode jdk_42_method_66_code 47 = .ok (.ifCond .eq 7, 3) := by decide +kernel
theorem d26_54 : decode jdk_42_method_66_code 54 = .ok (.iconst 0, 1) := by decide +kernel
theorem d26_55 : decode jdk_42_method_66_code 55 = .ok (.ireturn, 1) := by decide +kernel
theorem pn_26 : plainName "java/lang/String" = true := by first | (simp [plainName, overriddenIn]; done) | decide +kernel
theorem ef_eqT (m : MethodId) (x0 : Addr) (x1 : Addr) : entryFrame m #[(.ref x0), (.ref x1)] 3 = mkF m 0 #[.val (.ref x0), .val (.ref x1), .unset] [] := by first | (simp [entryFrame, mkF, argsToLocals, Value.category]; done) | rfl
def QeqT (Z : State) (s0 : Addr) (s1 : Addr) (zc : Int32) (va : Addr) (vb : Addr) (f : Nat → Int32) (g : Nat → Int32) (h0 : Heap) (n0 : Nat) (rv_ : Option Value) (h : Heap) (LL_ : List Loc) : Prop := rv_ = some (.int (0 : Int32)) ∧ Fr n0 LL_ ∧ h = h0
set_option maxRecDepth 65536 in
set_option maxHeartbeats 40000000 in
theorem rmeqT (l : Launch) (Z : State) (a0 : Array Value) (hw : ∀ d ∈ tables_1, d.before a0 Z = true) (ws : List Jvm.Cond) (s0 : Addr) (s1 : Addr) (zc : Int32) (va : Addr) (vb : Addr) (f : Nat → Int32) (g : Nat → Int32) (h0 : Heap) (n0 : Nat) (E_s0 : Exa Z h0 s0 "java/lang/String") (E_s1 : Exa Z h0 s1 "java/lang/String") (F_s0_value : Fld Z h0 s0 "java/lang/String" "value" "[B" (.ref va)) (F_s0_coder : Fld Z h0 s0 "java/lang/String" "coder" "B" (.int (0 : Int32))) (F_s1_value : Fld Z h0 s1 "java/lang/String" "value" "[B" (.ref vb)) (F_s1_coder : Fld Z h0 s1 "java/lang/String" "coder" "B" (.int (0 : Int32))) (V_va : own_AI Z h0 va .byte 4 f) (V_vb : own_AI Z h0 vb .byte 4 g) (S_COMPACT_STRINGS : Sta Z h0 "java/lang/String" "COMPACT_STRINGS" "Z" (.int zc)) (ne_s0_s1 : s0 ≠ s1) (hz : ¬ zc = (0 : Int32)) (hf0 : f 0 = (110 : Int32)) (hg0 : g 0 = (116 : Int32)) :
    MetFree l (⟨"java/lang/String", "equals", "(Ljava/lang/Object;)Z"⟩ : MethodName) (head1 (Jvm.Cond.code (⟨"java/lang/String", "equals", "(Ljava/lang/Object;)Z"⟩ : MethodName) jdk_42_method_66_code 3 (some .boolean) :: ws) ({ frames := 1, cells := 0, slots := 0, locals := 14 } : Room)) (fun aa UU => aa = #[(.ref s0), (.ref s1)] ∧ Z.Warmed39 UU.vm ∧ UU.heap = h0) (fun _ _ _ _ _ => True) (fun _ UU oo UV => ∃ vv LL, oo = .returned vv ∧ QeqT Z s0 s1 zc va vb f g h0 n0 vv UV.heap LL ∧ FrameEnd UU oo UV LL ({ frames := 1, cells := 0, slots := 0, locals := 14 } : Room).cells ({ frames := 1, cells := 0, slots := 0, locals := 14 } : Room).slots) := by
  refine MetFree.of_bodySF (plainFor_of_name pn_26) hisR ?_
  intro p e s m args below meth c s₁ Bd hml0 hP hK
  obtain ⟨rfl, hZ, hh⟩ := hP
  have hx := Bd.exec
  have hby := Bd.bytes
  have hml : c.maxLocals = 3 := hml0
  have hown : s.vm.findClass "java/lang/String" = some m.cls := findClass_of_methodNamed Bd.named
  have hnm := (name_of_methodNamed Bd.named Bd.method).1
  have X0 : Stand p l e ({ frames := 1, cells := 0, slots := 0, locals := 14 } : Room) s m #[(.ref s0), (.ref s1)] below meth c s₁ [] 0 0 := Stand.of_body Bd
  have e0 : s₁.heap = h0 := by rw [← hh, Bd.state]; rfl
  have N0 := Fr.nil n0
  have k0 : ∀ tg_, Steps p.tables e below (s₁.setTop (mkF m 0 #[.val (.ref s0), .val (.ref s1), .unset] [])) tg_ → Steps p.tables e below (s₁.setTop (entryFrame m #[(.ref s0), (.ref s1)] 3)) tg_ := fun tg_ k => castTop (ef_eqT m s0 s1) k
  obtain ⟨T238, X238, e238, st238⟩ := instY X0 hx hZ hown (hw _ (List.mem_of_getElem? (i := 138) rfl)) e0 (Ins.self E_s1) (g := (mkF m 8 #[.val (.ref s0), .val (.ref s1), .unset] [(.ref s1)])) rfl rfl (hb hby d26_8)
  obtain ⟨T239, X239, e239, st239⟩ := castY X238 hx hZ hown (hw _ (List.mem_of_getElem? (i := 138) rfl)) e238 (Ins.self E_s1) (g := (mkF m 15 #[.val (.ref s0), .val (.ref s1), .unset] [(.ref s1)])) rfl rfl (hb hby d26_15)
  obtain ⟨T240, X240, e240, st240⟩ := getS2 X239 hx hZ hown (host := "") (Or.inl (hw _ (List.mem_of_getElem? (i := 22) rfl))) Via.refl e239 S_COMPACT_STRINGS (g := (mkF m 19 #[.val (.ref s0), .val (.ref s1), .val (.ref s1)] [])) rfl (hb hby d26_19)
  have hc22_241 : ¬ (zc = (0 : Int32)) := hz
  obtain ⟨T242, X242, e242, st242⟩ := getF X240 hx hZ hown (host := "") (Or.inl (hw _ (List.mem_of_getElem? (i := 23) rfl))) Via.refl e240 F_s0_coder (g := (mkF m 26 #[.val (.ref s0), .val (.ref s1), .val (.ref s1)] [(.ref s0)])) rfl rfl (hb hby d26_26)
  obtain ⟨T243, X243, e243, st243⟩ := getF X242 hx hZ hown (host := "") (Or.inl (hw _ (List.mem_of_getElem? (i := 23) rfl))) Via.refl e242 F_s1_coder (g := (mkF m 30 #[.val (.ref s0), .val (.ref s1), .val (.ref s1)] [(.ref s1), (.int (0 : Int32))])) rfl rfl (hb hby d26_30)
  obtain ⟨T244, X244, e244, st244⟩ := getF X243 hx hZ hown (host := "") (Or.inl (hw _ (List.mem_of_getElem? (i := 24) rfl))) Via.refl e243 F_s0_value (g := (mkF m 37 #[.val (.ref s0), .val (.ref s1), .val (.ref s1)] [(.ref s0)])) rfl rfl (hb hby d26_37)
  obtain ⟨T245, X245, e245, st245⟩ := getF X244 hx hZ hown (host := "") (Or.inl (hw _ (List.mem_of_getElem? (i := 24) rfl))) Via.refl e244 F_s1_value (g := (mkF m 41 #[.val (.ref s0), .val (.ref s1), .val (.ref s1)] [(.ref s1), (.ref va)])) rfl rfl (hb hby d26_41)
  obtain ⟨_, _, ⟨T246, L246, kc246, nc246⟩, -, X246, ⟨Lc246, hQ246, l246, y246, z246⟩, st246⟩ := Jvm.LawKit.callS X245 hx (y := (⟨"java/lang/StringLatin1", "equals", "([B[B)Z"⟩ : MethodName)) hown (mvT hZ (hw _ (List.mem_of_getElem? (i := 139) rfl))) (mvT hZ (hw _ (List.mem_of_getElem? (i := 140) rfl))) (mvT hZ (hw _ (List.mem_of_getElem? (i := 27) rfl))) (mvT hZ (hw _ (List.mem_of_getElem? (i := 141) rfl))) (by decide) (backOf (W := 0) (rme1T l Z a0 hw [] va vb f g h0 n0 V_va V_vb hf0 hg0) hZ (hw _ (List.mem_of_getElem? (i := 141) rfl)) (hw _ (List.mem_of_getElem? (i := 27) rfl)) (by decide) (by decide)) (g := (mkF m 44 #[.val (.ref s0), .val (.ref s1), .val (.ref s1)] [(.ref vb), (.ref va)])) rfl (by rw [hml]; rfl) (argsL := [(.ref va), (.ref vb)]) (rest := []) (lenOf pd_19 rfl) rfl (by show 2 * 0 + _ ≤ _; exact Nat.le_of_eq rfl) (hb hby d26_44) (fun _ _ => ⟨rfl, e245, (by decide : 0 + 0 ≤ _), (by decide : 0 + 0 ≤ _)⟩)
  dsimp only [Pt.U, Pt.locs, Pt.cells, Pt.slots] at X246 l246 y246 z246 st246 hQ246
  rw [l246, y246, z246] at X246
  replace X246 : Stand p l e ({ frames := 1, cells := 0, slots := 0, locals := 14 } : Room) s m #[(.ref s0), (.ref s1)] below meth c T246 _ 0 0 := X246
  obtain ⟨rfl, Nq246, eq246⟩ := hQ246
  have N246 := Fr.app N0 Nq246
  have k247 : ∀ tg_, Steps p.tables e below (T246.setTop (mkF m 55 #[.val (.ref s0), .val (.ref s1), .val (.ref s1)] [(.int (0 : Int32))])) tg_ → Steps p.tables e below (s₁.setTop (entryFrame m #[(.ref s0), (.ref s1)] 3)) tg_ := by
    intro tg_ kt
    refine k0 tg_ ?_
    refine XS.aloadN X0.here hx rfl (hb hby d26_0) rfl rfl ?_
    show Steps p.tables e below (s₁.setTop (mkF m 1 #[.val (.ref s0), .val (.ref s1), .unset] [(.ref s0)])) _
    refine XS.aloadN X0.here hx rfl (hb hby d26_1) rfl rfl ?_
    show Steps p.tables e below (s₁.setTop (mkF m 2 #[.val (.ref s0), .val (.ref s1), .unset] [(.ref s1), (.ref s0)])) _
    refine Jvm.RoadKit.acmp (g := (mkF m 2 #[.val (.ref s0), .val (.ref s1), .unset] [(.ref s1), (.ref s0)])) X0 hx rfl rfl rfl (pc0 := 2) (pc' := 7) (same := false) rfl (hb hby d26_2) rfl (decide_eq_false fun q => ne_s0_s1 (Value.ref.inj q)) (by decide) (by decide) ?_
    show Steps p.tables e below (s₁.setTop (mkF m 7 #[.val (.ref s0), .val (.ref s1), .unset] [])) _
    refine XS.aloadN X0.here hx rfl (hb hby d26_7) rfl rfl ?_
    show Steps p.tables e below (s₁.setTop (mkF m 8 #[.val (.ref s0), .val (.ref s1), .unset] [(.ref s1)])) _
    refine st238 _ ?_
    show Steps p.tables e below (T238.setTop (mkF m 11 #[.val (.ref s0), .val (.ref s1), .unset] [(.int (1 : Int32))])) _
    refine XS.ifNo X238.here hx rfl (hb hby d26_11) rfl ((if0 _ _).trans (feq (by decide : ¬ ((1 : Int32) = (0 : Int32)))).1) ?_
    show Steps p.tables e below (T238.setTop (mkF m 14 #[.val (.ref s0), .val (.ref s1), .unset] [])) _
    refine XS.aloadN X238.here hx rfl (hb hby d26_14) rfl rfl ?_
    show Steps p.tables e below (T238.setTop (mkF m 15 #[.val (.ref s0), .val (.ref s1), .unset] [(.ref s1)])) _
    refine st239 _ ?_
    show Steps p.tables e below (T239.setTop (mkF m 18 #[.val (.ref s0), .val (.ref s1), .unset] [(.ref s1)])) _
    refine XS.astoreN X239.here hx rfl (hb hby d26_18) rfl rfl (l' := #[.val (.ref s0), .val (.ref s1), .val (.ref s1)]) rfl ?_
    show Steps p.tables e below (T239.setTop (mkF m 19 #[.val (.ref s0), .val (.ref s1), .val (.ref s1)] [])) _
    refine st240 _ ?_
    show Steps p.tables e below (T240.setTop (mkF m 22 #[.val (.ref s0), .val (.ref s1), .val (.ref s1)] [(.int zc)])) _
    refine XS.ifNo X240.here hx rfl (hb hby d26_22) rfl ((if0 _ _).trans (feq hc22_241).1) ?_
    show Steps p.tables e below (T240.setTop (mkF m 25 #[.val (.ref s0), .val (.ref s1), .val (.ref s1)] [])) _
    refine XS.aloadN X240.here hx rfl (hb hby d26_25) rfl rfl ?_
    show Steps p.tables e below (T240.setTop (mkF m 26 #[.val (.ref s0), .val (.ref s1), .val (.ref s1)] [(.ref s0)])) _
    refine st242 _ ?_
    show Steps p.tables e below (T242.setTop (mkF m 29 #[.val (.ref s0), .val (.ref s1), .val (.ref s1)] [(.int (0 : Int32))])) _
    refine XS.aloadN X242.here hx rfl (hb hby d26_29) rfl rfl ?_
    show Steps p.tables e below (T242.setTop (mkF m 30 #[.val (.ref s0), .val (.ref s1), .val (.ref s1)] [(.ref s1), (.int (0 : Int32))])) _
    refine st243 _ ?_
    show Steps p.tables e below (T243.setTop (mkF m 33 #[.val (.ref s0), .val (.ref s1), .val (.ref s1)] [(.int (0 : Int32)), (.int (0 : Int32))])) _
    refine XS.icmpNo X243.here hx rfl (hb hby d26_33) rfl (teq (by decide : (0 : Int32) = (0 : Int32))).2 ?_
    show Steps p.tables e below (T243.setTop (mkF m 36 #[.val (.ref s0), .val (.ref s1), .val (.ref s1)] [])) _
    refine XS.aloadN X243.here hx rfl (hb hby d26_36) rfl rfl ?_
    show Steps p.tables e below (T243.setTop (mkF m 37 #[.val (.ref s0), .val (.ref s1), .val (.ref s1)] [(.ref s0)])) _
    refine st244 _ ?_
    show Steps p.tables e below (T244.setTop (mkF m 40 #[.val (.ref s0), .val (.ref s1), .val (.ref s1)] [(.ref va)])) _
    refine XS.aloadN X244.here hx rfl (hb hby d26_40) rfl rfl ?_
    show Steps p.tables e below (T244.setTop (mkF m 41 #[.val (.ref s0), .val (.ref s1), .val (.ref s1)] [(.ref s1), (.ref va)])) _
    refine st245 _ ?_
    show Steps p.tables e below (T245.setTop (mkF m 44 #[.val (.ref s0), .val (.ref s1), .val (.ref s1)] [(.ref vb), (.ref va)])) _
    refine st246 _ ?_
    show Steps p.tables e below (T246.setTop (mkF m 47 #[.val (.ref s0), .val (.ref s1), .val (.ref s1)] [(.int (0 : Int32))])) _
    refine XS.ifYes X246.here hx rfl (pc0 := 47) (pc' := 54) rfl (hb hby d26_47) rfl ((if0 _ _).trans (teq (by decide : (0 : Int32) = (0 : Int32))).1) (by decide) (by decide) ?_
    show Steps p.tables e below (T246.setTop (mkF m 54 #[.val (.ref s0), .val (.ref s1), .val (.ref s1)] [])) _
    refine XS.iconst X246.here hx rfl (hb hby d26_54) ?_
    show Steps p.tables e below (T246.setTop (mkF m 55 #[.val (.ref s0), .val (.ref s1), .val (.ref s1)] [(.int (0 : Int32))])) _
    exact kt
  obtain ⟨fs, hr, hrun, hended, hW, hsame⟩ := X246.leave (v := some (.int (0 : Int32))) (fun h => by rw [Bd.returns] at h; cases h) (hlocks := by first | exact BodyLoose.notSynchronized Bd | exact Body.notSynchronized Bd)
  refine ⟨_, _, k247 _ (retN X246 hx (t := .boolean) Bd.returns (by simp) (hb hby d26_55) hr), hrun, hended, _, _, rfl, ?_, ⟨_, rfl⟩, hW, hsame.mono (by decide) (by decide)⟩
  show QeqT Z s0 s1 zc va vb f g h0 n0 _ T246.heap _
  rw [eq246]
  exact ⟨rfl, N246, rfl⟩
theorem d27_34 : decode jdk_43_method_13_code 34 = .ok (.iconst 0, 1) := by decide +kernel
theorem d27_35 : decode jdk_43_method_13_code 35 = .ok (.ireturn, 1) := by decide +kernel
theorem ef_e1F (m : MethodId) (x0 : Addr) (x1 : Addr) : entryFrame m #[(.ref x0), (.ref x1)] 3 = mkF m 0 #[.val (.ref x0), .val (.ref x1), .unset] [] := by first | (simp [entryFrame, mkF, argsToLocals, Value.category]; done) | rfl
def Qe1F (Z : State) (va : Addr) (vb : Addr) (f : Nat → Int32) (g : Nat → Int32) (h0 : Heap) (n0 : Nat) (rv_ : Option Value) (h : Heap) (LL_ : List Loc) : Prop := rv_ = some (.int (0 : Int32)) ∧ Fr n0 LL_ ∧ h = h0
set_option maxRecDepth 65536 in
set_option maxHeartbeats 40000000 in
theorem rme1F (l : Launch) (Z : State) (a0 : Array Value) (hw : ∀ d ∈ tables_1, d.before a0 Z = true) (ws : List Jvm.Cond) (va : Addr) (vb : Addr) (f : Nat → Int32) (g : Nat → Int32) (h0 : Heap) (n0 : Nat) (V_va : own_AI Z h0 va .byte 4 f) (V_vb : own_AI Z h0 vb .byte 5 g) :
    MetFree l (⟨"java/lang/StringLatin1", "equals", "([B[B)Z"⟩ : MethodName) (head1 (Jvm.Cond.code (⟨"java/lang/StringLatin1", "equals", "([B[B)Z"⟩ : MethodName) jdk_43_method_13_code 3 (some .boolean) :: ws) ({ frames := 0, cells := 0, slots := 0, locals := 0 } : Room)) (fun aa UU => aa = #[(.ref va), (.ref vb)] ∧ Z.Warmed39 UU.vm ∧ UU.heap = h0) (fun _ _ _ _ _ => True) (fun _ UU oo UV => ∃ vv LL, oo = .returned vv ∧ Qe1F Z va vb f g h0 n0 vv UV.heap LL ∧ FrameEnd UU oo UV LL ({ frames := 0, cells := 0, slots := 0, locals := 0 } : Room).cells ({ frames := 0, cells := 0, slots := 0, locals := 0 } : Room).slots) := by
  refine MetFree.of_bodySF (plainFor_of_name pn_27) hisR ?_
  intro p e s m args below meth c s₁ Bd hml0 hP hK
  obtain ⟨rfl, hZ, hh⟩ := hP
  have hx := Bd.exec
  have hby := Bd.bytes
  have hml : c.maxLocals = 3 := hml0
  have hown : s.vm.findClass "java/lang/StringLatin1" = some m.cls := findClass_of_methodNamed Bd.named
  have hnm := (name_of_methodNamed Bd.named Bd.method).1
  have X0 : Stand p l e ({ frames := 0, cells := 0, slots := 0, locals := 0 } : Room) s m #[(.ref va), (.ref vb)] below meth c s₁ [] 0 0 := Stand.of_body Bd
  have e0 : s₁.heap = h0 := by rw [← hh, Bd.state]; rfl
  have N0 := Fr.nil n0
  have k0 : ∀ tg_, Steps p.tables e below (s₁.setTop (mkF m 0 #[.val (.ref va), .val (.ref vb), .unset] [])) tg_ → Steps p.tables e below (s₁.setTop (entryFrame m #[(.ref va), (.ref vb)] 3)) tg_ := fun tg_ k => castTop (ef_e1F m va vb) k
  have k248 : ∀ tg_, Steps p.tables e below (s₁.setTop (mkF m 35 #[.val (.ref va), .val (.ref vb), .unset] [(.int (0 : Int32))])) tg_ → Steps p.tables e below (s₁.setTop (entryFrame m #[(.ref va), (.ref vb)] 3)) tg_ := by
    intro tg_ kt
    refine k0 tg_ ?_
    refine XS.aloadN X0.here hx rfl (hb hby d27_0) rfl rfl ?_
    show Steps p.tables e below (s₁.setTop (mkF m 1 #[.val (.ref va), .val (.ref vb), .unset] [(.ref va)])) _
    refine own_len X0 hx hZ e0 V_va (z := (4 : Int32)) (by decide) (g := (mkF m 1 #[.val (.ref va), .val (.ref vb), .unset] [(.ref va)])) rfl rfl (hb hby d27_1) _ ?_
    show Steps p.tables e below (s₁.setTop (mkF m 2 #[.val (.ref va), .val (.ref vb), .unset] [(.int (4 : Int32))])) _
    refine XS.aloadN X0.here hx rfl (hb hby d27_2) rfl rfl ?_
    show Steps p.tables e below (s₁.setTop (mkF m 3 #[.val (.ref va), .val (.ref vb), .unset] [(.ref vb), (.int (4 : Int32))])) _
    refine own_len X0 hx hZ e0 V_vb (z := (5 : Int32)) (by decide) (g := (mkF m 3 #[.val (.ref va), .val (.ref vb), .unset] [(.ref vb), (.int (4 : Int32))])) rfl rfl (hb hby d27_3) _ ?_
    show Steps p.tables e below (s₁.setTop (mkF m 4 #[.val (.ref va), .val (.ref vb), .unset] [(.int (5 : Int32)), (.int (4 : Int32))])) _
    refine XS.icmpYes X0.here hx rfl (pc0 := 4) (pc' := 34) rfl (hb hby d27_4) rfl (feq (by decide : ¬ ((4 : Int32) = (5 : Int32)))).2 (by decide) (by decide) ?_
    show Steps p.tables e below (s₁.setTop (mkF m 34 #[.val (.ref va), .val (.ref vb), .unset] [])) _
    refine XS.iconst X0.here hx rfl (hb hby d27_34) ?_
    show Steps p.tables e below (s₁.setTop (mkF m 35 #[.val (.ref va), .val (.ref vb), .unset] [(.int (0 : Int32))])) _
    exact kt
  obtain ⟨fs, hr, hrun, hended, hW, hsame⟩ := X0.leave (v := some (.int (0 : Int32))) (fun h => by rw [Bd.returns] at h; cases h) (hlocks := by first | exact BodyLoose.notSynchronized Bd | exact Body.notSynchronized Bd)
  refine ⟨_, _, k248 _ (retN X0 hx (t := .boolean) Bd.returns (by simp) (hb hby d27_35) hr), hrun, hended, _, _, rfl, ?_, ⟨_, rfl⟩, hW, hsame.mono (by decide) (by decide)⟩
  show Qe1F Z va vb f g h0 n0 _ s₁.heap _
  rw [e0]
  exact ⟨rfl, N0, rfl⟩
theorem ef_eqF (m : MethodId) (x0 : Addr) (x1 : Addr) : entryFrame m #[(.ref x0), (.ref x1)] 3 = mkF m 0 #[.val (.ref x0), .val (.ref x1), .unset] [] := by first | (simp [entryFrame, mkF, argsToLocals, Value.category]; done) | rfl
def QeqF (Z : State) (s0 : Addr) (s1 : Addr) (zc : Int32) (va : Addr) (vb : Addr) (f : Nat → Int32) (g : Nat → Int32) (h0 : Heap) (n0 : Nat) (rv_ : Option Value) (h : Heap) (LL_ : List Loc) : Prop := rv_ = some (.int (0 : Int32)) ∧ Fr n0 LL_ ∧ h = h0
set_option maxRecDepth 65536 in
set_option maxHeartbeats 40000000 in
theorem rmeqF (l : Launch) (Z : State) (a0 : Array Value) (hw : ∀ d ∈ tables_1, d.before a0 Z = true) (ws : List Jvm.Cond) (s0 : Addr) (s1 : Addr) (zc : Int32) (va : Addr) (vb : Addr) (f : Nat → Int32) (g : Nat → Int32) (h0 : Heap) (n0 : Nat) (E_s0 : Exa Z h0 s0 "java/lang/String") (E_s1 : Exa Z h0 s1 "java/lang/String") (F_s0_value : Fld Z h0 s0 "java/lang/String" "value" "[B" (.ref va)) (F_s0_coder : Fld Z h0 s0 "java/lang/String" "coder" "B" (.int (0 : Int32))) (F_s1_value : Fld Z h0 s1 "java/lang/String" "value" "[B" (.ref vb)) (F_s1_coder : Fld Z h0 s1 "java/lang/String" "coder" "B" (.int (0 : Int32))) (V_va : own_AI Z h0 va .byte 4 f) (V_vb : own_AI Z h0 vb .byte 5 g) (S_COMPACT_STRINGS : Sta Z h0 "java/lang/String" "COMPACT_STRINGS" "Z" (.int zc)) (ne_s0_s1 : s0 ≠ s1) (hz : ¬ zc = (0 : Int32)) :
    MetFree l (⟨"java/lang/String", "equals", "(Ljava/lang/Object;)Z"⟩ : MethodName) (head1 (Jvm.Cond.code (⟨"java/lang/String", "equals", "(Ljava/lang/Object;)Z"⟩ : MethodName) jdk_42_method_66_code 3 (some .boolean) :: ws) ({ frames := 1, cells := 0, slots := 0, locals := 14 } : Room)) (fun aa UU => aa = #[(.ref s0), (.ref s1)] ∧ Z.Warmed39 UU.vm ∧ UU.heap = h0) (fun _ _ _ _ _ => True) (fun _ UU oo UV => ∃ vv LL, oo = .returned vv ∧ QeqF Z s0 s1 zc va vb f g h0 n0 vv UV.heap LL ∧ FrameEnd UU oo UV LL ({ frames := 1, cells := 0, slots := 0, locals := 14 } : Room).cells ({ frames := 1, cells := 0, slots := 0, locals := 14 } : Room).slots) := by
  refine MetFree.of_bodySF (plainFor_of_name pn_26) hisR ?_
  intro p e s m args below meth c s₁ Bd hml0 hP hK
  obtain ⟨rfl, hZ, hh⟩ := hP
  have hx := Bd.exec
  have hby := Bd.bytes
  have hml : c.maxLocals = 3 := hml0
  have hown : s.vm.findClass "java/lang/String" = some m.cls := findClass_of_methodNamed Bd.named
  have hnm := (name_of_methodNamed Bd.named Bd.method).1
  have X0 : Stand p l e ({ frames := 1, cells := 0, slots := 0, locals := 14 } : Room) s m #[(.ref s0), (.ref s1)] below meth c s₁ [] 0 0 := Stand.of_body Bd
  have e0 : s₁.heap = h0 := by rw [← hh, Bd.state]; rfl
  have N0 := Fr.nil n0
  have k0 : ∀ tg_, Steps p.tables e below (s₁.setTop (mkF m 0 #[.val (.ref s0), .val (.ref s1), .unset] [])) tg_ → Steps p.tables e below (s₁.setTop (entryFrame m #[(.ref s0), (.ref s1)] 3)) tg_ := fun tg_ k => castTop (ef_eqF m s0 s1) k
  obtain ⟨T249, X249, e249, st249⟩ := instY X0 hx hZ hown (hw _ (List.mem_of_getElem? (i := 138) rfl)) e0 (Ins.self E_s1) (g := (mkF m 8 #[.val (.ref s0), .val (.ref s1), .unset] [(.ref s1)])) rfl rfl (hb hby d26_8)
  obtain ⟨T250, X250, e250, st250⟩ := castY X249 hx hZ hown (hw _ (List.mem_of_getElem? (i := 138) rfl)) e249 (Ins.self E_s1) (g := (mkF m 15 #[.val (.ref s0), .val (.ref s1), .unset] [(.ref s1)])) rfl rfl (hb hby d26_15)
  obtain ⟨T251, X251, e251, st251⟩ := getS2 X250 hx hZ hown (host := "") (Or.inl (hw _ (List.mem_of_getElem? (i := 22) rfl))) Via.refl e250 S_COMPACT_STRINGS (g := (mkF m 19 #[.val (.ref s0), .val (.ref s1), .val (.ref s1)] [])) rfl (hb hby d26_19)
  have hc22_252 : ¬ (zc = (0 : Int32)) := hz
  obtain ⟨T253, X253, e253, st253⟩ := getF X251 hx hZ hown (host := "") (Or.inl (hw _ (List.mem_of_getElem? (i := 23) rfl))) Via.refl e251 F_s0_coder (g := (mkF m 26 #[.val (.ref s0), .val (.ref s1), .val (.ref s1)] [(.ref s0)])) rfl rfl (hb hby d26_26)
  obtain ⟨T254, X254, e254, st254⟩ := getF X253 hx hZ hown (host := "") (Or.inl (hw _ (List.mem_of_getElem? (i := 23) rfl))) Via.refl e253 F_s1_coder (g := (mkF m 30 #[.val (.ref s0), .val (.ref s1), .val (.ref s1)] [(.ref s1), (.int (0 : Int32))])) rfl rfl (hb hby d26_30)
  obtain ⟨T255, X255, e255, st255⟩ := getF X254 hx hZ hown (host := "") (Or.inl (hw _ (List.mem_of_getElem? (i := 24) rfl))) Via.refl e254 F_s0_value (g := (mkF m 37 #[.val (.ref s0), .val (.ref s1), .val (.ref s1)] [(.ref s0)])) rfl rfl (hb hby d26_37)
  obtain ⟨T256, X256, e256, st256⟩ := getF X255 hx hZ hown (host := "") (Or.inl (hw _ (List.mem_of_getElem? (i := 24) rfl))) Via.refl e255 F_s1_value (g := (mkF m 41 #[.val (.ref s0), .val (.ref s1), .val (.ref s1)] [(.ref s1), (.ref va)])) rfl rfl (hb hby d26_41)
  obtain ⟨_, _, ⟨T257, L257, kc257, nc257⟩, -, X257, ⟨Lc257, hQ257, l257, y257, z257⟩, st257⟩ := Jvm.LawKit.callS X256 hx (y := (⟨"java/lang/StringLatin1", "equals", "([B[B)Z"⟩ : MethodName)) hown (mvT hZ (hw _ (List.mem_of_getElem? (i := 139) rfl))) (mvT hZ (hw _ (List.mem_of_getElem? (i := 140) rfl))) (mvT hZ (hw _ (List.mem_of_getElem? (i := 27) rfl))) (mvT hZ (hw _ (List.mem_of_getElem? (i := 141) rfl))) (by decide) (backOf (W := 0) (rme1F l Z a0 hw [] va vb f g h0 n0 V_va V_vb) hZ (hw _ (List.mem_of_getElem? (i := 141) rfl)) (hw _ (List.mem_of_getElem? (i := 27) rfl)) (by decide) (by decide)) (g := (mkF m 44 #[.val (.ref s0), .val (.ref s1), .val (.ref s1)] [(.ref vb), (.ref va)])) rfl (by rw [hml]; rfl) (argsL := [(.ref va), (.ref vb)]) (rest := []) (lenOf pd_19 rfl) rfl (by show 2 * 0 + _ ≤ _; exact Nat.le_of_eq rfl) (hb hby d26_44) (fun _ _ => ⟨rfl, e256, (by decide : 0 + 0 ≤ _), (by decide : 0 + 0 ≤ _)⟩)
  dsimp only [Pt.U, Pt.locs, Pt.cells, Pt.slots] at X257 l257 y257 z257 st257 hQ257
  rw [l257, y257, z257] at X257
  replace X257 : Stand p l e ({ frames := 1, cells := 0, slots := 0, locals := 14 } : Room) s m #[(.ref s0), (.ref s1)] below meth c T257 _ 0 0 := X257
  obtain ⟨rfl, Nq257, eq257⟩ := hQ257
  have N257 := Fr.app N0 Nq257
  have k258 : ∀ tg_, Steps p.tables e below (T257.setTop (mkF m 55 #[.val (.ref s0), .val (.ref s1), .val (.ref s1)] [(.int (0 : Int32))])) tg_ → Steps p.tables e below (s₁.setTop (entryFrame m #[(.ref s0), (.ref s1)] 3)) tg_ := by
    intro tg_ kt
    refine k0 tg_ ?_
    refine XS.aloadN X0.here hx rfl (hb hby d26_0) rfl rfl ?_
    show Steps p.tables e below (s₁.setTop (mkF m 1 #[.val (.ref s0), .val (.ref s1), .unset] [(.ref s0)])) _
    refine XS.aloadN X0.here hx rfl (hb hby d26_1) rfl rfl ?_
    show Steps p.tables e below (s₁.setTop (mkF m 2 #[.val (.ref s0), .val (.ref s1), .unset] [(.ref s1), (.ref s0)])) _
    refine Jvm.RoadKit.acmp (g := (mkF m 2 #[.val (.ref s0), .val (.ref s1), .unset] [(.ref s1), (.ref s0)])) X0 hx rfl rfl rfl (pc0 := 2) (pc' := 7) (same := false) rfl (hb hby d26_2) rfl (decide_eq_false fun q => ne_s0_s1 (Value.ref.inj q)) (by decide) (by decide) ?_
    show Steps p.tables e below (s₁.setTop (mkF m 7 #[.val (.ref s0), .val (.ref s1), .unset] [])) _
    refine XS.aloadN X0.here hx rfl (hb hby d26_7) rfl rfl ?_
    show Steps p.tables e below (s₁.setTop (mkF m 8 #[.val (.ref s0), .val (.ref s1), .unset] [(.ref s1)])) _
    refine st249 _ ?_
    show Steps p.tables e below (T249.setTop (mkF m 11 #[.val (.ref s0), .val (.ref s1), .unset] [(.int (1 : Int32))])) _
    refine XS.ifNo X249.here hx rfl (hb hby d26_11) rfl ((if0 _ _).trans (feq (by decide : ¬ ((1 : Int32) = (0 : Int32)))).1) ?_
    show Steps p.tables e below (T249.setTop (mkF m 14 #[.val (.ref s0), .val (.ref s1), .unset] [])) _
    refine XS.aloadN X249.here hx rfl (hb hby d26_14) rfl rfl ?_
    show Steps p.tables e below (T249.setTop (mkF m 15 #[.val (.ref s0), .val (.ref s1), .unset] [(.ref s1)])) _
    refine st250 _ ?_
    show Steps p.tables e below (T250.setTop (mkF m 18 #[.val (.ref s0), .val (.ref s1), .unset] [(.ref s1)])) _
    refine XS.astoreN X250.here hx rfl (hb hby d26_18) rfl rfl (l' := #[.val (.ref s0), .val (.ref s1), .val (.ref s1)]) rfl ?_
    show Steps p.tables e below (T250.setTop (mkF m 19 #[.val (.ref s0), .val (.ref s1), .val (.ref s1)] [])) _
    refine st251 _ ?_
    show Steps p.tables e below (T251.setTop (mkF m 22 #[.val (.ref s0), .val (.ref s1), .val (.ref s1)] [(.int zc)])) _
    refine XS.ifNo X251.here hx rfl (hb hby d26_22) rfl ((if0 _ _).trans (feq hc22_252).1) ?_
    show Steps p.tables e below (T251.setTop (mkF m 25 #[.val (.ref s0), .val (.ref s1), .val (.ref s1)] [])) _
    refine XS.aloadN X251.here hx rfl (hb hby d26_25) rfl rfl ?_
    show Steps p.tables e below (T251.setTop (mkF m 26 #[.val (.ref s0), .val (.ref s1), .val (.ref s1)] [(.ref s0)])) _
    refine st253 _ ?_
    show Steps p.tables e below (T253.setTop (mkF m 29 #[.val (.ref s0), .val (.ref s1), .val (.ref s1)] [(.int (0 : Int32))])) _
    refine XS.aloadN X253.here hx rfl (hb hby d26_29) rfl rfl ?_
    show Steps p.tables e below (T253.setTop (mkF m 30 #[.val (.ref s0), .val (.ref s1), .val (.ref s1)] [(.ref s1), (.int (0 : Int32))])) _
    refine st254 _ ?_
    show Steps p.tables e below (T254.setTop (mkF m 33 #[.val (.ref s0), .val (.ref s1), .val (.ref s1)] [(.int (0 : Int32)), (.int (0 : Int32))])) _
    refine XS.icmpNo X254.here hx rfl (hb hby d26_33) rfl (teq (by decide : (0 : Int32) = (0 : Int32))).2 ?_
    show Steps p.tables e below (T254.setTop (mkF m 36 #[.val (.ref s0), .val (.ref s1), .val (.ref s1)] [])) _
    refine XS.aloadN X254.here hx rfl (hb hby d26_36) rfl rfl ?_
    show Steps p.tables e below (T254.setTop (mkF m 37 #[.val (.ref s0), .val (.ref s1), .val (.ref s1)] [(.ref s0)])) _
    refine st255 _ ?_
    show Steps p.tables e below (T255.setTop (mkF m 40 #[.val (.ref s0), .val (.ref s1), .val (.ref s1)] [(.ref va)])) _
    refine XS.aloadN X255.here hx rfl (hb hby d26_40) rfl rfl ?_
    show Steps p.tables e below (T255.setTop (mkF m 41 #[.val (.ref s0), .val (.ref s1), .val (.ref s1)] [(.ref s1), (.ref va)])) _
    refine st256 _ ?_
    show Steps p.tables e below (T256.setTop (mkF m 44 #[.val (.ref s0), .val (.ref s1), .val (.ref s1)] [(.ref vb), (.ref va)])) _
    refine st257 _ ?_
    show Steps p.tables e below (T257.setTop (mkF m 47 #[.val (.ref s0), .val (.ref s1), .val (.ref s1)] [(.int (0 : Int32))])) _
    refine XS.ifYes X257.here hx rfl (pc0 := 47) (pc' := 54) rfl (hb hby d26_47) rfl ((if0 _ _).trans (teq (by decide : (0 : Int32) = (0 : Int32))).1) (by decide) (by decide) ?_
    show Steps p.tables e below (T257.setTop (mkF m 54 #[.val (.ref s0), .val (.ref s1), .val (.ref s1)] [])) _
    refine XS.iconst X257.here hx rfl (hb hby d26_54) ?_
    show Steps p.tables e below (T257.setTop (mkF m 55 #[.val (.ref s0), .val (.ref s1), .val (.ref s1)] [(.int (0 : Int32))])) _
    exact kt
  obtain ⟨fs, hr, hrun, hended, hW, hsame⟩ := X257.leave (v := some (.int (0 : Int32))) (fun h => by rw [Bd.returns] at h; cases h) (hlocks := by first | exact BodyLoose.notSynchronized Bd | exact Body.notSynchronized Bd)
  refine ⟨_, _, k258 _ (retN X257 hx (t := .boolean) Bd.returns (by simp) (hb hby d26_55) hr), hrun, hended, _, _, rfl, ?_, ⟨_, rfl⟩, hW, hsame.mono (by decide) (by decide)⟩
  show QeqF Z s0 s1 zc va vb f g h0 n0 _ T257.heap _
  rw [eq257]
  exact ⟨rfl, N257, rfl⟩
theorem d27_26 : decode jdk_43_method_13_code 26 = .ok (.iinc 2 1, 3) := by decide +kernel
theorem d27_29 : decode jdk_43_method_13_code 29 = .ok (.goto (-20), 3) := by decide +kernel
theorem d27_32 : decode jdk_43_method_13_code 32 = .ok (.iconst 1, 1) := by decide +kernel
theorem d27_33 : decode jdk_43_method_13_code 33 = .ok (.ireturn, 1) := by decide +kernel
theorem ef_e1N (m : MethodId) (x0 : Addr) (x1 : Addr) : entryFrame m #[(.ref x0), (.ref x1)] 3 = mkF m 0 #[.val (.ref x0), .val (.ref x1), .unset] [] := by first | (simp [entryFrame, mkF, argsToLocals, Value.category]; done) | rfl
def Qe1N (Z : State) (va : Addr) (vb : Addr) (f : Nat → Int32) (g : Nat → Int32) (h0 : Heap) (n0 : Nat) (rv_ : Option Value) (h : Heap) (LL_ : List Loc) : Prop := rv_ = some (.int (1 : Int32)) ∧ Fr n0 LL_ ∧ h = h0
set_option maxRecDepth 65536 in
set_option maxHeartbeats 40000000 in
theorem rme1N (l : Launch) (Z : State) (a0 : Array Value) (hw : ∀ d ∈ tables_1, d.before a0 Z = true) (ws : List Jvm.Cond) (va : Addr) (vb : Addr) (f : Nat → Int32) (g : Nat → Int32) (h0 : Heap) (n0 : Nat) (V_va : own_AI Z h0 va .byte 4 f) (V_vb : own_AI Z h0 vb .byte 4 g) (hf0 : f 0 = (110 : Int32)) (hf1 : f 1 = (117 : Int32)) (hf2 : f 2 = (108 : Int32)) (hf3 : f 3 = (108 : Int32)) (hg0 : g 0 = (110 : Int32)) (hg1 : g 1 = (117 : Int32)) (hg2 : g 2 = (108 : Int32)) (hg3 : g 3 = (108 : Int32)) :
    MetFree l (⟨"java/lang/StringLatin1", "equals", "([B[B)Z"⟩ : MethodName) (head1 (Jvm.Cond.code (⟨"java/lang/StringLatin1", "equals", "([B[B)Z"⟩ : MethodName) jdk_43_method_13_code 3 (some .boolean) :: ws) ({ frames := 0, cells := 0, slots := 0, locals := 0 } : Room)) (fun aa UU => aa = #[(.ref va), (.ref vb)] ∧ Z.Warmed39 UU.vm ∧ UU.heap = h0) (fun _ _ _ _ _ => True) (fun _ UU oo UV => ∃ vv LL, oo = .returned vv ∧ Qe1N Z va vb f g h0 n0 vv UV.heap LL ∧ FrameEnd UU oo UV LL ({ frames := 0, cells := 0, slots := 0, locals := 0 } : Room).cells ({ frames := 0, cells := 0, slots := 0, locals := 0 } : Room).slots) := by
  refine MetFree.of_bodySF (plainFor_of_name pn_27) hisR ?_
  intro p e s m args below meth c s₁ Bd hml0 hP hK
  obtain ⟨rfl, hZ, hh⟩ := hP
  have hx := Bd.exec
  have hby := Bd.bytes
  have hml : c.maxLocals = 3 := hml0
  have hown : s.vm.findClass "java/lang/StringLatin1" = some m.cls := findClass_of_methodNamed Bd.named
  have hnm := (name_of_methodNamed Bd.named Bd.method).1
  have X0 : Stand p l e ({ frames := 0, cells := 0, slots := 0, locals := 0 } : Room) s m #[(.ref va), (.ref vb)] below meth c s₁ [] 0 0 := Stand.of_body Bd
  have e0 : s₁.heap = h0 := by rw [← hh, Bd.state]; rfl
  have N0 := Fr.nil n0
  have k0 : ∀ tg_, Steps p.tables e below (s₁.setTop (mkF m 0 #[.val (.ref va), .val (.ref vb), .unset] [])) tg_ → Steps p.tables e below (s₁.setTop (entryFrame m #[(.ref va), (.ref vb)] 3)) tg_ := fun tg_ k => castTop (ef_e1N m va vb) k
  have hc12_259 : ((0 : Int32) + (1 : Int32)) < (4 : Int32) := (by decide)
  have k260 : ∀ tg_, Steps p.tables e below (s₁.setTop (mkF m 17 #[.val (.ref va), .val (.ref vb), .val (.int ((0 : Int32) + (1 : Int32)))] [(.int ((0 : Int32) + (1 : Int32))), (.ref va)])) tg_ → Steps p.tables e below (s₁.setTop (entryFrame m #[(.ref va), (.ref vb)] 3)) tg_ := by
    intro tg_ kt
    refine k0 tg_ ?_
    refine XS.aloadN X0.here hx rfl (hb hby d27_0) rfl rfl ?_
    show Steps p.tables e below (s₁.setTop (mkF m 1 #[.val (.ref va), .val (.ref vb), .unset] [(.ref va)])) _
    refine own_len X0 hx hZ e0 V_va (z := (4 : Int32)) (by decide) (g := (mkF m 1 #[.val (.ref va), .val (.ref vb), .unset] [(.ref va)])) rfl rfl (hb hby d27_1) _ ?_
    show Steps p.tables e below (s₁.setTop (mkF m 2 #[.val (.ref va), .val (.ref vb), .unset] [(.int (4 : Int32))])) _
    refine XS.aloadN X0.here hx rfl (hb hby d27_2) rfl rfl ?_
    show Steps p.tables e below (s₁.setTop (mkF m 3 #[.val (.ref va), .val (.ref vb), .unset] [(.ref vb), (.int (4 : Int32))])) _
    refine own_len X0 hx hZ e0 V_vb (z := (4 : Int32)) (by decide) (g := (mkF m 3 #[.val (.ref va), .val (.ref vb), .unset] [(.ref vb), (.int (4 : Int32))])) rfl rfl (hb hby d27_3) _ ?_
    show Steps p.tables e below (s₁.setTop (mkF m 4 #[.val (.ref va), .val (.ref vb), .unset] [(.int (4 : Int32)), (.int (4 : Int32))])) _
    refine XS.icmpNo X0.here hx rfl (hb hby d27_4) rfl (teq (by decide : (4 : Int32) = (4 : Int32))).2 ?_
    show Steps p.tables e below (s₁.setTop (mkF m 7 #[.val (.ref va), .val (.ref vb), .unset] [])) _
    refine XS.iconst X0.here hx rfl (hb hby d27_7) ?_
    show Steps p.tables e below (s₁.setTop (mkF m 8 #[.val (.ref va), .val (.ref vb), .unset] [(.int (0 : Int32))])) _
    refine XS.istoreN X0.here hx rfl (hb hby d27_8) rfl (l' := #[.val (.ref va), .val (.ref vb), .val (.int (0 : Int32))]) rfl ?_
    show Steps p.tables e below (s₁.setTop (mkF m 9 #[.val (.ref va), .val (.ref vb), .val (.int (0 : Int32))] [])) _
    refine XS.iloadN X0.here hx rfl (hb hby d27_9) rfl ?_
    show Steps p.tables e below (s₁.setTop (mkF m 10 #[.val (.ref va), .val (.ref vb), .val (.int (0 : Int32))] [(.int (0 : Int32))])) _
    refine XS.aloadN X0.here hx rfl (hb hby d27_10) rfl rfl ?_
    show Steps p.tables e below (s₁.setTop (mkF m 11 #[.val (.ref va), .val (.ref vb), .val (.int (0 : Int32))] [(.ref va), (.int (0 : Int32))])) _
    refine own_len X0 hx hZ e0 V_va (z := (4 : Int32)) (by decide) (g := (mkF m 11 #[.val (.ref va), .val (.ref vb), .val (.int (0 : Int32))] [(.ref va), (.int (0 : Int32))])) rfl rfl (hb hby d27_11) _ ?_
    show Steps p.tables e below (s₁.setTop (mkF m 12 #[.val (.ref va), .val (.ref vb), .val (.int (0 : Int32))] [(.int (4 : Int32)), (.int (0 : Int32))])) _
    refine XS.icmpNo X0.here hx rfl (hb hby d27_12) rfl (tlt (by decide : (0 : Int32) < (4 : Int32))).2.1 ?_
    show Steps p.tables e below (s₁.setTop (mkF m 15 #[.val (.ref va), .val (.ref vb), .val (.int (0 : Int32))] [])) _
    refine XS.aloadN X0.here hx rfl (hb hby d27_15) rfl rfl ?_
    show Steps p.tables e below (s₁.setTop (mkF m 16 #[.val (.ref va), .val (.ref vb), .val (.int (0 : Int32))] [(.ref va)])) _
    refine XS.iloadN X0.here hx rfl (hb hby d27_16) rfl ?_
    show Steps p.tables e below (s₁.setTop (mkF m 17 #[.val (.ref va), .val (.ref vb), .val (.int (0 : Int32))] [(.int (0 : Int32)), (.ref va)])) _
    refine own_ldB X0 hx hZ e0 V_va (i := 0) (by decide : (0 : Int32).toInt = ((0 : Nat) : Int)) (by decide) hf0 (g := (mkF m 17 #[.val (.ref va), .val (.ref vb), .val (.int (0 : Int32))] [(.int (0 : Int32)), (.ref va)])) rfl rfl (hb hby d27_17) _ ?_
    show Steps p.tables e below (s₁.setTop (mkF m 18 #[.val (.ref va), .val (.ref vb), .val (.int (0 : Int32))] [(.int (110 : Int32))])) _
    refine XS.aloadN X0.here hx rfl (hb hby d27_18) rfl rfl ?_
    show Steps p.tables e below (s₁.setTop (mkF m 19 #[.val (.ref va), .val (.ref vb), .val (.int (0 : Int32))] [(.ref vb), (.int (110 : Int32))])) _
    refine XS.iloadN X0.here hx rfl (hb hby d27_19) rfl ?_
    show Steps p.tables e below (s₁.setTop (mkF m 20 #[.val (.ref va), .val (.ref vb), .val (.int (0 : Int32))] [(.int (0 : Int32)), (.ref vb), (.int (110 : Int32))])) _
    refine own_ldB X0 hx hZ e0 V_vb (i := 0) (by decide : (0 : Int32).toInt = ((0 : Nat) : Int)) (by decide) hg0 (g := (mkF m 20 #[.val (.ref va), .val (.ref vb), .val (.int (0 : Int32))] [(.int (0 : Int32)), (.ref vb), (.int (110 : Int32))])) rfl rfl (hb hby d27_20) _ ?_
    show Steps p.tables e below (s₁.setTop (mkF m 21 #[.val (.ref va), .val (.ref vb), .val (.int (0 : Int32))] [(.int (110 : Int32)), (.int (110 : Int32))])) _
    refine XS.icmpYes X0.here hx rfl (pc0 := 21) (pc' := 26) rfl (hb hby d27_21) rfl (teq (by decide : (110 : Int32) = (110 : Int32))).1 (by decide) (by decide) ?_
    show Steps p.tables e below (s₁.setTop (mkF m 26 #[.val (.ref va), .val (.ref vb), .val (.int (0 : Int32))] [])) _
    refine XS.iinc X0.here hx rfl (hb hby d27_26) rfl (l' := #[.val (.ref va), .val (.ref vb), .val (.int ((0 : Int32) + (1 : Int32)))]) rfl ?_
    show Steps p.tables e below (s₁.setTop (mkF m 29 #[.val (.ref va), .val (.ref vb), .val (.int ((0 : Int32) + (1 : Int32)))] [])) _
    refine XS.goto X0.here hx rfl (pc0 := 29) (pc' := 9) rfl (hb hby d27_29) (by decide) (by decide) ?_
    show Steps p.tables e below (s₁.setTop (mkF m 9 #[.val (.ref va), .val (.ref vb), .val (.int ((0 : Int32) + (1 : Int32)))] [])) _
    refine XS.iloadN X0.here hx rfl (hb hby d27_9) rfl ?_
    show Steps p.tables e below (s₁.setTop (mkF m 10 #[.val (.ref va), .val (.ref vb), .val (.int ((0 : Int32) + (1 : Int32)))] [(.int ((0 : Int32) + (1 : Int32)))])) _
    refine XS.aloadN X0.here hx rfl (hb hby d27_10) rfl rfl ?_
    show Steps p.tables e below (s₁.setTop (mkF m 11 #[.val (.ref va), .val (.ref vb), .val (.int ((0 : Int32) + (1 : Int32)))] [(.ref va), (.int ((0 : Int32) + (1 : Int32)))])) _
    refine own_len X0 hx hZ e0 V_va (z := (4 : Int32)) (by decide) (g := (mkF m 11 #[.val (.ref va), .val (.ref vb), .val (.int ((0 : Int32) + (1 : Int32)))] [(.ref va), (.int ((0 : Int32) + (1 : Int32)))])) rfl rfl (hb hby d27_11) _ ?_
    show Steps p.tables e below (s₁.setTop (mkF m 12 #[.val (.ref va), .val (.ref vb), .val (.int ((0 : Int32) + (1 : Int32)))] [(.int (4 : Int32)), (.int ((0 : Int32) + (1 : Int32)))])) _
    refine XS.icmpNo X0.here hx rfl (hb hby d27_12) rfl (tlt hc12_259).2.1 ?_
    show Steps p.tables e below (s₁.setTop (mkF m 15 #[.val (.ref va), .val (.ref vb), .val (.int ((0 : Int32) + (1 : Int32)))] [])) _
    refine XS.aloadN X0.here hx rfl (hb hby d27_15) rfl rfl ?_
    show Steps p.tables e below (s₁.setTop (mkF m 16 #[.val (.ref va), .val (.ref vb), .val (.int ((0 : Int32) + (1 : Int32)))] [(.ref va)])) _
    refine XS.iloadN X0.here hx rfl (hb hby d27_16) rfl ?_
    show Steps p.tables e below (s₁.setTop (mkF m 17 #[.val (.ref va), .val (.ref vb), .val (.int ((0 : Int32) + (1 : Int32)))] [(.int ((0 : Int32) + (1 : Int32))), (.ref va)])) _
    exact kt
  have hc12_261 : (((0 : Int32) + (1 : Int32)) + (1 : Int32)) < (4 : Int32) := (by decide)
  have hc12_262 : ((((0 : Int32) + (1 : Int32)) + (1 : Int32)) + (1 : Int32)) < (4 : Int32) := (by decide)
  have k263 : ∀ tg_, Steps p.tables e below (s₁.setTop (mkF m 17 #[.val (.ref va), .val (.ref vb), .val (.int ((((0 : Int32) + (1 : Int32)) + (1 : Int32)) + (1 : Int32)))] [(.int ((((0 : Int32) + (1 : Int32)) + (1 : Int32)) + (1 : Int32))), (.ref va)])) tg_ → Steps p.tables e below (s₁.setTop (entryFrame m #[(.ref va), (.ref vb)] 3)) tg_ := by
    intro tg_ kt
    refine k260 tg_ ?_
    refine own_ldB X0 hx hZ e0 V_va (i := 1) (by decide) (by decide) hf1 (g := (mkF m 17 #[.val (.ref va), .val (.ref vb), .val (.int ((0 : Int32) + (1 : Int32)))] [(.int ((0 : Int32) + (1 : Int32))), (.ref va)])) rfl rfl (hb hby d27_17) _ ?_
    show Steps p.tables e below (s₁.setTop (mkF m 18 #[.val (.ref va), .val (.ref vb), .val (.int ((0 : Int32) + (1 : Int32)))] [(.int (117 : Int32))])) _
    refine XS.aloadN X0.here hx rfl (hb hby d27_18) rfl rfl ?_
    show Steps p.tables e below (s₁.setTop (mkF m 19 #[.val (.ref va), .val (.ref vb), .val (.int ((0 : Int32) + (1 : Int32)))] [(.ref vb), (.int (117 : Int32))])) _
    refine XS.iloadN X0.here hx rfl (hb hby d27_19) rfl ?_
    show Steps p.tables e below (s₁.setTop (mkF m 20 #[.val (.ref va), .val (.ref vb), .val (.int ((0 : Int32) + (1 : Int32)))] [(.int ((0 : Int32) + (1 : Int32))), (.ref vb), (.int (117 : Int32))])) _
    refine own_ldB X0 hx hZ e0 V_vb (i := 1) (by decide) (by decide) hg1 (g := (mkF m 20 #[.val (.ref va), .val (.ref vb), .val (.int ((0 : Int32) + (1 : Int32)))] [(.int ((0 : Int32) + (1 : Int32))), (.ref vb), (.int (117 : Int32))])) rfl rfl (hb hby d27_20) _ ?_
    show Steps p.tables e below (s₁.setTop (mkF m 21 #[.val (.ref va), .val (.ref vb), .val (.int ((0 : Int32) + (1 : Int32)))] [(.int (117 : Int32)), (.int (117 : Int32))])) _
    refine XS.icmpYes X0.here hx rfl (pc0 := 21) (pc' := 26) rfl (hb hby d27_21) rfl (teq (by decide : (117 : Int32) = (117 : Int32))).1 (by decide) (by decide) ?_
    show Steps p.tables e below (s₁.setTop (mkF m 26 #[.val (.ref va), .val (.ref vb), .val (.int ((0 : Int32) + (1 : Int32)))] [])) _
    refine XS.iinc X0.here hx rfl (hb hby d27_26) rfl (l' := #[.val (.ref va), .val (.ref vb), .val (.int (((0 : Int32) + (1 : Int32)) + (1 : Int32)))]) rfl ?_
    show Steps p.tables e below (s₁.setTop (mkF m 29 #[.val (.ref va), .val (.ref vb), .val (.int (((0 : Int32) + (1 : Int32)) + (1 : Int32)))] [])) _
    refine XS.goto X0.here hx rfl (pc0 := 29) (pc' := 9) rfl (hb hby d27_29) (by decide) (by decide) ?_
    show Steps p.tables e below (s₁.setTop (mkF m 9 #[.val (.ref va), .val (.ref vb), .val (.int (((0 : Int32) + (1 : Int32)) + (1 : Int32)))] [])) _
    refine XS.iloadN X0.here hx rfl (hb hby d27_9) rfl ?_
    show Steps p.tables e below (s₁.setTop (mkF m 10 #[.val (.ref va), .val (.ref vb), .val (.int (((0 : Int32) + (1 : Int32)) + (1 : Int32)))] [(.int (((0 : Int32) + (1 : Int32)) + (1 : Int32)))])) _
    refine XS.aloadN X0.here hx rfl (hb hby d27_10) rfl rfl ?_
    show Steps p.tables e below (s₁.setTop (mkF m 11 #[.val (.ref va), .val (.ref vb), .val (.int (((0 : Int32) + (1 : Int32)) + (1 : Int32)))] [(.ref va), (.int (((0 : Int32) + (1 : Int32)) + (1 : Int32)))])) _
    refine own_len X0 hx hZ e0 V_va (z := (4 : Int32)) (by decide) (g := (mkF m 11 #[.val (.ref va), .val (.ref vb), .val (.int (((0 : Int32) + (1 : Int32)) + (1 : Int32)))] [(.ref va), (.int (((0 : Int32) + (1 : Int32)) + (1 : Int32)))])) rfl rfl (hb hby d27_11) _ ?_
    show Steps p.tables e below (s₁.setTop (mkF m 12 #[.val (.ref va), .val (.ref vb), .val (.int (((0 : Int32) + (1 : Int32)) + (1 : Int32)))] [(.int (4 : Int32)), (.int (((0 : Int32) + (1 : Int32)) + (1 : Int32)))])) _
    refine XS.icmpNo X0.here hx rfl (hb hby d27_12) rfl (tlt hc12_261).2.1 ?_
    show Steps p.tables e below (s₁.setTop (mkF m 15 #[.val (.ref va), .val (.ref vb), .val (.int (((0 : Int32) + (1 : Int32)) + (1 : Int32)))] [])) _
    refine XS.aloadN X0.here hx rfl (hb hby d27_15) rfl rfl ?_
    show Steps p.tables e below (s₁.setTop (mkF m 16 #[.val (.ref va), .val (.ref vb), .val (.int (((0 : Int32) + (1 : Int32)) + (1 : Int32)))] [(.ref va)])) _
    refine XS.iloadN X0.here hx rfl (hb hby d27_16) rfl ?_
    show Steps p.tables e below (s₁.setTop (mkF m 17 #[.val (.ref va), .val (.ref vb), .val (.int (((0 : Int32) + (1 : Int32)) + (1 : Int32)))] [(.int (((0 : Int32) + (1 : Int32)) + (1 : Int32))), (.ref va)])) _
    refine own_ldB X0 hx hZ e0 V_va (i := 2) (by decide) (by decide) hf2 (g := (mkF m 17 #[.val (.ref va), .val (.ref vb), .val (.int (((0 : Int32) + (1 : Int32)) + (1 : Int32)))] [(.int (((0 : Int32) + (1 : Int32)) + (1 : Int32))), (.ref va)])) rfl rfl (hb hby d27_17) _ ?_
    show Steps p.tables e below (s₁.setTop (mkF m 18 #[.val (.ref va), .val (.ref vb), .val (.int (((0 : Int32) + (1 : Int32)) + (1 : Int32)))] [(.int (108 : Int32))])) _
    refine XS.aloadN X0.here hx rfl (hb hby d27_18) rfl rfl ?_
    show Steps p.tables e below (s₁.setTop (mkF m 19 #[.val (.ref va), .val (.ref vb), .val (.int (((0 : Int32) + (1 : Int32)) + (1 : Int32)))] [(.ref vb), (.int (108 : Int32))])) _
    refine XS.iloadN X0.here hx rfl (hb hby d27_19) rfl ?_
    show Steps p.tables e below (s₁.setTop (mkF m 20 #[.val (.ref va), .val (.ref vb), .val (.int (((0 : Int32) + (1 : Int32)) + (1 : Int32)))] [(.int (((0 : Int32) + (1 : Int32)) + (1 : Int32))), (.ref vb), (.int (108 : Int32))])) _
    refine own_ldB X0 hx hZ e0 V_vb (i := 2) (by decide) (by decide) hg2 (g := (mkF m 20 #[.val (.ref va), .val (.ref vb), .val (.int (((0 : Int32) + (1 : Int32)) + (1 : Int32)))] [(.int (((0 : Int32) + (1 : Int32)) + (1 : Int32))), (.ref vb), (.int (108 : Int32))])) rfl rfl (hb hby d27_20) _ ?_
    show Steps p.tables e below (s₁.setTop (mkF m 21 #[.val (.ref va), .val (.ref vb), .val (.int (((0 : Int32) + (1 : Int32)) + (1 : Int32)))] [(.int (108 : Int32)), (.int (108 : Int32))])) _
    refine XS.icmpYes X0.here hx rfl (pc0 := 21) (pc' := 26) rfl (hb hby d27_21) rfl (teq (by decide : (108 : Int32) = (108 : Int32))).1 (by decide) (by decide) ?_
    show Steps p.tables e below (s₁.setTop (mkF m 26 #[.val (.ref va), .val (.ref vb), .val (.int (((0 : Int32) + (1 : Int32)) + (1 : Int32)))] [])) _
    refine XS.iinc X0.here hx rfl (hb hby d27_26) rfl (l' := #[.val (.ref va), .val (.ref vb), .val (.int ((((0 : Int32) + (1 : Int32)) + (1 : Int32)) + (1 : Int32)))]) rfl ?_
    show Steps p.tables e below (s₁.setTop (mkF m 29 #[.val (.ref va), .val (.ref vb), .val (.int ((((0 : Int32) + (1 : Int32)) + (1 : Int32)) + (1 : Int32)))] [])) _
    refine XS.goto X0.here hx rfl (pc0 := 29) (pc' := 9) rfl (hb hby d27_29) (by decide) (by decide) ?_
    show Steps p.tables e below (s₁.setTop (mkF m 9 #[.val (.ref va), .val (.ref vb), .val (.int ((((0 : Int32) + (1 : Int32)) + (1 : Int32)) + (1 : Int32)))] [])) _
    refine XS.iloadN X0.here hx rfl (hb hby d27_9) rfl ?_
    show Steps p.tables e below (s₁.setTop (mkF m 10 #[.val (.ref va), .val (.ref vb), .val (.int ((((0 : Int32) + (1 : Int32)) + (1 : Int32)) + (1 : Int32)))] [(.int ((((0 : Int32) + (1 : Int32)) + (1 : Int32)) + (1 : Int32)))])) _
    refine XS.aloadN X0.here hx rfl (hb hby d27_10) rfl rfl ?_
    show Steps p.tables e below (s₁.setTop (mkF m 11 #[.val (.ref va), .val (.ref vb), .val (.int ((((0 : Int32) + (1 : Int32)) + (1 : Int32)) + (1 : Int32)))] [(.ref va), (.int ((((0 : Int32) + (1 : Int32)) + (1 : Int32)) + (1 : Int32)))])) _
    refine own_len X0 hx hZ e0 V_va (z := (4 : Int32)) (by decide) (g := (mkF m 11 #[.val (.ref va), .val (.ref vb), .val (.int ((((0 : Int32) + (1 : Int32)) + (1 : Int32)) + (1 : Int32)))] [(.ref va), (.int ((((0 : Int32) + (1 : Int32)) + (1 : Int32)) + (1 : Int32)))])) rfl rfl (hb hby d27_11) _ ?_
    show Steps p.tables e below (s₁.setTop (mkF m 12 #[.val (.ref va), .val (.ref vb), .val (.int ((((0 : Int32) + (1 : Int32)) + (1 : Int32)) + (1 : Int32)))] [(.int (4 : Int32)), (.int ((((0 : Int32) + (1 : Int32)) + (1 : Int32)) + (1 : Int32)))])) _
    refine XS.icmpNo X0.here hx rfl (hb hby d27_12) rfl (tlt hc12_262).2.1 ?_
    show Steps p.tables e below (s₁.setTop (mkF m 15 #[.val (.ref va), .val (.ref vb), .val (.int ((((0 : Int32) + (1 : Int32)) + (1 : Int32)) + (1 : Int32)))] [])) _
    refine XS.aloadN X0.here hx rfl (hb hby d27_15) rfl rfl ?_
    show Steps p.tables e below (s₁.setTop (mkF m 16 #[.val (.ref va), .val (.ref vb), .val (.int ((((0 : Int32) + (1 : Int32)) + (1 : Int32)) + (1 : Int32)))] [(.ref va)])) _
    refine XS.iloadN X0.here hx rfl (hb hby d27_16) rfl ?_
    show Steps p.tables e below (s₁.setTop (mkF m 17 #[.val (.ref va), .val (.ref vb), .val (.int ((((0 : Int32) + (1 : Int32)) + (1 : Int32)) + (1 : Int32)))] [(.int ((((0 : Int32) + (1 : Int32)) + (1 : Int32)) + (1 : Int32))), (.ref va)])) _
    exact kt
  have hc12_264 : ¬ ((((((0 : Int32) + (1 : Int32)) + (1 : Int32)) + (1 : Int32)) + (1 : Int32)) < (4 : Int32)) := (by decide)
  have k265 : ∀ tg_, Steps p.tables e below (s₁.setTop (mkF m 33 #[.val (.ref va), .val (.ref vb), .val (.int (((((0 : Int32) + (1 : Int32)) + (1 : Int32)) + (1 : Int32)) + (1 : Int32)))] [(.int (1 : Int32))])) tg_ → Steps p.tables e below (s₁.setTop (entryFrame m #[(.ref va), (.ref vb)] 3)) tg_ := by
    intro tg_ kt
    refine k263 tg_ ?_
    refine own_ldB X0 hx hZ e0 V_va (i := 3) (by decide) (by decide) hf3 (g := (mkF m 17 #[.val (.ref va), .val (.ref vb), .val (.int ((((0 : Int32) + (1 : Int32)) + (1 : Int32)) + (1 : Int32)))] [(.int ((((0 : Int32) + (1 : Int32)) + (1 : Int32)) + (1 : Int32))), (.ref va)])) rfl rfl (hb hby d27_17) _ ?_
    show Steps p.tables e below (s₁.setTop (mkF m 18 #[.val (.ref va), .val (.ref vb), .val (.int ((((0 : Int32) + (1 : Int32)) + (1 : Int32)) + (1 : Int32)))] [(.int (108 : Int32))])) _
    refine XS.aloadN X0.here hx rfl (hb hby d27_18) rfl rfl ?_
    show Steps p.tables e below (s₁.setTop (mkF m 19 #[.val (.ref va), .val (.ref vb), .val (.int ((((0 : Int32) + (1 : Int32)) + (1 : Int32)) + (1 : Int32)))] [(.ref vb), (.int (108 : Int32))])) _
    refine XS.iloadN X0.here hx rfl (hb hby d27_19) rfl ?_
    show Steps p.tables e below (s₁.setTop (mkF m 20 #[.val (.ref va), .val (.ref vb), .val (.int ((((0 : Int32) + (1 : Int32)) + (1 : Int32)) + (1 : Int32)))] [(.int ((((0 : Int32) + (1 : Int32)) + (1 : Int32)) + (1 : Int32))), (.ref vb), (.int (108 : Int32))])) _
    refine own_ldB X0 hx hZ e0 V_vb (i := 3) (by decide) (by decide) hg3 (g := (mkF m 20 #[.val (.ref va), .val (.ref vb), .val (.int ((((0 : Int32) + (1 : Int32)) + (1 : Int32)) + (1 : Int32)))] [(.int ((((0 : Int32) + (1 : Int32)) + (1 : Int32)) + (1 : Int32))), (.ref vb), (.int (108 : Int32))])) rfl rfl (hb hby d27_20) _ ?_
    show Steps p.tables e below (s₁.setTop (mkF m 21 #[.val (.ref va), .val (.ref vb), .val (.int ((((0 : Int32) + (1 : Int32)) + (1 : Int32)) + (1 : Int32)))] [(.int (108 : Int32)), (.int (108 : Int32))])) _
    refine XS.icmpYes X0.here hx rfl (pc0 := 21) (pc' := 26) rfl (hb hby d27_21) rfl (teq (by decide : (108 : Int32) = (108 : Int32))).1 (by decide) (by decide) ?_
    show Steps p.tables e below (s₁.setTop (mkF m 26 #[.val (.ref va), .val (.ref vb), .val (.int ((((0 : Int32) + (1 : Int32)) + (1 : Int32)) + (1 : Int32)))] [])) _
    refine XS.iinc X0.here hx rfl (hb hby d27_26) rfl (l' := #[.val (.ref va), .val (.ref vb), .val (.int (((((0 : Int32) + (1 : Int32)) + (1 : Int32)) + (1 : Int32)) + (1 : Int32)))]) rfl ?_
    show Steps p.tables e below (s₁.setTop (mkF m 29 #[.val (.ref va), .val (.ref vb), .val (.int (((((0 : Int32) + (1 : Int32)) + (1 : Int32)) + (1 : Int32)) + (1 : Int32)))] [])) _
    refine XS.goto X0.here hx rfl (pc0 := 29) (pc' := 9) rfl (hb hby d27_29) (by decide) (by decide) ?_
    show Steps p.tables e below (s₁.setTop (mkF m 9 #[.val (.ref va), .val (.ref vb), .val (.int (((((0 : Int32) + (1 : Int32)) + (1 : Int32)) + (1 : Int32)) + (1 : Int32)))] [])) _
    refine XS.iloadN X0.here hx rfl (hb hby d27_9) rfl ?_
    show Steps p.tables e below (s₁.setTop (mkF m 10 #[.val (.ref va), .val (.ref vb), .val (.int (((((0 : Int32) + (1 : Int32)) + (1 : Int32)) + (1 : Int32)) + (1 : Int32)))] [(.int (((((0 : Int32) + (1 : Int32)) + (1 : Int32)) + (1 : Int32)) + (1 : Int32)))])) _
    refine XS.aloadN X0.here hx rfl (hb hby d27_10) rfl rfl ?_
    show Steps p.tables e below (s₁.setTop (mkF m 11 #[.val (.ref va), .val (.ref vb), .val (.int (((((0 : Int32) + (1 : Int32)) + (1 : Int32)) + (1 : Int32)) + (1 : Int32)))] [(.ref va), (.int (((((0 : Int32) + (1 : Int32)) + (1 : Int32)) + (1 : Int32)) + (1 : Int32)))])) _
    refine own_len X0 hx hZ e0 V_va (z := (4 : Int32)) (by decide) (g := (mkF m 11 #[.val (.ref va), .val (.ref vb), .val (.int (((((0 : Int32) + (1 : Int32)) + (1 : Int32)) + (1 : Int32)) + (1 : Int32)))] [(.ref va), (.int (((((0 : Int32) + (1 : Int32)) + (1 : Int32)) + (1 : Int32)) + (1 : Int32)))])) rfl rfl (hb hby d27_11) _ ?_
    show Steps p.tables e below (s₁.setTop (mkF m 12 #[.val (.ref va), .val (.ref vb), .val (.int (((((0 : Int32) + (1 : Int32)) + (1 : Int32)) + (1 : Int32)) + (1 : Int32)))] [(.int (4 : Int32)), (.int (((((0 : Int32) + (1 : Int32)) + (1 : Int32)) + (1 : Int32)) + (1 : Int32)))])) _
    refine XS.icmpYes X0.here hx rfl (pc0 := 12) (pc' := 32) rfl (hb hby d27_12) rfl (flt hc12_264).2.1 (by decide) (by decide) ?_
    show Steps p.tables e below (s₁.setTop (mkF m 32 #[.val (.ref va), .val (.ref vb), .val (.int (((((0 : Int32) + (1 : Int32)) + (1 : Int32)) + (1 : Int32)) + (1 : Int32)))] [])) _
    refine XS.iconst X0.here hx rfl (hb hby d27_32) ?_
    show Steps p.tables e below (s₁.setTop (mkF m 33 #[.val (.ref va), .val (.ref vb), .val (.int (((((0 : Int32) + (1 : Int32)) + (1 : Int32)) + (1 : Int32)) + (1 : Int32)))] [(.int (1 : Int32))])) _
    exact kt
  obtain ⟨fs, hr, hrun, hended, hW, hsame⟩ := X0.leave (v := some (.int (1 : Int32))) (fun h => by rw [Bd.returns] at h; cases h) (hlocks := by first | exact BodyLoose.notSynchronized Bd | exact Body.notSynchronized Bd)
  refine ⟨_, _, k265 _ (retN X0 hx (t := .boolean) Bd.returns (by simp) (hb hby d27_33) hr), hrun, hended, _, _, rfl, ?_, ⟨_, rfl⟩, hW, hsame.mono (by decide) (by decide)⟩
  show Qe1N Z va vb f g h0 n0 _ s₁.heap _
  rw [e0]
  exact ⟨rfl, N0, rfl⟩
theorem d26_50 : decode jdk_42_method_66_code 50 = .ok (.iconst 1, 1) := by decide +kernel
theorem d26_51 : decode jdk_42_method_66_code 51 = .ok (.goto 4, 3) := by decide +kernel
theorem ef_eqN (m : MethodId) (x0 : Addr) (x1 : Addr) : entryFrame m #[(.ref x0), (.ref x1)] 3 = mkF m 0 #[.val (.ref x0), .val (.ref x1), .unset] [] := by first | (simp [entryFrame, mkF, argsToLocals, Value.category]; done) | rfl
def QeqN (Z : State) (s0 : Addr) (s1 : Addr) (zc : Int32) (va : Addr) (vb : Addr) (f : Nat → Int32) (g : Nat → Int32) (h0 : Heap) (n0 : Nat) (rv_ : Option Value) (h : Heap) (LL_ : List Loc) : Prop := rv_ = some (.int (1 : Int32)) ∧ Fr n0 LL_ ∧ h = h0
set_option maxRecDepth 65536 in
set_option maxHeartbeats 40000000 in
theorem rmeqN (l : Launch) (Z : State) (a0 : Array Value) (hw : ∀ d ∈ tables_1, d.before a0 Z = true) (ws : List Jvm.Cond) (s0 : Addr) (s1 : Addr) (zc : Int32) (va : Addr) (vb : Addr) (f : Nat → Int32) (g : Nat → Int32) (h0 : Heap) (n0 : Nat) (E_s0 : Exa Z h0 s0 "java/lang/String") (E_s1 : Exa Z h0 s1 "java/lang/String") (F_s0_value : Fld Z h0 s0 "java/lang/String" "value" "[B" (.ref va)) (F_s0_coder : Fld Z h0 s0 "java/lang/String" "coder" "B" (.int (0 : Int32))) (F_s1_value : Fld Z h0 s1 "java/lang/String" "value" "[B" (.ref vb)) (F_s1_coder : Fld Z h0 s1 "java/lang/String" "coder" "B" (.int (0 : Int32))) (V_va : own_AI Z h0 va .byte 4 f) (V_vb : own_AI Z h0 vb .byte 4 g) (S_COMPACT_STRINGS : Sta Z h0 "java/lang/String" "COMPACT_STRINGS" "Z" (.int zc)) (ne_s0_s1 : s0 ≠ s1) (hz : ¬ zc = (0 : Int32)) (hf0 : f 0 = (110 : Int32)) (hf1 : f 1 = (117 : Int32)) (hf2 : f 2 = (108 : Int32)) (hf3 : f 3 = (108 : Int32)) (hg0 : g 0 = (110 : Int32)) (hg1 : g 1 = (117 : Int32)) (hg2 : g 2 = (108 : Int32)) (hg3 : g 3 = (108 : Int32)) :
    MetFree l (⟨"java/lang/String", "equals", "(Ljava/lang/Object;)Z"⟩ : MethodName) (head1 (Jvm.Cond.code (⟨"java/lang/String", "equals", "(Ljava/lang/Object;)Z"⟩ : MethodName) jdk_42_method_66_code 3 (some .boolean) :: ws) ({ frames := 1, cells := 0, slots := 0, locals := 14 } : Room)) (fun aa UU => aa = #[(.ref s0), (.ref s1)] ∧ Z.Warmed39 UU.vm ∧ UU.heap = h0) (fun _ _ _ _ _ => True) (fun _ UU oo UV => ∃ vv LL, oo = .returned vv ∧ QeqN Z s0 s1 zc va vb f g h0 n0 vv UV.heap LL ∧ FrameEnd UU oo UV LL ({ frames := 1, cells := 0, slots := 0, locals := 14 } : Room).cells ({ frames := 1, cells := 0, slots := 0, locals := 14 } : Room).slots) := by
  refine MetFree.of_bodySF (plainFor_of_name pn_26) hisR ?_
  intro p e s m args below meth c s₁ Bd hml0 hP hK
  obtain ⟨rfl, hZ, hh⟩ := hP
  have hx := Bd.exec
  have hby := Bd.bytes
  have hml : c.maxLocals = 3 := hml0
  have hown : s.vm.findClass "java/lang/String" = some m.cls := findClass_of_methodNamed Bd.named
  have hnm := (name_of_methodNamed Bd.named Bd.method).1
  have X0 : Stand p l e ({ frames := 1, cells := 0, slots := 0, locals := 14 } : Room) s m #[(.ref s0), (.ref s1)] below meth c s₁ [] 0 0 := Stand.of_body Bd
  have e0 : s₁.heap = h0 := by rw [← hh, Bd.state]; rfl
  have N0 := Fr.nil n0
  have k0 : ∀ tg_, Steps p.tables e below (s₁.setTop (mkF m 0 #[.val (.ref s0), .val (.ref s1), .unset] [])) tg_ → Steps p.tables e below (s₁.setTop (entryFrame m #[(.ref s0), (.ref s1)] 3)) tg_ := fun tg_ k => castTop (ef_eqN m s0 s1) k
  obtain ⟨T266, X266, e266, st266⟩ := instY X0 hx hZ hown (hw _ (List.mem_of_getElem? (i := 138) rfl)) e0 (Ins.self E_s1) (g := (mkF m 8 #[.val (.ref s0), .val (.ref s1), .unset] [(.ref s1)])) rfl rfl (hb hby d26_8)
  obtain ⟨T267, X267, e267, st267⟩ := castY X266 hx hZ hown (hw _ (List.mem_of_getElem? (i := 138) rfl)) e266 (Ins.self E_s1) (g := (mkF m 15 #[.val (.ref s0), .val (.ref s1), .unset] [(.ref s1)])) rfl rfl (hb hby d26_15)
  obtain ⟨T268, X268, e268, st268⟩ := getS2 X267 hx hZ hown (host := "") (Or.inl (hw _ (List.mem_of_getElem? (i := 22) rfl))) Via.refl e267 S_COMPACT_STRINGS (g := (mkF m 19 #[.val (.ref s0), .val (.ref s1), .val (.ref s1)] [])) rfl (hb hby d26_19)
  have hc22_269 : ¬ (zc = (0 : Int32)) := hz
  obtain ⟨T270, X270, e270, st270⟩ := getF X268 hx hZ hown (host := "") (Or.inl (hw _ (List.mem_of_getElem? (i := 23) rfl))) Via.refl e268 F_s0_coder (g := (mkF m 26 #[.val (.ref s0), .val (.ref s1), .val (.ref s1)] [(.ref s0)])) rfl rfl (hb hby d26_26)
  obtain ⟨T271, X271, e271, st271⟩ := getF X270 hx hZ hown (host := "") (Or.inl (hw _ (List.mem_of_getElem? (i := 23) rfl))) Via.refl e270 F_s1_coder (g := (mkF m 30 #[.val (.ref s0), .val (.ref s1), .val (.ref s1)] [(.ref s1), (.int (0 : Int32))])) rfl rfl (hb hby d26_30)
  obtain ⟨T272, X272, e272, st272⟩ := getF X271 hx hZ hown (host := "") (Or.inl (hw _ (List.mem_of_getElem? (i := 24) rfl))) Via.refl e271 F_s0_value (g := (mkF m 37 #[.val (.ref s0), .val (.ref s1), .val (.ref s1)] [(.ref s0)])) rfl rfl (hb hby d26_37)
  obtain ⟨T273, X273, e273, st273⟩ := getF X272 hx hZ hown (host := "") (Or.inl (hw _ (List.mem_of_getElem? (i := 24) rfl))) Via.refl e272 F_s1_value (g := (mkF m 41 #[.val (.ref s0), .val (.ref s1), .val (.ref s1)] [(.ref s1), (.ref va)])) rfl rfl (hb hby d26_41)
  obtain ⟨_, _, ⟨T274, L274, kc274, nc274⟩, -, X274, ⟨Lc274, hQ274, l274, y274, z274⟩, st274⟩ := Jvm.LawKit.callS X273 hx (y := (⟨"java/lang/StringLatin1", "equals", "([B[B)Z"⟩ : MethodName)) hown (mvT hZ (hw _ (List.mem_of_getElem? (i := 139) rfl))) (mvT hZ (hw _ (List.mem_of_getElem? (i := 140) rfl))) (mvT hZ (hw _ (List.mem_of_getElem? (i := 27) rfl))) (mvT hZ (hw _ (List.mem_of_getElem? (i := 141) rfl))) (by decide) (backOf (W := 0) (rme1N l Z a0 hw [] va vb f g h0 n0 V_va V_vb hf0 hf1 hf2 hf3 hg0 hg1 hg2 hg3) hZ (hw _ (List.mem_of_getElem? (i := 141) rfl)) (hw _ (List.mem_of_getElem? (i := 27) rfl)) (by decide) (by decide)) (g := (mkF m 44 #[.val (.ref s0), .val (.ref s1), .val (.ref s1)] [(.ref vb), (.ref va)])) rfl (by rw [hml]; rfl) (argsL := [(.ref va), (.ref vb)]) (rest := []) (lenOf pd_19 rfl) rfl (by show 2 * 0 + _ ≤ _; exact Nat.le_of_eq rfl) (hb hby d26_44) (fun _ _ => ⟨rfl, e273, (by decide : 0 + 0 ≤ _), (by decide : 0 + 0 ≤ _)⟩)
  dsimp only [Pt.U, Pt.locs, Pt.cells, Pt.slots] at X274 l274 y274 z274 st274 hQ274
  rw [l274, y274, z274] at X274
  replace X274 : Stand p l e ({ frames := 1, cells := 0, slots := 0, locals := 14 } : Room) s m #[(.ref s0), (.ref s1)] below meth c T274 _ 0 0 := X274
  obtain ⟨rfl, Nq274, eq274⟩ := hQ274
  have N274 := Fr.app N0 Nq274
  have k275 : ∀ tg_, Steps p.tables e below (T274.setTop (mkF m 55 #[.val (.ref s0), .val (.ref s1), .val (.ref s1)] [(.int (1 : Int32))])) tg_ → Steps p.tables e below (s₁.setTop (entryFrame m #[(.ref s0), (.ref s1)] 3)) tg_ := by
    intro tg_ kt
    refine k0 tg_ ?_
    refine XS.aloadN X0.here hx rfl (hb hby d26_0) rfl rfl ?_
    show Steps p.tables e below (s₁.setTop (mkF m 1 #[.val (.ref s0), .val (.ref s1), .unset] [(.ref s0)])) _
    refine XS.aloadN X0.here hx rfl (hb hby d26_1) rfl rfl ?_
    show Steps p.tables e below (s₁.setTop (mkF m 2 #[.val (.ref s0), .val (.ref s1), .unset] [(.ref s1), (.ref s0)])) _
    refine Jvm.RoadKit.acmp (g := (mkF m 2 #[.val (.ref s0), .val (.ref s1), .unset] [(.ref s1), (.ref s0)])) X0 hx rfl rfl rfl (pc0 := 2) (pc' := 7) (same := false) rfl (hb hby d26_2) rfl (decide_eq_false fun q => ne_s0_s1 (Value.ref.inj q)) (by decide) (by decide) ?_
    show Steps p.tables e below (s₁.setTop (mkF m 7 #[.val (.ref s0), .val (.ref s1), .unset] [])) _
    refine XS.aloadN X0.here hx rfl (hb hby d26_7) rfl rfl ?_
    show Steps p.tables e below (s₁.setTop (mkF m 8 #[.val (.ref s0), .val (.ref s1), .unset] [(.ref s1)])) _
    refine st266 _ ?_
    show Steps p.tables e below (T266.setTop (mkF m 11 #[.val (.ref s0), .val (.ref s1), .unset] [(.int (1 : Int32))])) _
    refine XS.ifNo X266.here hx rfl (hb hby d26_11) rfl ((if0 _ _).trans (feq (by decide : ¬ ((1 : Int32) = (0 : Int32)))).1) ?_
    show Steps p.tables e below (T266.setTop (mkF m 14 #[.val (.ref s0), .val (.ref s1), .unset] [])) _
    refine XS.aloadN X266.here hx rfl (hb hby d26_14) rfl rfl ?_
    show Steps p.tables e below (T266.setTop (mkF m 15 #[.val (.ref s0), .val (.ref s1), .unset] [(.ref s1)])) _
    refine st267 _ ?_
    show Steps p.tables e below (T267.setTop (mkF m 18 #[.val (.ref s0), .val (.ref s1), .unset] [(.ref s1)])) _
    refine XS.astoreN X267.here hx rfl (hb hby d26_18) rfl rfl (l' := #[.val (.ref s0), .val (.ref s1), .val (.ref s1)]) rfl ?_
    show Steps p.tables e below (T267.setTop (mkF m 19 #[.val (.ref s0), .val (.ref s1), .val (.ref s1)] [])) _
    refine st268 _ ?_
    show Steps p.tables e below (T268.setTop (mkF m 22 #[.val (.ref s0), .val (.ref s1), .val (.ref s1)] [(.int zc)])) _
    refine XS.ifNo X268.here hx rfl (hb hby d26_22) rfl ((if0 _ _).trans (feq hc22_269).1) ?_
    show Steps p.tables e below (T268.setTop (mkF m 25 #[.val (.ref s0), .val (.ref s1), .val (.ref s1)] [])) _
    refine XS.aloadN X268.here hx rfl (hb hby d26_25) rfl rfl ?_
    show Steps p.tables e below (T268.setTop (mkF m 26 #[.val (.ref s0), .val (.ref s1), .val (.ref s1)] [(.ref s0)])) _
    refine st270 _ ?_
    show Steps p.tables e below (T270.setTop (mkF m 29 #[.val (.ref s0), .val (.ref s1), .val (.ref s1)] [(.int (0 : Int32))])) _
    refine XS.aloadN X270.here hx rfl (hb hby d26_29) rfl rfl ?_
    show Steps p.tables e below (T270.setTop (mkF m 30 #[.val (.ref s0), .val (.ref s1), .val (.ref s1)] [(.ref s1), (.int (0 : Int32))])) _
    refine st271 _ ?_
    show Steps p.tables e below (T271.setTop (mkF m 33 #[.val (.ref s0), .val (.ref s1), .val (.ref s1)] [(.int (0 : Int32)), (.int (0 : Int32))])) _
    refine XS.icmpNo X271.here hx rfl (hb hby d26_33) rfl (teq (by decide : (0 : Int32) = (0 : Int32))).2 ?_
    show Steps p.tables e below (T271.setTop (mkF m 36 #[.val (.ref s0), .val (.ref s1), .val (.ref s1)] [])) _
    refine XS.aloadN X271.here hx rfl (hb hby d26_36) rfl rfl ?_
    show Steps p.tables e below (T271.setTop (mkF m 37 #[.val (.ref s0), .val (.ref s1), .val (.ref s1)] [(.ref s0)])) _
    refine st272 _ ?_
    show Steps p.tables e below (T272.setTop (mkF m 40 #[.val (.ref s0), .val (.ref s1), .val (.ref s1)] [(.ref va)])) _
    refine XS.aloadN X272.here hx rfl (hb hby d26_40) rfl rfl ?_
    show Steps p.tables e below (T272.setTop (mkF m 41 #[.val (.ref s0), .val (.ref s1), .val (.ref s1)] [(.ref s1), (.ref va)])) _
    refine st273 _ ?_
    show Steps p.tables e below (T273.setTop (mkF m 44 #[.val (.ref s0), .val (.ref s1), .val (.ref s1)] [(.ref vb), (.ref va)])) _
    refine st274 _ ?_
    show Steps p.tables e below (T274.setTop (mkF m 47 #[.val (.ref s0), .val (.ref s1), .val (.ref s1)] [(.int (1 : Int32))])) _
    refine XS.ifNo X274.here hx rfl (hb hby d26_47) rfl ((if0 _ _).trans (feq (by decide : ¬ ((1 : Int32) = (0 : Int32)))).1) ?_
    show Steps p.tables e below (T274.setTop (mkF m 50 #[.val (.ref s0), .val (.ref s1), .val (.ref s1)] [])) _
    refine XS.iconst X274.here hx rfl (hb hby d26_50) ?_
    show Steps p.tables e below (T274.setTop (mkF m 51 #[.val (.ref s0), .val (.ref s1), .val (.ref s1)] [(.int (1 : Int32))])) _
    refine XS.goto X274.here hx rfl (pc0 := 51) (pc' := 55) rfl (hb hby d26_51) (by decide) (by decide) ?_
    show Steps p.tables e below (T274.setTop (mkF m 55 #[.val (.ref s0), .val (.ref s1), .val (.ref s1)] [(.int (1 : Int32))])) _
    exact kt
  obtain ⟨fs, hr, hrun, hended, hW, hsame⟩ := X274.leave (v := some (.int (1 : Int32))) (fun h => by rw [Bd.returns] at h; cases h) (hlocks := by first | exact BodyLoose.notSynchronized Bd | exact Body.notSynchronized Bd)
  refine ⟨_, _, k275 _ (retN X274 hx (t := .boolean) Bd.returns (by simp) (hb hby d26_55) hr), hrun, hended, _, _, rfl, ?_, ⟨_, rfl⟩, hW, hsame.mono (by decide) (by decide)⟩
  show QeqN Z s0 s1 zc va vb f g h0 n0 _ T274.heap _
  rw [eq274]
  exact ⟨rfl, N274, rfl⟩
theorem pd_10 : parseMethodDescriptor "([BIILjava/nio/charset/Charset;)V" = some ⟨[(.array .byte), .int, .int, (.object "java/nio/charset/Charset")], none⟩ := by decide +kernel
theorem pd_18 : parseMethodDescriptor "(Ljava/lang/Object;)Z" = some ⟨[(.object "java/lang/Object")], some .boolean⟩ := by decide +kernel
theorem d15_0 : decode prog_23_method_16_code 0 = .ok (.aload_n 0, 1) := by decide +kernel
theorem d15_1 : decode prog_23_method_16_code 1 = .ok (.getfield 17, 3) := by decide +kernel
theorem d15_4 : decode prog_23_method_16_code 4 = .ok (.istore_n 1, 1) := by decide +kernel
theorem d15_5 : decode prog_23_method_16_code 5 = .ok (.aload_n 0, 1) := by decide +kernel
theorem d15_6 : decode prog_23_method_16_code 6 = .ok (.getfield 17, 3) := by decide +kernel
theorem d15_9 : decode prog_23_method_16_code 9 = .ok (.aload_n 0, 1) := by decide +kernel
theorem d15_10 : decode prog_23_method_16_code 10 = .ok (.getfield 13, 3) := by decide +kernel
theorem d15_13 : decode prog_23_method_16_code 13 = .ok (.if_icmp .ge 31, 3) := by decide +kernel
theorem d15_16 : decode prog_23_method_16_code 16 = .ok (.aload_n 0, 1) := by decide +kernel
theorem d15_17 : decode prog_23_method_16_code 17 = .ok (.getfield 7, 3) := by decide +kernel
theorem d15_20 : decode prog_23_method_16_code 20 = .ok (.aload_n 0, 1) := by decide +kernel
theorem d15_21 : decode prog_23_method_16_code 21 = .ok (.getfield 17, 3) := by decide +kernel
theorem d15_24 : decode prog_23_method_16_code 24 = .ok (.baload, 1) := by decide +kernel
theorem d15_25 : decode prog_23_method_16_code 25 = .ok (.invokestatic 199, 3) := by decide +kernel
theorem d15_28 : decode prog_23_method_16_code 28 = .ok (.ifCond .eq 16, 3) := by decide +kernel
theorem d15_31 : decode prog_23_method_16_code 31 = .ok (.aload_n 0, 1) := by decide +kernel
theorem d15_32 : decode prog_23_method_16_code 32 = .ok (.dup, 1) := by decide +kernel
theorem d15_33 : decode prog_23_method_16_code 33 = .ok (.getfield 17, 3) := by decide +kernel
theorem d15_36 : decode prog_23_method_16_code 36 = .ok (.iconst 1, 1) := by decide +kernel
theorem d15_37 : decode prog_23_method_16_code 37 = .ok (.iadd, 1) := by decide +kernel
theorem d15_38 : decode prog_23_method_16_code 38 = .ok (.putfield 17, 3) := by decide +kernel
theorem d15_41 : decode prog_23_method_16_code 41 = .ok (.goto (-36), 3) := by decide +kernel
theorem d15_44 : decode prog_23_method_16_code 44 = .ok (.new 72, 3) := by decide +kernel
theorem d15_47 : decode prog_23_method_16_code 47 = .ok (.dup, 1) := by decide +kernel
theorem d15_48 : decode prog_23_method_16_code 48 = .ok (.aload_n 0, 1) := by decide +kernel
theorem d15_49 : decode prog_23_method_16_code 49 = .ok (.getfield 7, 3) := by decide +kernel
theorem d15_52 : decode prog_23_method_16_code 52 = .ok (.iload_n 1, 1) := by decide +kernel
theorem d15_53 : decode prog_23_method_16_code 53 = .ok (.aload_n 0, 1) := by decide +kernel
theorem d15_54 : decode prog_23_method_16_code 54 = .ok (.getfield 17, 3) := by decide +kernel
theorem d15_57 : decode prog_23_method_16_code 57 = .ok (.iload_n 1, 1) := by decide +kernel
theorem d15_58 : decode prog_23_method_16_code 58 = .ok (.isub, 1) := by decide +kernel
theorem d15_59 : decode prog_23_method_16_code 59 = .ok (.getstatic 181, 3) := by decide +kernel
theorem d15_62 : decode prog_23_method_16_code 62 = .ok (.invokespecial 187, 3) := by decide +kernel
theorem d15_65 : decode prog_23_method_16_code 65 = .ok (.astore_n 2, 1) := by decide +kernel
theorem d15_66 : decode prog_23_method_16_code 66 = .ok (.aload_n 2, 1) := by decide +kernel
theorem d15_67 : decode prog_23_method_16_code 67 = .ok (.ldc 202, 2) := by decide +kernel
theorem d15_69 : decode prog_23_method_16_code 69 = .ok (.invokevirtual 204, 3) := by decide +kernel
theorem d15_72 : decode prog_23_method_16_code 72 = .ok (.ifCond .eq 10, 3) := by decide +kernel
theorem d15_82 : decode prog_23_method_16_code 82 = .ok (.aload_n 2, 1) := by decide +kernel
theorem d15_83 : decode prog_23_method_16_code 83 = .ok (.ldc 213, 2) := by decide +kernel
theorem d15_85 : decode prog_23_method_16_code 85 = .ok (.invokevirtual 204, 3) := by decide +kernel
theorem d15_88 : decode prog_23_method_16_code 88 = .ok (.ifCond .eq 10, 3) := by decide +kernel
theorem d15_98 : decode prog_23_method_16_code 98 = .ok (.aload_n 2, 1) := by decide +kernel
theorem d15_99 : decode prog_23_method_16_code 99 = .ok (.ldc 218, 2) := by decide +kernel
theorem d15_101 : decode prog_23_method_16_code 101 = .ok (.invokevirtual 204, 3) := by decide +kernel
theorem d15_104 : decode prog_23_method_16_code 104 = .ok (.ifCond .eq 10, 3) := by decide +kernel
theorem d15_107 : decode prog_23_method_16_code 107 = .ok (.getstatic 220, 3) := by decide +kernel
theorem d15_110 : decode prog_23_method_16_code 110 = .ok (.astore_n 3, 1) := by decide +kernel
theorem d15_111 : decode prog_23_method_16_code 111 = .ok (.goto 80, 3) := by decide +kernel
theorem d15_191 : decode prog_23_method_16_code 191 = .ok (.aload_n 3, 1) := by decide +kernel
theorem d15_192 : decode prog_23_method_16_code 192 = .ok (.areturn, 1) := by decide +kernel
theorem pn_15 : plainName "com/example/benzer/benzer/cli/JsonReader" = true := by first | (simp [plainName, overriddenIn]; done) | decide +kernel
theorem ef_15 (m : MethodId) (x0 : Addr) : entryFrame m #[(.ref x0)] 5 = mkF m 0 #[.val (.ref x0), .unset, .unset, .unset, .unset] [] := by first | (simp [entryFrame, mkF, argsToLocals, Value.category]; done) | rfl
def Q15 (Z : State) (a : Addr) (bt : Addr) (en : Int32) (ps : Int32) (ne0 : Int32) (k : Nat) (f : Nat → Int32) (zc : Int32) (fm : Value) (u8 : Addr) (cs : Addr) (xn : Addr) (h0 : Heap) (n0 : Nat) (rv_ : Option Value) (h : Heap) (LL_ : List Loc) : Prop := rv_ = some (.ref xn) ∧ Fr n0 LL_ ∧ Keep h0 h [a] ∧ Fld Z h a "com/example/benzer/benzer/cli/JsonReader" "bytes" "[B" (.ref bt) ∧ Fld Z h a "com/example/benzer/benzer/cli/JsonReader" "end" "I" (.int en) ∧ Fld Z h a "com/example/benzer/benzer/cli/JsonReader" "at" "I" (.int ((((ps + (1 : Int32)) + (1 : Int32)) + (1 : Int32)) + (1 : Int32))) ∧ Fld Z h a "com/example/benzer/benzer/cli/JsonReader" "nested" "I" (.int ne0)
set_option maxRecDepth 65536 in
set_option maxHeartbeats 40000000 in
theorem rm15 (l : Launch) (Z : State) (a0 : Array Value) (hw : ∀ d ∈ tables_1, d.before a0 Z = true) (ws : List Jvm.Cond) (a : Addr) (bt : Addr) (en : Int32) (ps : Int32) (ne0 : Int32) (k : Nat) (f : Nat → Int32) (zc : Int32) (fm : Value) (u8 : Addr) (cs : Addr) (xn : Addr) (h0 : Heap) (n0 : Nat) (Z0 : n0 ≤ h0.size) (E_a : Exa Z h0 a "com/example/benzer/benzer/cli/JsonReader") (F_a_bytes : Fld Z h0 a "com/example/benzer/benzer/cli/JsonReader" "bytes" "[B" (.ref bt)) (F_a_end : Fld Z h0 a "com/example/benzer/benzer/cli/JsonReader" "end" "I" (.int en)) (F_a_at : Fld Z h0 a "com/example/benzer/benzer/cli/JsonReader" "at" "I" (.int ps)) (F_a_nested : Fld Z h0 a "com/example/benzer/benzer/cli/JsonReader" "nested" "I" (.int ne0)) (V_bt : own_AI Z h0 bt .byte 8 f) (g_a : n0 ≤ a) (ne_a_bt : a ≠ bt) (ne_cs_u8 : cs ≠ u8) (S_zc : Sta Z Z.heap "java/lang/String" "COMPACT_STRINGS" "Z" (.int zc)) (S_fm : Sta Z Z.heap "jdk/internal/util/Preconditions" "SIOOBE_FORMATTER" "Ljava/util/function/BiFunction;" fm) (S_u8 : Sta Z Z.heap "sun/nio/cs/UTF_8" "INSTANCE" "Lsun/nio/cs/UTF_8;" (.ref u8)) (S_is : Sta Z Z.heap "sun/nio/cs/ISO_8859_1" "INSTANCE" "Lsun/nio/cs/ISO_8859_1;" (.ref cs)) (S_so : Sta Z Z.heap "java/nio/charset/StandardCharsets" "ISO_8859_1" "Ljava/nio/charset/Charset;" (.ref cs)) (S_xn : Sta Z Z.heap "com/example/benzer/benzer/cli/JsonReader" "NULL" "Ljava/lang/Object;" (.ref xn)) (E_cs : Exa Z Z.heap cs "sun/nio/cs/ISO_8859_1") (X00 : Old Z n0 h0) (hz : ¬ zc = (0 : Int32)) (hfm : fm.isRef = true) (hk : ps.toInt = (k : Int)) (hk3 : k ≤ 3) (hen : en.toInt = ((k + 4 : Nat) : Int)) (hfit : ∀ j, j < 8 → fits .byte (.int (f j)) = true) (hn0 : f (k) = (110 : Int32)) (hn1 : f (k + 1) = (117 : Int32)) (hn2 : f (k + 1 + 1) = (108 : Int32)) (hn3 : f (k + 1 + 1 + 1) = (108 : Int32)) :
    MetFree l (⟨"com/example/benzer/benzer/cli/JsonReader", "literal", "()Ljava/lang/Object;"⟩ : MethodName) (head1 (Jvm.Cond.code (⟨"com/example/benzer/benzer/cli/JsonReader", "literal", "()Ljava/lang/Object;"⟩ : MethodName) prog_23_method_16_code 5 (some (.object "java/lang/Object")) :: ws) ({ frames := 5, cells := 8, slots := 72, locals := 110 } : Room)) (fun aa UU => aa = #[(.ref a)] ∧ Z.Warmed39 UU.vm ∧ UU.heap = h0 ∧ CHv Z consts_1 UU.vm h0) (fun _ _ _ _ _ => True) (fun _ UU oo UV => ∃ vv LL, oo = .returned vv ∧ Q15 Z a bt en ps ne0 k f zc fm u8 cs xn h0 n0 vv UV.heap LL ∧ CHr Z consts_1 UU.vm UU.heap UV.vm UV.heap ∧ ReturnedEndW UU oo UV LL ({ frames := 5, cells := 8, slots := 72, locals := 110 } : Room).cells ({ frames := 5, cells := 8, slots := 72, locals := 110 } : Room).slots) := by
  refine MetFree.of_bodySF (plainFor_of_name pn_15) hisR ?_
  intro p e s m args below meth c s₁ Bd hml0 hP hK
  obtain ⟨rfl, hZ, hh, hH0⟩ := hP
  have hx := Bd.exec
  have hby := Bd.bytes
  have hml : c.maxLocals = 5 := hml0
  have hown : s.vm.findClass "com/example/benzer/benzer/cli/JsonReader" = some m.cls := findClass_of_methodNamed Bd.named
  have hnm := (name_of_methodNamed Bd.named Bd.method).1
  have X0 : Stand p l e ({ frames := 5, cells := 8, slots := 72, locals := 110 } : Room) s m #[(.ref a)] below meth c s₁ [] 0 0 := Stand.of_body Bd
  have e0 : s₁.heap = h0 := by rw [← hh, Bd.state]; rfl
  have N0 := Fr.nil n0
  have k0 : ∀ tg_, Steps p.tables e below (s₁.setTop (mkF m 0 #[.val (.ref a), .unset, .unset, .unset, .unset] [])) tg_ → Steps p.tables e below (s₁.setTop (entryFrame m #[(.ref a)] 5)) tg_ := fun tg_ k => castTop (ef_15 m a) k
  have hS0 : s.Since s.vm s.heap.size := (State.WarmedH.refl s).since _
  have hY0 : s.heap.size ≤ h0.size := Nat.le_of_eq (by rw [← hh])
  have hEL : EW Z a0 consts_1 := own_EW hw
  have R0 := CHr.refl hH0
  obtain ⟨T276, X276, e276, st276⟩ := getF X0 hx hZ hown (host := "") (Or.inl (hw _ (List.mem_of_getElem? (i := 59) rfl))) Via.refl e0 F_a_at (g := (mkF m 1 #[.val (.ref a), .unset, .unset, .unset, .unset] [(.ref a)])) rfl rfl (hb hby d15_1)
  obtain ⟨T277, X277, e277, st277⟩ := getF X276 hx hZ hown (host := "") (Or.inl (hw _ (List.mem_of_getElem? (i := 59) rfl))) Via.refl e276 F_a_at (g := (mkF m 6 #[.val (.ref a), .val (.int ps), .unset, .unset, .unset] [(.ref a)])) rfl rfl (hb hby d15_6)
  obtain ⟨T278, X278, e278, st278⟩ := getF X277 hx hZ hown (host := "") (Or.inl (hw _ (List.mem_of_getElem? (i := 57) rfl))) Via.refl e277 F_a_end (g := (mkF m 10 #[.val (.ref a), .val (.int ps), .unset, .unset, .unset] [(.ref a), (.int ps)])) rfl rfl (hb hby d15_10)
  have hc13_279 : ps < en := (Int32.lt_iff_toInt_lt.mpr (by rw [hk, hen]; omega))
  obtain ⟨T280, X280, e280, st280⟩ := getF X278 hx hZ hown (host := "") (Or.inl (hw _ (List.mem_of_getElem? (i := 55) rfl))) Via.refl e278 F_a_bytes (g := (mkF m 17 #[.val (.ref a), .val (.int ps), .unset, .unset, .unset] [(.ref a)])) rfl rfl (hb hby d15_17)
  obtain ⟨T281, X281, e281, st281⟩ := getF X280 hx hZ hown (host := "") (Or.inl (hw _ (List.mem_of_getElem? (i := 59) rfl))) Via.refl e280 F_a_at (g := (mkF m 21 #[.val (.ref a), .val (.int ps), .unset, .unset, .unset] [(.ref a), (.ref bt)])) rfl rfl (hb hby d15_21)
  obtain ⟨_, _, ⟨T282, L282, kc282, nc282⟩, -, X282, ⟨Lc282, hQ282, l282, y282, z282⟩, st282⟩ := Jvm.LawKit.callS X281 hx (y := (⟨"com/example/benzer/benzer/cli/JsonReader", "isWordChar", "(B)Z"⟩ : MethodName)) hown (mvT hZ (hw _ (List.mem_of_getElem? (i := 84) rfl))) (mvT hZ (hw _ (List.mem_of_getElem? (i := 85) rfl))) (mvT hZ (hw _ (List.mem_of_getElem? (i := 43) rfl))) (mvT hZ (hw _ (List.mem_of_getElem? (i := 86) rfl))) (by decide) (backOf (W := 0) (rm16 l Z a0 hw [] (110 : Int32) h0 n0 ) hZ (hw _ (List.mem_of_getElem? (i := 86) rfl)) (hw _ (List.mem_of_getElem? (i := 43) rfl)) (by decide) (by decide)) (g := (mkF m 25 #[.val (.ref a), .val (.int ps), .unset, .unset, .unset] [(.int (110 : Int32))])) rfl (by rw [hml]; rfl) (argsL := [(.int (110 : Int32))]) (rest := []) (lenOf pd_6 rfl) rfl (by show 2 * 0 + _ ≤ _; exact Nat.le_of_eq rfl) (hb hby d15_25) (fun _ _ => ⟨rfl, e281, (by decide : 0 + 0 ≤ _), (by decide : 0 + 0 ≤ _)⟩)
  dsimp only [Pt.U, Pt.locs, Pt.cells, Pt.slots] at X282 l282 y282 z282 st282 hQ282
  rw [l282, y282, z282] at X282
  replace X282 : Stand p l e ({ frames := 5, cells := 8, slots := 72, locals := 110 } : Room) s m #[(.ref a)] below meth c T282 _ 0 0 := X282
  obtain ⟨rfl, Nq282, eq282⟩ := hQ282
  have N282 := Fr.app N0 Nq282
  have hc28_283 : ¬ ((own_wc (110 : Int32)) = (0 : Int32)) := (by decide)
  obtain ⟨T284, X284, e284, st284⟩ := getF X282 hx hZ hown (host := "") (Or.inl (hw _ (List.mem_of_getElem? (i := 59) rfl))) Via.refl eq282 F_a_at (g := (mkF m 33 #[.val (.ref a), .val (.int ps), .unset, .unset, .unset] [(.ref a), (.ref a)])) rfl rfl (hb hby d15_33)
  obtain ⟨T285, h285, X285, e285, W285, st285⟩ := putF X284 hx hZ hown (host := "") (Or.inl (hw _ (List.mem_of_getElem? (i := 59) rfl))) Via.refl e284 F_a_at E_a (Or.inl (hw _ (List.mem_of_getElem? (i := 60) rfl))) (hw _ (List.mem_of_getElem? (i := 42) rfl)) (ty := .int) (by decide) rfl rfl (g := (mkF m 38 #[.val (.ref a), .val (.int ps), .unset, .unset, .unset] [(.int (ps + (1 : Int32))), (.ref a)])) rfl rfl (hb hby d15_38)
  have N285 := Fr.snoc X285 N282 g_a
  have C286 := CHr.keep (Keep.of_wr W285) (sfS (Safe.exa hZ.alike E_a (by decide) (by decide)) sf0) R0.1
  have R286 := R0.trans C286
  have F285 := Fld.same W285 F_a_at
  obtain ⟨T287, X287, e287, st287⟩ := getF X285 hx hZ hown (host := "") (Or.inl (hw _ (List.mem_of_getElem? (i := 59) rfl))) Via.refl e285 F285 (g := (mkF m 6 #[.val (.ref a), .val (.int ps), .unset, .unset, .unset] [(.ref a)])) rfl rfl (hb hby d15_6)
  have f288 := (Fld.other W285 F_a_end (Or.inr (slot_ne (Or.inl (hw _ (List.mem_of_getElem? (i := 58) rfl))) (Or.inl (hw _ (List.mem_of_getElem? (i := 60) rfl))) (by decide) (t := .int) (t' := .int) (by decide) (by decide))))
  obtain ⟨T289, X289, e289, st289⟩ := getF X287 hx hZ hown (host := "") (Or.inl (hw _ (List.mem_of_getElem? (i := 57) rfl))) Via.refl e287 f288 (g := (mkF m 10 #[.val (.ref a), .val (.int ps), .unset, .unset, .unset] [(.ref a), (.int (ps + (1 : Int32)))])) rfl rfl (hb hby d15_10)
  have k290 : ∀ tg_, Steps p.tables e below (T289.setTop (mkF m 13 #[.val (.ref a), .val (.int ps), .unset, .unset, .unset] [(.int en), (.int (ps + (1 : Int32)))])) tg_ → Steps p.tables e below (s₁.setTop (entryFrame m #[(.ref a)] 5)) tg_ := by
    intro tg_ kt
    refine k0 tg_ ?_
    refine XS.aloadN X0.here hx rfl (hb hby d15_0) rfl rfl ?_
    show Steps p.tables e below (s₁.setTop (mkF m 1 #[.val (.ref a), .unset, .unset, .unset, .unset] [(.ref a)])) _
    refine st276 _ ?_
    show Steps p.tables e below (T276.setTop (mkF m 4 #[.val (.ref a), .unset, .unset, .unset, .unset] [(.int ps)])) _
    refine XS.istoreN X276.here hx rfl (hb hby d15_4) rfl (l' := #[.val (.ref a), .val (.int ps), .unset, .unset, .unset]) rfl ?_
    show Steps p.tables e below (T276.setTop (mkF m 5 #[.val (.ref a), .val (.int ps), .unset, .unset, .unset] [])) _
    refine XS.aloadN X276.here hx rfl (hb hby d15_5) rfl rfl ?_
    show Steps p.tables e below (T276.setTop (mkF m 6 #[.val (.ref a), .val (.int ps), .unset, .unset, .unset] [(.ref a)])) _
    refine st277 _ ?_
    show Steps p.tables e below (T277.setTop (mkF m 9 #[.val (.ref a), .val (.int ps), .unset, .unset, .unset] [(.int ps)])) _
    refine XS.aloadN X277.here hx rfl (hb hby d15_9) rfl rfl ?_
    show Steps p.tables e below (T277.setTop (mkF m 10 #[.val (.ref a), .val (.int ps), .unset, .unset, .unset] [(.ref a), (.int ps)])) _
    refine st278 _ ?_
    show Steps p.tables e below (T278.setTop (mkF m 13 #[.val (.ref a), .val (.int ps), .unset, .unset, .unset] [(.int en), (.int ps)])) _
    refine XS.icmpNo X278.here hx rfl (hb hby d15_13) rfl (tlt hc13_279).2.1 ?_
    show Steps p.tables e below (T278.setTop (mkF m 16 #[.val (.ref a), .val (.int ps), .unset, .unset, .unset] [])) _
    refine XS.aloadN X278.here hx rfl (hb hby d15_16) rfl rfl ?_
    show Steps p.tables e below (T278.setTop (mkF m 17 #[.val (.ref a), .val (.int ps), .unset, .unset, .unset] [(.ref a)])) _
    refine st280 _ ?_
    show Steps p.tables e below (T280.setTop (mkF m 20 #[.val (.ref a), .val (.int ps), .unset, .unset, .unset] [(.ref bt)])) _
    refine XS.aloadN X280.here hx rfl (hb hby d15_20) rfl rfl ?_
    show Steps p.tables e below (T280.setTop (mkF m 21 #[.val (.ref a), .val (.int ps), .unset, .unset, .unset] [(.ref a), (.ref bt)])) _
    refine st281 _ ?_
    show Steps p.tables e below (T281.setTop (mkF m 24 #[.val (.ref a), .val (.int ps), .unset, .unset, .unset] [(.int ps), (.ref bt)])) _
    refine own_ldB X281 hx hZ e281 V_bt (i := (k)) hk (by omega) hn0 (g := (mkF m 24 #[.val (.ref a), .val (.int ps), .unset, .unset, .unset] [(.int ps), (.ref bt)])) rfl rfl (hb hby d15_24) _ ?_
    show Steps p.tables e below (T281.setTop (mkF m 25 #[.val (.ref a), .val (.int ps), .unset, .unset, .unset] [(.int (110 : Int32))])) _
    refine st282 _ ?_
    show Steps p.tables e below (T282.setTop (mkF m 28 #[.val (.ref a), .val (.int ps), .unset, .unset, .unset] [(.int (own_wc (110 : Int32)))])) _
    refine XS.ifNo X282.here hx rfl (hb hby d15_28) rfl ((if0 _ _).trans (feq hc28_283).1) ?_
    show Steps p.tables e below (T282.setTop (mkF m 31 #[.val (.ref a), .val (.int ps), .unset, .unset, .unset] [])) _
    refine XS.aloadN X282.here hx rfl (hb hby d15_31) rfl rfl ?_
    show Steps p.tables e below (T282.setTop (mkF m 32 #[.val (.ref a), .val (.int ps), .unset, .unset, .unset] [(.ref a)])) _
    refine XS.dup X282.here hx rfl (hb hby d15_32) rfl rfl ?_
    show Steps p.tables e below (T282.setTop (mkF m 33 #[.val (.ref a), .val (.int ps), .unset, .unset, .unset] [(.ref a), (.ref a)])) _
    refine st284 _ ?_
    show Steps p.tables e below (T284.setTop (mkF m 36 #[.val (.ref a), .val (.int ps), .unset, .unset, .unset] [(.int ps), (.ref a)])) _
    refine XS.iconst X284.here hx rfl (hb hby d15_36) ?_
    show Steps p.tables e below (T284.setTop (mkF m 37 #[.val (.ref a), .val (.int ps), .unset, .unset, .unset] [(.int (1 : Int32)), (.int ps), (.ref a)])) _
    refine XS.iadd X284.here hx rfl (hb hby d15_37) rfl ?_
    show Steps p.tables e below (T284.setTop (mkF m 38 #[.val (.ref a), .val (.int ps), .unset, .unset, .unset] [(.int (ps + (1 : Int32))), (.ref a)])) _
    refine st285 _ ?_
    show Steps p.tables e below (T285.setTop (mkF m 41 #[.val (.ref a), .val (.int ps), .unset, .unset, .unset] [])) _
    refine XS.goto X285.here hx rfl (pc0 := 41) (pc' := 5) rfl (hb hby d15_41) (by decide) (by decide) ?_
    show Steps p.tables e below (T285.setTop (mkF m 5 #[.val (.ref a), .val (.int ps), .unset, .unset, .unset] [])) _
    refine XS.aloadN X285.here hx rfl (hb hby d15_5) rfl rfl ?_
    show Steps p.tables e below (T285.setTop (mkF m 6 #[.val (.ref a), .val (.int ps), .unset, .unset, .unset] [(.ref a)])) _
    refine st287 _ ?_
    show Steps p.tables e below (T287.setTop (mkF m 9 #[.val (.ref a), .val (.int ps), .unset, .unset, .unset] [(.int (ps + (1 : Int32)))])) _
    refine XS.aloadN X287.here hx rfl (hb hby d15_9) rfl rfl ?_
    show Steps p.tables e below (T287.setTop (mkF m 10 #[.val (.ref a), .val (.int ps), .unset, .unset, .unset] [(.ref a), (.int (ps + (1 : Int32)))])) _
    refine st289 _ ?_
    show Steps p.tables e below (T289.setTop (mkF m 13 #[.val (.ref a), .val (.int ps), .unset, .unset, .unset] [(.int en), (.int (ps + (1 : Int32)))])) _
    exact kt
  have hc13_291 : (ps + (1 : Int32)) < en := (Int32.lt_iff_toInt_lt.mpr (by rw [(own_inc hk (by omega)), hen]; omega))
  have f292 := (Fld.other W285 F_a_bytes (Or.inr (slot_ne (Or.inl (hw _ (List.mem_of_getElem? (i := 56) rfl))) (Or.inl (hw _ (List.mem_of_getElem? (i := 60) rfl))) (by decide) (t := (.array .byte)) (t' := .int) (by decide) (by decide))))
  obtain ⟨T293, X293, e293, st293⟩ := getF X289 hx hZ hown (host := "") (Or.inl (hw _ (List.mem_of_getElem? (i := 55) rfl))) Via.refl e289 f292 (g := (mkF m 17 #[.val (.ref a), .val (.int ps), .unset, .unset, .unset] [(.ref a)])) rfl rfl (hb hby d15_17)
  obtain ⟨T294, X294, e294, st294⟩ := getF X293 hx hZ hown (host := "") (Or.inl (hw _ (List.mem_of_getElem? (i := 59) rfl))) Via.refl e293 F285 (g := (mkF m 21 #[.val (.ref a), .val (.int ps), .unset, .unset, .unset] [(.ref a), (.ref bt)])) rfl rfl (hb hby d15_21)
  have f295 := (V_bt.keep (Keep.of_wr W285) (ninS (Ne.symm ne_a_bt) nin0))
  obtain ⟨_, _, ⟨T296, L296, kc296, nc296⟩, -, X296, ⟨Lc296, hQ296, l296, y296, z296⟩, st296⟩ := Jvm.LawKit.callS X294 hx (y := (⟨"com/example/benzer/benzer/cli/JsonReader", "isWordChar", "(B)Z"⟩ : MethodName)) hown (mvT hZ (hw _ (List.mem_of_getElem? (i := 84) rfl))) (mvT hZ (hw _ (List.mem_of_getElem? (i := 85) rfl))) (mvT hZ (hw _ (List.mem_of_getElem? (i := 43) rfl))) (mvT hZ (hw _ (List.mem_of_getElem? (i := 86) rfl))) (by decide) (backOf (W := 0) (rm16 l Z a0 hw [] (117 : Int32) h285 n0 ) hZ (hw _ (List.mem_of_getElem? (i := 86) rfl)) (hw _ (List.mem_of_getElem? (i := 43) rfl)) (by decide) (by decide)) (g := (mkF m 25 #[.val (.ref a), .val (.int ps), .unset, .unset, .unset] [(.int (117 : Int32))])) rfl (by rw [hml]; rfl) (argsL := [(.int (117 : Int32))]) (rest := []) (lenOf pd_6 rfl) rfl (by show 2 * 0 + _ ≤ _; exact Nat.le_of_eq rfl) (hb hby d15_25) (fun _ _ => ⟨rfl, e294, (by decide : 0 + 0 ≤ _), (by decide : 0 + 0 ≤ _)⟩)
  dsimp only [Pt.U, Pt.locs, Pt.cells, Pt.slots] at X296 l296 y296 z296 st296 hQ296
  rw [l296, y296, z296] at X296
  replace X296 : Stand p l e ({ frames := 5, cells := 8, slots := 72, locals := 110 } : Room) s m #[(.ref a)] below meth c T296 _ 0 0 := X296
  obtain ⟨rfl, Nq296, eq296⟩ := hQ296
  have N296 := Fr.app N285 Nq296
  have hc28_297 : ¬ ((own_wc (117 : Int32)) = (0 : Int32)) := (by decide)
  obtain ⟨T298, X298, e298, st298⟩ := getF X296 hx hZ hown (host := "") (Or.inl (hw _ (List.mem_of_getElem? (i := 59) rfl))) Via.refl eq296 F285 (g := (mkF m 33 #[.val (.ref a), .val (.int ps), .unset, .unset, .unset] [(.ref a), (.ref a)])) rfl rfl (hb hby d15_33)
  have f299 := (E_a.keep (Keep.of_wr W285))
  obtain ⟨T300, h300, X300, e300, W300, st300⟩ := putF X298 hx hZ hown (host := "") (Or.inl (hw _ (List.mem_of_getElem? (i := 59) rfl))) Via.refl e298 F285 f299 (Or.inl (hw _ (List.mem_of_getElem? (i := 60) rfl))) (hw _ (List.mem_of_getElem? (i := 42) rfl)) (ty := .int) (by decide) rfl rfl (g := (mkF m 38 #[.val (.ref a), .val (.int ps), .unset, .unset, .unset] [(.int ((ps + (1 : Int32)) + (1 : Int32))), (.ref a)])) rfl rfl (hb hby d15_38)
  have N300 := Fr.snoc X300 N296 g_a
  have C301 := CHr.keep (Keep.of_wr W300) (sfS (Safe.exa hZ.alike f299 (by decide) (by decide)) sf0) R286.1
  have R301 := R286.trans C301
  have F300 := Fld.same W300 F285
  obtain ⟨T302, X302, e302, st302⟩ := getF X300 hx hZ hown (host := "") (Or.inl (hw _ (List.mem_of_getElem? (i := 59) rfl))) Via.refl e300 F300 (g := (mkF m 6 #[.val (.ref a), .val (.int ps), .unset, .unset, .unset] [(.ref a)])) rfl rfl (hb hby d15_6)
  have f303 := (Fld.other W300 f288 (Or.inr (slot_ne (Or.inl (hw _ (List.mem_of_getElem? (i := 58) rfl))) (Or.inl (hw _ (List.mem_of_getElem? (i := 60) rfl))) (by decide) (t := .int) (t' := .int) (by decide) (by decide))))
  obtain ⟨T304, X304, e304, st304⟩ := getF X302 hx hZ hown (host := "") (Or.inl (hw _ (List.mem_of_getElem? (i := 57) rfl))) Via.refl e302 f303 (g := (mkF m 10 #[.val (.ref a), .val (.int ps), .unset, .unset, .unset] [(.ref a), (.int ((ps + (1 : Int32)) + (1 : Int32)))])) rfl rfl (hb hby d15_10)
  have hc13_305 : ((ps + (1 : Int32)) + (1 : Int32)) < en := (Int32.lt_iff_toInt_lt.mpr (by rw [(own_inc (own_inc hk (by omega)) (by omega)), hen]; omega))
  have f306 := (Fld.other W300 f292 (Or.inr (slot_ne (Or.inl (hw _ (List.mem_of_getElem? (i := 56) rfl))) (Or.inl (hw _ (List.mem_of_getElem? (i := 60) rfl))) (by decide) (t := (.array .byte)) (t' := .int) (by decide) (by decide))))
  obtain ⟨T307, X307, e307, st307⟩ := getF X304 hx hZ hown (host := "") (Or.inl (hw _ (List.mem_of_getElem? (i := 55) rfl))) Via.refl e304 f306 (g := (mkF m 17 #[.val (.ref a), .val (.int ps), .unset, .unset, .unset] [(.ref a)])) rfl rfl (hb hby d15_17)
  obtain ⟨T308, X308, e308, st308⟩ := getF X307 hx hZ hown (host := "") (Or.inl (hw _ (List.mem_of_getElem? (i := 59) rfl))) Via.refl e307 F300 (g := (mkF m 21 #[.val (.ref a), .val (.int ps), .unset, .unset, .unset] [(.ref a), (.ref bt)])) rfl rfl (hb hby d15_21)
  have f309 := (f295.keep (Keep.of_wr W300) (ninS (Ne.symm ne_a_bt) nin0))
  obtain ⟨_, _, ⟨T310, L310, kc310, nc310⟩, -, X310, ⟨Lc310, hQ310, l310, y310, z310⟩, st310⟩ := Jvm.LawKit.callS X308 hx (y := (⟨"com/example/benzer/benzer/cli/JsonReader", "isWordChar", "(B)Z"⟩ : MethodName)) hown (mvT hZ (hw _ (List.mem_of_getElem? (i := 84) rfl))) (mvT hZ (hw _ (List.mem_of_getElem? (i := 85) rfl))) (mvT hZ (hw _ (List.mem_of_getElem? (i := 43) rfl))) (mvT hZ (hw _ (List.mem_of_getElem? (i := 86) rfl))) (by decide) (backOf (W := 0) (rm16 l Z a0 hw [] (108 : Int32) h300 n0 ) hZ (hw _ (List.mem_of_getElem? (i := 86) rfl)) (hw _ (List.mem_of_getElem? (i := 43) rfl)) (by decide) (by decide)) (g := (mkF m 25 #[.val (.ref a), .val (.int ps), .unset, .unset, .unset] [(.int (108 : Int32))])) rfl (by rw [hml]; rfl) (argsL := [(.int (108 : Int32))]) (rest := []) (lenOf pd_6 rfl) rfl (by show 2 * 0 + _ ≤ _; exact Nat.le_of_eq rfl) (hb hby d15_25) (fun _ _ => ⟨rfl, e308, (by decide : 0 + 0 ≤ _), (by decide : 0 + 0 ≤ _)⟩)
  dsimp only [Pt.U, Pt.locs, Pt.cells, Pt.slots] at X310 l310 y310 z310 st310 hQ310
  rw [l310, y310, z310] at X310
  replace X310 : Stand p l e ({ frames := 5, cells := 8, slots := 72, locals := 110 } : Room) s m #[(.ref a)] below meth c T310 _ 0 0 := X310
  obtain ⟨rfl, Nq310, eq310⟩ := hQ310
  have N310 := Fr.app N300 Nq310
  have k311 : ∀ tg_, Steps p.tables e below (T310.setTop (mkF m 28 #[.val (.ref a), .val (.int ps), .unset, .unset, .unset] [(.int (own_wc (108 : Int32)))])) tg_ → Steps p.tables e below (s₁.setTop (entryFrame m #[(.ref a)] 5)) tg_ := by
    intro tg_ kt
    refine k290 tg_ ?_
    refine XS.icmpNo X289.here hx rfl (hb hby d15_13) rfl (tlt hc13_291).2.1 ?_
    show Steps p.tables e below (T289.setTop (mkF m 16 #[.val (.ref a), .val (.int ps), .unset, .unset, .unset] [])) _
    refine XS.aloadN X289.here hx rfl (hb hby d15_16) rfl rfl ?_
    show Steps p.tables e below (T289.setTop (mkF m 17 #[.val (.ref a), .val (.int ps), .unset, .unset, .unset] [(.ref a)])) _
    refine st293 _ ?_
    show Steps p.tables e below (T293.setTop (mkF m 20 #[.val (.ref a), .val (.int ps), .unset, .unset, .unset] [(.ref bt)])) _
    refine XS.aloadN X293.here hx rfl (hb hby d15_20) rfl rfl ?_
    show Steps p.tables e below (T293.setTop (mkF m 21 #[.val (.ref a), .val (.int ps), .unset, .unset, .unset] [(.ref a), (.ref bt)])) _
    refine st294 _ ?_
    show Steps p.tables e below (T294.setTop (mkF m 24 #[.val (.ref a), .val (.int ps), .unset, .unset, .unset] [(.int (ps + (1 : Int32))), (.ref bt)])) _
    refine own_ldB X294 hx hZ e294 f295 (i := (k + 1)) (own_inc hk (by omega)) (by omega) hn1 (g := (mkF m 24 #[.val (.ref a), .val (.int ps), .unset, .unset, .unset] [(.int (ps + (1 : Int32))), (.ref bt)])) rfl rfl (hb hby d15_24) _ ?_
    show Steps p.tables e below (T294.setTop (mkF m 25 #[.val (.ref a), .val (.int ps), .unset, .unset, .unset] [(.int (117 : Int32))])) _
    refine st296 _ ?_
    show Steps p.tables e below (T296.setTop (mkF m 28 #[.val (.ref a), .val (.int ps), .unset, .unset, .unset] [(.int (own_wc (117 : Int32)))])) _
    refine XS.ifNo X296.here hx rfl (hb hby d15_28) rfl ((if0 _ _).trans (feq hc28_297).1) ?_
    show Steps p.tables e below (T296.setTop (mkF m 31 #[.val (.ref a), .val (.int ps), .unset, .unset, .unset] [])) _
    refine XS.aloadN X296.here hx rfl (hb hby d15_31) rfl rfl ?_
    show Steps p.tables e below (T296.setTop (mkF m 32 #[.val (.ref a), .val (.int ps), .unset, .unset, .unset] [(.ref a)])) _
    refine XS.dup X296.here hx rfl (hb hby d15_32) rfl rfl ?_
    show Steps p.tables e below (T296.setTop (mkF m 33 #[.val (.ref a), .val (.int ps), .unset, .unset, .unset] [(.ref a), (.ref a)])) _
    refine st298 _ ?_
    show Steps p.tables e below (T298.setTop (mkF m 36 #[.val (.ref a), .val (.int ps), .unset, .unset, .unset] [(.int (ps + (1 : Int32))), (.ref a)])) _
    refine XS.iconst X298.here hx rfl (hb hby d15_36) ?_
    show Steps p.tables e below (T298.setTop (mkF m 37 #[.val (.ref a), .val (.int ps), .unset, .unset, .unset] [(.int (1 : Int32)), (.int (ps + (1 : Int32))), (.ref a)])) _
    refine XS.iadd X298.here hx rfl (hb hby d15_37) rfl ?_
    show Steps p.tables e below (T298.setTop (mkF m 38 #[.val (.ref a), .val (.int ps), .unset, .unset, .unset] [(.int ((ps + (1 : Int32)) + (1 : Int32))), (.ref a)])) _
    refine st300 _ ?_
    show Steps p.tables e below (T300.setTop (mkF m 41 #[.val (.ref a), .val (.int ps), .unset, .unset, .unset] [])) _
    refine XS.goto X300.here hx rfl (pc0 := 41) (pc' := 5) rfl (hb hby d15_41) (by decide) (by decide) ?_
    show Steps p.tables e below (T300.setTop (mkF m 5 #[.val (.ref a), .val (.int ps), .unset, .unset, .unset] [])) _
    refine XS.aloadN X300.here hx rfl (hb hby d15_5) rfl rfl ?_
    show Steps p.tables e below (T300.setTop (mkF m 6 #[.val (.ref a), .val (.int ps), .unset, .unset, .unset] [(.ref a)])) _
    refine st302 _ ?_
    show Steps p.tables e below (T302.setTop (mkF m 9 #[.val (.ref a), .val (.int ps), .unset, .unset, .unset] [(.int ((ps + (1 : Int32)) + (1 : Int32)))])) _
    refine XS.aloadN X302.here hx rfl (hb hby d15_9) rfl rfl ?_
    show Steps p.tables e below (T302.setTop (mkF m 10 #[.val (.ref a), .val (.int ps), .unset, .unset, .unset] [(.ref a), (.int ((ps + (1 : Int32)) + (1 : Int32)))])) _
    refine st304 _ ?_
    show Steps p.tables e below (T304.setTop (mkF m 13 #[.val (.ref a), .val (.int ps), .unset, .unset, .unset] [(.int en), (.int ((ps + (1 : Int32)) + (1 : Int32)))])) _
    refine XS.icmpNo X304.here hx rfl (hb hby d15_13) rfl (tlt hc13_305).2.1 ?_
    show Steps p.tables e below (T304.setTop (mkF m 16 #[.val (.ref a), .val (.int ps), .unset, .unset, .unset] [])) _
    refine XS.aloadN X304.here hx rfl (hb hby d15_16) rfl rfl ?_
    show Steps p.tables e below (T304.setTop (mkF m 17 #[.val (.ref a), .val (.int ps), .unset, .unset, .unset] [(.ref a)])) _
    refine st307 _ ?_
    show Steps p.tables e below (T307.setTop (mkF m 20 #[.val (.ref a), .val (.int ps), .unset, .unset, .unset] [(.ref bt)])) _
    refine XS.aloadN X307.here hx rfl (hb hby d15_20) rfl rfl ?_
    show Steps p.tables e below (T307.setTop (mkF m 21 #[.val (.ref a), .val (.int ps), .unset, .unset, .unset] [(.ref a), (.ref bt)])) _
    refine st308 _ ?_
    show Steps p.tables e below (T308.setTop (mkF m 24 #[.val (.ref a), .val (.int ps), .unset, .unset, .unset] [(.int ((ps + (1 : Int32)) + (1 : Int32))), (.ref bt)])) _
    refine own_ldB X308 hx hZ e308 f309 (i := (k + 1 + 1)) (own_inc (own_inc hk (by omega)) (by omega)) (by omega) hn2 (g := (mkF m 24 #[.val (.ref a), .val (.int ps), .unset, .unset, .unset] [(.int ((ps + (1 : Int32)) + (1 : Int32))), (.ref bt)])) rfl rfl (hb hby d15_24) _ ?_
    show Steps p.tables e below (T308.setTop (mkF m 25 #[.val (.ref a), .val (.int ps), .unset, .unset, .unset] [(.int (108 : Int32))])) _
    refine st310 _ ?_
    show Steps p.tables e below (T310.setTop (mkF m 28 #[.val (.ref a), .val (.int ps), .unset, .unset, .unset] [(.int (own_wc (108 : Int32)))])) _
    exact kt
  have hc28_312 : ¬ ((own_wc (108 : Int32)) = (0 : Int32)) := (by decide)
  obtain ⟨T313, X313, e313, st313⟩ := getF X310 hx hZ hown (host := "") (Or.inl (hw _ (List.mem_of_getElem? (i := 59) rfl))) Via.refl eq310 F300 (g := (mkF m 33 #[.val (.ref a), .val (.int ps), .unset, .unset, .unset] [(.ref a), (.ref a)])) rfl rfl (hb hby d15_33)
  have f314 := (f299.keep (Keep.of_wr W300))
  obtain ⟨T315, h315, X315, e315, W315, st315⟩ := putF X313 hx hZ hown (host := "") (Or.inl (hw _ (List.mem_of_getElem? (i := 59) rfl))) Via.refl e313 F300 f314 (Or.inl (hw _ (List.mem_of_getElem? (i := 60) rfl))) (hw _ (List.mem_of_getElem? (i := 42) rfl)) (ty := .int) (by decide) rfl rfl (g := (mkF m 38 #[.val (.ref a), .val (.int ps), .unset, .unset, .unset] [(.int (((ps + (1 : Int32)) + (1 : Int32)) + (1 : Int32))), (.ref a)])) rfl rfl (hb hby d15_38)
  have N315 := Fr.snoc X315 N310 g_a
  have C316 := CHr.keep (Keep.of_wr W315) (sfS (Safe.exa hZ.alike f314 (by decide) (by decide)) sf0) R301.1
  have R316 := R301.trans C316
  have F315 := Fld.same W315 F300
  obtain ⟨T317, X317, e317, st317⟩ := getF X315 hx hZ hown (host := "") (Or.inl (hw _ (List.mem_of_getElem? (i := 59) rfl))) Via.refl e315 F315 (g := (mkF m 6 #[.val (.ref a), .val (.int ps), .unset, .unset, .unset] [(.ref a)])) rfl rfl (hb hby d15_6)
  have f318 := (Fld.other W315 f303 (Or.inr (slot_ne (Or.inl (hw _ (List.mem_of_getElem? (i := 58) rfl))) (Or.inl (hw _ (List.mem_of_getElem? (i := 60) rfl))) (by decide) (t := .int) (t' := .int) (by decide) (by decide))))
  obtain ⟨T319, X319, e319, st319⟩ := getF X317 hx hZ hown (host := "") (Or.inl (hw _ (List.mem_of_getElem? (i := 57) rfl))) Via.refl e317 f318 (g := (mkF m 10 #[.val (.ref a), .val (.int ps), .unset, .unset, .unset] [(.ref a), (.int (((ps + (1 : Int32)) + (1 : Int32)) + (1 : Int32)))])) rfl rfl (hb hby d15_10)
  have hc13_320 : (((ps + (1 : Int32)) + (1 : Int32)) + (1 : Int32)) < en := (Int32.lt_iff_toInt_lt.mpr (by rw [(own_inc (own_inc (own_inc hk (by omega)) (by omega)) (by omega)), hen]; omega))
  have f321 := (Fld.other W315 f306 (Or.inr (slot_ne (Or.inl (hw _ (List.mem_of_getElem? (i := 56) rfl))) (Or.inl (hw _ (List.mem_of_getElem? (i := 60) rfl))) (by decide) (t := (.array .byte)) (t' := .int) (by decide) (by decide))))
  obtain ⟨T322, X322, e322, st322⟩ := getF X319 hx hZ hown (host := "") (Or.inl (hw _ (List.mem_of_getElem? (i := 55) rfl))) Via.refl e319 f321 (g := (mkF m 17 #[.val (.ref a), .val (.int ps), .unset, .unset, .unset] [(.ref a)])) rfl rfl (hb hby d15_17)
  obtain ⟨T323, X323, e323, st323⟩ := getF X322 hx hZ hown (host := "") (Or.inl (hw _ (List.mem_of_getElem? (i := 59) rfl))) Via.refl e322 F315 (g := (mkF m 21 #[.val (.ref a), .val (.int ps), .unset, .unset, .unset] [(.ref a), (.ref bt)])) rfl rfl (hb hby d15_21)
  have f324 := (f309.keep (Keep.of_wr W315) (ninS (Ne.symm ne_a_bt) nin0))
  obtain ⟨_, _, ⟨T325, L325, kc325, nc325⟩, -, X325, ⟨Lc325, hQ325, l325, y325, z325⟩, st325⟩ := Jvm.LawKit.callS X323 hx (y := (⟨"com/example/benzer/benzer/cli/JsonReader", "isWordChar", "(B)Z"⟩ : MethodName)) hown (mvT hZ (hw _ (List.mem_of_getElem? (i := 84) rfl))) (mvT hZ (hw _ (List.mem_of_getElem? (i := 85) rfl))) (mvT hZ (hw _ (List.mem_of_getElem? (i := 43) rfl))) (mvT hZ (hw _ (List.mem_of_getElem? (i := 86) rfl))) (by decide) (backOf (W := 0) (rm16 l Z a0 hw [] (108 : Int32) h315 n0 ) hZ (hw _ (List.mem_of_getElem? (i := 86) rfl)) (hw _ (List.mem_of_getElem? (i := 43) rfl)) (by decide) (by decide)) (g := (mkF m 25 #[.val (.ref a), .val (.int ps), .unset, .unset, .unset] [(.int (108 : Int32))])) rfl (by rw [hml]; rfl) (argsL := [(.int (108 : Int32))]) (rest := []) (lenOf pd_6 rfl) rfl (by show 2 * 0 + _ ≤ _; exact Nat.le_of_eq rfl) (hb hby d15_25) (fun _ _ => ⟨rfl, e323, (by decide : 0 + 0 ≤ _), (by decide : 0 + 0 ≤ _)⟩)
  dsimp only [Pt.U, Pt.locs, Pt.cells, Pt.slots] at X325 l325 y325 z325 st325 hQ325
  rw [l325, y325, z325] at X325
  replace X325 : Stand p l e ({ frames := 5, cells := 8, slots := 72, locals := 110 } : Room) s m #[(.ref a)] below meth c T325 _ 0 0 := X325
  obtain ⟨rfl, Nq325, eq325⟩ := hQ325
  have N325 := Fr.app N315 Nq325
  obtain ⟨T326, X326, e326, st326⟩ := getF X325 hx hZ hown (host := "") (Or.inl (hw _ (List.mem_of_getElem? (i := 59) rfl))) Via.refl eq325 F315 (g := (mkF m 33 #[.val (.ref a), .val (.int ps), .unset, .unset, .unset] [(.ref a), (.ref a)])) rfl rfl (hb hby d15_33)
  have f327 := (f314.keep (Keep.of_wr W315))
  obtain ⟨T328, h328, X328, e328, W328, st328⟩ := putF X326 hx hZ hown (host := "") (Or.inl (hw _ (List.mem_of_getElem? (i := 59) rfl))) Via.refl e326 F315 f327 (Or.inl (hw _ (List.mem_of_getElem? (i := 60) rfl))) (hw _ (List.mem_of_getElem? (i := 42) rfl)) (ty := .int) (by decide) rfl rfl (g := (mkF m 38 #[.val (.ref a), .val (.int ps), .unset, .unset, .unset] [(.int ((((ps + (1 : Int32)) + (1 : Int32)) + (1 : Int32)) + (1 : Int32))), (.ref a)])) rfl rfl (hb hby d15_38)
  have N328 := Fr.snoc X328 N325 g_a
  have C329 := CHr.keep (Keep.of_wr W328) (sfS (Safe.exa hZ.alike f327 (by decide) (by decide)) sf0) R316.1
  have R329 := R316.trans C329
  have F328 := Fld.same W328 F315
  have k330 : ∀ tg_, Steps p.tables e below (T328.setTop (mkF m 41 #[.val (.ref a), .val (.int ps), .unset, .unset, .unset] [])) tg_ → Steps p.tables e below (s₁.setTop (entryFrame m #[(.ref a)] 5)) tg_ := by
    intro tg_ kt
    refine k311 tg_ ?_
    refine XS.ifNo X310.here hx rfl (hb hby d15_28) rfl ((if0 _ _).trans (feq hc28_312).1) ?_
    show Steps p.tables e below (T310.setTop (mkF m 31 #[.val (.ref a), .val (.int ps), .unset, .unset, .unset] [])) _
    refine XS.aloadN X310.here hx rfl (hb hby d15_31) rfl rfl ?_
    show Steps p.tables e below (T310.setTop (mkF m 32 #[.val (.ref a), .val (.int ps), .unset, .unset, .unset] [(.ref a)])) _
    refine XS.dup X310.here hx rfl (hb hby d15_32) rfl rfl ?_
    show Steps p.tables e below (T310.setTop (mkF m 33 #[.val (.ref a), .val (.int ps), .unset, .unset, .unset] [(.ref a), (.ref a)])) _
    refine st313 _ ?_
    show Steps p.tables e below (T313.setTop (mkF m 36 #[.val (.ref a), .val (.int ps), .unset, .unset, .unset] [(.int ((ps + (1 : Int32)) + (1 : Int32))), (.ref a)])) _
    refine XS.iconst X313.here hx rfl (hb hby d15_36) ?_
    show Steps p.tables e below (T313.setTop (mkF m 37 #[.val (.ref a), .val (.int ps), .unset, .unset, .unset] [(.int (1 : Int32)), (.int ((ps + (1 : Int32)) + (1 : Int32))), (.ref a)])) _
    refine XS.iadd X313.here hx rfl (hb hby d15_37) rfl ?_
    show Steps p.tables e below (T313.setTop (mkF m 38 #[.val (.ref a), .val (.int ps), .unset, .unset, .unset] [(.int (((ps + (1 : Int32)) + (1 : Int32)) + (1 : Int32))), (.ref a)])) _
    refine st315 _ ?_
    show Steps p.tables e below (T315.setTop (mkF m 41 #[.val (.ref a), .val (.int ps), .unset, .unset, .unset] [])) _
    refine XS.goto X315.here hx rfl (pc0 := 41) (pc' := 5) rfl (hb hby d15_41) (by decide) (by decide) ?_
    show Steps p.tables e below (T315.setTop (mkF m 5 #[.val (.ref a), .val (.int ps), .unset, .unset, .unset] [])) _
    refine XS.aloadN X315.here hx rfl (hb hby d15_5) rfl rfl ?_
    show Steps p.tables e below (T315.setTop (mkF m 6 #[.val (.ref a), .val (.int ps), .unset, .unset, .unset] [(.ref a)])) _
    refine st317 _ ?_
    show Steps p.tables e below (T317.setTop (mkF m 9 #[.val (.ref a), .val (.int ps), .unset, .unset, .unset] [(.int (((ps + (1 : Int32)) + (1 : Int32)) + (1 : Int32)))])) _
    refine XS.aloadN X317.here hx rfl (hb hby d15_9) rfl rfl ?_
    show Steps p.tables e below (T317.setTop (mkF m 10 #[.val (.ref a), .val (.int ps), .unset, .unset, .unset] [(.ref a), (.int (((ps + (1 : Int32)) + (1 : Int32)) + (1 : Int32)))])) _
    refine st319 _ ?_
    show Steps p.tables e below (T319.setTop (mkF m 13 #[.val (.ref a), .val (.int ps), .unset, .unset, .unset] [(.int en), (.int (((ps + (1 : Int32)) + (1 : Int32)) + (1 : Int32)))])) _
    refine XS.icmpNo X319.here hx rfl (hb hby d15_13) rfl (tlt hc13_320).2.1 ?_
    show Steps p.tables e below (T319.setTop (mkF m 16 #[.val (.ref a), .val (.int ps), .unset, .unset, .unset] [])) _
    refine XS.aloadN X319.here hx rfl (hb hby d15_16) rfl rfl ?_
    show Steps p.tables e below (T319.setTop (mkF m 17 #[.val (.ref a), .val (.int ps), .unset, .unset, .unset] [(.ref a)])) _
    refine st322 _ ?_
    show Steps p.tables e below (T322.setTop (mkF m 20 #[.val (.ref a), .val (.int ps), .unset, .unset, .unset] [(.ref bt)])) _
    refine XS.aloadN X322.here hx rfl (hb hby d15_20) rfl rfl ?_
    show Steps p.tables e below (T322.setTop (mkF m 21 #[.val (.ref a), .val (.int ps), .unset, .unset, .unset] [(.ref a), (.ref bt)])) _
    refine st323 _ ?_
    show Steps p.tables e below (T323.setTop (mkF m 24 #[.val (.ref a), .val (.int ps), .unset, .unset, .unset] [(.int (((ps + (1 : Int32)) + (1 : Int32)) + (1 : Int32))), (.ref bt)])) _
    refine own_ldB X323 hx hZ e323 f324 (i := (k + 1 + 1 + 1)) (own_inc (own_inc (own_inc hk (by omega)) (by omega)) (by omega)) (by omega) hn3 (g := (mkF m 24 #[.val (.ref a), .val (.int ps), .unset, .unset, .unset] [(.int (((ps + (1 : Int32)) + (1 : Int32)) + (1 : Int32))), (.ref bt)])) rfl rfl (hb hby d15_24) _ ?_
    show Steps p.tables e below (T323.setTop (mkF m 25 #[.val (.ref a), .val (.int ps), .unset, .unset, .unset] [(.int (108 : Int32))])) _
    refine st325 _ ?_
    show Steps p.tables e below (T325.setTop (mkF m 28 #[.val (.ref a), .val (.int ps), .unset, .unset, .unset] [(.int (own_wc (108 : Int32)))])) _
    refine XS.ifNo X325.here hx rfl (hb hby d15_28) rfl ((if0 _ _).trans (feq hc28_312).1) ?_
    show Steps p.tables e below (T325.setTop (mkF m 31 #[.val (.ref a), .val (.int ps), .unset, .unset, .unset] [])) _
    refine XS.aloadN X325.here hx rfl (hb hby d15_31) rfl rfl ?_
    show Steps p.tables e below (T325.setTop (mkF m 32 #[.val (.ref a), .val (.int ps), .unset, .unset, .unset] [(.ref a)])) _
    refine XS.dup X325.here hx rfl (hb hby d15_32) rfl rfl ?_
    show Steps p.tables e below (T325.setTop (mkF m 33 #[.val (.ref a), .val (.int ps), .unset, .unset, .unset] [(.ref a), (.ref a)])) _
    refine st326 _ ?_
    show Steps p.tables e below (T326.setTop (mkF m 36 #[.val (.ref a), .val (.int ps), .unset, .unset, .unset] [(.int (((ps + (1 : Int32)) + (1 : Int32)) + (1 : Int32))), (.ref a)])) _
    refine XS.iconst X326.here hx rfl (hb hby d15_36) ?_
    show Steps p.tables e below (T326.setTop (mkF m 37 #[.val (.ref a), .val (.int ps), .unset, .unset, .unset] [(.int (1 : Int32)), (.int (((ps + (1 : Int32)) + (1 : Int32)) + (1 : Int32))), (.ref a)])) _
    refine XS.iadd X326.here hx rfl (hb hby d15_37) rfl ?_
    show Steps p.tables e below (T326.setTop (mkF m 38 #[.val (.ref a), .val (.int ps), .unset, .unset, .unset] [(.int ((((ps + (1 : Int32)) + (1 : Int32)) + (1 : Int32)) + (1 : Int32))), (.ref a)])) _
    refine st328 _ ?_
    show Steps p.tables e below (T328.setTop (mkF m 41 #[.val (.ref a), .val (.int ps), .unset, .unset, .unset] [])) _
    exact kt
  obtain ⟨T331, X331, e331, st331⟩ := getF X328 hx hZ hown (host := "") (Or.inl (hw _ (List.mem_of_getElem? (i := 59) rfl))) Via.refl e328 F328 (g := (mkF m 6 #[.val (.ref a), .val (.int ps), .unset, .unset, .unset] [(.ref a)])) rfl rfl (hb hby d15_6)
  have f332 := (Fld.other W328 f318 (Or.inr (slot_ne (Or.inl (hw _ (List.mem_of_getElem? (i := 58) rfl))) (Or.inl (hw _ (List.mem_of_getElem? (i := 60) rfl))) (by decide) (t := .int) (t' := .int) (by decide) (by decide))))
  obtain ⟨T333, X333, e333, st333⟩ := getF X331 hx hZ hown (host := "") (Or.inl (hw _ (List.mem_of_getElem? (i := 57) rfl))) Via.refl e331 f332 (g := (mkF m 10 #[.val (.ref a), .val (.int ps), .unset, .unset, .unset] [(.ref a), (.int ((((ps + (1 : Int32)) + (1 : Int32)) + (1 : Int32)) + (1 : Int32)))])) rfl rfl (hb hby d15_10)
  have hc13_334 : ¬ (((((ps + (1 : Int32)) + (1 : Int32)) + (1 : Int32)) + (1 : Int32)) < en) := (fun q => absurd (Int32.lt_iff_toInt_lt.mp q) (by rw [(own_inc (own_inc (own_inc (own_inc hk (by omega)) (by omega)) (by omega)) (by omega)), hen]; omega))
  obtain ⟨T335, h335, X335, e335, E335, A335, D335, -, st335⟩ := newO X333 hx hZ hown (hw _ (List.mem_of_getElem? (i := 87) rfl)) (hw _ (List.mem_of_getElem? (i := 7) rfl)) (hw _ (List.mem_of_getElem? (i := 6) rfl)) e333 (g := (mkF m 44 #[.val (.ref a), .val (.int ps), .unset, .unset, .unset] [])) rfl (hb hby d15_44) (by decide) (by decide)
  obtain ⟨b335, g335⟩ : ∃ z, z = h328.size := ⟨_, rfl⟩
  rw [← g335] at A335 D335 st335
  have f336 := (f327.keep (Keep.of_wr W328))
  have ne_a_b335 : a ≠ b335 := Nat.ne_of_lt (Nat.lt_of_lt_of_le (f336).lt (Nat.le_of_eq g335.symm))
  have f337 := (f324.keep (Keep.of_wr W328) (ninS (Ne.symm ne_a_bt) nin0))
  have ne_bt_b335 : bt ≠ b335 := Nat.ne_of_lt (Nat.lt_of_lt_of_le (f337).lt (Nat.le_of_eq g335.symm))
  have f338 := ((((X00.keep (Keep.of_wr W285) (allS g_a all0)).keep (Keep.of_wr W300) (allS g_a all0)).keep (Keep.of_wr W315) (allS g_a all0)).keep (Keep.of_wr W328) (allS g_a all0))
  have ne_cs_b335 : cs ≠ b335 := Nat.ne_of_lt (Nat.lt_of_lt_of_le ((E_cs.ext f338.2)).lt (Nat.le_of_eq g335.symm))
  have f339 := (Nat.le_trans (Nat.le_trans (Nat.le_trans (Nat.le_trans Z0 (Keep.of_wr W285).1) (Keep.of_wr W300).1) (Keep.of_wr W315).1) (Keep.of_wr W328).1)
  have ge_b335 : n0 ≤ b335 := Nat.le_trans f339 (Nat.le_of_eq g335.symm)
  have f340 := (((((Keep.refl h0 [a]).trans (Keep.of_wr W285) (allS (Or.inl (List.mem_of_getElem? (i := 0) rfl)) all0)).trans (Keep.of_wr W300) (allS (Or.inl (List.mem_of_getElem? (i := 0) rfl)) all0)).trans (Keep.of_wr W315) (allS (Or.inl (List.mem_of_getElem? (i := 0) rfl)) all0)).trans (Keep.of_wr W328) (allS (Or.inl (List.mem_of_getElem? (i := 0) rfl)) all0))
  have sz_b335 : h0.size ≤ b335 := Nat.le_trans f340.1 (Nat.le_of_eq g335.symm)
  have C341 := CHr.keep ((Keep.refl _ []).ext E335) sf0 R329.1
  have R341 := R329.trans C341
  have sf_b335 := Safe.ext E335 R329.1 (Safe.new (Nat.le_of_eq g335.symm))
  have F342 : Fld Z h335 b335 "java/lang/String" "value" "[B" .null := D335 (Or.inr (hw _ (List.mem_of_getElem? (i := 8) rfl))) (ty := (.array .byte)) (by decide)
  have F343 : Fld Z h335 b335 "java/lang/String" "coder" "B" (.int (0 : Int32)) := D335 (Or.inr (hw _ (List.mem_of_getElem? (i := 9) rfl))) (ty := .byte) (by decide)
  have f344 := ((Fld.other W328 f321 (Or.inr (slot_ne (Or.inl (hw _ (List.mem_of_getElem? (i := 56) rfl))) (Or.inl (hw _ (List.mem_of_getElem? (i := 60) rfl))) (by decide) (t := (.array .byte)) (t' := .int) (by decide) (by decide)))).keep ((Keep.refl _ []).ext E335) nin0)
  obtain ⟨T345, X345, e345, st345⟩ := getF X335 hx hZ hown (host := "") (Or.inl (hw _ (List.mem_of_getElem? (i := 55) rfl))) Via.refl e335 f344 (g := (mkF m 49 #[.val (.ref a), .val (.int ps), .unset, .unset, .unset] [(.ref a), (.ref b335), (.ref b335)])) rfl rfl (hb hby d15_49)
  have f346 := (F328.keep ((Keep.refl _ []).ext E335) nin0)
  obtain ⟨T347, X347, e347, st347⟩ := getF X345 hx hZ hown (host := "") (Or.inl (hw _ (List.mem_of_getElem? (i := 59) rfl))) Via.refl e345 f346 (g := (mkF m 54 #[.val (.ref a), .val (.int ps), .unset, .unset, .unset] [(.ref a), (.int ps), (.ref bt), (.ref b335), (.ref b335)])) rfl rfl (hb hby d15_54)
  have f348 := (f338.keep ((Keep.refl _ []).ext E335) all0)
  obtain ⟨T349, X349, e349, st349⟩ := getS2 X347 hx hZ hown (host := "") (Or.inl (hw _ (List.mem_of_getElem? (i := 88) rfl))) Via.refl e347 (S_so.ext f348.2) (g := (mkF m 59 #[.val (.ref a), .val (.int ps), .unset, .unset, .unset] [(.int (((((ps + (1 : Int32)) + (1 : Int32)) + (1 : Int32)) + (1 : Int32)) - ps)), (.int ps), (.ref bt), (.ref b335), (.ref b335)])) rfl (hb hby d15_59)
  have k350 : ∀ tg_, Steps p.tables e below (T349.setTop (mkF m 62 #[.val (.ref a), .val (.int ps), .unset, .unset, .unset] [(.ref cs), (.int (((((ps + (1 : Int32)) + (1 : Int32)) + (1 : Int32)) + (1 : Int32)) - ps)), (.int ps), (.ref bt), (.ref b335), (.ref b335)])) tg_ → Steps p.tables e below (s₁.setTop (entryFrame m #[(.ref a)] 5)) tg_ := by
    intro tg_ kt
    refine k330 tg_ ?_
    refine XS.goto X328.here hx rfl (pc0 := 41) (pc' := 5) rfl (hb hby d15_41) (by decide) (by decide) ?_
    show Steps p.tables e below (T328.setTop (mkF m 5 #[.val (.ref a), .val (.int ps), .unset, .unset, .unset] [])) _
    refine XS.aloadN X328.here hx rfl (hb hby d15_5) rfl rfl ?_
    show Steps p.tables e below (T328.setTop (mkF m 6 #[.val (.ref a), .val (.int ps), .unset, .unset, .unset] [(.ref a)])) _
    refine st331 _ ?_
    show Steps p.tables e below (T331.setTop (mkF m 9 #[.val (.ref a), .val (.int ps), .unset, .unset, .unset] [(.int ((((ps + (1 : Int32)) + (1 : Int32)) + (1 : Int32)) + (1 : Int32)))])) _
    refine XS.aloadN X331.here hx rfl (hb hby d15_9) rfl rfl ?_
    show Steps p.tables e below (T331.setTop (mkF m 10 #[.val (.ref a), .val (.int ps), .unset, .unset, .unset] [(.ref a), (.int ((((ps + (1 : Int32)) + (1 : Int32)) + (1 : Int32)) + (1 : Int32)))])) _
    refine st333 _ ?_
    show Steps p.tables e below (T333.setTop (mkF m 13 #[.val (.ref a), .val (.int ps), .unset, .unset, .unset] [(.int en), (.int ((((ps + (1 : Int32)) + (1 : Int32)) + (1 : Int32)) + (1 : Int32)))])) _
    refine XS.icmpYes X333.here hx rfl (pc0 := 13) (pc' := 44) rfl (hb hby d15_13) rfl (flt hc13_334).2.1 (by decide) (by decide) ?_
    show Steps p.tables e below (T333.setTop (mkF m 44 #[.val (.ref a), .val (.int ps), .unset, .unset, .unset] [])) _
    refine st335 _ ?_
    show Steps p.tables e below (T335.setTop (mkF m 47 #[.val (.ref a), .val (.int ps), .unset, .unset, .unset] [(.ref b335)])) _
    refine XS.dup X335.here hx rfl (hb hby d15_47) rfl rfl ?_
    show Steps p.tables e below (T335.setTop (mkF m 48 #[.val (.ref a), .val (.int ps), .unset, .unset, .unset] [(.ref b335), (.ref b335)])) _
    refine XS.aloadN X335.here hx rfl (hb hby d15_48) rfl rfl ?_
    show Steps p.tables e below (T335.setTop (mkF m 49 #[.val (.ref a), .val (.int ps), .unset, .unset, .unset] [(.ref a), (.ref b335), (.ref b335)])) _
    refine st345 _ ?_
    show Steps p.tables e below (T345.setTop (mkF m 52 #[.val (.ref a), .val (.int ps), .unset, .unset, .unset] [(.ref bt), (.ref b335), (.ref b335)])) _
    refine XS.iloadN X345.here hx rfl (hb hby d15_52) rfl ?_
    show Steps p.tables e below (T345.setTop (mkF m 53 #[.val (.ref a), .val (.int ps), .unset, .unset, .unset] [(.int ps), (.ref bt), (.ref b335), (.ref b335)])) _
    refine XS.aloadN X345.here hx rfl (hb hby d15_53) rfl rfl ?_
    show Steps p.tables e below (T345.setTop (mkF m 54 #[.val (.ref a), .val (.int ps), .unset, .unset, .unset] [(.ref a), (.int ps), (.ref bt), (.ref b335), (.ref b335)])) _
    refine st347 _ ?_
    show Steps p.tables e below (T347.setTop (mkF m 57 #[.val (.ref a), .val (.int ps), .unset, .unset, .unset] [(.int ((((ps + (1 : Int32)) + (1 : Int32)) + (1 : Int32)) + (1 : Int32))), (.int ps), (.ref bt), (.ref b335), (.ref b335)])) _
    refine XS.iloadN X347.here hx rfl (hb hby d15_57) rfl ?_
    show Steps p.tables e below (T347.setTop (mkF m 58 #[.val (.ref a), .val (.int ps), .unset, .unset, .unset] [(.int ps), (.int ((((ps + (1 : Int32)) + (1 : Int32)) + (1 : Int32)) + (1 : Int32))), (.int ps), (.ref bt), (.ref b335), (.ref b335)])) _
    refine XS.isub X347.here hx rfl (hb hby d15_58) rfl ?_
    show Steps p.tables e below (T347.setTop (mkF m 59 #[.val (.ref a), .val (.int ps), .unset, .unset, .unset] [(.int (((((ps + (1 : Int32)) + (1 : Int32)) + (1 : Int32)) + (1 : Int32)) - ps)), (.int ps), (.ref bt), (.ref b335), (.ref b335)])) _
    refine st349 _ ?_
    show Steps p.tables e below (T349.setTop (mkF m 62 #[.val (.ref a), .val (.int ps), .unset, .unset, .unset] [(.ref cs), (.int (((((ps + (1 : Int32)) + (1 : Int32)) + (1 : Int32)) + (1 : Int32)) - ps)), (.int ps), (.ref bt), (.ref b335), (.ref b335)])) _
    exact kt
  have hc4 : (((((ps + (1 : Int32)) + (1 : Int32)) + (1 : Int32)) + (1 : Int32)) - ps).toInt = ((4 : Nat) : Int) := by
    have a := c_isub ((((ps + (1 : Int32)) + (1 : Int32)) + (1 : Int32)) + (1 : Int32)) ps
    have b := rng32 (((((ps + (1 : Int32)) + (1 : Int32)) + (1 : Int32)) + (1 : Int32)) - ps)
    have d := (own_inc (own_inc (own_inc (own_inc hk (by omega)) (by omega)) (by omega)) (by omega))
    omega
  have f351 := (Nat.le_trans f339 ((Keep.refl _ []).ext E335).1)
  have f352 := (f337.keep ((Keep.refl _ []).ext E335) nin0)
  obtain ⟨_, _, ⟨T353, L353, kc353, nc353⟩, -, X353, ⟨Lc353, hQ353, l353, y353, z353⟩, st353⟩ := X349.specialBack hx (y := (⟨"java/lang/String", "<init>", "([BIILjava/nio/charset/Charset;)V"⟩ : MethodName)) rfl hown (mvT hZ (hw _ (List.mem_of_getElem? (i := 90) rfl))) (mvT hZ (hw _ (List.mem_of_getElem? (i := 91) rfl))) (mvT hZ (hw _ (List.mem_of_getElem? (i := 92) rfl))) (by decide) (backOf (W := 1) (rm17 l Z a0 hw [] b335 bt ps (((((ps + (1 : Int32)) + (1 : Int32)) + (1 : Int32)) + (1 : Int32)) - ps) cs zc u8 k f fm h335 n0 f351 A335 (E_cs.ext f348.2) F342 F343 f352 (S_u8.ext f348.2) (S_is.ext f348.2) (S_zc.ext f348.2) (S_fm.ext f348.2) ge_b335 ne_cs_u8 (Ne.symm ne_bt_b335) hz hfm hk hk3 hc4 hfit) hZ (hw _ (List.mem_of_getElem? (i := 92) rfl)) (hw _ (List.mem_of_getElem? (i := 6) rfl)) (by decide) (by decide)) (g := (mkF m 62 #[.val (.ref a), .val (.int ps), .unset, .unset, .unset] [(.ref cs), (.int (((((ps + (1 : Int32)) + (1 : Int32)) + (1 : Int32)) + (1 : Int32)) - ps)), (.int ps), (.ref bt), (.ref b335), (.ref b335)])) rfl (by rw [hml]; rfl) (Steps.refl _) (a := b335) (argsL := [(.ref bt), (.int ps), (.int (((((ps + (1 : Int32)) + (1 : Int32)) + (1 : Int32)) + (1 : Int32)) - ps)), (.ref cs)]) (rest := [(.ref b335)]) (lenOf pd_10 rfl) rfl (by show 2 * 0 + _ ≤ _; exact Nat.le_of_eq rfl) (hb hby d15_62) (fun _ _ => ⟨rfl, e349, (by decide : 1 + 1 ≤ _), (by decide : 4 + 4 ≤ _)⟩)
  dsimp only [Pt.U, Pt.locs, Pt.cells, Pt.slots] at X353 l353 y353 z353 st353 hQ353
  rw [l353, y353, z353] at X353
  replace X353 : Stand p l e ({ frames := 5, cells := 8, slots := 72, locals := 110 } : Room) s m #[(.ref a)] below meth c T353 _ 2 8 := X353
  obtain ⟨rfl, Nq353, oK353, oFacoder353, m0_353⟩ := hQ353
  have N353 := Fr.app N328 Nq353
  have C354 := CHr.keep oK353 (sfS sf_b335 sf0) R341.1
  have R354 := R341.trans C354
  have sf_b335_354 := C354.safe (A335).lt sf_b335
  obtain ⟨b353, gb353, sb353, Fr353, Vr353⟩ := m0_353
  have f355 := (f336.keep ((Keep.refl _ []).ext E335))
  have ne_a_b353 : a ≠ b353 := Nat.ne_of_lt (Nat.lt_of_lt_of_le (f355).lt sb353)
  have ne_bt_b353 : bt ≠ b353 := Nat.ne_of_lt (Nat.lt_of_lt_of_le (f352).lt sb353)
  have ne_cs_b353 : cs ≠ b353 := Nat.ne_of_lt (Nat.lt_of_lt_of_le ((E_cs.ext f348.2)).lt sb353)
  have ne_b335_b353 : b335 ≠ b353 := Nat.ne_of_lt (Nat.lt_of_lt_of_le (A335).lt sb353)
  have f356 := (f340.trans ((Keep.refl _ []).ext E335) all0)
  have sz_b353 : h0.size ≤ b353 := Nat.le_trans f356.1 sb353
  have k357 : ∀ tg_, Steps p.tables e below (T353.setTop (mkF m 67 #[.val (.ref a), .val (.int ps), .val (.ref b335), .unset, .unset] [(.ref b335)])) tg_ → Steps p.tables e below (s₁.setTop (entryFrame m #[(.ref a)] 5)) tg_ := by
    intro tg_ kt
    refine k350 tg_ ?_
    refine st353.trans ?_
    show Steps p.tables e below (T353.setTop (mkF m 65 #[.val (.ref a), .val (.int ps), .unset, .unset, .unset] [(.ref b335)])) _
    refine XS.astoreN X353.here hx rfl (hb hby d15_65) rfl rfl (l' := #[.val (.ref a), .val (.int ps), .val (.ref b335), .unset, .unset]) rfl ?_
    show Steps p.tables e below (T353.setTop (mkF m 66 #[.val (.ref a), .val (.int ps), .val (.ref b335), .unset, .unset] [])) _
    refine XS.aloadN X353.here hx rfl (hb hby d15_66) rfl rfl ?_
    show Steps p.tables e below (T353.setTop (mkF m 67 #[.val (.ref a), .val (.int ps), .val (.ref b335), .unset, .unset] [(.ref b335)])) _
    exact kt
  have f358 := (Nat.le_trans (Nat.le_trans (Nat.le_trans (Nat.le_trans (Nat.le_trans (Nat.le_trans hY0 (Keep.of_wr W285).1) (Keep.of_wr W300).1) (Keep.of_wr W315).1) (Keep.of_wr W328).1) ((Keep.refl _ []).ext E335).1) oK353.1)
  obtain ⟨b359, T359, h359, k359, d359, kd359, X359, e359, E359, hS359, hk359, hZ, hown, Ex359, Fc359, Fv359, Av359, -, -, ch359, -, ns359, st359⟩ := ldcCH (s := s) (vm0 := s.vm) X353 hx hZ hown (hw _ (List.mem_of_getElem? (i := 132) rfl)) (fun d hd => hw d (strW d hd)) rfl hS0 f358 hEL (by decide) R354.1 (vs := ([116, 114, 117, 101] : List Int32).map Value.int) (z := (4 : Int32)) (by decide +kernel) (by decide) (by decide) (g := (mkF m 67 #[.val (.ref a), .val (.int ps), .val (.ref b335), .unset, .unset] [(.ref b335)])) rfl (hb hby d15_67) (n := 16) (by decide) (by decide) (by decide) (by decide)
  have R360 := R354.trans ch359
  have f361 := (A335.keep oK353)
  have sf_b335_360 := ch359.safe (f361).lt sf_b335_354
  replace X359 : Stand p l e ({ frames := 5, cells := 8, slots := 72, locals := 110 } : Room) (s.setVm T359.vm) m #[(.ref a)] below meth c T359 _ 4 28 := X359
  have V359 : own_AI Z h359 d359 .byte 4 own_tx_true := own_ofArv Av359 (by decide) (by decide) (by decide)
  have f362 := (f361.keep ((Keep.refl _ []).ext E359))
  have f363 := (Fr353.keep ((Keep.refl _ []).ext E359) nin0)
  have f364 := (oFacoder353.keep ((Keep.refl _ []).ext E359) nin0)
  have f365 := (Vr353.keep ((Keep.refl _ []).ext E359) nin0)
  have f366 := ((f348.keep oK353 (allS ge_b335 all0)).keep ((Keep.refl _ []).ext E359) all0)
  obtain ⟨cq367, kq367, q367a, q367b, q367c⟩ := isOf hZ e359 f362
  obtain ⟨_, _, ⟨T367, L367, kc367, nc367⟩, -, X367, ⟨Lc367, hQ367, l367, y367, z367⟩, st367⟩ := X359.virtualBack hx (y := (⟨"java/lang/String", "equals", "(Ljava/lang/Object;)Z"⟩ : MethodName)) (z := (⟨"java/lang/String", "equals", "(Ljava/lang/Object;)Z"⟩ : MethodName)) hown (mvT hZ (hw _ (List.mem_of_getElem? (i := 133) rfl))) (mvT hZ (hw _ (List.mem_of_getElem? (i := 134) rfl))) (notFace_of_selects (args := #[]) (mvT hZ (hw _ (List.mem_of_getElem? (i := 136) rfl)))) (mvT hZ (hw _ (List.mem_of_getElem? (i := 136) rfl))) (mvT hZ (hw _ (List.mem_of_getElem? (i := 135) rfl))) (by decide) (backOf (W := 0) (rmeqT l Z a0 hw [] b335 b359 zc b353 d359 (own_shift f k) own_tx_true h359 n0 f362 Ex359 f363 f364 Fv359 Fc359 f365 V359 (S_zc.ext f366.2) (ns359 b335 sf_b335_360).1 hz hn0 rfl) hZ (hw _ (List.mem_of_getElem? (i := 137) rfl)) (hw _ (List.mem_of_getElem? (i := 6) rfl)) (by decide) (by decide)) q367a q367c (g := (mkF m 69 #[.val (.ref a), .val (.int ps), .val (.ref b335), .unset, .unset] [(.ref b359), (.ref b335)])) rfl (by rw [hml]; rfl) (Steps.refl _) (argsL := [(.ref b359)]) (rest := []) (lenOf pd_18 rfl) rfl (by show 2 * 0 + _ ≤ _; exact Nat.le_of_eq rfl) (hb hby d15_69) (fun _ _ => ⟨rfl, e359, (by decide : 4 + 0 ≤ _), (by decide : 28 + 0 ≤ _)⟩)
  dsimp only [Pt.U, Pt.locs, Pt.cells, Pt.slots] at X367 l367 y367 z367 st367 hQ367
  rw [l367, y367, z367] at X367
  replace X367 : Stand p l e ({ frames := 5, cells := 8, slots := 72, locals := 110 } : Room) (s.setVm T359.vm) m #[(.ref a)] below meth c T367 _ 4 28 := X367
  obtain ⟨rfl, Nq367, eq367⟩ := hQ367
  have N367 := Fr.app N353 Nq367
  have k368 : ∀ tg_, Steps p.tables e below (T367.setTop (mkF m 83 #[.val (.ref a), .val (.int ps), .val (.ref b335), .unset, .unset] [(.ref b335)])) tg_ → Steps p.tables e below (s₁.setTop (entryFrame m #[(.ref a)] 5)) tg_ := by
    intro tg_ kt
    refine k357 tg_ ?_
    refine st359 _ ?_
    show Steps p.tables e below (T359.setTop (mkF m 69 #[.val (.ref a), .val (.int ps), .val (.ref b335), .unset, .unset] [(.ref b359), (.ref b335)])) _
    refine st367.trans ?_
    show Steps p.tables e below (T367.setTop (mkF m 72 #[.val (.ref a), .val (.int ps), .val (.ref b335), .unset, .unset] [(.int (0 : Int32))])) _
    refine XS.ifYes X367.here hx rfl (pc0 := 72) (pc' := 82) rfl (hb hby d15_72) rfl ((if0 _ _).trans (teq (by decide : (0 : Int32) = (0 : Int32))).1) (by decide) (by decide) ?_
    show Steps p.tables e below (T367.setTop (mkF m 82 #[.val (.ref a), .val (.int ps), .val (.ref b335), .unset, .unset] [])) _
    refine XS.aloadN X367.here hx rfl (hb hby d15_82) rfl rfl ?_
    show Steps p.tables e below (T367.setTop (mkF m 83 #[.val (.ref a), .val (.int ps), .val (.ref b335), .unset, .unset] [(.ref b335)])) _
    exact kt
  obtain ⟨b369, T369, h369, k369, d369, kd369, X369, e369, E369, hS369, hk369, hZ, hown, Ex369, Fc369, Fv369, Av369, -, -, ch369, -, ns369, st369⟩ := ldcCH (s := s) (vm0 := T359.vm) X367 hx hZ hown (hw _ (List.mem_of_getElem? (i := 142) rfl)) (fun d hd => hw d (strW d hd)) eq367 hS359 hk359 hEL (by decide) R360.1 (vs := ([102, 97, 108, 115, 101] : List Int32).map Value.int) (z := (5 : Int32)) (by decide +kernel) (by decide) (by decide) (g := (mkF m 83 #[.val (.ref a), .val (.int ps), .val (.ref b335), .unset, .unset] [(.ref b335)])) rfl (hb hby d15_83) (n := 20) (by decide) (by decide) (by decide) (by decide)
  have R370 := R360.trans ch369
  have sf_b335_370 := ch369.safe (f362).lt sf_b335_360
  replace X369 : Stand p l e ({ frames := 5, cells := 8, slots := 72, locals := 110 } : Room) (s.setVm T369.vm) m #[(.ref a)] below meth c T369 _ 6 52 := X369
  have V369 : own_AI Z h369 d369 .byte 5 own_tx_false := own_ofArv Av369 (by decide) (by decide) (by decide)
  have f371 := (f362.keep ((Keep.refl _ []).ext E369))
  have f372 := (f363.keep ((Keep.refl _ []).ext E369) nin0)
  have f373 := (f364.keep ((Keep.refl _ []).ext E369) nin0)
  have f374 := (f365.keep ((Keep.refl _ []).ext E369) nin0)
  have f375 := (f366.keep ((Keep.refl _ []).ext E369) all0)
  obtain ⟨cq376, kq376, q376a, q376b, q376c⟩ := isOf hZ e369 f371
  obtain ⟨_, _, ⟨T376, L376, kc376, nc376⟩, -, X376, ⟨Lc376, hQ376, l376, y376, z376⟩, st376⟩ := X369.virtualBack hx (y := (⟨"java/lang/String", "equals", "(Ljava/lang/Object;)Z"⟩ : MethodName)) (z := (⟨"java/lang/String", "equals", "(Ljava/lang/Object;)Z"⟩ : MethodName)) hown (mvT hZ (hw _ (List.mem_of_getElem? (i := 133) rfl))) (mvT hZ (hw _ (List.mem_of_getElem? (i := 134) rfl))) (notFace_of_selects (args := #[]) (mvT hZ (hw _ (List.mem_of_getElem? (i := 136) rfl)))) (mvT hZ (hw _ (List.mem_of_getElem? (i := 136) rfl))) (mvT hZ (hw _ (List.mem_of_getElem? (i := 135) rfl))) (by decide) (backOf (W := 0) (rmeqF l Z a0 hw [] b335 b369 zc b353 d369 (own_shift f k) own_tx_false h369 n0 f371 Ex369 f372 f373 Fv369 Fc369 f374 V369 (S_zc.ext f375.2) (ns369 b335 sf_b335_370).1 hz) hZ (hw _ (List.mem_of_getElem? (i := 137) rfl)) (hw _ (List.mem_of_getElem? (i := 6) rfl)) (by decide) (by decide)) q376a q376c (g := (mkF m 85 #[.val (.ref a), .val (.int ps), .val (.ref b335), .unset, .unset] [(.ref b369), (.ref b335)])) rfl (by rw [hml]; rfl) (Steps.refl _) (argsL := [(.ref b369)]) (rest := []) (lenOf pd_18 rfl) rfl (by show 2 * 0 + _ ≤ _; exact Nat.le_of_eq rfl) (hb hby d15_85) (fun _ _ => ⟨rfl, e369, (by decide : 6 + 0 ≤ _), (by decide : 52 + 0 ≤ _)⟩)
  dsimp only [Pt.U, Pt.locs, Pt.cells, Pt.slots] at X376 l376 y376 z376 st376 hQ376
  rw [l376, y376, z376] at X376
  replace X376 : Stand p l e ({ frames := 5, cells := 8, slots := 72, locals := 110 } : Room) (s.setVm T369.vm) m #[(.ref a)] below meth c T376 _ 6 52 := X376
  obtain ⟨rfl, Nq376, eq376⟩ := hQ376
  have N376 := Fr.app N367 Nq376
  have k377 : ∀ tg_, Steps p.tables e below (T376.setTop (mkF m 99 #[.val (.ref a), .val (.int ps), .val (.ref b335), .unset, .unset] [(.ref b335)])) tg_ → Steps p.tables e below (s₁.setTop (entryFrame m #[(.ref a)] 5)) tg_ := by
    intro tg_ kt
    refine k368 tg_ ?_
    refine st369 _ ?_
    show Steps p.tables e below (T369.setTop (mkF m 85 #[.val (.ref a), .val (.int ps), .val (.ref b335), .unset, .unset] [(.ref b369), (.ref b335)])) _
    refine st376.trans ?_
    show Steps p.tables e below (T376.setTop (mkF m 88 #[.val (.ref a), .val (.int ps), .val (.ref b335), .unset, .unset] [(.int (0 : Int32))])) _
    refine XS.ifYes X376.here hx rfl (pc0 := 88) (pc' := 98) rfl (hb hby d15_88) rfl ((if0 _ _).trans (teq (by decide : (0 : Int32) = (0 : Int32))).1) (by decide) (by decide) ?_
    show Steps p.tables e below (T376.setTop (mkF m 98 #[.val (.ref a), .val (.int ps), .val (.ref b335), .unset, .unset] [])) _
    refine XS.aloadN X376.here hx rfl (hb hby d15_98) rfl rfl ?_
    show Steps p.tables e below (T376.setTop (mkF m 99 #[.val (.ref a), .val (.int ps), .val (.ref b335), .unset, .unset] [(.ref b335)])) _
    exact kt
  obtain ⟨b378, T378, h378, k378, d378, kd378, X378, e378, E378, hS378, hk378, hZ, hown, Ex378, Fc378, Fv378, Av378, -, -, ch378, -, ns378, st378⟩ := ldcCH (s := s) (vm0 := T369.vm) X376 hx hZ hown (hw _ (List.mem_of_getElem? (i := 143) rfl)) (fun d hd => hw d (strW d hd)) eq376 hS369 hk369 hEL (by decide) R370.1 (vs := ([110, 117, 108, 108] : List Int32).map Value.int) (z := (4 : Int32)) (by decide +kernel) (by decide) (by decide) (g := (mkF m 99 #[.val (.ref a), .val (.int ps), .val (.ref b335), .unset, .unset] [(.ref b335)])) rfl (hb hby d15_99) (n := 16) (by decide) (by decide) (by decide) (by decide)
  have R379 := R370.trans ch378
  have sf_b335_379 := ch378.safe (f371).lt sf_b335_370
  replace X378 : Stand p l e ({ frames := 5, cells := 8, slots := 72, locals := 110 } : Room) (s.setVm T378.vm) m #[(.ref a)] below meth c T378 _ 8 72 := X378
  have V378 : own_AI Z h378 d378 .byte 4 own_tx_null := own_ofArv Av378 (by decide) (by decide) (by decide)
  have f380 := (f371.keep ((Keep.refl _ []).ext E378))
  have f381 := (f372.keep ((Keep.refl _ []).ext E378) nin0)
  have f382 := (f373.keep ((Keep.refl _ []).ext E378) nin0)
  have f383 := (f374.keep ((Keep.refl _ []).ext E378) nin0)
  have f384 := (f375.keep ((Keep.refl _ []).ext E378) all0)
  obtain ⟨cq385, kq385, q385a, q385b, q385c⟩ := isOf hZ e378 f380
  obtain ⟨_, _, ⟨T385, L385, kc385, nc385⟩, -, X385, ⟨Lc385, hQ385, l385, y385, z385⟩, st385⟩ := X378.virtualBack hx (y := (⟨"java/lang/String", "equals", "(Ljava/lang/Object;)Z"⟩ : MethodName)) (z := (⟨"java/lang/String", "equals", "(Ljava/lang/Object;)Z"⟩ : MethodName)) hown (mvT hZ (hw _ (List.mem_of_getElem? (i := 133) rfl))) (mvT hZ (hw _ (List.mem_of_getElem? (i := 134) rfl))) (notFace_of_selects (args := #[]) (mvT hZ (hw _ (List.mem_of_getElem? (i := 136) rfl)))) (mvT hZ (hw _ (List.mem_of_getElem? (i := 136) rfl))) (mvT hZ (hw _ (List.mem_of_getElem? (i := 135) rfl))) (by decide) (backOf (W := 0) (rmeqN l Z a0 hw [] b335 b378 zc b353 d378 (own_shift f k) own_tx_null h378 n0 f380 Ex378 f381 f382 Fv378 Fc378 f383 V378 (S_zc.ext f384.2) (ns378 b335 sf_b335_379).1 hz hn0 hn1 hn2 hn3 rfl rfl rfl rfl) hZ (hw _ (List.mem_of_getElem? (i := 137) rfl)) (hw _ (List.mem_of_getElem? (i := 6) rfl)) (by decide) (by decide)) q385a q385c (g := (mkF m 101 #[.val (.ref a), .val (.int ps), .val (.ref b335), .unset, .unset] [(.ref b378), (.ref b335)])) rfl (by rw [hml]; rfl) (Steps.refl _) (argsL := [(.ref b378)]) (rest := []) (lenOf pd_18 rfl) rfl (by show 2 * 0 + _ ≤ _; exact Nat.le_of_eq rfl) (hb hby d15_101) (fun _ _ => ⟨rfl, e378, (by decide : 8 + 0 ≤ _), (by decide : 72 + 0 ≤ _)⟩)
  dsimp only [Pt.U, Pt.locs, Pt.cells, Pt.slots] at X385 l385 y385 z385 st385 hQ385
  rw [l385, y385, z385] at X385
  replace X385 : Stand p l e ({ frames := 5, cells := 8, slots := 72, locals := 110 } : Room) (s.setVm T378.vm) m #[(.ref a)] below meth c T385 _ 8 72 := X385
  obtain ⟨rfl, Nq385, eq385⟩ := hQ385
  have N385 := Fr.app N376 Nq385
  obtain ⟨T386, X386, e386, st386⟩ := getS2 X385 hx hZ hown (host := "") (Or.inl (hw _ (List.mem_of_getElem? (i := 144) rfl))) Via.refl eq385 (S_xn.ext f384.2) (g := (mkF m 107 #[.val (.ref a), .val (.int ps), .val (.ref b335), .unset, .unset] [])) rfl (hb hby d15_107)
  have k387 : ∀ tg_, Steps p.tables e below (T386.setTop (mkF m 192 #[.val (.ref a), .val (.int ps), .val (.ref b335), .val (.ref xn), .unset] [(.ref xn)])) tg_ → Steps p.tables e below (s₁.setTop (entryFrame m #[(.ref a)] 5)) tg_ := by
    intro tg_ kt
    refine k377 tg_ ?_
    refine st378 _ ?_
    show Steps p.tables e below (T378.setTop (mkF m 101 #[.val (.ref a), .val (.int ps), .val (.ref b335), .unset, .unset] [(.ref b378), (.ref b335)])) _
    refine st385.trans ?_
    show Steps p.tables e below (T385.setTop (mkF m 104 #[.val (.ref a), .val (.int ps), .val (.ref b335), .unset, .unset] [(.int (1 : Int32))])) _
    refine XS.ifNo X385.here hx rfl (hb hby d15_104) rfl ((if0 _ _).trans (feq (by decide : ¬ ((1 : Int32) = (0 : Int32)))).1) ?_
    show Steps p.tables e below (T385.setTop (mkF m 107 #[.val (.ref a), .val (.int ps), .val (.ref b335), .unset, .unset] [])) _
    refine st386 _ ?_
    show Steps p.tables e below (T386.setTop (mkF m 110 #[.val (.ref a), .val (.int ps), .val (.ref b335), .unset, .unset] [(.ref xn)])) _
    refine XS.astoreN X386.here hx rfl (hb hby d15_110) rfl rfl (l' := #[.val (.ref a), .val (.int ps), .val (.ref b335), .val (.ref xn), .unset]) rfl ?_
    show Steps p.tables e below (T386.setTop (mkF m 111 #[.val (.ref a), .val (.int ps), .val (.ref b335), .val (.ref xn), .unset] [])) _
    refine XS.goto X386.here hx rfl (pc0 := 111) (pc' := 191) rfl (hb hby d15_111) (by decide) (by decide) ?_
    show Steps p.tables e below (T386.setTop (mkF m 191 #[.val (.ref a), .val (.int ps), .val (.ref b335), .val (.ref xn), .unset] [])) _
    refine XS.aloadN X386.here hx rfl (hb hby d15_191) rfl rfl ?_
    show Steps p.tables e below (T386.setTop (mkF m 192 #[.val (.ref a), .val (.int ps), .val (.ref b335), .val (.ref xn), .unset] [(.ref xn)])) _
    exact kt
  have f388 := ((((f356.trans oK353 (allS (Or.inr sz_b335) all0)).trans ((Keep.refl _ []).ext E359) all0).trans ((Keep.refl _ []).ext E369) all0).trans ((Keep.refl _ []).ext E378) all0)
  have f389 := ((((f344.keep oK353 (ninS ne_a_b335 nin0)).keep ((Keep.refl _ []).ext E359) nin0).keep ((Keep.refl _ []).ext E369) nin0).keep ((Keep.refl _ []).ext E378) nin0)
  have f390 := (((((f332.keep ((Keep.refl _ []).ext E335) nin0).keep oK353 (ninS ne_a_b335 nin0)).keep ((Keep.refl _ []).ext E359) nin0).keep ((Keep.refl _ []).ext E369) nin0).keep ((Keep.refl _ []).ext E378) nin0)
  have f391 := ((((f346.keep oK353 (ninS ne_a_b335 nin0)).keep ((Keep.refl _ []).ext E359) nin0).keep ((Keep.refl _ []).ext E369) nin0).keep ((Keep.refl _ []).ext E378) nin0)
  have f392 := ((((((Fld.other W328 (Fld.other W315 (Fld.other W300 (Fld.other W285 F_a_nested (Or.inr (slot_ne (Or.inl (hw _ (List.mem_of_getElem? (i := 62) rfl))) (Or.inl (hw _ (List.mem_of_getElem? (i := 60) rfl))) (by decide) (t := .int) (t' := .int) (by decide) (by decide)))) (Or.inr (slot_ne (Or.inl (hw _ (List.mem_of_getElem? (i := 62) rfl))) (Or.inl (hw _ (List.mem_of_getElem? (i := 60) rfl))) (by decide) (t := .int) (t' := .int) (by decide) (by decide)))) (Or.inr (slot_ne (Or.inl (hw _ (List.mem_of_getElem? (i := 62) rfl))) (Or.inl (hw _ (List.mem_of_getElem? (i := 60) rfl))) (by decide) (t := .int) (t' := .int) (by decide) (by decide)))) (Or.inr (slot_ne (Or.inl (hw _ (List.mem_of_getElem? (i := 62) rfl))) (Or.inl (hw _ (List.mem_of_getElem? (i := 60) rfl))) (by decide) (t := .int) (t' := .int) (by decide) (by decide)))).keep ((Keep.refl _ []).ext E335) nin0).keep oK353 (ninS ne_a_b335 nin0)).keep ((Keep.refl _ []).ext E359) nin0).keep ((Keep.refl _ []).ext E369) nin0).keep ((Keep.refl _ []).ext E378) nin0)
  obtain ⟨fs, hr, hrun, hended, hW1, hW2, hW3, hsame⟩ := Stand.leaveW (s := s) (vm₁ := T378.vm) X386 hS378 (Nat.le_trans hk378 (Nat.le_of_eq (congrArg Array.size (Eq.symm (show T386.heap = h378 from e386))))) (v := some (.ref xn)) (fun h => by rw [Bd.returns] at h; cases h) (hlocks := by first | exact BodyLoose.notSynchronized Bd | exact Body.notSynchronized Bd)
  have hfin : CHr Z consts_1 s.vm s.heap T386.vm T386.heap := by
    rw [hh, show T386.heap = h378 from e386]
    exact R379.trans (CHv.at (s := s) (vm0 := T378.vm) X386 hZ hEL R379.1)
  refine ⟨_, _, k387 _ (retOut X386 hx Bd.returns rfl (Or.inr (Or.inr (Or.inr (Or.inr ⟨rfl, rfl, rfl⟩)))) (hb hby d15_192) hr), hrun, hended, _, _, rfl, ?_, hfin, hW1, hW2, hW3, hsame.mono (by decide) (by decide)⟩
  show Q15 Z a bt en ps ne0 k f zc fm u8 cs xn h0 n0 _ T386.heap _
  rw [e386]
  exact ⟨rfl, N385, f388, f389, f390, f391, f392⟩
theorem pd_9 : parseMethodDescriptor "()Ljava/lang/Object;" = some ⟨[], some (.object "java/lang/Object")⟩ := by decide +kernel
theorem d13_0 : decode prog_23_method_4_code 0 = .ok (.aload_n 0, 1) := by decide +kernel
theorem d13_1 : decode prog_23_method_4_code 1 = .ok (.invokevirtual 23, 3) := by decide +kernel
theorem d13_4 : decode prog_23_method_4_code 4 = .ok (.aload_n 0, 1) := by decide +kernel
theorem d13_5 : decode prog_23_method_4_code 5 = .ok (.getfield 17, 3) := by decide +kernel
theorem d13_8 : decode prog_23_method_4_code 8 = .ok (.aload_n 0, 1) := by decide +kernel
theorem d13_9 : decode prog_23_method_4_code 9 = .ok (.getfield 13, 3) := by decide +kernel
theorem d13_12 : decode prog_23_method_4_code 12 = .ok (.if_icmp .ne 10, 3) := by decide +kernel
theorem d13_22 : decode prog_23_method_4_code 22 = .ok (.aload_n 0, 1) := by decide +kernel
theorem d13_23 : decode prog_23_method_4_code 23 = .ok (.getfield 7, 3) := by decide +kernel
theorem d13_26 : decode prog_23_method_4_code 26 = .ok (.aload_n 0, 1) := by decide +kernel
theorem d13_27 : decode prog_23_method_4_code 27 = .ok (.getfield 17, 3) := by decide +kernel
theorem d13_30 : decode prog_23_method_4_code 30 = .ok (.baload, 1) := by decide +kernel
theorem d13_31 : decode prog_23_method_4_code 31 = .ok (.istore_n 1, 1) := by decide +kernel
theorem d13_32 : decode prog_23_method_4_code 32 = .ok (.iload_n 1, 1) := by decide +kernel
theorem d13_33 : decode prog_23_method_4_code 33 = .ok (.bipush 123, 2) := by decide +kernel
theorem d13_35 : decode prog_23_method_4_code 35 = .ok (.if_icmp .ne 11, 3) := by decide +kernel
theorem d13_46 : decode prog_23_method_4_code 46 = .ok (.iload_n 1, 1) := by decide +kernel
theorem d13_47 : decode prog_23_method_4_code 47 = .ok (.bipush 91, 2) := by decide +kernel
theorem d13_49 : decode prog_23_method_4_code 49 = .ok (.if_icmp .ne 11, 3) := by decide +kernel
theorem d13_60 : decode prog_23_method_4_code 60 = .ok (.iload_n 1, 1) := by decide +kernel
theorem d13_61 : decode prog_23_method_4_code 61 = .ok (.bipush 34, 2) := by decide +kernel
theorem d13_63 : decode prog_23_method_4_code 63 = .ok (.if_icmp .ne 11, 3) := by decide +kernel
theorem d13_74 : decode prog_23_method_4_code 74 = .ok (.iload_n 1, 1) := by decide +kernel
theorem d13_75 : decode prog_23_method_4_code 75 = .ok (.bipush 45, 2) := by decide +kernel
theorem d13_77 : decode prog_23_method_4_code 77 = .ok (.if_icmp .eq 10, 3) := by decide +kernel
theorem d13_80 : decode prog_23_method_4_code 80 = .ok (.iload_n 1, 1) := by decide +kernel
theorem d13_81 : decode prog_23_method_4_code 81 = .ok (.invokestatic 44, 3) := by decide +kernel
theorem d13_84 : decode prog_23_method_4_code 84 = .ok (.ifCond .eq 11, 3) := by decide +kernel
theorem d13_95 : decode prog_23_method_4_code 95 = .ok (.aload_n 0, 1) := by decide +kernel
theorem d13_96 : decode prog_23_method_4_code 96 = .ok (.invokevirtual 52, 3) := by decide +kernel
theorem d13_99 : decode prog_23_method_4_code 99 = .ok (.astore_n 2, 1) := by decide +kernel
theorem d13_100 : decode prog_23_method_4_code 100 = .ok (.aload_n 2, 1) := by decide +kernel
theorem d13_101 : decode prog_23_method_4_code 101 = .ok (.areturn, 1) := by decide +kernel
theorem pn_13 : plainName "com/example/benzer/benzer/cli/JsonReader" = true := by first | (simp [plainName, overriddenIn]; done) | decide +kernel
theorem ef_13 (m : MethodId) (x0 : Addr) : entryFrame m #[(.ref x0)] 3 = mkF m 0 #[.val (.ref x0), .unset, .unset] [] := by first | (simp [entryFrame, mkF, argsToLocals, Value.category]; done) | rfl
def Q13 (Z : State) (a : Addr) (bt : Addr) (en : Int32) (ps : Int32) (ne0 : Int32) (k : Nat) (f : Nat → Int32) (zc : Int32) (fm : Value) (u8 : Addr) (cs : Addr) (xn : Addr) (h0 : Heap) (n0 : Nat) (rv_ : Option Value) (h : Heap) (LL_ : List Loc) : Prop := rv_ = some (.ref xn) ∧ Fr n0 LL_ ∧ Keep h0 h [a] ∧ Fld Z h a "com/example/benzer/benzer/cli/JsonReader" "bytes" "[B" (.ref bt) ∧ Fld Z h a "com/example/benzer/benzer/cli/JsonReader" "end" "I" (.int en) ∧ Fld Z h a "com/example/benzer/benzer/cli/JsonReader" "at" "I" (.int ((((ps + (1 : Int32)) + (1 : Int32)) + (1 : Int32)) + (1 : Int32))) ∧ Fld Z h a "com/example/benzer/benzer/cli/JsonReader" "nested" "I" (.int ne0)
set_option maxRecDepth 65536 in
set_option maxHeartbeats 40000000 in
theorem rm13 (l : Launch) (Z : State) (a0 : Array Value) (hw : ∀ d ∈ tables_1, d.before a0 Z = true) (ws : List Jvm.Cond) (a : Addr) (bt : Addr) (en : Int32) (ps : Int32) (ne0 : Int32) (k : Nat) (f : Nat → Int32) (zc : Int32) (fm : Value) (u8 : Addr) (cs : Addr) (xn : Addr) (h0 : Heap) (n0 : Nat) (Z0 : n0 ≤ h0.size) (E_a : Exa Z h0 a "com/example/benzer/benzer/cli/JsonReader") (F_a_bytes : Fld Z h0 a "com/example/benzer/benzer/cli/JsonReader" "bytes" "[B" (.ref bt)) (F_a_end : Fld Z h0 a "com/example/benzer/benzer/cli/JsonReader" "end" "I" (.int en)) (F_a_at : Fld Z h0 a "com/example/benzer/benzer/cli/JsonReader" "at" "I" (.int (0 : Int32))) (F_a_nested : Fld Z h0 a "com/example/benzer/benzer/cli/JsonReader" "nested" "I" (.int ne0)) (V_bt : own_AI Z h0 bt .byte 8 f) (g_a : n0 ≤ a) (ne_a_bt : a ≠ bt) (ne_cs_u8 : cs ≠ u8) (S_zc : Sta Z Z.heap "java/lang/String" "COMPACT_STRINGS" "Z" (.int zc)) (S_fm : Sta Z Z.heap "jdk/internal/util/Preconditions" "SIOOBE_FORMATTER" "Ljava/util/function/BiFunction;" fm) (S_u8 : Sta Z Z.heap "sun/nio/cs/UTF_8" "INSTANCE" "Lsun/nio/cs/UTF_8;" (.ref u8)) (S_is : Sta Z Z.heap "sun/nio/cs/ISO_8859_1" "INSTANCE" "Lsun/nio/cs/ISO_8859_1;" (.ref cs)) (S_so : Sta Z Z.heap "java/nio/charset/StandardCharsets" "ISO_8859_1" "Ljava/nio/charset/Charset;" (.ref cs)) (S_xn : Sta Z Z.heap "com/example/benzer/benzer/cli/JsonReader" "NULL" "Ljava/lang/Object;" (.ref xn)) (E_cs : Exa Z Z.heap cs "sun/nio/cs/ISO_8859_1") (X00 : Old Z n0 h0) (hz : ¬ zc = (0 : Int32)) (hfm : fm.isRef = true) (hk : ps.toInt = (k : Int)) (hk3 : k ≤ 3) (hen : en.toInt = ((k + 4 : Nat) : Int)) (hfit : ∀ j, j < 8 → fits .byte (.int (f j)) = true) (hn0 : f (k) = (110 : Int32)) (hn1 : f (k + 1) = (117 : Int32)) (hn2 : f (k + 1 + 1) = (108 : Int32)) (hn3 : f (k + 1 + 1 + 1) = (108 : Int32)) (hs32 : ∀ x, x < k → f x = (32 : Int32)) :
    MetFree l (⟨"com/example/benzer/benzer/cli/JsonReader", "value", "()Ljava/lang/Object;"⟩ : MethodName) (head1 (Jvm.Cond.code (⟨"com/example/benzer/benzer/cli/JsonReader", "value", "()Ljava/lang/Object;"⟩ : MethodName) prog_23_method_4_code 3 (some (.object "java/lang/Object")) :: ws) ({ frames := 6, cells := 8, slots := 72, locals := 126 } : Room)) (fun aa UU => aa = #[(.ref a)] ∧ Z.Warmed39 UU.vm ∧ UU.heap = h0 ∧ CHv Z consts_1 UU.vm h0) (fun _ _ _ _ _ => True) (fun _ UU oo UV => ∃ vv LL, oo = .returned vv ∧ Q13 Z a bt en ps ne0 k f zc fm u8 cs xn h0 n0 vv UV.heap LL ∧ CHr Z consts_1 UU.vm UU.heap UV.vm UV.heap ∧ ReturnedEndW UU oo UV LL ({ frames := 6, cells := 8, slots := 72, locals := 126 } : Room).cells ({ frames := 6, cells := 8, slots := 72, locals := 126 } : Room).slots) := by
  refine MetFree.of_bodySF (plainFor_of_name pn_13) hisR ?_
  intro p e s m args below meth c s₁ Bd hml0 hP hK
  obtain ⟨rfl, hZ, hh, hH0⟩ := hP
  have hx := Bd.exec
  have hby := Bd.bytes
  have hml : c.maxLocals = 3 := hml0
  have hown : s.vm.findClass "com/example/benzer/benzer/cli/JsonReader" = some m.cls := findClass_of_methodNamed Bd.named
  have hnm := (name_of_methodNamed Bd.named Bd.method).1
  have X0 : Stand p l e ({ frames := 6, cells := 8, slots := 72, locals := 126 } : Room) s m #[(.ref a)] below meth c s₁ [] 0 0 := Stand.of_body Bd
  have e0 : s₁.heap = h0 := by rw [← hh, Bd.state]; rfl
  have N0 := Fr.nil n0
  have k0 : ∀ tg_, Steps p.tables e below (s₁.setTop (mkF m 0 #[.val (.ref a), .unset, .unset] [])) tg_ → Steps p.tables e below (s₁.setTop (entryFrame m #[(.ref a)] 3)) tg_ := fun tg_ k => castTop (ef_13 m a) k
  have hS0 : s.Since s.vm s.heap.size := (State.WarmedH.refl s).since _
  have hY0 : s.heap.size ≤ h0.size := Nat.le_of_eq (by rw [← hh])
  have hEL : EW Z a0 consts_1 := own_EW hw
  have R0 := CHr.refl hH0
  obtain ⟨cq393, q393, q393'⟩ := Exa.cell E_a
  obtain ⟨_, _, ⟨T393, L393, kc393, nc393⟩, -, X393, ⟨Lc393, hQ393, l393, y393, z393⟩, st393⟩ := X0.privateBack hx (y := (⟨"com/example/benzer/benzer/cli/JsonReader", "skipSpace", "()V"⟩ : MethodName)) hown (mvT hZ (hw _ (List.mem_of_getElem? (i := 68) rfl))) (mvT hZ (hw _ (List.mem_of_getElem? (i := 69) rfl))) (own_selP (y' := (⟨"com/example/benzer/benzer/cli/JsonReader", "start", "([BI)V"⟩ : MethodName)) rfl (mvT hZ (hw _ (List.mem_of_getElem? (i := 53) rfl))) (mvT hZ (hw _ (List.mem_of_getElem? (i := 52) rfl))) (mvP hZ (hw _ (List.mem_of_getElem? (i := 70) rfl))) (mvT hZ (hw _ (List.mem_of_getElem? (i := 69) rfl))) (by decide)) (Cond.privateMethod_at (mvP hZ (hw _ (List.mem_of_getElem? (i := 70) rfl)) (args := #[]))) (mvT hZ (hw _ (List.mem_of_getElem? (i := 71) rfl))) (by decide) (backOf (W := 0) (rm12 l Z a0 hw [] a bt en (0 : Int32) ne0 8 f 0 k (k + 4) ps h0 n0 Z0 E_a F_a_bytes F_a_end F_a_at F_a_nested V_bt g_a ne_a_bt (by decide) hen (by omega) (by omega) (by omega) (fun x hx => Or.inl (by rw [Nat.zero_add]; exact hs32 x hx)) (fun _ => by rw [Nat.zero_add, hn0]; unfold own_sp; decide) (by rw [Nat.zero_add]; exact hk)) hZ (hw _ (List.mem_of_getElem? (i := 71) rfl)) (hw _ (List.mem_of_getElem? (i := 43) rfl)) (by decide) (by decide)) (g := (mkF m 1 #[.val (.ref a), .unset, .unset] [(.ref a)])) rfl (by rw [hml]; rfl) (Steps.refl _) (a := a) (by rw [e0]; exact q393) q393' (argsL := []) (rest := []) (lenOf pd_7 rfl) rfl (by show 2 * 0 + _ ≤ _; exact Nat.le_of_eq rfl) (hb hby d13_1) (fun _ _ => ⟨rfl, e0, (by decide : 0 + 0 ≤ _), (by decide : 0 + 0 ≤ _)⟩)
  dsimp only [Pt.U, Pt.locs, Pt.cells, Pt.slots] at X393 l393 y393 z393 st393 hQ393
  rw [l393, y393, z393] at X393
  replace X393 : Stand p l e ({ frames := 6, cells := 8, slots := 72, locals := 126 } : Room) s m #[(.ref a)] below meth c T393 _ 0 0 := X393
  obtain ⟨rfl, Nq393, oK393, oFabytes393, oFaend393, oFaat393, oFanested393⟩ := hQ393
  have N393 := Fr.app N0 Nq393
  have C394 := CHr.keep oK393 (sfS (Safe.exa hZ.alike E_a (by decide) (by decide)) sf0) R0.1
  have R394 := R0.trans C394
  obtain ⟨T395, X395, e395, st395⟩ := getF X393 hx hZ hown (host := "") (Or.inl (hw _ (List.mem_of_getElem? (i := 59) rfl))) Via.refl rfl oFaat393 (g := (mkF m 5 #[.val (.ref a), .unset, .unset] [(.ref a)])) rfl rfl (hb hby d13_5)
  obtain ⟨T396, X396, e396, st396⟩ := getF X395 hx hZ hown (host := "") (Or.inl (hw _ (List.mem_of_getElem? (i := 57) rfl))) Via.refl e395 oFaend393 (g := (mkF m 9 #[.val (.ref a), .unset, .unset] [(.ref a), (.int ps)])) rfl rfl (hb hby d13_9)
  have hc12_397 : ¬ (ps = en) := (fun q => by rw [q] at hk; omega)
  obtain ⟨T398, X398, e398, st398⟩ := getF X396 hx hZ hown (host := "") (Or.inl (hw _ (List.mem_of_getElem? (i := 55) rfl))) Via.refl e396 oFabytes393 (g := (mkF m 23 #[.val (.ref a), .unset, .unset] [(.ref a)])) rfl rfl (hb hby d13_23)
  obtain ⟨T399, X399, e399, st399⟩ := getF X398 hx hZ hown (host := "") (Or.inl (hw _ (List.mem_of_getElem? (i := 59) rfl))) Via.refl e398 oFaat393 (g := (mkF m 27 #[.val (.ref a), .unset, .unset] [(.ref a), (.ref bt)])) rfl rfl (hb hby d13_27)
  have f400 := (V_bt.keep oK393 (ninS (Ne.symm ne_a_bt) nin0))
  have k401 : ∀ tg_, Steps p.tables e below (T399.setTop (mkF m 81 #[.val (.ref a), .val (.int (110 : Int32)), .unset] [(.int (110 : Int32))])) tg_ → Steps p.tables e below (s₁.setTop (entryFrame m #[(.ref a)] 3)) tg_ := by
    intro tg_ kt
    refine k0 tg_ ?_
    refine XS.aloadN X0.here hx rfl (hb hby d13_0) rfl rfl ?_
    show Steps p.tables e below (s₁.setTop (mkF m 1 #[.val (.ref a), .unset, .unset] [(.ref a)])) _
    refine st393.trans ?_
    show Steps p.tables e below (T393.setTop (mkF m 4 #[.val (.ref a), .unset, .unset] [])) _
    refine XS.aloadN X393.here hx rfl (hb hby d13_4) rfl rfl ?_
    show Steps p.tables e below (T393.setTop (mkF m 5 #[.val (.ref a), .unset, .unset] [(.ref a)])) _
    refine st395 _ ?_
    show Steps p.tables e below (T395.setTop (mkF m 8 #[.val (.ref a), .unset, .unset] [(.int ps)])) _
    refine XS.aloadN X395.here hx rfl (hb hby d13_8) rfl rfl ?_
    show Steps p.tables e below (T395.setTop (mkF m 9 #[.val (.ref a), .unset, .unset] [(.ref a), (.int ps)])) _
    refine st396 _ ?_
    show Steps p.tables e below (T396.setTop (mkF m 12 #[.val (.ref a), .unset, .unset] [(.int en), (.int ps)])) _
    refine XS.icmpYes X396.here hx rfl (pc0 := 12) (pc' := 22) rfl (hb hby d13_12) rfl (feq hc12_397).2 (by decide) (by decide) ?_
    show Steps p.tables e below (T396.setTop (mkF m 22 #[.val (.ref a), .unset, .unset] [])) _
    refine XS.aloadN X396.here hx rfl (hb hby d13_22) rfl rfl ?_
    show Steps p.tables e below (T396.setTop (mkF m 23 #[.val (.ref a), .unset, .unset] [(.ref a)])) _
    refine st398 _ ?_
    show Steps p.tables e below (T398.setTop (mkF m 26 #[.val (.ref a), .unset, .unset] [(.ref bt)])) _
    refine XS.aloadN X398.here hx rfl (hb hby d13_26) rfl rfl ?_
    show Steps p.tables e below (T398.setTop (mkF m 27 #[.val (.ref a), .unset, .unset] [(.ref a), (.ref bt)])) _
    refine st399 _ ?_
    show Steps p.tables e below (T399.setTop (mkF m 30 #[.val (.ref a), .unset, .unset] [(.int ps), (.ref bt)])) _
    refine own_ldB X399 hx hZ e399 f400 (i := k) hk (by omega) hn0 (g := (mkF m 30 #[.val (.ref a), .unset, .unset] [(.int ps), (.ref bt)])) rfl rfl (hb hby d13_30) _ ?_
    show Steps p.tables e below (T399.setTop (mkF m 31 #[.val (.ref a), .unset, .unset] [(.int (110 : Int32))])) _
    refine XS.istoreN X399.here hx rfl (hb hby d13_31) rfl (l' := #[.val (.ref a), .val (.int (110 : Int32)), .unset]) rfl ?_
    show Steps p.tables e below (T399.setTop (mkF m 32 #[.val (.ref a), .val (.int (110 : Int32)), .unset] [])) _
    refine XS.iloadN X399.here hx rfl (hb hby d13_32) rfl ?_
    show Steps p.tables e below (T399.setTop (mkF m 33 #[.val (.ref a), .val (.int (110 : Int32)), .unset] [(.int (110 : Int32))])) _
    refine XS.bipush X399.here hx rfl (hb hby d13_33) ?_
    show Steps p.tables e below (T399.setTop (mkF m 35 #[.val (.ref a), .val (.int (110 : Int32)), .unset] [(.int (123 : Int32)), (.int (110 : Int32))])) _
    refine XS.icmpYes X399.here hx rfl (pc0 := 35) (pc' := 46) rfl (hb hby d13_35) rfl (feq (by decide : ¬ ((110 : Int32) = (123 : Int32)))).2 (by decide) (by decide) ?_
    show Steps p.tables e below (T399.setTop (mkF m 46 #[.val (.ref a), .val (.int (110 : Int32)), .unset] [])) _
    refine XS.iloadN X399.here hx rfl (hb hby d13_46) rfl ?_
    show Steps p.tables e below (T399.setTop (mkF m 47 #[.val (.ref a), .val (.int (110 : Int32)), .unset] [(.int (110 : Int32))])) _
    refine XS.bipush X399.here hx rfl (hb hby d13_47) ?_
    show Steps p.tables e below (T399.setTop (mkF m 49 #[.val (.ref a), .val (.int (110 : Int32)), .unset] [(.int (91 : Int32)), (.int (110 : Int32))])) _
    refine XS.icmpYes X399.here hx rfl (pc0 := 49) (pc' := 60) rfl (hb hby d13_49) rfl (feq (by decide : ¬ ((110 : Int32) = (91 : Int32)))).2 (by decide) (by decide) ?_
    show Steps p.tables e below (T399.setTop (mkF m 60 #[.val (.ref a), .val (.int (110 : Int32)), .unset] [])) _
    refine XS.iloadN X399.here hx rfl (hb hby d13_60) rfl ?_
    show Steps p.tables e below (T399.setTop (mkF m 61 #[.val (.ref a), .val (.int (110 : Int32)), .unset] [(.int (110 : Int32))])) _
    refine XS.bipush X399.here hx rfl (hb hby d13_61) ?_
    show Steps p.tables e below (T399.setTop (mkF m 63 #[.val (.ref a), .val (.int (110 : Int32)), .unset] [(.int (34 : Int32)), (.int (110 : Int32))])) _
    refine XS.icmpYes X399.here hx rfl (pc0 := 63) (pc' := 74) rfl (hb hby d13_63) rfl (feq (by decide : ¬ ((110 : Int32) = (34 : Int32)))).2 (by decide) (by decide) ?_
    show Steps p.tables e below (T399.setTop (mkF m 74 #[.val (.ref a), .val (.int (110 : Int32)), .unset] [])) _
    refine XS.iloadN X399.here hx rfl (hb hby d13_74) rfl ?_
    show Steps p.tables e below (T399.setTop (mkF m 75 #[.val (.ref a), .val (.int (110 : Int32)), .unset] [(.int (110 : Int32))])) _
    refine XS.bipush X399.here hx rfl (hb hby d13_75) ?_
    show Steps p.tables e below (T399.setTop (mkF m 77 #[.val (.ref a), .val (.int (110 : Int32)), .unset] [(.int (45 : Int32)), (.int (110 : Int32))])) _
    refine XS.icmpNo X399.here hx rfl (hb hby d13_77) rfl (feq (by decide : ¬ ((110 : Int32) = (45 : Int32)))).1 ?_
    show Steps p.tables e below (T399.setTop (mkF m 80 #[.val (.ref a), .val (.int (110 : Int32)), .unset] [])) _
    refine XS.iloadN X399.here hx rfl (hb hby d13_80) rfl ?_
    show Steps p.tables e below (T399.setTop (mkF m 81 #[.val (.ref a), .val (.int (110 : Int32)), .unset] [(.int (110 : Int32))])) _
    exact kt
  obtain ⟨_, _, ⟨T402, L402, kc402, nc402⟩, -, X402, ⟨Lc402, hQ402, l402, y402, z402⟩, st402⟩ := Jvm.LawKit.callS X399 hx (y := (⟨"com/example/benzer/benzer/cli/JsonReader", "isDigit", "(B)Z"⟩ : MethodName)) hown (mvT hZ (hw _ (List.mem_of_getElem? (i := 77) rfl))) (mvT hZ (hw _ (List.mem_of_getElem? (i := 78) rfl))) (mvT hZ (hw _ (List.mem_of_getElem? (i := 43) rfl))) (mvT hZ (hw _ (List.mem_of_getElem? (i := 79) rfl))) (by decide) (backOf (W := 0) (rm14 l Z a0 hw [] (110 : Int32) T393.heap n0 ) hZ (hw _ (List.mem_of_getElem? (i := 79) rfl)) (hw _ (List.mem_of_getElem? (i := 43) rfl)) (by decide) (by decide)) (g := (mkF m 81 #[.val (.ref a), .val (.int (110 : Int32)), .unset] [(.int (110 : Int32))])) rfl (by rw [hml]; rfl) (argsL := [(.int (110 : Int32))]) (rest := []) (lenOf pd_6 rfl) rfl (by show 2 * 0 + _ ≤ _; exact Nat.le_of_eq rfl) (hb hby d13_81) (fun _ _ => ⟨rfl, e399, (by decide : 0 + 0 ≤ _), (by decide : 0 + 0 ≤ _)⟩)
  dsimp only [Pt.U, Pt.locs, Pt.cells, Pt.slots] at X402 l402 y402 z402 st402 hQ402
  rw [l402, y402, z402] at X402
  replace X402 : Stand p l e ({ frames := 6, cells := 8, slots := 72, locals := 126 } : Room) s m #[(.ref a)] below meth c T402 _ 0 0 := X402
  obtain ⟨rfl, Nq402, eq402⟩ := hQ402
  have N402 := Fr.app N393 Nq402
  have hc84_403 : (own_dg (110 : Int32)) = (0 : Int32) := (by decide)
  have f404 := (Nat.le_trans Z0 oK393.1)
  have f405 := (E_a.keep oK393)
  have f406 := (X00.keep oK393 (allS g_a all0))
  have k408 : ∀ tg_, Steps p.tables e below (T402.setTop (mkF m 96 #[.val (.ref a), .val (.int (110 : Int32)), .unset] [(.ref a)])) tg_ → Steps p.tables e below (s₁.setTop (entryFrame m #[(.ref a)] 3)) tg_ := by
    intro tg_ kt
    refine k401 tg_ ?_
    refine st402 _ ?_
    show Steps p.tables e below (T402.setTop (mkF m 84 #[.val (.ref a), .val (.int (110 : Int32)), .unset] [(.int (own_dg (110 : Int32)))])) _
    refine XS.ifYes X402.here hx rfl (pc0 := 84) (pc' := 95) rfl (hb hby d13_84) rfl ((if0 _ _).trans (teq hc84_403).1) (by decide) (by decide) ?_
    show Steps p.tables e below (T402.setTop (mkF m 95 #[.val (.ref a), .val (.int (110 : Int32)), .unset] [])) _
    refine XS.aloadN X402.here hx rfl (hb hby d13_95) rfl rfl ?_
    show Steps p.tables e below (T402.setTop (mkF m 96 #[.val (.ref a), .val (.int (110 : Int32)), .unset] [(.ref a)])) _
    exact kt
  obtain ⟨cq407, q407, q407'⟩ := Exa.cell f405
  obtain ⟨_, _, ⟨T407, L407, kc407, nc407⟩, -, X407, hs407, gr407, ⟨Lc407, hQ407, l407, y407, z407, ch407⟩, st407⟩ := X402.privateBackS hx (y := (⟨"com/example/benzer/benzer/cli/JsonReader", "literal", "()Ljava/lang/Object;"⟩ : MethodName)) hown (mvT hZ (hw _ (List.mem_of_getElem? (i := 80) rfl))) (mvT hZ (hw _ (List.mem_of_getElem? (i := 81) rfl))) (own_selP (y' := (⟨"com/example/benzer/benzer/cli/JsonReader", "start", "([BI)V"⟩ : MethodName)) rfl (mvT hZ (hw _ (List.mem_of_getElem? (i := 53) rfl))) (mvT hZ (hw _ (List.mem_of_getElem? (i := 52) rfl))) (mvP hZ (hw _ (List.mem_of_getElem? (i := 82) rfl))) (mvT hZ (hw _ (List.mem_of_getElem? (i := 81) rfl))) (by decide)) (Cond.privateMethod_at (mvP hZ (hw _ (List.mem_of_getElem? (i := 82) rfl)) (args := #[]))) (mvT hZ (hw _ (List.mem_of_getElem? (i := 83) rfl))) (by decide) (backOfSH (s := s) (vm0 := s.vm) (W := 0) (rm15 l Z a0 hw [] a bt en ps ne0 k f zc fm u8 cs xn T393.heap n0 f404 f405 oFabytes393 oFaend393 oFaat393 oFanested393 f400 g_a ne_a_bt ne_cs_u8 S_zc S_fm S_u8 S_is S_so S_xn E_cs f406 hz hfm hk hk3 hen hfit hn0 hn1 hn2 hn3) hZ (hw _ (List.mem_of_getElem? (i := 83) rfl)) (hw _ (List.mem_of_getElem? (i := 43) rfl)) (by decide) (by decide) hEL R394.1) (g := (mkF m 96 #[.val (.ref a), .val (.int (110 : Int32)), .unset] [(.ref a)])) rfl (by rw [hml]; rfl) (Steps.refl _) (a := a) (by rw [eq402]; exact q407) q407' (argsL := []) (rest := []) (lenOf pd_9 rfl) rfl (by show 2 * 0 + _ ≤ _; exact Nat.le_of_eq rfl) (hb hby d13_96) (fun _ _ => ⟨rfl, eq402, (by decide : 0 + 8 ≤ _), (by decide : 0 + 72 ≤ _)⟩)
  dsimp only [Pt.U, Pt.locs, Pt.cells, Pt.slots] at X407 l407 y407 z407 st407 hQ407 hs407 gr407 ch407
  rw [l407, y407, z407] at X407
  have f409 := (Nat.le_trans hY0 oK393.1)
  obtain ⟨X407, hS407, hZ, hown⟩ := rebS (s := s) (vm0 := s.vm) (vm1 := T407.vm) hS0 (Nat.le_trans f409 (Nat.le_of_eq (congrArg Array.size (Eq.symm (show T402.heap = T393.heap from eq402))))) X407 hs407 gr407 hZ hown
  replace X407 : Stand p l e ({ frames := 6, cells := 8, slots := 72, locals := 126 } : Room) (s.setVm T407.vm) m #[(.ref a)] below meth c T407 _ 8 72 := X407
  obtain ⟨rfl, Nq407, oK407, oFabytes407, oFaend407, oFaat407, oFanested407⟩ := hQ407
  have N407 := Fr.app N402 Nq407
  have R410 := R394.trans ch407
  have k411 : ∀ tg_, Steps p.tables e below (T407.setTop (mkF m 101 #[.val (.ref a), .val (.int (110 : Int32)), .val (.ref xn)] [(.ref xn)])) tg_ → Steps p.tables e below (s₁.setTop (entryFrame m #[(.ref a)] 3)) tg_ := by
    intro tg_ kt
    refine k408 tg_ ?_
    refine st407.trans ?_
    show Steps p.tables e below (T407.setTop (mkF m 99 #[.val (.ref a), .val (.int (110 : Int32)), .unset] [(.ref xn)])) _
    refine XS.astoreN X407.here hx rfl (hb hby d13_99) rfl rfl (l' := #[.val (.ref a), .val (.int (110 : Int32)), .val (.ref xn)]) rfl ?_
    show Steps p.tables e below (T407.setTop (mkF m 100 #[.val (.ref a), .val (.int (110 : Int32)), .val (.ref xn)] [])) _
    refine XS.aloadN X407.here hx rfl (hb hby d13_100) rfl rfl ?_
    show Steps p.tables e below (T407.setTop (mkF m 101 #[.val (.ref a), .val (.int (110 : Int32)), .val (.ref xn)] [(.ref xn)])) _
    exact kt
  have f412 := (((Keep.refl h0 [a]).trans oK393 (allS (Or.inl (List.mem_of_getElem? (i := 0) rfl)) all0)).trans oK407 (allS (Or.inl (List.mem_of_getElem? (i := 0) rfl)) all0))
  obtain ⟨fs, hr, hrun, hended, hW1, hW2, hW3, hsame⟩ := Stand.leaveW (s := s) (vm₁ := T407.vm) X407 hS407 (Nat.le_trans (Nat.le_refl T407.heap.size) (Nat.le_of_eq (congrArg Array.size (Eq.symm (show T407.heap = T407.heap from rfl))))) (v := some (.ref xn)) (fun h => by rw [Bd.returns] at h; cases h) (hlocks := by first | exact BodyLoose.notSynchronized Bd | exact Body.notSynchronized Bd)
  have hfin : CHr Z consts_1 s.vm s.heap T407.vm T407.heap := by
    rw [hh]
    exact R410.trans (CHv.at (s := s) (vm0 := T407.vm) X407 hZ hEL R410.1)
  refine ⟨_, _, k411 _ (retOut X407 hx Bd.returns rfl (Or.inr (Or.inr (Or.inr (Or.inr ⟨rfl, rfl, rfl⟩)))) (hb hby d13_101) hr), hrun, hended, _, _, rfl, ?_, hfin, hW1, hW2, hW3, hsame.mono (by decide) (by decide)⟩
  show Q13 Z a bt en ps ne0 k f zc fm u8 cs xn h0 n0 _ T407.heap _
  exact ⟨rfl, N407, f412, oFabytes407, oFaend407, oFaat407, oFanested407⟩

theorem own_ns0 {b : Int32} (h : own_ns b = 0) : own_sp b := by
  unfold own_sp
  rw [own_ns] at h
  by_cases q1 : b = 32
  · exact Or.inl q1
  by_cases q2 : b = 9
  · exact Or.inr (Or.inl q2)
  by_cases q3 : b = 13
  · exact Or.inr (Or.inr (Or.inl q3))
  by_cases q4 : b = 10
  · exact Or.inr (Or.inr (Or.inr q4))
  rw [if_neg q1, if_neg q2, if_neg q3, if_neg q4] at h
  exact absurd h (by decide)
theorem own_ns1 {b : Int32} (h : ¬ own_ns b = 0) : ¬ own_sp b := by
  rintro (rfl | rfl | rfl | rfl) <;> exact h (by decide)
theorem own_first (f : Nat → Int32) : ∀ L : Nat, ∃ M, M ≤ L ∧ (∀ x, x < M → own_sp (f x)) ∧ (M < L → ¬ own_sp (f M))
  | 0 => ⟨0, Nat.le_refl _, fun x hx => absurd hx (Nat.not_lt_zero _), fun h => absurd h (Nat.lt_irrefl _)⟩
  | L + 1 => by
    obtain ⟨M, a, b, d⟩ := own_first f L
    by_cases q : M = L
    · subst q
      by_cases r : own_sp (f M)
      · exact ⟨M + 1, Nat.le_refl _, fun x hx => by rcases (by omega : x < M ∨ x = M) with y | y; exact b x y; rw [y]; exact r, fun h => absurd h (Nat.lt_irrefl _)⟩
      · exact ⟨M, by omega, b, fun _ => r⟩
    · exact ⟨M, by omega, b, fun _ => d (by omega)⟩
theorem own_fin {f : Nat → Int32} {L M : Nat} {z len ex : Int32} (hz : z.toInt = ((0 + M : Nat) : Int)) (hl : len.toInt = (L : Int)) (hM : M ≤ L) (hsp : ∀ x, x < M → own_sp (f x)) (hst : M < L → ¬ own_sp (f M)) (he : (ex = (1 : Int32) ∧ ∃ j, j < L ∧ ¬ own_sp (f j)) ∨ (ex = (0 : Int32) ∧ ∀ j, j < L → own_sp (f j))) : own_hm z len = ex := by
  rw [own_hm]
  rcases he with ⟨rfl, j, hj, hn⟩ | ⟨rfl, ha⟩
  · rw [if_pos (Int32.lt_iff_toInt_lt.mpr (by
      rw [hz, hl]
      have : M ≤ j := by
        rcases Nat.lt_or_ge j M with q | q
        · exact absurd (hsp j q) hn
        · exact q
      omega))]
  · rw [if_neg (fun q => by
      have q' := Int32.lt_iff_toInt_lt.mp q
      rw [hz, hl] at q'
      exact hst (by omega) (ha M (by omega)))]
theorem own_and3 (d : Int32) : ∃ k : Nat, (d &&& (3 : Int32)).toInt = (k : Int) ∧ k ≤ 3 := by
  have e := c_mask d 3 2 (by decide) (by decide)
  exact ⟨(d &&& 3).toInt.toNat, by omega, by omega⟩
theorem own_rem7 (c : Int32) : ∃ L : Nat, ((c &&& (2147483647 : Int32)) % (7 : Int32)).toInt = (L : Int) ∧ L ≤ 6 := by
  have e := c_mask c 2147483647 31 (by decide) (by decide)
  have g := (c_iremV (c &&& 2147483647) 7).1 (by rw [e]; exact Int.emod_nonneg _ (by decide)) (by decide)
  have o : (7 : Int32).toInt = 7 := by decide
  exact ⟨((c &&& 2147483647) % 7).toInt.toNat, by omega, by omega⟩
theorem own_hm0 {z en : Int32} (h : ¬ z.toInt < en.toInt) : own_hm z en = 0 := by rw [own_hm, if_neg (fun q => h (Int32.lt_iff_toInt_lt.mp q))]

def own_prev (p : Int32) : Nat → Int32 := (own_upd (own_upd (own_upd (own_upd (own_upd (own_upd (own_upd (own_upd (fun _ => 0) 0 ((own_pb (0 : Int32) p).toInt8.toInt32)) 1 ((own_pb (1 : Int32) p).toInt8.toInt32)) 2 ((own_pb (2 : Int32) p).toInt8.toInt32)) 3 ((own_pb (3 : Int32) p).toInt8.toInt32)) 4 ((own_pb (4 : Int32) p).toInt8.toInt32)) 5 ((own_pb (5 : Int32) p).toInt8.toInt32)) 6 ((own_pb (6 : Int32) p).toInt8.toInt32)) 7 ((own_pb (7 : Int32) p).toInt8.toInt32))

theorem own_prev_ok {p : Int32} {k : Nat} (hk : p.toInt = (k : Int)) (hk3 : k ≤ 3) : (∀ j, j < 8 → fits .byte (.int (own_prev p j)) = true) ∧ (∀ x, x < k → own_prev p x = (32 : Int32)) ∧ own_prev p k = (110 : Int32) ∧ own_prev p (k + 1) = (117 : Int32) ∧ own_prev p (k + 1 + 1) = (108 : Int32) ∧ own_prev p (k + 1 + 1 + 1) = (108 : Int32) := by
  rcases (by omega : k = 0 ∨ k = 1 ∨ k = 2 ∨ k = 3) with rfl | rfl | rfl | rfl
  · obtain rfl : p = 0 := Int32.toInt_inj.mp (by rw [hk]; decide)
    decide +kernel
  · obtain rfl : p = 1 := Int32.toInt_inj.mp (by rw [hk]; decide)
    decide +kernel
  · obtain rfl : p = 2 := Int32.toInt_inj.mp (by rw [hk]; decide)
    decide +kernel
  · obtain rfl : p = 3 := Int32.toInt_inj.mp (by rw [hk]; decide)
    decide +kernel

theorem pd_0 : parseMethodDescriptor "(II)B" = some ⟨[.int, .int], some .byte⟩ := by decide +kernel
theorem pd_8 : parseMethodDescriptor "([BI)V" = some ⟨[(.array .byte), .int], none⟩ := by decide +kernel
theorem pn_0 : plainName "com/example/benzer/benzer/cli/JsonReaderStartPinLaw" = true := by first | (simp [plainName, overriddenIn]; done) | decide +kernel
theorem ef_0 (m : MethodId) (x0 : Int32) (x1 : Int32) (x2 : Int32) (x3 : Int32) : entryFrame m #[(.int x0), (.int x1), (.int x2), (.int x3)] maxLocals = mkF m 0 #[.val (.int x0), .val (.int x1), .val (.int x2), .val (.int x3), .unset, .unset, .unset, .unset, .unset, .unset, .unset, .unset, .unset] [] := by first | (simp [entryFrame, mkF, argsToLocals, Value.category, maxLocals]; done) | rfl
def Q0 (Z : State) (p0 : Int32) (p1 : Int32) (p2 : Int32) (p3 : Int32) (zc : Int32) (fm : Value) (u8 : Addr) (cs : Addr) (xn : Addr) (h0 : Heap) (n0 : Nat) (rv_ : Option Value) (h : Heap) (LL_ : List Loc) : Prop := rv_ = some (.int 1) ∧ Fr n0 LL_
set_option maxRecDepth 65536 in
set_option maxHeartbeats 40000000 in
theorem rm0 (l : Launch) (Z : State) (a0 : Array Value) (hw : ∀ d ∈ tables_1, d.before a0 Z = true) (ws : List Jvm.Cond) (p0 : Int32) (p1 : Int32) (p2 : Int32) (p3 : Int32) (zc : Int32) (fm : Value) (u8 : Addr) (cs : Addr) (xn : Addr) (h0 : Heap) (n0 : Nat) (Z0 : n0 ≤ h0.size) (S_zc : Sta Z Z.heap "java/lang/String" "COMPACT_STRINGS" "Z" (.int zc)) (S_fm : Sta Z Z.heap "jdk/internal/util/Preconditions" "SIOOBE_FORMATTER" "Ljava/util/function/BiFunction;" fm) (S_u8 : Sta Z Z.heap "sun/nio/cs/UTF_8" "INSTANCE" "Lsun/nio/cs/UTF_8;" (.ref u8)) (S_is : Sta Z Z.heap "sun/nio/cs/ISO_8859_1" "INSTANCE" "Lsun/nio/cs/ISO_8859_1;" (.ref cs)) (S_so : Sta Z Z.heap "java/nio/charset/StandardCharsets" "ISO_8859_1" "Ljava/nio/charset/Charset;" (.ref cs)) (S_xn : Sta Z Z.heap "com/example/benzer/benzer/cli/JsonReader" "NULL" "Ljava/lang/Object;" (.ref xn)) (E_cs : Exa Z Z.heap cs "sun/nio/cs/ISO_8859_1") (X00 : Old Z n0 h0) (hz : ¬ zc = (0 : Int32)) (hfm : fm.isRef = true) (ne_cs_u8 : cs ≠ u8) :
    MetFree l x (head1 (Jvm.Cond.code x code maxLocals ret :: ws) room_1) (fun aa UU => aa = #[(.int p0), (.int p1), (.int p2), (.int p3)] ∧ Z.Warmed39 UU.vm ∧ UU.heap = h0 ∧ CHv Z consts_1 UU.vm h0) (fun _ _ _ _ _ => True) (fun _ UU oo UV => ∃ vv LL, oo = .returned vv ∧ Q0 Z p0 p1 p2 p3 zc fm u8 cs xn h0 n0 vv UV.heap LL ∧ CHr Z consts_1 UU.vm UU.heap UV.vm UV.heap ∧ ReturnedEndW UU oo UV LL room_1.cells room_1.slots) := by
  refine MetFree.of_bodySF (plainFor_of_name pn_0) hisR ?_
  intro p e s m args below meth c s₁ Bd hml0 hP hK
  obtain ⟨rfl, hZ, hh, hH0⟩ := hP
  have hx := Bd.exec
  have hby := Bd.bytes
  have hml : c.maxLocals = 13 := hml0
  have hown : s.vm.findClass "com/example/benzer/benzer/cli/JsonReaderStartPinLaw" = some m.cls := findClass_of_methodNamed Bd.named
  have hnm := (name_of_methodNamed Bd.named Bd.method).1
  have X0 : Stand p l e room_1 s m #[(.int p0), (.int p1), (.int p2), (.int p3)] below meth c s₁ [] 0 0 := Stand.of_body Bd
  have e0 : s₁.heap = h0 := by rw [← hh, Bd.state]; rfl
  have N0 := Fr.nil n0
  have k0 : ∀ tg_, Steps p.tables e below (s₁.setTop (mkF m 0 #[.val (.int p0), .val (.int p1), .val (.int p2), .val (.int p3), .unset, .unset, .unset, .unset, .unset, .unset, .unset, .unset, .unset] [])) tg_ → Steps p.tables e below (s₁.setTop (entryFrame m #[(.int p0), (.int p1), (.int p2), (.int p3)] maxLocals)) tg_ := fun tg_ k => castTop (ef_0 m p0 p1 p2 p3) k
  have hS0 : s.Since s.vm s.heap.size := (State.WarmedH.refl s).since _
  have hY0 : s.heap.size ≤ h0.size := Nat.le_of_eq (by rw [← hh])
  have hEL : EW Z a0 consts_1 := own_EW hw
  have R0 := CHr.refl hH0
  have k413 : ∀ tg_, Steps p.tables e below (s₁.setTop (mkF m 3 #[.val (.int p0), .val (.int p1), .val (.int p2), .val (.int p3), .unset, .unset, .unset, .unset, .unset, .unset, .unset, .unset, .unset] [(.int (p3 &&& (3 : Int32)))])) tg_ → Steps p.tables e below (s₁.setTop (entryFrame m #[(.int p0), (.int p1), (.int p2), (.int p3)] maxLocals)) tg_ := by
    intro tg_ kt
    refine k0 tg_ ?_
    refine XS.iloadN X0.here hx rfl (hb hby at_0) rfl ?_
    show Steps p.tables e below (s₁.setTop (mkF m 1 #[.val (.int p0), .val (.int p1), .val (.int p2), .val (.int p3), .unset, .unset, .unset, .unset, .unset, .unset, .unset, .unset, .unset] [(.int p3)])) _
    refine XS.iconst X0.here hx rfl (hb hby at_1) ?_
    show Steps p.tables e below (s₁.setTop (mkF m 2 #[.val (.int p0), .val (.int p1), .val (.int p2), .val (.int p3), .unset, .unset, .unset, .unset, .unset, .unset, .unset, .unset, .unset] [(.int (3 : Int32)), (.int p3)])) _
    refine XS.iand X0.here hx rfl (hb hby at_2) rfl ?_
    show Steps p.tables e below (s₁.setTop (mkF m 3 #[.val (.int p0), .val (.int p1), .val (.int p2), .val (.int p3), .unset, .unset, .unset, .unset, .unset, .unset, .unset, .unset, .unset] [(.int (p3 &&& (3 : Int32)))])) _
    exact kt
  obtain ⟨v414, hv414⟩ : ∃ z : Int32, z = (p3 &&& (3 : Int32)) := ⟨_, rfl⟩
  rw [← hv414] at k413
  have k415 : ∀ tg_, Steps p.tables e below (s₁.setTop (mkF m 5 #[.val (.int p0), .val (.int p1), .val (.int p2), .val (.int p3), .val (.int v414), .unset, .unset, .unset, .unset, .unset, .unset, .unset, .unset] [])) tg_ → Steps p.tables e below (s₁.setTop (entryFrame m #[(.int p0), (.int p1), (.int p2), (.int p3)] maxLocals)) tg_ := by
    intro tg_ kt
    refine k413 tg_ ?_
    refine XS.istore X0.here hx rfl (hb hby at_3) rfl (l' := #[.val (.int p0), .val (.int p1), .val (.int p2), .val (.int p3), .val (.int v414), .unset, .unset, .unset, .unset, .unset, .unset, .unset, .unset]) rfl ?_
    show Steps p.tables e below (s₁.setTop (mkF m 5 #[.val (.int p0), .val (.int p1), .val (.int p2), .val (.int p3), .val (.int v414), .unset, .unset, .unset, .unset, .unset, .unset, .unset, .unset] [])) _
    exact kt
  obtain ⟨k, hk, hk3⟩ : ∃ k : Nat, v414.toInt = (k : Int) ∧ k ≤ 3 := by rw [hv414]; exact own_and3 _
  have k416 : ∀ tg_, Steps p.tables e below (s₁.setTop (mkF m 8 #[.val (.int p0), .val (.int p1), .val (.int p2), .val (.int p3), .val (.int v414), .unset, .unset, .unset, .unset, .unset, .unset, .unset, .unset] [(.int (p3 &&& (4 : Int32)))])) tg_ → Steps p.tables e below (s₁.setTop (entryFrame m #[(.int p0), (.int p1), (.int p2), (.int p3)] maxLocals)) tg_ := by
    intro tg_ kt
    refine k415 tg_ ?_
    refine XS.iloadN X0.here hx rfl (hb hby at_5) rfl ?_
    show Steps p.tables e below (s₁.setTop (mkF m 6 #[.val (.int p0), .val (.int p1), .val (.int p2), .val (.int p3), .val (.int v414), .unset, .unset, .unset, .unset, .unset, .unset, .unset, .unset] [(.int p3)])) _
    refine XS.iconst X0.here hx rfl (hb hby at_6) ?_
    show Steps p.tables e below (s₁.setTop (mkF m 7 #[.val (.int p0), .val (.int p1), .val (.int p2), .val (.int p3), .val (.int v414), .unset, .unset, .unset, .unset, .unset, .unset, .unset, .unset] [(.int (4 : Int32)), (.int p3)])) _
    refine XS.iand X0.here hx rfl (hb hby at_7) rfl ?_
    show Steps p.tables e below (s₁.setTop (mkF m 8 #[.val (.int p0), .val (.int p1), .val (.int p2), .val (.int p3), .val (.int v414), .unset, .unset, .unset, .unset, .unset, .unset, .unset, .unset] [(.int (p3 &&& (4 : Int32)))])) _
    exact kt
  have k418 : ∀ tg_, Steps p.tables e below (s₁.setTop (mkF m 16 #[.val (.int p0), .val (.int p1), .val (.int p2), .val (.int p3), .val (.int v414), .unset, .unset, .unset, .unset, .unset, .unset, .unset, .unset] [(.int (if (p3 &&& (4 : Int32)) = (0 : Int32) then (0 : Int32) else (1 : Int32)))])) tg_ → Steps p.tables e below (s₁.setTop (entryFrame m #[(.int p0), (.int p1), (.int p2), (.int p3)] maxLocals)) tg_ := by
    intro tg_ kt
    refine k416 tg_ ?_
    by_cases hj8_417 : (p3 &&& (4 : Int32)) = (0 : Int32)
    · refine XS.ifYes X0.here hx rfl (pc0 := 8) (pc' := 15) rfl (hb hby at_8) rfl ((if0 _ _).trans (teq hj8_417).1) (by decide) (by decide) ?_
      show Steps p.tables e below (s₁.setTop (mkF m 15 #[.val (.int p0), .val (.int p1), .val (.int p2), .val (.int p3), .val (.int v414), .unset, .unset, .unset, .unset, .unset, .unset, .unset, .unset] [])) _
      refine XS.iconst X0.here hx rfl (hb hby at_15) ?_
      show Steps p.tables e below (s₁.setTop (mkF m 16 #[.val (.int p0), .val (.int p1), .val (.int p2), .val (.int p3), .val (.int v414), .unset, .unset, .unset, .unset, .unset, .unset, .unset, .unset] [(.int (0 : Int32))])) _
      simpa only [if_pos hj8_417] using kt
    · refine XS.ifNo X0.here hx rfl (hb hby at_8) rfl ((if0 _ _).trans (feq hj8_417).1) ?_
      show Steps p.tables e below (s₁.setTop (mkF m 11 #[.val (.int p0), .val (.int p1), .val (.int p2), .val (.int p3), .val (.int v414), .unset, .unset, .unset, .unset, .unset, .unset, .unset, .unset] [])) _
      refine XS.iconst X0.here hx rfl (hb hby at_11) ?_
      show Steps p.tables e below (s₁.setTop (mkF m 12 #[.val (.int p0), .val (.int p1), .val (.int p2), .val (.int p3), .val (.int v414), .unset, .unset, .unset, .unset, .unset, .unset, .unset, .unset] [(.int (1 : Int32))])) _
      refine XS.goto X0.here hx rfl (pc0 := 12) (pc' := 16) rfl (hb hby at_12) (by decide) (by decide) ?_
      show Steps p.tables e below (s₁.setTop (mkF m 16 #[.val (.int p0), .val (.int p1), .val (.int p2), .val (.int p3), .val (.int v414), .unset, .unset, .unset, .unset, .unset, .unset, .unset, .unset] [(.int (1 : Int32))])) _
      simpa only [if_neg hj8_417] using kt
  obtain ⟨v419, hv419⟩ : ∃ z : Int32, z = (if (p3 &&& (4 : Int32)) = (0 : Int32) then (0 : Int32) else (1 : Int32)) := ⟨_, rfl⟩
  rw [← hv419] at k418
  obtain ⟨T420, h420, kA420, X420, e420, E420, A420, st420⟩ := newP X0 hx hZ (hw _ (List.mem_of_getElem? (i := 0) rfl)) e0 (g := (mkF m 20 #[.val (.int p0), .val (.int p1), .val (.int p2), .val (.int p3), .val (.int v414), .val (.int v419), .unset, .unset, .unset, .unset, .unset, .unset, .unset] [(.int (8 : Int32))])) rfl (hb hby at_20) rfl (by decide) (cap := 8) (by decide) (by decide) (by decide) (by decide)
  obtain ⟨b420, g420⟩ : ∃ z, z = h0.size := ⟨_, rfl⟩
  rw [← g420] at A420 st420
  have ne_cs_b420 : cs ≠ b420 := Nat.ne_of_lt (Nat.lt_of_lt_of_le ((E_cs.ext X00.2)).lt (Nat.le_of_eq g420.symm))
  have ge_b420 : n0 ≤ b420 := Nat.le_trans Z0 (Nat.le_of_eq g420.symm)
  have C421 := CHr.keep ((Keep.refl _ []).ext E420) sf0 R0.1
  have R421 := R0.trans C421
  have sf_b420 := Safe.ext E420 R0.1 (Safe.new (Nat.le_of_eq g420.symm))
  have V420 : own_AI Z h420 b420 .byte 8 (fun _ => 0) := own_newI (by decide : (8 : Int32).toInt = ((8 : Nat) : Int)) A420 rfl
  have f422 := (Nat.le_trans Z0 ((Keep.refl _ []).ext E420).1)
  have f423 := (X00.keep ((Keep.refl _ []).ext E420) all0)
  have k425 : ∀ tg_, Steps p.tables e below (T420.setTop (mkF m 30 #[.val (.int p0), .val (.int p1), .val (.int p2), .val (.int p3), .val (.int v414), .val (.int v419), .val (.ref b420), .unset, .unset, .unset, .unset, .unset, .unset] [(.int v414), (.int (0 : Int32)), (.int (0 : Int32)), (.ref b420)])) tg_ → Steps p.tables e below (s₁.setTop (entryFrame m #[(.int p0), (.int p1), (.int p2), (.int p3)] maxLocals)) tg_ := by
    intro tg_ kt
    refine k418 tg_ ?_
    refine XS.istore X0.here hx rfl (hb hby at_16) rfl (l' := #[.val (.int p0), .val (.int p1), .val (.int p2), .val (.int p3), .val (.int v414), .val (.int v419), .unset, .unset, .unset, .unset, .unset, .unset, .unset]) rfl ?_
    show Steps p.tables e below (s₁.setTop (mkF m 18 #[.val (.int p0), .val (.int p1), .val (.int p2), .val (.int p3), .val (.int v414), .val (.int v419), .unset, .unset, .unset, .unset, .unset, .unset, .unset] [])) _
    refine XS.bipush X0.here hx rfl (hb hby at_18) ?_
    show Steps p.tables e below (s₁.setTop (mkF m 20 #[.val (.int p0), .val (.int p1), .val (.int p2), .val (.int p3), .val (.int v414), .val (.int v419), .unset, .unset, .unset, .unset, .unset, .unset, .unset] [(.int (8 : Int32))])) _
    refine st420 _ ?_
    show Steps p.tables e below (T420.setTop (mkF m 22 #[.val (.int p0), .val (.int p1), .val (.int p2), .val (.int p3), .val (.int v414), .val (.int v419), .unset, .unset, .unset, .unset, .unset, .unset, .unset] [(.ref b420)])) _
    refine XS.astore X420.here hx rfl (hb hby at_22) rfl rfl (l' := #[.val (.int p0), .val (.int p1), .val (.int p2), .val (.int p3), .val (.int v414), .val (.int v419), .val (.ref b420), .unset, .unset, .unset, .unset, .unset, .unset]) rfl ?_
    show Steps p.tables e below (T420.setTop (mkF m 24 #[.val (.int p0), .val (.int p1), .val (.int p2), .val (.int p3), .val (.int v414), .val (.int v419), .val (.ref b420), .unset, .unset, .unset, .unset, .unset, .unset] [])) _
    refine XS.aload X420.here hx rfl (hb hby at_24) rfl rfl ?_
    show Steps p.tables e below (T420.setTop (mkF m 26 #[.val (.int p0), .val (.int p1), .val (.int p2), .val (.int p3), .val (.int v414), .val (.int v419), .val (.ref b420), .unset, .unset, .unset, .unset, .unset, .unset] [(.ref b420)])) _
    refine XS.iconst X420.here hx rfl (hb hby at_26) ?_
    show Steps p.tables e below (T420.setTop (mkF m 27 #[.val (.int p0), .val (.int p1), .val (.int p2), .val (.int p3), .val (.int v414), .val (.int v419), .val (.ref b420), .unset, .unset, .unset, .unset, .unset, .unset] [(.int (0 : Int32)), (.ref b420)])) _
    refine XS.iconst X420.here hx rfl (hb hby at_27) ?_
    show Steps p.tables e below (T420.setTop (mkF m 28 #[.val (.int p0), .val (.int p1), .val (.int p2), .val (.int p3), .val (.int v414), .val (.int v419), .val (.ref b420), .unset, .unset, .unset, .unset, .unset, .unset] [(.int (0 : Int32)), (.int (0 : Int32)), (.ref b420)])) _
    refine XS.iload X420.here hx rfl (hb hby at_28) rfl ?_
    show Steps p.tables e below (T420.setTop (mkF m 30 #[.val (.int p0), .val (.int p1), .val (.int p2), .val (.int p3), .val (.int v414), .val (.int v419), .val (.ref b420), .unset, .unset, .unset, .unset, .unset, .unset] [(.int v414), (.int (0 : Int32)), (.int (0 : Int32)), (.ref b420)])) _
    exact kt
  obtain ⟨_, _, ⟨T424, L424, kc424, nc424⟩, -, X424, hs424, gr424, ⟨Lc424, hQ424, l424, y424, z424, ch424⟩, st424⟩ := callSS X420 hx (y := (⟨"com/example/benzer/benzer/cli/JsonReaderStartPinLaw", "prevByte", "(II)B"⟩ : MethodName)) hown (mvT hZ (hw _ (List.mem_of_getElem? (i := 1) rfl))) (mvT hZ (hw _ (List.mem_of_getElem? (i := 2) rfl))) (mvT hZ (hw _ (List.mem_of_getElem? (i := 3) rfl))) (mvT hZ (hw _ (List.mem_of_getElem? (i := 4) rfl))) (by decide) (backOfSH (s := s) (vm0 := s.vm) (W := 2) (rm1 l Z a0 hw [] (0 : Int32) v414 zc fm k 0 h420 n0 f422 (S_zc.ext f423.2) (S_fm.ext f423.2) hz hfm hk hk3 (by decide) (by decide)) hZ (hw _ (List.mem_of_getElem? (i := 4) rfl)) (hw _ (List.mem_of_getElem? (i := 3) rfl)) (by decide) (by decide) hEL R421.1) (g := (mkF m 30 #[.val (.int p0), .val (.int p1), .val (.int p2), .val (.int p3), .val (.int v414), .val (.int v419), .val (.ref b420), .unset, .unset, .unset, .unset, .unset, .unset] [(.int v414), (.int (0 : Int32)), (.int (0 : Int32)), (.ref b420)])) rfl (by rw [hml]; rfl) (argsL := [(.int (0 : Int32)), (.int v414)]) (rest := [(.int (0 : Int32)), (.ref b420)]) (lenOf pd_0 rfl) rfl (by show 2 * 0 + _ ≤ _; exact Nat.le_of_eq rfl) (hb hby at_30) (fun _ _ => ⟨rfl, e420, (by decide : 1 + 2 ≤ _), (by decide : 8 + 20 ≤ _)⟩)
  dsimp only [Pt.U, Pt.locs, Pt.cells, Pt.slots] at X424 l424 y424 z424 st424 hQ424 hs424 gr424 ch424
  rw [l424, y424, z424] at X424
  have f426 := (Nat.le_trans hY0 ((Keep.refl _ []).ext E420).1)
  obtain ⟨X424, hS424, hZ, hown⟩ := rebS (s := s) (vm0 := s.vm) (vm1 := T424.vm) hS0 (Nat.le_trans f426 (Nat.le_of_eq (congrArg Array.size (Eq.symm (show T420.heap = h420 from e420))))) X424 hs424 gr424 hZ hown
  replace X424 : Stand p l e room_1 (s.setVm T424.vm) m #[(.int p0), (.int p1), (.int p2), (.int p3)] below meth c T424 _ 3 28 := X424
  obtain ⟨rfl, Nq424, oK424⟩ := hQ424
  have N424 := Fr.app N0 Nq424
  have R427 := R421.trans ch424
  have sf_b420_427 := ch424.safe (V420).lt sf_b420
  have f428 := (V420.keep oK424 nin0)
  obtain ⟨T429, h429, X429, e429, W429, V429, st429⟩ := own_stB X424 hx hZ rfl f428 (i := 0) (by decide : (0 : Int32).toInt = ((0 : Nat) : Int)) (by decide) (g := (mkF m 33 #[.val (.int p0), .val (.int p1), .val (.int p2), .val (.int p3), .val (.int v414), .val (.int v419), .val (.ref b420), .unset, .unset, .unset, .unset, .unset, .unset] [(.int (own_pb (0 : Int32) v414)), (.int (0 : Int32)), (.ref b420)])) rfl rfl (hb hby at_33)
  have N429 := Fr.snoc X429 N424 ge_b420
  have C430 := CHr.keep (Keep.of_wr W429) (sfS sf_b420_427 sf0) R427.1
  have R430 := R427.trans C430
  have sf_b420_430 := C430.safe (f428).lt sf_b420_427
  have f431 := (Nat.le_trans (Nat.le_trans f422 oK424.1) (Keep.of_wr W429).1)
  have f432 := ((f423.keep oK424 all0).keep (Keep.of_wr W429) (allS ge_b420 all0))
  have k434 : ∀ tg_, Steps p.tables e below (T429.setTop (mkF m 40 #[.val (.int p0), .val (.int p1), .val (.int p2), .val (.int p3), .val (.int v414), .val (.int v419), .val (.ref b420), .unset, .unset, .unset, .unset, .unset, .unset] [(.int v414), (.int (1 : Int32)), (.int (1 : Int32)), (.ref b420)])) tg_ → Steps p.tables e below (s₁.setTop (entryFrame m #[(.int p0), (.int p1), (.int p2), (.int p3)] maxLocals)) tg_ := by
    intro tg_ kt
    refine k425 tg_ ?_
    refine st424.trans ?_
    show Steps p.tables e below (T424.setTop (mkF m 33 #[.val (.int p0), .val (.int p1), .val (.int p2), .val (.int p3), .val (.int v414), .val (.int v419), .val (.ref b420), .unset, .unset, .unset, .unset, .unset, .unset] [(.int (own_pb (0 : Int32) v414)), (.int (0 : Int32)), (.ref b420)])) _
    refine st429 _ ?_
    show Steps p.tables e below (T429.setTop (mkF m 34 #[.val (.int p0), .val (.int p1), .val (.int p2), .val (.int p3), .val (.int v414), .val (.int v419), .val (.ref b420), .unset, .unset, .unset, .unset, .unset, .unset] [])) _
    refine XS.aload X429.here hx rfl (hb hby at_34) rfl rfl ?_
    show Steps p.tables e below (T429.setTop (mkF m 36 #[.val (.int p0), .val (.int p1), .val (.int p2), .val (.int p3), .val (.int v414), .val (.int v419), .val (.ref b420), .unset, .unset, .unset, .unset, .unset, .unset] [(.ref b420)])) _
    refine XS.iconst X429.here hx rfl (hb hby at_36) ?_
    show Steps p.tables e below (T429.setTop (mkF m 37 #[.val (.int p0), .val (.int p1), .val (.int p2), .val (.int p3), .val (.int v414), .val (.int v419), .val (.ref b420), .unset, .unset, .unset, .unset, .unset, .unset] [(.int (1 : Int32)), (.ref b420)])) _
    refine XS.iconst X429.here hx rfl (hb hby at_37) ?_
    show Steps p.tables e below (T429.setTop (mkF m 38 #[.val (.int p0), .val (.int p1), .val (.int p2), .val (.int p3), .val (.int v414), .val (.int v419), .val (.ref b420), .unset, .unset, .unset, .unset, .unset, .unset] [(.int (1 : Int32)), (.int (1 : Int32)), (.ref b420)])) _
    refine XS.iload X429.here hx rfl (hb hby at_38) rfl ?_
    show Steps p.tables e below (T429.setTop (mkF m 40 #[.val (.int p0), .val (.int p1), .val (.int p2), .val (.int p3), .val (.int v414), .val (.int v419), .val (.ref b420), .unset, .unset, .unset, .unset, .unset, .unset] [(.int v414), (.int (1 : Int32)), (.int (1 : Int32)), (.ref b420)])) _
    exact kt
  obtain ⟨_, _, ⟨T433, L433, kc433, nc433⟩, -, X433, hs433, gr433, ⟨Lc433, hQ433, l433, y433, z433, ch433⟩, st433⟩ := callSS X429 hx (y := (⟨"com/example/benzer/benzer/cli/JsonReaderStartPinLaw", "prevByte", "(II)B"⟩ : MethodName)) hown (mvT hZ (hw _ (List.mem_of_getElem? (i := 1) rfl))) (mvT hZ (hw _ (List.mem_of_getElem? (i := 2) rfl))) (mvT hZ (hw _ (List.mem_of_getElem? (i := 3) rfl))) (mvT hZ (hw _ (List.mem_of_getElem? (i := 4) rfl))) (by decide) (backOfSH (s := s) (vm0 := T424.vm) (W := 2) (rm1 l Z a0 hw [] (1 : Int32) v414 zc fm k 1 h429 n0 f431 (S_zc.ext f432.2) (S_fm.ext f432.2) hz hfm hk hk3 (by decide) (by decide)) hZ (hw _ (List.mem_of_getElem? (i := 4) rfl)) (hw _ (List.mem_of_getElem? (i := 3) rfl)) (by decide) (by decide) hEL R430.1) (g := (mkF m 40 #[.val (.int p0), .val (.int p1), .val (.int p2), .val (.int p3), .val (.int v414), .val (.int v419), .val (.ref b420), .unset, .unset, .unset, .unset, .unset, .unset] [(.int v414), (.int (1 : Int32)), (.int (1 : Int32)), (.ref b420)])) rfl (by rw [hml]; rfl) (argsL := [(.int (1 : Int32)), (.int v414)]) (rest := [(.int (1 : Int32)), (.ref b420)]) (lenOf pd_0 rfl) rfl (by show 2 * 0 + _ ≤ _; exact Nat.le_of_eq rfl) (hb hby at_40) (fun _ _ => ⟨rfl, e429, (by decide : 3 + 2 ≤ _), (by decide : 28 + 20 ≤ _)⟩)
  dsimp only [Pt.U, Pt.locs, Pt.cells, Pt.slots] at X433 l433 y433 z433 st433 hQ433 hs433 gr433 ch433
  rw [l433, y433, z433] at X433
  have f435 := (Nat.le_trans (Nat.le_refl T424.heap.size) (Keep.of_wr W429).1)
  obtain ⟨X433, hS433, hZ, hown⟩ := rebS (s := s) (vm0 := T424.vm) (vm1 := T433.vm) hS424 (Nat.le_trans f435 (Nat.le_of_eq (congrArg Array.size (Eq.symm (show T429.heap = h429 from e429))))) X433 hs433 gr433 hZ hown
  replace X433 : Stand p l e room_1 (s.setVm T433.vm) m #[(.int p0), (.int p1), (.int p2), (.int p3)] below meth c T433 _ 5 48 := X433
  obtain ⟨rfl, Nq433, oK433⟩ := hQ433
  have N433 := Fr.app N429 Nq433
  have R436 := R430.trans ch433
  have sf_b420_436 := ch433.safe (V429).lt sf_b420_430
  have f437 := (V429.keep oK433 nin0)
  obtain ⟨T438, h438, X438, e438, W438, V438, st438⟩ := own_stB X433 hx hZ rfl f437 (i := 1) (by decide : (1 : Int32).toInt = ((1 : Nat) : Int)) (by decide) (g := (mkF m 43 #[.val (.int p0), .val (.int p1), .val (.int p2), .val (.int p3), .val (.int v414), .val (.int v419), .val (.ref b420), .unset, .unset, .unset, .unset, .unset, .unset] [(.int (own_pb (1 : Int32) v414)), (.int (1 : Int32)), (.ref b420)])) rfl rfl (hb hby at_43)
  have N438 := Fr.snoc X438 N433 ge_b420
  have C439 := CHr.keep (Keep.of_wr W438) (sfS sf_b420_436 sf0) R436.1
  have R439 := R436.trans C439
  have sf_b420_439 := C439.safe (f437).lt sf_b420_436
  have f440 := (Nat.le_trans (Nat.le_trans f431 oK433.1) (Keep.of_wr W438).1)
  have f441 := ((f432.keep oK433 all0).keep (Keep.of_wr W438) (allS ge_b420 all0))
  have k443 : ∀ tg_, Steps p.tables e below (T438.setTop (mkF m 50 #[.val (.int p0), .val (.int p1), .val (.int p2), .val (.int p3), .val (.int v414), .val (.int v419), .val (.ref b420), .unset, .unset, .unset, .unset, .unset, .unset] [(.int v414), (.int (2 : Int32)), (.int (2 : Int32)), (.ref b420)])) tg_ → Steps p.tables e below (s₁.setTop (entryFrame m #[(.int p0), (.int p1), (.int p2), (.int p3)] maxLocals)) tg_ := by
    intro tg_ kt
    refine k434 tg_ ?_
    refine st433.trans ?_
    show Steps p.tables e below (T433.setTop (mkF m 43 #[.val (.int p0), .val (.int p1), .val (.int p2), .val (.int p3), .val (.int v414), .val (.int v419), .val (.ref b420), .unset, .unset, .unset, .unset, .unset, .unset] [(.int (own_pb (1 : Int32) v414)), (.int (1 : Int32)), (.ref b420)])) _
    refine st438 _ ?_
    show Steps p.tables e below (T438.setTop (mkF m 44 #[.val (.int p0), .val (.int p1), .val (.int p2), .val (.int p3), .val (.int v414), .val (.int v419), .val (.ref b420), .unset, .unset, .unset, .unset, .unset, .unset] [])) _
    refine XS.aload X438.here hx rfl (hb hby at_44) rfl rfl ?_
    show Steps p.tables e below (T438.setTop (mkF m 46 #[.val (.int p0), .val (.int p1), .val (.int p2), .val (.int p3), .val (.int v414), .val (.int v419), .val (.ref b420), .unset, .unset, .unset, .unset, .unset, .unset] [(.ref b420)])) _
    refine XS.iconst X438.here hx rfl (hb hby at_46) ?_
    show Steps p.tables e below (T438.setTop (mkF m 47 #[.val (.int p0), .val (.int p1), .val (.int p2), .val (.int p3), .val (.int v414), .val (.int v419), .val (.ref b420), .unset, .unset, .unset, .unset, .unset, .unset] [(.int (2 : Int32)), (.ref b420)])) _
    refine XS.iconst X438.here hx rfl (hb hby at_47) ?_
    show Steps p.tables e below (T438.setTop (mkF m 48 #[.val (.int p0), .val (.int p1), .val (.int p2), .val (.int p3), .val (.int v414), .val (.int v419), .val (.ref b420), .unset, .unset, .unset, .unset, .unset, .unset] [(.int (2 : Int32)), (.int (2 : Int32)), (.ref b420)])) _
    refine XS.iload X438.here hx rfl (hb hby at_48) rfl ?_
    show Steps p.tables e below (T438.setTop (mkF m 50 #[.val (.int p0), .val (.int p1), .val (.int p2), .val (.int p3), .val (.int v414), .val (.int v419), .val (.ref b420), .unset, .unset, .unset, .unset, .unset, .unset] [(.int v414), (.int (2 : Int32)), (.int (2 : Int32)), (.ref b420)])) _
    exact kt
  obtain ⟨_, _, ⟨T442, L442, kc442, nc442⟩, -, X442, hs442, gr442, ⟨Lc442, hQ442, l442, y442, z442, ch442⟩, st442⟩ := callSS X438 hx (y := (⟨"com/example/benzer/benzer/cli/JsonReaderStartPinLaw", "prevByte", "(II)B"⟩ : MethodName)) hown (mvT hZ (hw _ (List.mem_of_getElem? (i := 1) rfl))) (mvT hZ (hw _ (List.mem_of_getElem? (i := 2) rfl))) (mvT hZ (hw _ (List.mem_of_getElem? (i := 3) rfl))) (mvT hZ (hw _ (List.mem_of_getElem? (i := 4) rfl))) (by decide) (backOfSH (s := s) (vm0 := T433.vm) (W := 2) (rm1 l Z a0 hw [] (2 : Int32) v414 zc fm k 2 h438 n0 f440 (S_zc.ext f441.2) (S_fm.ext f441.2) hz hfm hk hk3 (by decide) (by decide)) hZ (hw _ (List.mem_of_getElem? (i := 4) rfl)) (hw _ (List.mem_of_getElem? (i := 3) rfl)) (by decide) (by decide) hEL R439.1) (g := (mkF m 50 #[.val (.int p0), .val (.int p1), .val (.int p2), .val (.int p3), .val (.int v414), .val (.int v419), .val (.ref b420), .unset, .unset, .unset, .unset, .unset, .unset] [(.int v414), (.int (2 : Int32)), (.int (2 : Int32)), (.ref b420)])) rfl (by rw [hml]; rfl) (argsL := [(.int (2 : Int32)), (.int v414)]) (rest := [(.int (2 : Int32)), (.ref b420)]) (lenOf pd_0 rfl) rfl (by show 2 * 0 + _ ≤ _; exact Nat.le_of_eq rfl) (hb hby at_50) (fun _ _ => ⟨rfl, e438, (by decide : 5 + 2 ≤ _), (by decide : 48 + 20 ≤ _)⟩)
  dsimp only [Pt.U, Pt.locs, Pt.cells, Pt.slots] at X442 l442 y442 z442 st442 hQ442 hs442 gr442 ch442
  rw [l442, y442, z442] at X442
  have f444 := (Nat.le_trans (Nat.le_refl T433.heap.size) (Keep.of_wr W438).1)
  obtain ⟨X442, hS442, hZ, hown⟩ := rebS (s := s) (vm0 := T433.vm) (vm1 := T442.vm) hS433 (Nat.le_trans f444 (Nat.le_of_eq (congrArg Array.size (Eq.symm (show T438.heap = h438 from e438))))) X442 hs442 gr442 hZ hown
  replace X442 : Stand p l e room_1 (s.setVm T442.vm) m #[(.int p0), (.int p1), (.int p2), (.int p3)] below meth c T442 _ 7 68 := X442
  obtain ⟨rfl, Nq442, oK442⟩ := hQ442
  have N442 := Fr.app N438 Nq442
  have R445 := R439.trans ch442
  have sf_b420_445 := ch442.safe (V438).lt sf_b420_439
  have f446 := (V438.keep oK442 nin0)
  obtain ⟨T447, h447, X447, e447, W447, V447, st447⟩ := own_stB X442 hx hZ rfl f446 (i := 2) (by decide : (2 : Int32).toInt = ((2 : Nat) : Int)) (by decide) (g := (mkF m 53 #[.val (.int p0), .val (.int p1), .val (.int p2), .val (.int p3), .val (.int v414), .val (.int v419), .val (.ref b420), .unset, .unset, .unset, .unset, .unset, .unset] [(.int (own_pb (2 : Int32) v414)), (.int (2 : Int32)), (.ref b420)])) rfl rfl (hb hby at_53)
  have N447 := Fr.snoc X447 N442 ge_b420
  have C448 := CHr.keep (Keep.of_wr W447) (sfS sf_b420_445 sf0) R445.1
  have R448 := R445.trans C448
  have sf_b420_448 := C448.safe (f446).lt sf_b420_445
  have f449 := (Nat.le_trans (Nat.le_trans f440 oK442.1) (Keep.of_wr W447).1)
  have f450 := ((f441.keep oK442 all0).keep (Keep.of_wr W447) (allS ge_b420 all0))
  have k452 : ∀ tg_, Steps p.tables e below (T447.setTop (mkF m 60 #[.val (.int p0), .val (.int p1), .val (.int p2), .val (.int p3), .val (.int v414), .val (.int v419), .val (.ref b420), .unset, .unset, .unset, .unset, .unset, .unset] [(.int v414), (.int (3 : Int32)), (.int (3 : Int32)), (.ref b420)])) tg_ → Steps p.tables e below (s₁.setTop (entryFrame m #[(.int p0), (.int p1), (.int p2), (.int p3)] maxLocals)) tg_ := by
    intro tg_ kt
    refine k443 tg_ ?_
    refine st442.trans ?_
    show Steps p.tables e below (T442.setTop (mkF m 53 #[.val (.int p0), .val (.int p1), .val (.int p2), .val (.int p3), .val (.int v414), .val (.int v419), .val (.ref b420), .unset, .unset, .unset, .unset, .unset, .unset] [(.int (own_pb (2 : Int32) v414)), (.int (2 : Int32)), (.ref b420)])) _
    refine st447 _ ?_
    show Steps p.tables e below (T447.setTop (mkF m 54 #[.val (.int p0), .val (.int p1), .val (.int p2), .val (.int p3), .val (.int v414), .val (.int v419), .val (.ref b420), .unset, .unset, .unset, .unset, .unset, .unset] [])) _
    refine XS.aload X447.here hx rfl (hb hby at_54) rfl rfl ?_
    show Steps p.tables e below (T447.setTop (mkF m 56 #[.val (.int p0), .val (.int p1), .val (.int p2), .val (.int p3), .val (.int v414), .val (.int v419), .val (.ref b420), .unset, .unset, .unset, .unset, .unset, .unset] [(.ref b420)])) _
    refine XS.iconst X447.here hx rfl (hb hby at_56) ?_
    show Steps p.tables e below (T447.setTop (mkF m 57 #[.val (.int p0), .val (.int p1), .val (.int p2), .val (.int p3), .val (.int v414), .val (.int v419), .val (.ref b420), .unset, .unset, .unset, .unset, .unset, .unset] [(.int (3 : Int32)), (.ref b420)])) _
    refine XS.iconst X447.here hx rfl (hb hby at_57) ?_
    show Steps p.tables e below (T447.setTop (mkF m 58 #[.val (.int p0), .val (.int p1), .val (.int p2), .val (.int p3), .val (.int v414), .val (.int v419), .val (.ref b420), .unset, .unset, .unset, .unset, .unset, .unset] [(.int (3 : Int32)), (.int (3 : Int32)), (.ref b420)])) _
    refine XS.iload X447.here hx rfl (hb hby at_58) rfl ?_
    show Steps p.tables e below (T447.setTop (mkF m 60 #[.val (.int p0), .val (.int p1), .val (.int p2), .val (.int p3), .val (.int v414), .val (.int v419), .val (.ref b420), .unset, .unset, .unset, .unset, .unset, .unset] [(.int v414), (.int (3 : Int32)), (.int (3 : Int32)), (.ref b420)])) _
    exact kt
  obtain ⟨_, _, ⟨T451, L451, kc451, nc451⟩, -, X451, hs451, gr451, ⟨Lc451, hQ451, l451, y451, z451, ch451⟩, st451⟩ := callSS X447 hx (y := (⟨"com/example/benzer/benzer/cli/JsonReaderStartPinLaw", "prevByte", "(II)B"⟩ : MethodName)) hown (mvT hZ (hw _ (List.mem_of_getElem? (i := 1) rfl))) (mvT hZ (hw _ (List.mem_of_getElem? (i := 2) rfl))) (mvT hZ (hw _ (List.mem_of_getElem? (i := 3) rfl))) (mvT hZ (hw _ (List.mem_of_getElem? (i := 4) rfl))) (by decide) (backOfSH (s := s) (vm0 := T442.vm) (W := 2) (rm1 l Z a0 hw [] (3 : Int32) v414 zc fm k 3 h447 n0 f449 (S_zc.ext f450.2) (S_fm.ext f450.2) hz hfm hk hk3 (by decide) (by decide)) hZ (hw _ (List.mem_of_getElem? (i := 4) rfl)) (hw _ (List.mem_of_getElem? (i := 3) rfl)) (by decide) (by decide) hEL R448.1) (g := (mkF m 60 #[.val (.int p0), .val (.int p1), .val (.int p2), .val (.int p3), .val (.int v414), .val (.int v419), .val (.ref b420), .unset, .unset, .unset, .unset, .unset, .unset] [(.int v414), (.int (3 : Int32)), (.int (3 : Int32)), (.ref b420)])) rfl (by rw [hml]; rfl) (argsL := [(.int (3 : Int32)), (.int v414)]) (rest := [(.int (3 : Int32)), (.ref b420)]) (lenOf pd_0 rfl) rfl (by show 2 * 0 + _ ≤ _; exact Nat.le_of_eq rfl) (hb hby at_60) (fun _ _ => ⟨rfl, e447, (by decide : 7 + 2 ≤ _), (by decide : 68 + 20 ≤ _)⟩)
  dsimp only [Pt.U, Pt.locs, Pt.cells, Pt.slots] at X451 l451 y451 z451 st451 hQ451 hs451 gr451 ch451
  rw [l451, y451, z451] at X451
  have f453 := (Nat.le_trans (Nat.le_refl T442.heap.size) (Keep.of_wr W447).1)
  obtain ⟨X451, hS451, hZ, hown⟩ := rebS (s := s) (vm0 := T442.vm) (vm1 := T451.vm) hS442 (Nat.le_trans f453 (Nat.le_of_eq (congrArg Array.size (Eq.symm (show T447.heap = h447 from e447))))) X451 hs451 gr451 hZ hown
  replace X451 : Stand p l e room_1 (s.setVm T451.vm) m #[(.int p0), (.int p1), (.int p2), (.int p3)] below meth c T451 _ 9 88 := X451
  obtain ⟨rfl, Nq451, oK451⟩ := hQ451
  have N451 := Fr.app N447 Nq451
  have R454 := R448.trans ch451
  have sf_b420_454 := ch451.safe (V447).lt sf_b420_448
  have f455 := (V447.keep oK451 nin0)
  obtain ⟨T456, h456, X456, e456, W456, V456, st456⟩ := own_stB X451 hx hZ rfl f455 (i := 3) (by decide : (3 : Int32).toInt = ((3 : Nat) : Int)) (by decide) (g := (mkF m 63 #[.val (.int p0), .val (.int p1), .val (.int p2), .val (.int p3), .val (.int v414), .val (.int v419), .val (.ref b420), .unset, .unset, .unset, .unset, .unset, .unset] [(.int (own_pb (3 : Int32) v414)), (.int (3 : Int32)), (.ref b420)])) rfl rfl (hb hby at_63)
  have N456 := Fr.snoc X456 N451 ge_b420
  have C457 := CHr.keep (Keep.of_wr W456) (sfS sf_b420_454 sf0) R454.1
  have R457 := R454.trans C457
  have sf_b420_457 := C457.safe (f455).lt sf_b420_454
  have f458 := (Nat.le_trans (Nat.le_trans f449 oK451.1) (Keep.of_wr W456).1)
  have f459 := ((f450.keep oK451 all0).keep (Keep.of_wr W456) (allS ge_b420 all0))
  have k461 : ∀ tg_, Steps p.tables e below (T456.setTop (mkF m 70 #[.val (.int p0), .val (.int p1), .val (.int p2), .val (.int p3), .val (.int v414), .val (.int v419), .val (.ref b420), .unset, .unset, .unset, .unset, .unset, .unset] [(.int v414), (.int (4 : Int32)), (.int (4 : Int32)), (.ref b420)])) tg_ → Steps p.tables e below (s₁.setTop (entryFrame m #[(.int p0), (.int p1), (.int p2), (.int p3)] maxLocals)) tg_ := by
    intro tg_ kt
    refine k452 tg_ ?_
    refine st451.trans ?_
    show Steps p.tables e below (T451.setTop (mkF m 63 #[.val (.int p0), .val (.int p1), .val (.int p2), .val (.int p3), .val (.int v414), .val (.int v419), .val (.ref b420), .unset, .unset, .unset, .unset, .unset, .unset] [(.int (own_pb (3 : Int32) v414)), (.int (3 : Int32)), (.ref b420)])) _
    refine st456 _ ?_
    show Steps p.tables e below (T456.setTop (mkF m 64 #[.val (.int p0), .val (.int p1), .val (.int p2), .val (.int p3), .val (.int v414), .val (.int v419), .val (.ref b420), .unset, .unset, .unset, .unset, .unset, .unset] [])) _
    refine XS.aload X456.here hx rfl (hb hby at_64) rfl rfl ?_
    show Steps p.tables e below (T456.setTop (mkF m 66 #[.val (.int p0), .val (.int p1), .val (.int p2), .val (.int p3), .val (.int v414), .val (.int v419), .val (.ref b420), .unset, .unset, .unset, .unset, .unset, .unset] [(.ref b420)])) _
    refine XS.iconst X456.here hx rfl (hb hby at_66) ?_
    show Steps p.tables e below (T456.setTop (mkF m 67 #[.val (.int p0), .val (.int p1), .val (.int p2), .val (.int p3), .val (.int v414), .val (.int v419), .val (.ref b420), .unset, .unset, .unset, .unset, .unset, .unset] [(.int (4 : Int32)), (.ref b420)])) _
    refine XS.iconst X456.here hx rfl (hb hby at_67) ?_
    show Steps p.tables e below (T456.setTop (mkF m 68 #[.val (.int p0), .val (.int p1), .val (.int p2), .val (.int p3), .val (.int v414), .val (.int v419), .val (.ref b420), .unset, .unset, .unset, .unset, .unset, .unset] [(.int (4 : Int32)), (.int (4 : Int32)), (.ref b420)])) _
    refine XS.iload X456.here hx rfl (hb hby at_68) rfl ?_
    show Steps p.tables e below (T456.setTop (mkF m 70 #[.val (.int p0), .val (.int p1), .val (.int p2), .val (.int p3), .val (.int v414), .val (.int v419), .val (.ref b420), .unset, .unset, .unset, .unset, .unset, .unset] [(.int v414), (.int (4 : Int32)), (.int (4 : Int32)), (.ref b420)])) _
    exact kt
  obtain ⟨_, _, ⟨T460, L460, kc460, nc460⟩, -, X460, hs460, gr460, ⟨Lc460, hQ460, l460, y460, z460, ch460⟩, st460⟩ := callSS X456 hx (y := (⟨"com/example/benzer/benzer/cli/JsonReaderStartPinLaw", "prevByte", "(II)B"⟩ : MethodName)) hown (mvT hZ (hw _ (List.mem_of_getElem? (i := 1) rfl))) (mvT hZ (hw _ (List.mem_of_getElem? (i := 2) rfl))) (mvT hZ (hw _ (List.mem_of_getElem? (i := 3) rfl))) (mvT hZ (hw _ (List.mem_of_getElem? (i := 4) rfl))) (by decide) (backOfSH (s := s) (vm0 := T451.vm) (W := 2) (rm1 l Z a0 hw [] (4 : Int32) v414 zc fm k 4 h456 n0 f458 (S_zc.ext f459.2) (S_fm.ext f459.2) hz hfm hk hk3 (by decide) (by decide)) hZ (hw _ (List.mem_of_getElem? (i := 4) rfl)) (hw _ (List.mem_of_getElem? (i := 3) rfl)) (by decide) (by decide) hEL R457.1) (g := (mkF m 70 #[.val (.int p0), .val (.int p1), .val (.int p2), .val (.int p3), .val (.int v414), .val (.int v419), .val (.ref b420), .unset, .unset, .unset, .unset, .unset, .unset] [(.int v414), (.int (4 : Int32)), (.int (4 : Int32)), (.ref b420)])) rfl (by rw [hml]; rfl) (argsL := [(.int (4 : Int32)), (.int v414)]) (rest := [(.int (4 : Int32)), (.ref b420)]) (lenOf pd_0 rfl) rfl (by show 2 * 0 + _ ≤ _; exact Nat.le_of_eq rfl) (hb hby at_70) (fun _ _ => ⟨rfl, e456, (by decide : 9 + 2 ≤ _), (by decide : 88 + 20 ≤ _)⟩)
  dsimp only [Pt.U, Pt.locs, Pt.cells, Pt.slots] at X460 l460 y460 z460 st460 hQ460 hs460 gr460 ch460
  rw [l460, y460, z460] at X460
  have f462 := (Nat.le_trans (Nat.le_refl T451.heap.size) (Keep.of_wr W456).1)
  obtain ⟨X460, hS460, hZ, hown⟩ := rebS (s := s) (vm0 := T451.vm) (vm1 := T460.vm) hS451 (Nat.le_trans f462 (Nat.le_of_eq (congrArg Array.size (Eq.symm (show T456.heap = h456 from e456))))) X460 hs460 gr460 hZ hown
  replace X460 : Stand p l e room_1 (s.setVm T460.vm) m #[(.int p0), (.int p1), (.int p2), (.int p3)] below meth c T460 _ 11 108 := X460
  obtain ⟨rfl, Nq460, oK460⟩ := hQ460
  have N460 := Fr.app N456 Nq460
  have R463 := R457.trans ch460
  have sf_b420_463 := ch460.safe (V456).lt sf_b420_457
  have f464 := (V456.keep oK460 nin0)
  obtain ⟨T465, h465, X465, e465, W465, V465, st465⟩ := own_stB X460 hx hZ rfl f464 (i := 4) (by decide : (4 : Int32).toInt = ((4 : Nat) : Int)) (by decide) (g := (mkF m 73 #[.val (.int p0), .val (.int p1), .val (.int p2), .val (.int p3), .val (.int v414), .val (.int v419), .val (.ref b420), .unset, .unset, .unset, .unset, .unset, .unset] [(.int (own_pb (4 : Int32) v414)), (.int (4 : Int32)), (.ref b420)])) rfl rfl (hb hby at_73)
  have N465 := Fr.snoc X465 N460 ge_b420
  have C466 := CHr.keep (Keep.of_wr W465) (sfS sf_b420_463 sf0) R463.1
  have R466 := R463.trans C466
  have sf_b420_466 := C466.safe (f464).lt sf_b420_463
  have f467 := (Nat.le_trans (Nat.le_trans f458 oK460.1) (Keep.of_wr W465).1)
  have f468 := ((f459.keep oK460 all0).keep (Keep.of_wr W465) (allS ge_b420 all0))
  have k470 : ∀ tg_, Steps p.tables e below (T465.setTop (mkF m 80 #[.val (.int p0), .val (.int p1), .val (.int p2), .val (.int p3), .val (.int v414), .val (.int v419), .val (.ref b420), .unset, .unset, .unset, .unset, .unset, .unset] [(.int v414), (.int (5 : Int32)), (.int (5 : Int32)), (.ref b420)])) tg_ → Steps p.tables e below (s₁.setTop (entryFrame m #[(.int p0), (.int p1), (.int p2), (.int p3)] maxLocals)) tg_ := by
    intro tg_ kt
    refine k461 tg_ ?_
    refine st460.trans ?_
    show Steps p.tables e below (T460.setTop (mkF m 73 #[.val (.int p0), .val (.int p1), .val (.int p2), .val (.int p3), .val (.int v414), .val (.int v419), .val (.ref b420), .unset, .unset, .unset, .unset, .unset, .unset] [(.int (own_pb (4 : Int32) v414)), (.int (4 : Int32)), (.ref b420)])) _
    refine st465 _ ?_
    show Steps p.tables e below (T465.setTop (mkF m 74 #[.val (.int p0), .val (.int p1), .val (.int p2), .val (.int p3), .val (.int v414), .val (.int v419), .val (.ref b420), .unset, .unset, .unset, .unset, .unset, .unset] [])) _
    refine XS.aload X465.here hx rfl (hb hby at_74) rfl rfl ?_
    show Steps p.tables e below (T465.setTop (mkF m 76 #[.val (.int p0), .val (.int p1), .val (.int p2), .val (.int p3), .val (.int v414), .val (.int v419), .val (.ref b420), .unset, .unset, .unset, .unset, .unset, .unset] [(.ref b420)])) _
    refine XS.iconst X465.here hx rfl (hb hby at_76) ?_
    show Steps p.tables e below (T465.setTop (mkF m 77 #[.val (.int p0), .val (.int p1), .val (.int p2), .val (.int p3), .val (.int v414), .val (.int v419), .val (.ref b420), .unset, .unset, .unset, .unset, .unset, .unset] [(.int (5 : Int32)), (.ref b420)])) _
    refine XS.iconst X465.here hx rfl (hb hby at_77) ?_
    show Steps p.tables e below (T465.setTop (mkF m 78 #[.val (.int p0), .val (.int p1), .val (.int p2), .val (.int p3), .val (.int v414), .val (.int v419), .val (.ref b420), .unset, .unset, .unset, .unset, .unset, .unset] [(.int (5 : Int32)), (.int (5 : Int32)), (.ref b420)])) _
    refine XS.iload X465.here hx rfl (hb hby at_78) rfl ?_
    show Steps p.tables e below (T465.setTop (mkF m 80 #[.val (.int p0), .val (.int p1), .val (.int p2), .val (.int p3), .val (.int v414), .val (.int v419), .val (.ref b420), .unset, .unset, .unset, .unset, .unset, .unset] [(.int v414), (.int (5 : Int32)), (.int (5 : Int32)), (.ref b420)])) _
    exact kt
  obtain ⟨_, _, ⟨T469, L469, kc469, nc469⟩, -, X469, hs469, gr469, ⟨Lc469, hQ469, l469, y469, z469, ch469⟩, st469⟩ := callSS X465 hx (y := (⟨"com/example/benzer/benzer/cli/JsonReaderStartPinLaw", "prevByte", "(II)B"⟩ : MethodName)) hown (mvT hZ (hw _ (List.mem_of_getElem? (i := 1) rfl))) (mvT hZ (hw _ (List.mem_of_getElem? (i := 2) rfl))) (mvT hZ (hw _ (List.mem_of_getElem? (i := 3) rfl))) (mvT hZ (hw _ (List.mem_of_getElem? (i := 4) rfl))) (by decide) (backOfSH (s := s) (vm0 := T460.vm) (W := 2) (rm1 l Z a0 hw [] (5 : Int32) v414 zc fm k 5 h465 n0 f467 (S_zc.ext f468.2) (S_fm.ext f468.2) hz hfm hk hk3 (by decide) (by decide)) hZ (hw _ (List.mem_of_getElem? (i := 4) rfl)) (hw _ (List.mem_of_getElem? (i := 3) rfl)) (by decide) (by decide) hEL R466.1) (g := (mkF m 80 #[.val (.int p0), .val (.int p1), .val (.int p2), .val (.int p3), .val (.int v414), .val (.int v419), .val (.ref b420), .unset, .unset, .unset, .unset, .unset, .unset] [(.int v414), (.int (5 : Int32)), (.int (5 : Int32)), (.ref b420)])) rfl (by rw [hml]; rfl) (argsL := [(.int (5 : Int32)), (.int v414)]) (rest := [(.int (5 : Int32)), (.ref b420)]) (lenOf pd_0 rfl) rfl (by show 2 * 0 + _ ≤ _; exact Nat.le_of_eq rfl) (hb hby at_80) (fun _ _ => ⟨rfl, e465, (by decide : 11 + 2 ≤ _), (by decide : 108 + 20 ≤ _)⟩)
  dsimp only [Pt.U, Pt.locs, Pt.cells, Pt.slots] at X469 l469 y469 z469 st469 hQ469 hs469 gr469 ch469
  rw [l469, y469, z469] at X469
  have f471 := (Nat.le_trans (Nat.le_refl T460.heap.size) (Keep.of_wr W465).1)
  obtain ⟨X469, hS469, hZ, hown⟩ := rebS (s := s) (vm0 := T460.vm) (vm1 := T469.vm) hS460 (Nat.le_trans f471 (Nat.le_of_eq (congrArg Array.size (Eq.symm (show T465.heap = h465 from e465))))) X469 hs469 gr469 hZ hown
  replace X469 : Stand p l e room_1 (s.setVm T469.vm) m #[(.int p0), (.int p1), (.int p2), (.int p3)] below meth c T469 _ 13 128 := X469
  obtain ⟨rfl, Nq469, oK469⟩ := hQ469
  have N469 := Fr.app N465 Nq469
  have R472 := R466.trans ch469
  have sf_b420_472 := ch469.safe (V465).lt sf_b420_466
  have f473 := (V465.keep oK469 nin0)
  obtain ⟨T474, h474, X474, e474, W474, V474, st474⟩ := own_stB X469 hx hZ rfl f473 (i := 5) (by decide : (5 : Int32).toInt = ((5 : Nat) : Int)) (by decide) (g := (mkF m 83 #[.val (.int p0), .val (.int p1), .val (.int p2), .val (.int p3), .val (.int v414), .val (.int v419), .val (.ref b420), .unset, .unset, .unset, .unset, .unset, .unset] [(.int (own_pb (5 : Int32) v414)), (.int (5 : Int32)), (.ref b420)])) rfl rfl (hb hby at_83)
  have N474 := Fr.snoc X474 N469 ge_b420
  have C475 := CHr.keep (Keep.of_wr W474) (sfS sf_b420_472 sf0) R472.1
  have R475 := R472.trans C475
  have sf_b420_475 := C475.safe (f473).lt sf_b420_472
  have f476 := (Nat.le_trans (Nat.le_trans f467 oK469.1) (Keep.of_wr W474).1)
  have f477 := ((f468.keep oK469 all0).keep (Keep.of_wr W474) (allS ge_b420 all0))
  have k479 : ∀ tg_, Steps p.tables e below (T474.setTop (mkF m 92 #[.val (.int p0), .val (.int p1), .val (.int p2), .val (.int p3), .val (.int v414), .val (.int v419), .val (.ref b420), .unset, .unset, .unset, .unset, .unset, .unset] [(.int v414), (.int (6 : Int32)), (.int (6 : Int32)), (.ref b420)])) tg_ → Steps p.tables e below (s₁.setTop (entryFrame m #[(.int p0), (.int p1), (.int p2), (.int p3)] maxLocals)) tg_ := by
    intro tg_ kt
    refine k470 tg_ ?_
    refine st469.trans ?_
    show Steps p.tables e below (T469.setTop (mkF m 83 #[.val (.int p0), .val (.int p1), .val (.int p2), .val (.int p3), .val (.int v414), .val (.int v419), .val (.ref b420), .unset, .unset, .unset, .unset, .unset, .unset] [(.int (own_pb (5 : Int32) v414)), (.int (5 : Int32)), (.ref b420)])) _
    refine st474 _ ?_
    show Steps p.tables e below (T474.setTop (mkF m 84 #[.val (.int p0), .val (.int p1), .val (.int p2), .val (.int p3), .val (.int v414), .val (.int v419), .val (.ref b420), .unset, .unset, .unset, .unset, .unset, .unset] [])) _
    refine XS.aload X474.here hx rfl (hb hby at_84) rfl rfl ?_
    show Steps p.tables e below (T474.setTop (mkF m 86 #[.val (.int p0), .val (.int p1), .val (.int p2), .val (.int p3), .val (.int v414), .val (.int v419), .val (.ref b420), .unset, .unset, .unset, .unset, .unset, .unset] [(.ref b420)])) _
    refine XS.bipush X474.here hx rfl (hb hby at_86) ?_
    show Steps p.tables e below (T474.setTop (mkF m 88 #[.val (.int p0), .val (.int p1), .val (.int p2), .val (.int p3), .val (.int v414), .val (.int v419), .val (.ref b420), .unset, .unset, .unset, .unset, .unset, .unset] [(.int (6 : Int32)), (.ref b420)])) _
    refine XS.bipush X474.here hx rfl (hb hby at_88) ?_
    show Steps p.tables e below (T474.setTop (mkF m 90 #[.val (.int p0), .val (.int p1), .val (.int p2), .val (.int p3), .val (.int v414), .val (.int v419), .val (.ref b420), .unset, .unset, .unset, .unset, .unset, .unset] [(.int (6 : Int32)), (.int (6 : Int32)), (.ref b420)])) _
    refine XS.iload X474.here hx rfl (hb hby at_90) rfl ?_
    show Steps p.tables e below (T474.setTop (mkF m 92 #[.val (.int p0), .val (.int p1), .val (.int p2), .val (.int p3), .val (.int v414), .val (.int v419), .val (.ref b420), .unset, .unset, .unset, .unset, .unset, .unset] [(.int v414), (.int (6 : Int32)), (.int (6 : Int32)), (.ref b420)])) _
    exact kt
  obtain ⟨_, _, ⟨T478, L478, kc478, nc478⟩, -, X478, hs478, gr478, ⟨Lc478, hQ478, l478, y478, z478, ch478⟩, st478⟩ := callSS X474 hx (y := (⟨"com/example/benzer/benzer/cli/JsonReaderStartPinLaw", "prevByte", "(II)B"⟩ : MethodName)) hown (mvT hZ (hw _ (List.mem_of_getElem? (i := 1) rfl))) (mvT hZ (hw _ (List.mem_of_getElem? (i := 2) rfl))) (mvT hZ (hw _ (List.mem_of_getElem? (i := 3) rfl))) (mvT hZ (hw _ (List.mem_of_getElem? (i := 4) rfl))) (by decide) (backOfSH (s := s) (vm0 := T469.vm) (W := 2) (rm1 l Z a0 hw [] (6 : Int32) v414 zc fm k 6 h474 n0 f476 (S_zc.ext f477.2) (S_fm.ext f477.2) hz hfm hk hk3 (by decide) (by decide)) hZ (hw _ (List.mem_of_getElem? (i := 4) rfl)) (hw _ (List.mem_of_getElem? (i := 3) rfl)) (by decide) (by decide) hEL R475.1) (g := (mkF m 92 #[.val (.int p0), .val (.int p1), .val (.int p2), .val (.int p3), .val (.int v414), .val (.int v419), .val (.ref b420), .unset, .unset, .unset, .unset, .unset, .unset] [(.int v414), (.int (6 : Int32)), (.int (6 : Int32)), (.ref b420)])) rfl (by rw [hml]; rfl) (argsL := [(.int (6 : Int32)), (.int v414)]) (rest := [(.int (6 : Int32)), (.ref b420)]) (lenOf pd_0 rfl) rfl (by show 2 * 0 + _ ≤ _; exact Nat.le_of_eq rfl) (hb hby at_92) (fun _ _ => ⟨rfl, e474, (by decide : 13 + 2 ≤ _), (by decide : 128 + 20 ≤ _)⟩)
  dsimp only [Pt.U, Pt.locs, Pt.cells, Pt.slots] at X478 l478 y478 z478 st478 hQ478 hs478 gr478 ch478
  rw [l478, y478, z478] at X478
  have f480 := (Nat.le_trans (Nat.le_refl T469.heap.size) (Keep.of_wr W474).1)
  obtain ⟨X478, hS478, hZ, hown⟩ := rebS (s := s) (vm0 := T469.vm) (vm1 := T478.vm) hS469 (Nat.le_trans f480 (Nat.le_of_eq (congrArg Array.size (Eq.symm (show T474.heap = h474 from e474))))) X478 hs478 gr478 hZ hown
  replace X478 : Stand p l e room_1 (s.setVm T478.vm) m #[(.int p0), (.int p1), (.int p2), (.int p3)] below meth c T478 _ 15 148 := X478
  obtain ⟨rfl, Nq478, oK478⟩ := hQ478
  have N478 := Fr.app N474 Nq478
  have R481 := R475.trans ch478
  have sf_b420_481 := ch478.safe (V474).lt sf_b420_475
  have f482 := (V474.keep oK478 nin0)
  obtain ⟨T483, h483, X483, e483, W483, V483, st483⟩ := own_stB X478 hx hZ rfl f482 (i := 6) (by decide : (6 : Int32).toInt = ((6 : Nat) : Int)) (by decide) (g := (mkF m 95 #[.val (.int p0), .val (.int p1), .val (.int p2), .val (.int p3), .val (.int v414), .val (.int v419), .val (.ref b420), .unset, .unset, .unset, .unset, .unset, .unset] [(.int (own_pb (6 : Int32) v414)), (.int (6 : Int32)), (.ref b420)])) rfl rfl (hb hby at_95)
  have N483 := Fr.snoc X483 N478 ge_b420
  have C484 := CHr.keep (Keep.of_wr W483) (sfS sf_b420_481 sf0) R481.1
  have R484 := R481.trans C484
  have sf_b420_484 := C484.safe (f482).lt sf_b420_481
  have f485 := (Nat.le_trans (Nat.le_trans f476 oK478.1) (Keep.of_wr W483).1)
  have f486 := ((f477.keep oK478 all0).keep (Keep.of_wr W483) (allS ge_b420 all0))
  have k488 : ∀ tg_, Steps p.tables e below (T483.setTop (mkF m 104 #[.val (.int p0), .val (.int p1), .val (.int p2), .val (.int p3), .val (.int v414), .val (.int v419), .val (.ref b420), .unset, .unset, .unset, .unset, .unset, .unset] [(.int v414), (.int (7 : Int32)), (.int (7 : Int32)), (.ref b420)])) tg_ → Steps p.tables e below (s₁.setTop (entryFrame m #[(.int p0), (.int p1), (.int p2), (.int p3)] maxLocals)) tg_ := by
    intro tg_ kt
    refine k479 tg_ ?_
    refine st478.trans ?_
    show Steps p.tables e below (T478.setTop (mkF m 95 #[.val (.int p0), .val (.int p1), .val (.int p2), .val (.int p3), .val (.int v414), .val (.int v419), .val (.ref b420), .unset, .unset, .unset, .unset, .unset, .unset] [(.int (own_pb (6 : Int32) v414)), (.int (6 : Int32)), (.ref b420)])) _
    refine st483 _ ?_
    show Steps p.tables e below (T483.setTop (mkF m 96 #[.val (.int p0), .val (.int p1), .val (.int p2), .val (.int p3), .val (.int v414), .val (.int v419), .val (.ref b420), .unset, .unset, .unset, .unset, .unset, .unset] [])) _
    refine XS.aload X483.here hx rfl (hb hby at_96) rfl rfl ?_
    show Steps p.tables e below (T483.setTop (mkF m 98 #[.val (.int p0), .val (.int p1), .val (.int p2), .val (.int p3), .val (.int v414), .val (.int v419), .val (.ref b420), .unset, .unset, .unset, .unset, .unset, .unset] [(.ref b420)])) _
    refine XS.bipush X483.here hx rfl (hb hby at_98) ?_
    show Steps p.tables e below (T483.setTop (mkF m 100 #[.val (.int p0), .val (.int p1), .val (.int p2), .val (.int p3), .val (.int v414), .val (.int v419), .val (.ref b420), .unset, .unset, .unset, .unset, .unset, .unset] [(.int (7 : Int32)), (.ref b420)])) _
    refine XS.bipush X483.here hx rfl (hb hby at_100) ?_
    show Steps p.tables e below (T483.setTop (mkF m 102 #[.val (.int p0), .val (.int p1), .val (.int p2), .val (.int p3), .val (.int v414), .val (.int v419), .val (.ref b420), .unset, .unset, .unset, .unset, .unset, .unset] [(.int (7 : Int32)), (.int (7 : Int32)), (.ref b420)])) _
    refine XS.iload X483.here hx rfl (hb hby at_102) rfl ?_
    show Steps p.tables e below (T483.setTop (mkF m 104 #[.val (.int p0), .val (.int p1), .val (.int p2), .val (.int p3), .val (.int v414), .val (.int v419), .val (.ref b420), .unset, .unset, .unset, .unset, .unset, .unset] [(.int v414), (.int (7 : Int32)), (.int (7 : Int32)), (.ref b420)])) _
    exact kt
  obtain ⟨_, _, ⟨T487, L487, kc487, nc487⟩, -, X487, hs487, gr487, ⟨Lc487, hQ487, l487, y487, z487, ch487⟩, st487⟩ := callSS X483 hx (y := (⟨"com/example/benzer/benzer/cli/JsonReaderStartPinLaw", "prevByte", "(II)B"⟩ : MethodName)) hown (mvT hZ (hw _ (List.mem_of_getElem? (i := 1) rfl))) (mvT hZ (hw _ (List.mem_of_getElem? (i := 2) rfl))) (mvT hZ (hw _ (List.mem_of_getElem? (i := 3) rfl))) (mvT hZ (hw _ (List.mem_of_getElem? (i := 4) rfl))) (by decide) (backOfSH (s := s) (vm0 := T478.vm) (W := 2) (rm1 l Z a0 hw [] (7 : Int32) v414 zc fm k 7 h483 n0 f485 (S_zc.ext f486.2) (S_fm.ext f486.2) hz hfm hk hk3 (by decide) (by decide)) hZ (hw _ (List.mem_of_getElem? (i := 4) rfl)) (hw _ (List.mem_of_getElem? (i := 3) rfl)) (by decide) (by decide) hEL R484.1) (g := (mkF m 104 #[.val (.int p0), .val (.int p1), .val (.int p2), .val (.int p3), .val (.int v414), .val (.int v419), .val (.ref b420), .unset, .unset, .unset, .unset, .unset, .unset] [(.int v414), (.int (7 : Int32)), (.int (7 : Int32)), (.ref b420)])) rfl (by rw [hml]; rfl) (argsL := [(.int (7 : Int32)), (.int v414)]) (rest := [(.int (7 : Int32)), (.ref b420)]) (lenOf pd_0 rfl) rfl (by show 2 * 0 + _ ≤ _; exact Nat.le_of_eq rfl) (hb hby at_104) (fun _ _ => ⟨rfl, e483, (by decide : 15 + 2 ≤ _), (by decide : 148 + 20 ≤ _)⟩)
  dsimp only [Pt.U, Pt.locs, Pt.cells, Pt.slots] at X487 l487 y487 z487 st487 hQ487 hs487 gr487 ch487
  rw [l487, y487, z487] at X487
  have f489 := (Nat.le_trans (Nat.le_refl T478.heap.size) (Keep.of_wr W483).1)
  obtain ⟨X487, hS487, hZ, hown⟩ := rebS (s := s) (vm0 := T478.vm) (vm1 := T487.vm) hS478 (Nat.le_trans f489 (Nat.le_of_eq (congrArg Array.size (Eq.symm (show T483.heap = h483 from e483))))) X487 hs487 gr487 hZ hown
  replace X487 : Stand p l e room_1 (s.setVm T487.vm) m #[(.int p0), (.int p1), (.int p2), (.int p3)] below meth c T487 _ 17 168 := X487
  obtain ⟨rfl, Nq487, oK487⟩ := hQ487
  have N487 := Fr.app N483 Nq487
  have R490 := R484.trans ch487
  have sf_b420_490 := ch487.safe (V483).lt sf_b420_484
  have f491 := (V483.keep oK487 nin0)
  obtain ⟨T492, h492, X492, e492, W492, V492, st492⟩ := own_stB X487 hx hZ rfl f491 (i := 7) (by decide : (7 : Int32).toInt = ((7 : Nat) : Int)) (by decide) (g := (mkF m 107 #[.val (.int p0), .val (.int p1), .val (.int p2), .val (.int p3), .val (.int v414), .val (.int v419), .val (.ref b420), .unset, .unset, .unset, .unset, .unset, .unset] [(.int (own_pb (7 : Int32) v414)), (.int (7 : Int32)), (.ref b420)])) rfl rfl (hb hby at_107)
  have N492 := Fr.snoc X492 N487 ge_b420
  have C493 := CHr.keep (Keep.of_wr W492) (sfS sf_b420_490 sf0) R490.1
  have R493 := R490.trans C493
  have sf_b420_493 := C493.safe (f491).lt sf_b420_490
  have k494 : ∀ tg_, Steps p.tables e below (T492.setTop (mkF m 108 #[.val (.int p0), .val (.int p1), .val (.int p2), .val (.int p3), .val (.int v414), .val (.int v419), .val (.ref b420), .unset, .unset, .unset, .unset, .unset, .unset] [])) tg_ → Steps p.tables e below (s₁.setTop (entryFrame m #[(.int p0), (.int p1), (.int p2), (.int p3)] maxLocals)) tg_ := by
    intro tg_ kt
    refine k488 tg_ ?_
    refine st487.trans ?_
    show Steps p.tables e below (T487.setTop (mkF m 107 #[.val (.int p0), .val (.int p1), .val (.int p2), .val (.int p3), .val (.int v414), .val (.int v419), .val (.ref b420), .unset, .unset, .unset, .unset, .unset, .unset] [(.int (own_pb (7 : Int32) v414)), (.int (7 : Int32)), (.ref b420)])) _
    refine st492 _ ?_
    show Steps p.tables e below (T492.setTop (mkF m 108 #[.val (.int p0), .val (.int p1), .val (.int p2), .val (.int p3), .val (.int v414), .val (.int v419), .val (.ref b420), .unset, .unset, .unset, .unset, .unset, .unset] [])) _
    exact kt
  have Vp : own_AI Z _ b420 .byte 8 (own_prev v414) := V492
  obtain ⟨hfit, hs32, hn0, hn1, hn2, hn3⟩ := own_prev_ok hk hk3
  obtain ⟨T495, h495, kA495, X495, e495, E495, A495, st495⟩ := newP X492 hx hZ (hw _ (List.mem_of_getElem? (i := 0) rfl)) e492 (g := (mkF m 110 #[.val (.int p0), .val (.int p1), .val (.int p2), .val (.int p3), .val (.int v414), .val (.int v419), .val (.ref b420), .unset, .unset, .unset, .unset, .unset, .unset] [(.int (6 : Int32))])) rfl (hb hby at_110) rfl (by decide) (cap := 6) (by decide) (by decide) (by decide) (by decide)
  obtain ⟨b495, g495⟩ : ∃ z, z = h492.size := ⟨_, rfl⟩
  rw [← g495] at A495 st495
  have f496 := ((f486.keep oK487 all0).keep (Keep.of_wr W492) (allS ge_b420 all0))
  have ne_cs_b495 : cs ≠ b495 := Nat.ne_of_lt (Nat.lt_of_lt_of_le ((E_cs.ext f496.2)).lt (Nat.le_of_eq g495.symm))
  have ne_b420_b495 : b420 ≠ b495 := Nat.ne_of_lt (Nat.lt_of_lt_of_le (Vp).lt (Nat.le_of_eq g495.symm))
  have f497 := (Nat.le_trans (Nat.le_trans f485 oK487.1) (Keep.of_wr W492).1)
  have ge_b495 : n0 ≤ b495 := Nat.le_trans f497 (Nat.le_of_eq g495.symm)
  have C498 := CHr.keep ((Keep.refl _ []).ext E495) sf0 R493.1
  have R498 := R493.trans C498
  have sf_b420_498 := C498.safe (Vp).lt sf_b420_493
  have sf_b495 := Safe.ext E495 R493.1 (Safe.new (Nat.le_of_eq g495.symm))
  have V495 : own_AI Z h495 b495 .byte 6 (fun _ => 0) := own_newI (by decide : (6 : Int32).toInt = ((6 : Nat) : Int)) A495 rfl
  obtain ⟨T499, h499, X499, e499, W499, V499, st499⟩ := own_stB X495 hx hZ e495 V495 (i := 0) (by decide : (0 : Int32).toInt = ((0 : Nat) : Int)) (by decide) (g := (mkF m 119 #[.val (.int p0), .val (.int p1), .val (.int p2), .val (.int p3), .val (.int v414), .val (.int v419), .val (.ref b420), .val (.ref b495), .unset, .unset, .unset, .unset, .unset] [(.int (p0.toInt8.toInt32)), (.int (0 : Int32)), (.ref b495)])) rfl rfl (hb hby at_119)
  have N499 := Fr.snoc X499 N492 ge_b495
  have C500 := CHr.keep (Keep.of_wr W499) (sfS sf_b495 sf0) R498.1
  have R500 := R498.trans C500
  have f501 := (Vp.keep ((Keep.refl _ []).ext E495) nin0)
  have sf_b420_500 := C500.safe (f501).lt sf_b420_498
  have sf_b495_500 := C500.safe (V495).lt sf_b495
  obtain ⟨T502, h502, X502, e502, W502, V502, st502⟩ := own_stB X499 hx hZ e499 V499 (i := 1) (by decide : (1 : Int32).toInt = ((1 : Nat) : Int)) (by decide) (g := (mkF m 128 #[.val (.int p0), .val (.int p1), .val (.int p2), .val (.int p3), .val (.int v414), .val (.int v419), .val (.ref b420), .val (.ref b495), .unset, .unset, .unset, .unset, .unset] [(.int ((p0 >>> ((8 : Int32) &&& 31)).toInt8.toInt32)), (.int (1 : Int32)), (.ref b495)])) rfl rfl (hb hby at_128)
  have N502 := Fr.snoc X502 N499 ge_b495
  have C503 := CHr.keep (Keep.of_wr W502) (sfS sf_b495_500 sf0) R500.1
  have R503 := R500.trans C503
  have f504 := (f501.keep (Keep.of_wr W499) (ninS ne_b420_b495 nin0))
  have sf_b420_503 := C503.safe (f504).lt sf_b420_500
  have sf_b495_503 := C503.safe (V499).lt sf_b495_500
  obtain ⟨T505, h505, X505, e505, W505, V505, st505⟩ := own_stB X502 hx hZ e502 V502 (i := 2) (by decide : (2 : Int32).toInt = ((2 : Nat) : Int)) (by decide) (g := (mkF m 137 #[.val (.int p0), .val (.int p1), .val (.int p2), .val (.int p3), .val (.int v414), .val (.int v419), .val (.ref b420), .val (.ref b495), .unset, .unset, .unset, .unset, .unset] [(.int ((p0 >>> ((16 : Int32) &&& 31)).toInt8.toInt32)), (.int (2 : Int32)), (.ref b495)])) rfl rfl (hb hby at_137)
  have N505 := Fr.snoc X505 N502 ge_b495
  have C506 := CHr.keep (Keep.of_wr W505) (sfS sf_b495_503 sf0) R503.1
  have R506 := R503.trans C506
  have f507 := (f504.keep (Keep.of_wr W502) (ninS ne_b420_b495 nin0))
  have sf_b420_506 := C506.safe (f507).lt sf_b420_503
  have sf_b495_506 := C506.safe (V502).lt sf_b495_503
  have k508 : ∀ tg_, Steps p.tables e below (T505.setTop (mkF m 144 #[.val (.int p0), .val (.int p1), .val (.int p2), .val (.int p3), .val (.int v414), .val (.int v419), .val (.ref b420), .val (.ref b495), .unset, .unset, .unset, .unset, .unset] [(.int (24 : Int32)), (.int p0), (.int (3 : Int32)), (.ref b495)])) tg_ → Steps p.tables e below (s₁.setTop (entryFrame m #[(.int p0), (.int p1), (.int p2), (.int p3)] maxLocals)) tg_ := by
    intro tg_ kt
    refine k494 tg_ ?_
    refine XS.bipush X492.here hx rfl (hb hby at_108) ?_
    show Steps p.tables e below (T492.setTop (mkF m 110 #[.val (.int p0), .val (.int p1), .val (.int p2), .val (.int p3), .val (.int v414), .val (.int v419), .val (.ref b420), .unset, .unset, .unset, .unset, .unset, .unset] [(.int (6 : Int32))])) _
    refine st495 _ ?_
    show Steps p.tables e below (T495.setTop (mkF m 112 #[.val (.int p0), .val (.int p1), .val (.int p2), .val (.int p3), .val (.int v414), .val (.int v419), .val (.ref b420), .unset, .unset, .unset, .unset, .unset, .unset] [(.ref b495)])) _
    refine XS.astore X495.here hx rfl (hb hby at_112) rfl rfl (l' := #[.val (.int p0), .val (.int p1), .val (.int p2), .val (.int p3), .val (.int v414), .val (.int v419), .val (.ref b420), .val (.ref b495), .unset, .unset, .unset, .unset, .unset]) rfl ?_
    show Steps p.tables e below (T495.setTop (mkF m 114 #[.val (.int p0), .val (.int p1), .val (.int p2), .val (.int p3), .val (.int v414), .val (.int v419), .val (.ref b420), .val (.ref b495), .unset, .unset, .unset, .unset, .unset] [])) _
    refine XS.aload X495.here hx rfl (hb hby at_114) rfl rfl ?_
    show Steps p.tables e below (T495.setTop (mkF m 116 #[.val (.int p0), .val (.int p1), .val (.int p2), .val (.int p3), .val (.int v414), .val (.int v419), .val (.ref b420), .val (.ref b495), .unset, .unset, .unset, .unset, .unset] [(.ref b495)])) _
    refine XS.iconst X495.here hx rfl (hb hby at_116) ?_
    show Steps p.tables e below (T495.setTop (mkF m 117 #[.val (.int p0), .val (.int p1), .val (.int p2), .val (.int p3), .val (.int v414), .val (.int v419), .val (.ref b420), .val (.ref b495), .unset, .unset, .unset, .unset, .unset] [(.int (0 : Int32)), (.ref b495)])) _
    refine XS.iloadN X495.here hx rfl (hb hby at_117) rfl ?_
    show Steps p.tables e below (T495.setTop (mkF m 118 #[.val (.int p0), .val (.int p1), .val (.int p2), .val (.int p3), .val (.int v414), .val (.int v419), .val (.ref b420), .val (.ref b495), .unset, .unset, .unset, .unset, .unset] [(.int p0), (.int (0 : Int32)), (.ref b495)])) _
    refine XS.i2b X495.here hx rfl (hb hby at_118) rfl ?_
    show Steps p.tables e below (T495.setTop (mkF m 119 #[.val (.int p0), .val (.int p1), .val (.int p2), .val (.int p3), .val (.int v414), .val (.int v419), .val (.ref b420), .val (.ref b495), .unset, .unset, .unset, .unset, .unset] [(.int (p0.toInt8.toInt32)), (.int (0 : Int32)), (.ref b495)])) _
    refine st499 _ ?_
    show Steps p.tables e below (T499.setTop (mkF m 120 #[.val (.int p0), .val (.int p1), .val (.int p2), .val (.int p3), .val (.int v414), .val (.int v419), .val (.ref b420), .val (.ref b495), .unset, .unset, .unset, .unset, .unset] [])) _
    refine XS.aload X499.here hx rfl (hb hby at_120) rfl rfl ?_
    show Steps p.tables e below (T499.setTop (mkF m 122 #[.val (.int p0), .val (.int p1), .val (.int p2), .val (.int p3), .val (.int v414), .val (.int v419), .val (.ref b420), .val (.ref b495), .unset, .unset, .unset, .unset, .unset] [(.ref b495)])) _
    refine XS.iconst X499.here hx rfl (hb hby at_122) ?_
    show Steps p.tables e below (T499.setTop (mkF m 123 #[.val (.int p0), .val (.int p1), .val (.int p2), .val (.int p3), .val (.int v414), .val (.int v419), .val (.ref b420), .val (.ref b495), .unset, .unset, .unset, .unset, .unset] [(.int (1 : Int32)), (.ref b495)])) _
    refine XS.iloadN X499.here hx rfl (hb hby at_123) rfl ?_
    show Steps p.tables e below (T499.setTop (mkF m 124 #[.val (.int p0), .val (.int p1), .val (.int p2), .val (.int p3), .val (.int v414), .val (.int v419), .val (.ref b420), .val (.ref b495), .unset, .unset, .unset, .unset, .unset] [(.int p0), (.int (1 : Int32)), (.ref b495)])) _
    refine XS.bipush X499.here hx rfl (hb hby at_124) ?_
    show Steps p.tables e below (T499.setTop (mkF m 126 #[.val (.int p0), .val (.int p1), .val (.int p2), .val (.int p3), .val (.int v414), .val (.int v419), .val (.ref b420), .val (.ref b495), .unset, .unset, .unset, .unset, .unset] [(.int (8 : Int32)), (.int p0), (.int (1 : Int32)), (.ref b495)])) _
    refine XS.ishr X499.here hx rfl (hb hby at_126) rfl ?_
    show Steps p.tables e below (T499.setTop (mkF m 127 #[.val (.int p0), .val (.int p1), .val (.int p2), .val (.int p3), .val (.int v414), .val (.int v419), .val (.ref b420), .val (.ref b495), .unset, .unset, .unset, .unset, .unset] [(.int (p0 >>> ((8 : Int32) &&& 31))), (.int (1 : Int32)), (.ref b495)])) _
    refine XS.i2b X499.here hx rfl (hb hby at_127) rfl ?_
    show Steps p.tables e below (T499.setTop (mkF m 128 #[.val (.int p0), .val (.int p1), .val (.int p2), .val (.int p3), .val (.int v414), .val (.int v419), .val (.ref b420), .val (.ref b495), .unset, .unset, .unset, .unset, .unset] [(.int ((p0 >>> ((8 : Int32) &&& 31)).toInt8.toInt32)), (.int (1 : Int32)), (.ref b495)])) _
    refine st502 _ ?_
    show Steps p.tables e below (T502.setTop (mkF m 129 #[.val (.int p0), .val (.int p1), .val (.int p2), .val (.int p3), .val (.int v414), .val (.int v419), .val (.ref b420), .val (.ref b495), .unset, .unset, .unset, .unset, .unset] [])) _
    refine XS.aload X502.here hx rfl (hb hby at_129) rfl rfl ?_
    show Steps p.tables e below (T502.setTop (mkF m 131 #[.val (.int p0), .val (.int p1), .val (.int p2), .val (.int p3), .val (.int v414), .val (.int v419), .val (.ref b420), .val (.ref b495), .unset, .unset, .unset, .unset, .unset] [(.ref b495)])) _
    refine XS.iconst X502.here hx rfl (hb hby at_131) ?_
    show Steps p.tables e below (T502.setTop (mkF m 132 #[.val (.int p0), .val (.int p1), .val (.int p2), .val (.int p3), .val (.int v414), .val (.int v419), .val (.ref b420), .val (.ref b495), .unset, .unset, .unset, .unset, .unset] [(.int (2 : Int32)), (.ref b495)])) _
    refine XS.iloadN X502.here hx rfl (hb hby at_132) rfl ?_
    show Steps p.tables e below (T502.setTop (mkF m 133 #[.val (.int p0), .val (.int p1), .val (.int p2), .val (.int p3), .val (.int v414), .val (.int v419), .val (.ref b420), .val (.ref b495), .unset, .unset, .unset, .unset, .unset] [(.int p0), (.int (2 : Int32)), (.ref b495)])) _
    refine XS.bipush X502.here hx rfl (hb hby at_133) ?_
    show Steps p.tables e below (T502.setTop (mkF m 135 #[.val (.int p0), .val (.int p1), .val (.int p2), .val (.int p3), .val (.int v414), .val (.int v419), .val (.ref b420), .val (.ref b495), .unset, .unset, .unset, .unset, .unset] [(.int (16 : Int32)), (.int p0), (.int (2 : Int32)), (.ref b495)])) _
    refine XS.ishr X502.here hx rfl (hb hby at_135) rfl ?_
    show Steps p.tables e below (T502.setTop (mkF m 136 #[.val (.int p0), .val (.int p1), .val (.int p2), .val (.int p3), .val (.int v414), .val (.int v419), .val (.ref b420), .val (.ref b495), .unset, .unset, .unset, .unset, .unset] [(.int (p0 >>> ((16 : Int32) &&& 31))), (.int (2 : Int32)), (.ref b495)])) _
    refine XS.i2b X502.here hx rfl (hb hby at_136) rfl ?_
    show Steps p.tables e below (T502.setTop (mkF m 137 #[.val (.int p0), .val (.int p1), .val (.int p2), .val (.int p3), .val (.int v414), .val (.int v419), .val (.ref b420), .val (.ref b495), .unset, .unset, .unset, .unset, .unset] [(.int ((p0 >>> ((16 : Int32) &&& 31)).toInt8.toInt32)), (.int (2 : Int32)), (.ref b495)])) _
    refine st505 _ ?_
    show Steps p.tables e below (T505.setTop (mkF m 138 #[.val (.int p0), .val (.int p1), .val (.int p2), .val (.int p3), .val (.int v414), .val (.int v419), .val (.ref b420), .val (.ref b495), .unset, .unset, .unset, .unset, .unset] [])) _
    refine XS.aload X505.here hx rfl (hb hby at_138) rfl rfl ?_
    show Steps p.tables e below (T505.setTop (mkF m 140 #[.val (.int p0), .val (.int p1), .val (.int p2), .val (.int p3), .val (.int v414), .val (.int v419), .val (.ref b420), .val (.ref b495), .unset, .unset, .unset, .unset, .unset] [(.ref b495)])) _
    refine XS.iconst X505.here hx rfl (hb hby at_140) ?_
    show Steps p.tables e below (T505.setTop (mkF m 141 #[.val (.int p0), .val (.int p1), .val (.int p2), .val (.int p3), .val (.int v414), .val (.int v419), .val (.ref b420), .val (.ref b495), .unset, .unset, .unset, .unset, .unset] [(.int (3 : Int32)), (.ref b495)])) _
    refine XS.iloadN X505.here hx rfl (hb hby at_141) rfl ?_
    show Steps p.tables e below (T505.setTop (mkF m 142 #[.val (.int p0), .val (.int p1), .val (.int p2), .val (.int p3), .val (.int v414), .val (.int v419), .val (.ref b420), .val (.ref b495), .unset, .unset, .unset, .unset, .unset] [(.int p0), (.int (3 : Int32)), (.ref b495)])) _
    refine XS.bipush X505.here hx rfl (hb hby at_142) ?_
    show Steps p.tables e below (T505.setTop (mkF m 144 #[.val (.int p0), .val (.int p1), .val (.int p2), .val (.int p3), .val (.int v414), .val (.int v419), .val (.ref b420), .val (.ref b495), .unset, .unset, .unset, .unset, .unset] [(.int (24 : Int32)), (.int p0), (.int (3 : Int32)), (.ref b495)])) _
    exact kt
  obtain ⟨T509, h509, X509, e509, W509, V509, st509⟩ := own_stB X505 hx hZ e505 V505 (i := 3) (by decide : (3 : Int32).toInt = ((3 : Nat) : Int)) (by decide) (g := (mkF m 146 #[.val (.int p0), .val (.int p1), .val (.int p2), .val (.int p3), .val (.int v414), .val (.int v419), .val (.ref b420), .val (.ref b495), .unset, .unset, .unset, .unset, .unset] [(.int ((p0 >>> ((24 : Int32) &&& 31)).toInt8.toInt32)), (.int (3 : Int32)), (.ref b495)])) rfl rfl (hb hby at_146)
  have N509 := Fr.snoc X509 N505 ge_b495
  have C510 := CHr.keep (Keep.of_wr W509) (sfS sf_b495_506 sf0) R506.1
  have R510 := R506.trans C510
  have f511 := (f507.keep (Keep.of_wr W505) (ninS ne_b420_b495 nin0))
  have sf_b420_510 := C510.safe (f511).lt sf_b420_506
  have sf_b495_510 := C510.safe (V505).lt sf_b495_506
  obtain ⟨T512, h512, X512, e512, W512, V512, st512⟩ := own_stB X509 hx hZ e509 V509 (i := 4) (by decide : (4 : Int32).toInt = ((4 : Nat) : Int)) (by decide) (g := (mkF m 152 #[.val (.int p0), .val (.int p1), .val (.int p2), .val (.int p3), .val (.int v414), .val (.int v419), .val (.ref b420), .val (.ref b495), .unset, .unset, .unset, .unset, .unset] [(.int (p1.toInt8.toInt32)), (.int (4 : Int32)), (.ref b495)])) rfl rfl (hb hby at_152)
  have N512 := Fr.snoc X512 N509 ge_b495
  have C513 := CHr.keep (Keep.of_wr W512) (sfS sf_b495_510 sf0) R510.1
  have R513 := R510.trans C513
  have f514 := (f511.keep (Keep.of_wr W509) (ninS ne_b420_b495 nin0))
  have sf_b420_513 := C513.safe (f514).lt sf_b420_510
  have sf_b495_513 := C513.safe (V509).lt sf_b495_510
  obtain ⟨T515, h515, X515, e515, W515, V515, st515⟩ := own_stB X512 hx hZ e512 V512 (i := 5) (by decide : (5 : Int32).toInt = ((5 : Nat) : Int)) (by decide) (g := (mkF m 161 #[.val (.int p0), .val (.int p1), .val (.int p2), .val (.int p3), .val (.int v414), .val (.int v419), .val (.ref b420), .val (.ref b495), .unset, .unset, .unset, .unset, .unset] [(.int ((p1 >>> ((8 : Int32) &&& 31)).toInt8.toInt32)), (.int (5 : Int32)), (.ref b495)])) rfl rfl (hb hby at_161)
  have N515 := Fr.snoc X515 N512 ge_b495
  have C516 := CHr.keep (Keep.of_wr W515) (sfS sf_b495_513 sf0) R513.1
  have R516 := R513.trans C516
  have f517 := (f514.keep (Keep.of_wr W512) (ninS ne_b420_b495 nin0))
  have sf_b420_516 := C516.safe (f517).lt sf_b420_513
  have sf_b495_516 := C516.safe (V512).lt sf_b495_513
  have k518 : ∀ tg_, Steps p.tables e below (T515.setTop (mkF m 162 #[.val (.int p0), .val (.int p1), .val (.int p2), .val (.int p3), .val (.int v414), .val (.int v419), .val (.ref b420), .val (.ref b495), .unset, .unset, .unset, .unset, .unset] [])) tg_ → Steps p.tables e below (s₁.setTop (entryFrame m #[(.int p0), (.int p1), (.int p2), (.int p3)] maxLocals)) tg_ := by
    intro tg_ kt
    refine k508 tg_ ?_
    refine XS.ishr X505.here hx rfl (hb hby at_144) rfl ?_
    show Steps p.tables e below (T505.setTop (mkF m 145 #[.val (.int p0), .val (.int p1), .val (.int p2), .val (.int p3), .val (.int v414), .val (.int v419), .val (.ref b420), .val (.ref b495), .unset, .unset, .unset, .unset, .unset] [(.int (p0 >>> ((24 : Int32) &&& 31))), (.int (3 : Int32)), (.ref b495)])) _
    refine XS.i2b X505.here hx rfl (hb hby at_145) rfl ?_
    show Steps p.tables e below (T505.setTop (mkF m 146 #[.val (.int p0), .val (.int p1), .val (.int p2), .val (.int p3), .val (.int v414), .val (.int v419), .val (.ref b420), .val (.ref b495), .unset, .unset, .unset, .unset, .unset] [(.int ((p0 >>> ((24 : Int32) &&& 31)).toInt8.toInt32)), (.int (3 : Int32)), (.ref b495)])) _
    refine st509 _ ?_
    show Steps p.tables e below (T509.setTop (mkF m 147 #[.val (.int p0), .val (.int p1), .val (.int p2), .val (.int p3), .val (.int v414), .val (.int v419), .val (.ref b420), .val (.ref b495), .unset, .unset, .unset, .unset, .unset] [])) _
    refine XS.aload X509.here hx rfl (hb hby at_147) rfl rfl ?_
    show Steps p.tables e below (T509.setTop (mkF m 149 #[.val (.int p0), .val (.int p1), .val (.int p2), .val (.int p3), .val (.int v414), .val (.int v419), .val (.ref b420), .val (.ref b495), .unset, .unset, .unset, .unset, .unset] [(.ref b495)])) _
    refine XS.iconst X509.here hx rfl (hb hby at_149) ?_
    show Steps p.tables e below (T509.setTop (mkF m 150 #[.val (.int p0), .val (.int p1), .val (.int p2), .val (.int p3), .val (.int v414), .val (.int v419), .val (.ref b420), .val (.ref b495), .unset, .unset, .unset, .unset, .unset] [(.int (4 : Int32)), (.ref b495)])) _
    refine XS.iloadN X509.here hx rfl (hb hby at_150) rfl ?_
    show Steps p.tables e below (T509.setTop (mkF m 151 #[.val (.int p0), .val (.int p1), .val (.int p2), .val (.int p3), .val (.int v414), .val (.int v419), .val (.ref b420), .val (.ref b495), .unset, .unset, .unset, .unset, .unset] [(.int p1), (.int (4 : Int32)), (.ref b495)])) _
    refine XS.i2b X509.here hx rfl (hb hby at_151) rfl ?_
    show Steps p.tables e below (T509.setTop (mkF m 152 #[.val (.int p0), .val (.int p1), .val (.int p2), .val (.int p3), .val (.int v414), .val (.int v419), .val (.ref b420), .val (.ref b495), .unset, .unset, .unset, .unset, .unset] [(.int (p1.toInt8.toInt32)), (.int (4 : Int32)), (.ref b495)])) _
    refine st512 _ ?_
    show Steps p.tables e below (T512.setTop (mkF m 153 #[.val (.int p0), .val (.int p1), .val (.int p2), .val (.int p3), .val (.int v414), .val (.int v419), .val (.ref b420), .val (.ref b495), .unset, .unset, .unset, .unset, .unset] [])) _
    refine XS.aload X512.here hx rfl (hb hby at_153) rfl rfl ?_
    show Steps p.tables e below (T512.setTop (mkF m 155 #[.val (.int p0), .val (.int p1), .val (.int p2), .val (.int p3), .val (.int v414), .val (.int v419), .val (.ref b420), .val (.ref b495), .unset, .unset, .unset, .unset, .unset] [(.ref b495)])) _
    refine XS.iconst X512.here hx rfl (hb hby at_155) ?_
    show Steps p.tables e below (T512.setTop (mkF m 156 #[.val (.int p0), .val (.int p1), .val (.int p2), .val (.int p3), .val (.int v414), .val (.int v419), .val (.ref b420), .val (.ref b495), .unset, .unset, .unset, .unset, .unset] [(.int (5 : Int32)), (.ref b495)])) _
    refine XS.iloadN X512.here hx rfl (hb hby at_156) rfl ?_
    show Steps p.tables e below (T512.setTop (mkF m 157 #[.val (.int p0), .val (.int p1), .val (.int p2), .val (.int p3), .val (.int v414), .val (.int v419), .val (.ref b420), .val (.ref b495), .unset, .unset, .unset, .unset, .unset] [(.int p1), (.int (5 : Int32)), (.ref b495)])) _
    refine XS.bipush X512.here hx rfl (hb hby at_157) ?_
    show Steps p.tables e below (T512.setTop (mkF m 159 #[.val (.int p0), .val (.int p1), .val (.int p2), .val (.int p3), .val (.int v414), .val (.int v419), .val (.ref b420), .val (.ref b495), .unset, .unset, .unset, .unset, .unset] [(.int (8 : Int32)), (.int p1), (.int (5 : Int32)), (.ref b495)])) _
    refine XS.ishr X512.here hx rfl (hb hby at_159) rfl ?_
    show Steps p.tables e below (T512.setTop (mkF m 160 #[.val (.int p0), .val (.int p1), .val (.int p2), .val (.int p3), .val (.int v414), .val (.int v419), .val (.ref b420), .val (.ref b495), .unset, .unset, .unset, .unset, .unset] [(.int (p1 >>> ((8 : Int32) &&& 31))), (.int (5 : Int32)), (.ref b495)])) _
    refine XS.i2b X512.here hx rfl (hb hby at_160) rfl ?_
    show Steps p.tables e below (T512.setTop (mkF m 161 #[.val (.int p0), .val (.int p1), .val (.int p2), .val (.int p3), .val (.int v414), .val (.int v419), .val (.ref b420), .val (.ref b495), .unset, .unset, .unset, .unset, .unset] [(.int ((p1 >>> ((8 : Int32) &&& 31)).toInt8.toInt32)), (.int (5 : Int32)), (.ref b495)])) _
    refine st515 _ ?_
    show Steps p.tables e below (T515.setTop (mkF m 162 #[.val (.int p0), .val (.int p1), .val (.int p2), .val (.int p3), .val (.int v414), .val (.int v419), .val (.ref b420), .val (.ref b495), .unset, .unset, .unset, .unset, .unset] [])) _
    exact kt
  obtain ⟨fL, hfL⟩ : ∃ z : Nat → Int32, z = (own_upd (own_upd (own_upd (own_upd (own_upd (own_upd (fun _ => 0) 0 ((p0.toInt8.toInt32).toInt8.toInt32)) 1 (((p0 >>> ((8 : Int32) &&& 31)).toInt8.toInt32).toInt8.toInt32)) 2 (((p0 >>> ((16 : Int32) &&& 31)).toInt8.toInt32).toInt8.toInt32)) 3 (((p0 >>> ((24 : Int32) &&& 31)).toInt8.toInt32).toInt8.toInt32)) 4 ((p1.toInt8.toInt32).toInt8.toInt32)) 5 (((p1 >>> ((8 : Int32) &&& 31)).toInt8.toInt32).toInt8.toInt32)) := ⟨_, rfl⟩
  have VL := V515
  rw [← hfL] at VL
  have k519 : ∀ tg_, Steps p.tables e below (T515.setTop (mkF m 169 #[.val (.int p0), .val (.int p1), .val (.int p2), .val (.int p3), .val (.int v414), .val (.int v419), .val (.ref b420), .val (.ref b495), .unset, .unset, .unset, .unset, .unset] [(.int ((p2 &&& (2147483647 : Int32)) % (7 : Int32)))])) tg_ → Steps p.tables e below (s₁.setTop (entryFrame m #[(.int p0), (.int p1), (.int p2), (.int p3)] maxLocals)) tg_ := by
    intro tg_ kt
    refine k518 tg_ ?_
    refine XS.iloadN X515.here hx rfl (hb hby at_162) rfl ?_
    show Steps p.tables e below (T515.setTop (mkF m 163 #[.val (.int p0), .val (.int p1), .val (.int p2), .val (.int p3), .val (.int v414), .val (.int v419), .val (.ref b420), .val (.ref b495), .unset, .unset, .unset, .unset, .unset] [(.int p2)])) _
    refine X515.ldcInt hx hown (mvT hZ (hw _ (List.mem_of_getElem? (i := 37) rfl))) (g := (mkF m 163 #[.val (.int p0), .val (.int p1), .val (.int p2), .val (.int p3), .val (.int v414), .val (.int v419), .val (.ref b420), .val (.ref b495), .unset, .unset, .unset, .unset, .unset] [(.int p2)])) rfl (hb hby at_163) _ ?_
    show Steps p.tables e below (T515.setTop (mkF m 165 #[.val (.int p0), .val (.int p1), .val (.int p2), .val (.int p3), .val (.int v414), .val (.int v419), .val (.ref b420), .val (.ref b495), .unset, .unset, .unset, .unset, .unset] [(.int (2147483647 : Int32)), (.int p2)])) _
    refine XS.iand X515.here hx rfl (hb hby at_165) rfl ?_
    show Steps p.tables e below (T515.setTop (mkF m 166 #[.val (.int p0), .val (.int p1), .val (.int p2), .val (.int p3), .val (.int v414), .val (.int v419), .val (.ref b420), .val (.ref b495), .unset, .unset, .unset, .unset, .unset] [(.int (p2 &&& (2147483647 : Int32)))])) _
    refine XS.bipush X515.here hx rfl (hb hby at_166) ?_
    show Steps p.tables e below (T515.setTop (mkF m 168 #[.val (.int p0), .val (.int p1), .val (.int p2), .val (.int p3), .val (.int v414), .val (.int v419), .val (.ref b420), .val (.ref b495), .unset, .unset, .unset, .unset, .unset] [(.int (7 : Int32)), (.int (p2 &&& (2147483647 : Int32)))])) _
    refine iremM X515 hx rfl (hb hby at_168) rfl (by decide) ?_
    show Steps p.tables e below (T515.setTop (mkF m 169 #[.val (.int p0), .val (.int p1), .val (.int p2), .val (.int p3), .val (.int v414), .val (.int v419), .val (.ref b420), .val (.ref b495), .unset, .unset, .unset, .unset, .unset] [(.int ((p2 &&& (2147483647 : Int32)) % (7 : Int32)))])) _
    exact kt
  obtain ⟨v520, hv520⟩ : ∃ z : Int32, z = ((p2 &&& (2147483647 : Int32)) % (7 : Int32)) := ⟨_, rfl⟩
  rw [← hv520] at k519
  have k521 : ∀ tg_, Steps p.tables e below (T515.setTop (mkF m 171 #[.val (.int p0), .val (.int p1), .val (.int p2), .val (.int p3), .val (.int v414), .val (.int v419), .val (.ref b420), .val (.ref b495), .val (.int v520), .unset, .unset, .unset, .unset] [])) tg_ → Steps p.tables e below (s₁.setTop (entryFrame m #[(.int p0), (.int p1), (.int p2), (.int p3)] maxLocals)) tg_ := by
    intro tg_ kt
    refine k519 tg_ ?_
    refine XS.istore X515.here hx rfl (hb hby at_169) rfl (l' := #[.val (.int p0), .val (.int p1), .val (.int p2), .val (.int p3), .val (.int v414), .val (.int v419), .val (.ref b420), .val (.ref b495), .val (.int v520), .unset, .unset, .unset, .unset]) rfl ?_
    show Steps p.tables e below (T515.setTop (mkF m 171 #[.val (.int p0), .val (.int p1), .val (.int p2), .val (.int p3), .val (.int v414), .val (.int v419), .val (.ref b420), .val (.ref b495), .val (.int v520), .unset, .unset, .unset, .unset] [])) _
    exact kt
  obtain ⟨L, hL, hL6⟩ : ∃ L : Nat, v520.toInt = (L : Int) ∧ L ≤ 6 := by rw [hv520]; exact own_rem7 _
  have oi0 : (0 : Int32).toInt = 0 := by decide
  have oi1 : (1 : Int32).toInt = 1 := by decide
  have oi2 : (2 : Int32).toInt = 2 := by decide
  have oi3 : (3 : Int32).toInt = 3 := by decide
  have oi4 : (4 : Int32).toInt = 4 := by decide
  have oi5 : (5 : Int32).toInt = 5 := by decide
  obtain ⟨T522, lc522, ex522, X522, e522, N522, pr522, k522⟩ : ∃ (T522 : State) (lc522 : List Loc) (ex522 : Int32), Stand p l e room_1 (s.setVm T487.vm) m #[(.int p0), (.int p1), (.int p2), (.int p3)] below meth c T522 lc522 18 174 ∧ T522.heap = h515 ∧ Fr n0 lc522 ∧ ((ex522 = (1 : Int32) ∧ ∃ j, j < L ∧ ¬ own_sp (fL j)) ∨ (ex522 = (0 : Int32) ∧ ∀ j, j < L → own_sp (fL j))) ∧ ∀ tg_, Steps p.tables e below (T522.setTop (mkF m 273 #[.val (.int p0), .val (.int p1), .val (.int p2), .val (.int p3), .val (.int v414), .val (.int v419), .val (.ref b420), .val (.ref b495), .val (.int v520), .val (.int ex522), .unset, .unset, .unset] [])) tg_ → Steps p.tables e below (s₁.setTop (entryFrame m #[(.int p0), (.int p1), (.int p2), (.int p3)] maxLocals)) tg_ := by
    have k523 : ∀ tg_, Steps p.tables e below (T515.setTop (mkF m 173 #[.val (.int p0), .val (.int p1), .val (.int p2), .val (.int p3), .val (.int v414), .val (.int v419), .val (.ref b420), .val (.ref b495), .val (.int v520), .unset, .unset, .unset, .unset] [(.int v520)])) tg_ → Steps p.tables e below (s₁.setTop (entryFrame m #[(.int p0), (.int p1), (.int p2), (.int p3)] maxLocals)) tg_ := by
      intro tg_ kt
      refine k521 tg_ ?_
      refine XS.iload X515.here hx rfl (hb hby at_171) rfl ?_
      show Steps p.tables e below (T515.setTop (mkF m 173 #[.val (.int p0), .val (.int p1), .val (.int p2), .val (.int p3), .val (.int v414), .val (.int v419), .val (.ref b420), .val (.ref b495), .val (.int v520), .unset, .unset, .unset, .unset] [(.int v520)])) _
      exact kt
    by_cases hc173_524 : (0 : Int32) < v520
    · obtain ⟨_, _, ⟨T525, L525, kc525, nc525⟩, -, X525, ⟨Lc525, hQ525, l525, y525, z525⟩, st525⟩ := Jvm.LawKit.callS X515 hx (y := (⟨"com/example/benzer/benzer/cli/JsonReaderStartPinLaw", "nonSpace", "(B)Z"⟩ : MethodName)) hown (mvT hZ (hw _ (List.mem_of_getElem? (i := 38) rfl))) (mvT hZ (hw _ (List.mem_of_getElem? (i := 39) rfl))) (mvT hZ (hw _ (List.mem_of_getElem? (i := 3) rfl))) (mvT hZ (hw _ (List.mem_of_getElem? (i := 40) rfl))) (by decide) (backOf (W := 0) (rm7 l Z a0 hw [] (fL 0) h515 n0 ) hZ (hw _ (List.mem_of_getElem? (i := 40) rfl)) (hw _ (List.mem_of_getElem? (i := 3) rfl)) (by decide) (by decide)) (g := (mkF m 180 #[.val (.int p0), .val (.int p1), .val (.int p2), .val (.int p3), .val (.int v414), .val (.int v419), .val (.ref b420), .val (.ref b495), .val (.int v520), .unset, .unset, .unset, .unset] [(.int (fL 0))])) rfl (by rw [hml]; rfl) (argsL := [(.int (fL 0))]) (rest := []) (lenOf pd_6 rfl) rfl (by show 2 * 0 + _ ≤ _; exact Nat.le_of_eq rfl) (hb hby at_180) (fun _ _ => ⟨rfl, e515, (by decide : 18 + 0 ≤ _), (by decide : 174 + 0 ≤ _)⟩)
      dsimp only [Pt.U, Pt.locs, Pt.cells, Pt.slots] at X525 l525 y525 z525 st525 hQ525
      rw [l525, y525, z525] at X525
      replace X525 : Stand p l e room_1 (s.setVm T487.vm) m #[(.int p0), (.int p1), (.int p2), (.int p3)] below meth c T525 _ 18 174 := X525
      obtain ⟨rfl, Nq525, eq525⟩ := hQ525
      have N525 := Fr.app N515 Nq525
      have k526 : ∀ tg_, Steps p.tables e below (T525.setTop (mkF m 183 #[.val (.int p0), .val (.int p1), .val (.int p2), .val (.int p3), .val (.int v414), .val (.int v419), .val (.ref b420), .val (.ref b495), .val (.int v520), .unset, .unset, .unset, .unset] [(.int (own_ns (fL 0)))])) tg_ → Steps p.tables e below (s₁.setTop (entryFrame m #[(.int p0), (.int p1), (.int p2), (.int p3)] maxLocals)) tg_ := by
        intro tg_ kt
        refine k523 tg_ ?_
        refine XS.ifNo X515.here hx rfl (hb hby at_173) rfl ((if0 _ _).trans (tlt hc173_524).2.2.2) ?_
        show Steps p.tables e below (T515.setTop (mkF m 176 #[.val (.int p0), .val (.int p1), .val (.int p2), .val (.int p3), .val (.int v414), .val (.int v419), .val (.ref b420), .val (.ref b495), .val (.int v520), .unset, .unset, .unset, .unset] [])) _
        refine XS.aload X515.here hx rfl (hb hby at_176) rfl rfl ?_
        show Steps p.tables e below (T515.setTop (mkF m 178 #[.val (.int p0), .val (.int p1), .val (.int p2), .val (.int p3), .val (.int v414), .val (.int v419), .val (.ref b420), .val (.ref b495), .val (.int v520), .unset, .unset, .unset, .unset] [(.ref b495)])) _
        refine XS.iconst X515.here hx rfl (hb hby at_178) ?_
        show Steps p.tables e below (T515.setTop (mkF m 179 #[.val (.int p0), .val (.int p1), .val (.int p2), .val (.int p3), .val (.int v414), .val (.int v419), .val (.ref b420), .val (.ref b495), .val (.int v520), .unset, .unset, .unset, .unset] [(.int (0 : Int32)), (.ref b495)])) _
        refine own_ldB X515 hx hZ e515 VL (i := 0) (by decide : (0 : Int32).toInt = ((0 : Nat) : Int)) (by decide) rfl (g := (mkF m 179 #[.val (.int p0), .val (.int p1), .val (.int p2), .val (.int p3), .val (.int v414), .val (.int v419), .val (.ref b420), .val (.ref b495), .val (.int v520), .unset, .unset, .unset, .unset] [(.int (0 : Int32)), (.ref b495)])) rfl rfl (hb hby at_179) _ ?_
        show Steps p.tables e below (T515.setTop (mkF m 180 #[.val (.int p0), .val (.int p1), .val (.int p2), .val (.int p3), .val (.int v414), .val (.int v419), .val (.ref b420), .val (.ref b495), .val (.int v520), .unset, .unset, .unset, .unset] [(.int (fL 0))])) _
        refine st525 _ ?_
        show Steps p.tables e below (T525.setTop (mkF m 183 #[.val (.int p0), .val (.int p1), .val (.int p2), .val (.int p3), .val (.int v414), .val (.int v419), .val (.ref b420), .val (.ref b495), .val (.int v520), .unset, .unset, .unset, .unset] [(.int (own_ns (fL 0)))])) _
        exact kt
      by_cases hc183_527 : (own_ns (fL 0)) = (0 : Int32)
      · have k528 : ∀ tg_, Steps p.tables e below (T525.setTop (mkF m 189 #[.val (.int p0), .val (.int p1), .val (.int p2), .val (.int p3), .val (.int v414), .val (.int v419), .val (.ref b420), .val (.ref b495), .val (.int v520), .unset, .unset, .unset, .unset] [(.int (1 : Int32)), (.int v520)])) tg_ → Steps p.tables e below (s₁.setTop (entryFrame m #[(.int p0), (.int p1), (.int p2), (.int p3)] maxLocals)) tg_ := by
          intro tg_ kt
          refine k526 tg_ ?_
          refine XS.ifNo X525.here hx rfl (hb hby at_183) rfl ((if0 _ _).trans (teq hc183_527).2) ?_
          show Steps p.tables e below (T525.setTop (mkF m 186 #[.val (.int p0), .val (.int p1), .val (.int p2), .val (.int p3), .val (.int v414), .val (.int v419), .val (.ref b420), .val (.ref b495), .val (.int v520), .unset, .unset, .unset, .unset] [])) _
          refine XS.iload X525.here hx rfl (hb hby at_186) rfl ?_
          show Steps p.tables e below (T525.setTop (mkF m 188 #[.val (.int p0), .val (.int p1), .val (.int p2), .val (.int p3), .val (.int v414), .val (.int v419), .val (.ref b420), .val (.ref b495), .val (.int v520), .unset, .unset, .unset, .unset] [(.int v520)])) _
          refine XS.iconst X525.here hx rfl (hb hby at_188) ?_
          show Steps p.tables e below (T525.setTop (mkF m 189 #[.val (.int p0), .val (.int p1), .val (.int p2), .val (.int p3), .val (.int v414), .val (.int v419), .val (.ref b420), .val (.ref b495), .val (.int v520), .unset, .unset, .unset, .unset] [(.int (1 : Int32)), (.int v520)])) _
          exact kt
        by_cases hc189_529 : (1 : Int32) < v520
        · obtain ⟨_, _, ⟨T530, L530, kc530, nc530⟩, -, X530, ⟨Lc530, hQ530, l530, y530, z530⟩, st530⟩ := Jvm.LawKit.callS X525 hx (y := (⟨"com/example/benzer/benzer/cli/JsonReaderStartPinLaw", "nonSpace", "(B)Z"⟩ : MethodName)) hown (mvT hZ (hw _ (List.mem_of_getElem? (i := 38) rfl))) (mvT hZ (hw _ (List.mem_of_getElem? (i := 39) rfl))) (mvT hZ (hw _ (List.mem_of_getElem? (i := 3) rfl))) (mvT hZ (hw _ (List.mem_of_getElem? (i := 40) rfl))) (by decide) (backOf (W := 0) (rm7 l Z a0 hw [] (fL 1) h515 n0 ) hZ (hw _ (List.mem_of_getElem? (i := 40) rfl)) (hw _ (List.mem_of_getElem? (i := 3) rfl)) (by decide) (by decide)) (g := (mkF m 196 #[.val (.int p0), .val (.int p1), .val (.int p2), .val (.int p3), .val (.int v414), .val (.int v419), .val (.ref b420), .val (.ref b495), .val (.int v520), .unset, .unset, .unset, .unset] [(.int (fL 1))])) rfl (by rw [hml]; rfl) (argsL := [(.int (fL 1))]) (rest := []) (lenOf pd_6 rfl) rfl (by show 2 * 0 + _ ≤ _; exact Nat.le_of_eq rfl) (hb hby at_196) (fun _ _ => ⟨rfl, eq525, (by decide : 18 + 0 ≤ _), (by decide : 174 + 0 ≤ _)⟩)
          dsimp only [Pt.U, Pt.locs, Pt.cells, Pt.slots] at X530 l530 y530 z530 st530 hQ530
          rw [l530, y530, z530] at X530
          replace X530 : Stand p l e room_1 (s.setVm T487.vm) m #[(.int p0), (.int p1), (.int p2), (.int p3)] below meth c T530 _ 18 174 := X530
          obtain ⟨rfl, Nq530, eq530⟩ := hQ530
          have N530 := Fr.app N525 Nq530
          have k531 : ∀ tg_, Steps p.tables e below (T530.setTop (mkF m 199 #[.val (.int p0), .val (.int p1), .val (.int p2), .val (.int p3), .val (.int v414), .val (.int v419), .val (.ref b420), .val (.ref b495), .val (.int v520), .unset, .unset, .unset, .unset] [(.int (own_ns (fL 1)))])) tg_ → Steps p.tables e below (s₁.setTop (entryFrame m #[(.int p0), (.int p1), (.int p2), (.int p3)] maxLocals)) tg_ := by
            intro tg_ kt
            refine k528 tg_ ?_
            refine XS.icmpNo X525.here hx rfl (hb hby at_189) rfl (tlt hc189_529).2.2.2 ?_
            show Steps p.tables e below (T525.setTop (mkF m 192 #[.val (.int p0), .val (.int p1), .val (.int p2), .val (.int p3), .val (.int v414), .val (.int v419), .val (.ref b420), .val (.ref b495), .val (.int v520), .unset, .unset, .unset, .unset] [])) _
            refine XS.aload X525.here hx rfl (hb hby at_192) rfl rfl ?_
            show Steps p.tables e below (T525.setTop (mkF m 194 #[.val (.int p0), .val (.int p1), .val (.int p2), .val (.int p3), .val (.int v414), .val (.int v419), .val (.ref b420), .val (.ref b495), .val (.int v520), .unset, .unset, .unset, .unset] [(.ref b495)])) _
            refine XS.iconst X525.here hx rfl (hb hby at_194) ?_
            show Steps p.tables e below (T525.setTop (mkF m 195 #[.val (.int p0), .val (.int p1), .val (.int p2), .val (.int p3), .val (.int v414), .val (.int v419), .val (.ref b420), .val (.ref b495), .val (.int v520), .unset, .unset, .unset, .unset] [(.int (1 : Int32)), (.ref b495)])) _
            refine own_ldB X525 hx hZ eq525 VL (i := 1) (by decide : (1 : Int32).toInt = ((1 : Nat) : Int)) (by decide) rfl (g := (mkF m 195 #[.val (.int p0), .val (.int p1), .val (.int p2), .val (.int p3), .val (.int v414), .val (.int v419), .val (.ref b420), .val (.ref b495), .val (.int v520), .unset, .unset, .unset, .unset] [(.int (1 : Int32)), (.ref b495)])) rfl rfl (hb hby at_195) _ ?_
            show Steps p.tables e below (T525.setTop (mkF m 196 #[.val (.int p0), .val (.int p1), .val (.int p2), .val (.int p3), .val (.int v414), .val (.int v419), .val (.ref b420), .val (.ref b495), .val (.int v520), .unset, .unset, .unset, .unset] [(.int (fL 1))])) _
            refine st530 _ ?_
            show Steps p.tables e below (T530.setTop (mkF m 199 #[.val (.int p0), .val (.int p1), .val (.int p2), .val (.int p3), .val (.int v414), .val (.int v419), .val (.ref b420), .val (.ref b495), .val (.int v520), .unset, .unset, .unset, .unset] [(.int (own_ns (fL 1)))])) _
            exact kt
          by_cases hc199_532 : (own_ns (fL 1)) = (0 : Int32)
          · have k533 : ∀ tg_, Steps p.tables e below (T530.setTop (mkF m 205 #[.val (.int p0), .val (.int p1), .val (.int p2), .val (.int p3), .val (.int v414), .val (.int v419), .val (.ref b420), .val (.ref b495), .val (.int v520), .unset, .unset, .unset, .unset] [(.int (2 : Int32)), (.int v520)])) tg_ → Steps p.tables e below (s₁.setTop (entryFrame m #[(.int p0), (.int p1), (.int p2), (.int p3)] maxLocals)) tg_ := by
              intro tg_ kt
              refine k531 tg_ ?_
              refine XS.ifNo X530.here hx rfl (hb hby at_199) rfl ((if0 _ _).trans (teq hc199_532).2) ?_
              show Steps p.tables e below (T530.setTop (mkF m 202 #[.val (.int p0), .val (.int p1), .val (.int p2), .val (.int p3), .val (.int v414), .val (.int v419), .val (.ref b420), .val (.ref b495), .val (.int v520), .unset, .unset, .unset, .unset] [])) _
              refine XS.iload X530.here hx rfl (hb hby at_202) rfl ?_
              show Steps p.tables e below (T530.setTop (mkF m 204 #[.val (.int p0), .val (.int p1), .val (.int p2), .val (.int p3), .val (.int v414), .val (.int v419), .val (.ref b420), .val (.ref b495), .val (.int v520), .unset, .unset, .unset, .unset] [(.int v520)])) _
              refine XS.iconst X530.here hx rfl (hb hby at_204) ?_
              show Steps p.tables e below (T530.setTop (mkF m 205 #[.val (.int p0), .val (.int p1), .val (.int p2), .val (.int p3), .val (.int v414), .val (.int v419), .val (.ref b420), .val (.ref b495), .val (.int v520), .unset, .unset, .unset, .unset] [(.int (2 : Int32)), (.int v520)])) _
              exact kt
            by_cases hc205_534 : (2 : Int32) < v520
            · obtain ⟨_, _, ⟨T535, L535, kc535, nc535⟩, -, X535, ⟨Lc535, hQ535, l535, y535, z535⟩, st535⟩ := Jvm.LawKit.callS X530 hx (y := (⟨"com/example/benzer/benzer/cli/JsonReaderStartPinLaw", "nonSpace", "(B)Z"⟩ : MethodName)) hown (mvT hZ (hw _ (List.mem_of_getElem? (i := 38) rfl))) (mvT hZ (hw _ (List.mem_of_getElem? (i := 39) rfl))) (mvT hZ (hw _ (List.mem_of_getElem? (i := 3) rfl))) (mvT hZ (hw _ (List.mem_of_getElem? (i := 40) rfl))) (by decide) (backOf (W := 0) (rm7 l Z a0 hw [] (fL 2) h515 n0 ) hZ (hw _ (List.mem_of_getElem? (i := 40) rfl)) (hw _ (List.mem_of_getElem? (i := 3) rfl)) (by decide) (by decide)) (g := (mkF m 212 #[.val (.int p0), .val (.int p1), .val (.int p2), .val (.int p3), .val (.int v414), .val (.int v419), .val (.ref b420), .val (.ref b495), .val (.int v520), .unset, .unset, .unset, .unset] [(.int (fL 2))])) rfl (by rw [hml]; rfl) (argsL := [(.int (fL 2))]) (rest := []) (lenOf pd_6 rfl) rfl (by show 2 * 0 + _ ≤ _; exact Nat.le_of_eq rfl) (hb hby at_212) (fun _ _ => ⟨rfl, eq530, (by decide : 18 + 0 ≤ _), (by decide : 174 + 0 ≤ _)⟩)
              dsimp only [Pt.U, Pt.locs, Pt.cells, Pt.slots] at X535 l535 y535 z535 st535 hQ535
              rw [l535, y535, z535] at X535
              replace X535 : Stand p l e room_1 (s.setVm T487.vm) m #[(.int p0), (.int p1), (.int p2), (.int p3)] below meth c T535 _ 18 174 := X535
              obtain ⟨rfl, Nq535, eq535⟩ := hQ535
              have N535 := Fr.app N530 Nq535
              have k536 : ∀ tg_, Steps p.tables e below (T535.setTop (mkF m 215 #[.val (.int p0), .val (.int p1), .val (.int p2), .val (.int p3), .val (.int v414), .val (.int v419), .val (.ref b420), .val (.ref b495), .val (.int v520), .unset, .unset, .unset, .unset] [(.int (own_ns (fL 2)))])) tg_ → Steps p.tables e below (s₁.setTop (entryFrame m #[(.int p0), (.int p1), (.int p2), (.int p3)] maxLocals)) tg_ := by
                intro tg_ kt
                refine k533 tg_ ?_
                refine XS.icmpNo X530.here hx rfl (hb hby at_205) rfl (tlt hc205_534).2.2.2 ?_
                show Steps p.tables e below (T530.setTop (mkF m 208 #[.val (.int p0), .val (.int p1), .val (.int p2), .val (.int p3), .val (.int v414), .val (.int v419), .val (.ref b420), .val (.ref b495), .val (.int v520), .unset, .unset, .unset, .unset] [])) _
                refine XS.aload X530.here hx rfl (hb hby at_208) rfl rfl ?_
                show Steps p.tables e below (T530.setTop (mkF m 210 #[.val (.int p0), .val (.int p1), .val (.int p2), .val (.int p3), .val (.int v414), .val (.int v419), .val (.ref b420), .val (.ref b495), .val (.int v520), .unset, .unset, .unset, .unset] [(.ref b495)])) _
                refine XS.iconst X530.here hx rfl (hb hby at_210) ?_
                show Steps p.tables e below (T530.setTop (mkF m 211 #[.val (.int p0), .val (.int p1), .val (.int p2), .val (.int p3), .val (.int v414), .val (.int v419), .val (.ref b420), .val (.ref b495), .val (.int v520), .unset, .unset, .unset, .unset] [(.int (2 : Int32)), (.ref b495)])) _
                refine own_ldB X530 hx hZ eq530 VL (i := 2) (by decide : (2 : Int32).toInt = ((2 : Nat) : Int)) (by decide) rfl (g := (mkF m 211 #[.val (.int p0), .val (.int p1), .val (.int p2), .val (.int p3), .val (.int v414), .val (.int v419), .val (.ref b420), .val (.ref b495), .val (.int v520), .unset, .unset, .unset, .unset] [(.int (2 : Int32)), (.ref b495)])) rfl rfl (hb hby at_211) _ ?_
                show Steps p.tables e below (T530.setTop (mkF m 212 #[.val (.int p0), .val (.int p1), .val (.int p2), .val (.int p3), .val (.int v414), .val (.int v419), .val (.ref b420), .val (.ref b495), .val (.int v520), .unset, .unset, .unset, .unset] [(.int (fL 2))])) _
                refine st535 _ ?_
                show Steps p.tables e below (T535.setTop (mkF m 215 #[.val (.int p0), .val (.int p1), .val (.int p2), .val (.int p3), .val (.int v414), .val (.int v419), .val (.ref b420), .val (.ref b495), .val (.int v520), .unset, .unset, .unset, .unset] [(.int (own_ns (fL 2)))])) _
                exact kt
              by_cases hc215_537 : (own_ns (fL 2)) = (0 : Int32)
              · have k538 : ∀ tg_, Steps p.tables e below (T535.setTop (mkF m 221 #[.val (.int p0), .val (.int p1), .val (.int p2), .val (.int p3), .val (.int v414), .val (.int v419), .val (.ref b420), .val (.ref b495), .val (.int v520), .unset, .unset, .unset, .unset] [(.int (3 : Int32)), (.int v520)])) tg_ → Steps p.tables e below (s₁.setTop (entryFrame m #[(.int p0), (.int p1), (.int p2), (.int p3)] maxLocals)) tg_ := by
                  intro tg_ kt
                  refine k536 tg_ ?_
                  refine XS.ifNo X535.here hx rfl (hb hby at_215) rfl ((if0 _ _).trans (teq hc215_537).2) ?_
                  show Steps p.tables e below (T535.setTop (mkF m 218 #[.val (.int p0), .val (.int p1), .val (.int p2), .val (.int p3), .val (.int v414), .val (.int v419), .val (.ref b420), .val (.ref b495), .val (.int v520), .unset, .unset, .unset, .unset] [])) _
                  refine XS.iload X535.here hx rfl (hb hby at_218) rfl ?_
                  show Steps p.tables e below (T535.setTop (mkF m 220 #[.val (.int p0), .val (.int p1), .val (.int p2), .val (.int p3), .val (.int v414), .val (.int v419), .val (.ref b420), .val (.ref b495), .val (.int v520), .unset, .unset, .unset, .unset] [(.int v520)])) _
                  refine XS.iconst X535.here hx rfl (hb hby at_220) ?_
                  show Steps p.tables e below (T535.setTop (mkF m 221 #[.val (.int p0), .val (.int p1), .val (.int p2), .val (.int p3), .val (.int v414), .val (.int v419), .val (.ref b420), .val (.ref b495), .val (.int v520), .unset, .unset, .unset, .unset] [(.int (3 : Int32)), (.int v520)])) _
                  exact kt
                by_cases hc221_539 : (3 : Int32) < v520
                · obtain ⟨_, _, ⟨T540, L540, kc540, nc540⟩, -, X540, ⟨Lc540, hQ540, l540, y540, z540⟩, st540⟩ := Jvm.LawKit.callS X535 hx (y := (⟨"com/example/benzer/benzer/cli/JsonReaderStartPinLaw", "nonSpace", "(B)Z"⟩ : MethodName)) hown (mvT hZ (hw _ (List.mem_of_getElem? (i := 38) rfl))) (mvT hZ (hw _ (List.mem_of_getElem? (i := 39) rfl))) (mvT hZ (hw _ (List.mem_of_getElem? (i := 3) rfl))) (mvT hZ (hw _ (List.mem_of_getElem? (i := 40) rfl))) (by decide) (backOf (W := 0) (rm7 l Z a0 hw [] (fL 3) h515 n0 ) hZ (hw _ (List.mem_of_getElem? (i := 40) rfl)) (hw _ (List.mem_of_getElem? (i := 3) rfl)) (by decide) (by decide)) (g := (mkF m 228 #[.val (.int p0), .val (.int p1), .val (.int p2), .val (.int p3), .val (.int v414), .val (.int v419), .val (.ref b420), .val (.ref b495), .val (.int v520), .unset, .unset, .unset, .unset] [(.int (fL 3))])) rfl (by rw [hml]; rfl) (argsL := [(.int (fL 3))]) (rest := []) (lenOf pd_6 rfl) rfl (by show 2 * 0 + _ ≤ _; exact Nat.le_of_eq rfl) (hb hby at_228) (fun _ _ => ⟨rfl, eq535, (by decide : 18 + 0 ≤ _), (by decide : 174 + 0 ≤ _)⟩)
                  dsimp only [Pt.U, Pt.locs, Pt.cells, Pt.slots] at X540 l540 y540 z540 st540 hQ540
                  rw [l540, y540, z540] at X540
                  replace X540 : Stand p l e room_1 (s.setVm T487.vm) m #[(.int p0), (.int p1), (.int p2), (.int p3)] below meth c T540 _ 18 174 := X540
                  obtain ⟨rfl, Nq540, eq540⟩ := hQ540
                  have N540 := Fr.app N535 Nq540
                  have k541 : ∀ tg_, Steps p.tables e below (T540.setTop (mkF m 231 #[.val (.int p0), .val (.int p1), .val (.int p2), .val (.int p3), .val (.int v414), .val (.int v419), .val (.ref b420), .val (.ref b495), .val (.int v520), .unset, .unset, .unset, .unset] [(.int (own_ns (fL 3)))])) tg_ → Steps p.tables e below (s₁.setTop (entryFrame m #[(.int p0), (.int p1), (.int p2), (.int p3)] maxLocals)) tg_ := by
                    intro tg_ kt
                    refine k538 tg_ ?_
                    refine XS.icmpNo X535.here hx rfl (hb hby at_221) rfl (tlt hc221_539).2.2.2 ?_
                    show Steps p.tables e below (T535.setTop (mkF m 224 #[.val (.int p0), .val (.int p1), .val (.int p2), .val (.int p3), .val (.int v414), .val (.int v419), .val (.ref b420), .val (.ref b495), .val (.int v520), .unset, .unset, .unset, .unset] [])) _
                    refine XS.aload X535.here hx rfl (hb hby at_224) rfl rfl ?_
                    show Steps p.tables e below (T535.setTop (mkF m 226 #[.val (.int p0), .val (.int p1), .val (.int p2), .val (.int p3), .val (.int v414), .val (.int v419), .val (.ref b420), .val (.ref b495), .val (.int v520), .unset, .unset, .unset, .unset] [(.ref b495)])) _
                    refine XS.iconst X535.here hx rfl (hb hby at_226) ?_
                    show Steps p.tables e below (T535.setTop (mkF m 227 #[.val (.int p0), .val (.int p1), .val (.int p2), .val (.int p3), .val (.int v414), .val (.int v419), .val (.ref b420), .val (.ref b495), .val (.int v520), .unset, .unset, .unset, .unset] [(.int (3 : Int32)), (.ref b495)])) _
                    refine own_ldB X535 hx hZ eq535 VL (i := 3) (by decide : (3 : Int32).toInt = ((3 : Nat) : Int)) (by decide) rfl (g := (mkF m 227 #[.val (.int p0), .val (.int p1), .val (.int p2), .val (.int p3), .val (.int v414), .val (.int v419), .val (.ref b420), .val (.ref b495), .val (.int v520), .unset, .unset, .unset, .unset] [(.int (3 : Int32)), (.ref b495)])) rfl rfl (hb hby at_227) _ ?_
                    show Steps p.tables e below (T535.setTop (mkF m 228 #[.val (.int p0), .val (.int p1), .val (.int p2), .val (.int p3), .val (.int v414), .val (.int v419), .val (.ref b420), .val (.ref b495), .val (.int v520), .unset, .unset, .unset, .unset] [(.int (fL 3))])) _
                    refine st540 _ ?_
                    show Steps p.tables e below (T540.setTop (mkF m 231 #[.val (.int p0), .val (.int p1), .val (.int p2), .val (.int p3), .val (.int v414), .val (.int v419), .val (.ref b420), .val (.ref b495), .val (.int v520), .unset, .unset, .unset, .unset] [(.int (own_ns (fL 3)))])) _
                    exact kt
                  by_cases hc231_542 : (own_ns (fL 3)) = (0 : Int32)
                  · have k543 : ∀ tg_, Steps p.tables e below (T540.setTop (mkF m 237 #[.val (.int p0), .val (.int p1), .val (.int p2), .val (.int p3), .val (.int v414), .val (.int v419), .val (.ref b420), .val (.ref b495), .val (.int v520), .unset, .unset, .unset, .unset] [(.int (4 : Int32)), (.int v520)])) tg_ → Steps p.tables e below (s₁.setTop (entryFrame m #[(.int p0), (.int p1), (.int p2), (.int p3)] maxLocals)) tg_ := by
                      intro tg_ kt
                      refine k541 tg_ ?_
                      refine XS.ifNo X540.here hx rfl (hb hby at_231) rfl ((if0 _ _).trans (teq hc231_542).2) ?_
                      show Steps p.tables e below (T540.setTop (mkF m 234 #[.val (.int p0), .val (.int p1), .val (.int p2), .val (.int p3), .val (.int v414), .val (.int v419), .val (.ref b420), .val (.ref b495), .val (.int v520), .unset, .unset, .unset, .unset] [])) _
                      refine XS.iload X540.here hx rfl (hb hby at_234) rfl ?_
                      show Steps p.tables e below (T540.setTop (mkF m 236 #[.val (.int p0), .val (.int p1), .val (.int p2), .val (.int p3), .val (.int v414), .val (.int v419), .val (.ref b420), .val (.ref b495), .val (.int v520), .unset, .unset, .unset, .unset] [(.int v520)])) _
                      refine XS.iconst X540.here hx rfl (hb hby at_236) ?_
                      show Steps p.tables e below (T540.setTop (mkF m 237 #[.val (.int p0), .val (.int p1), .val (.int p2), .val (.int p3), .val (.int v414), .val (.int v419), .val (.ref b420), .val (.ref b495), .val (.int v520), .unset, .unset, .unset, .unset] [(.int (4 : Int32)), (.int v520)])) _
                      exact kt
                    by_cases hc237_544 : (4 : Int32) < v520
                    · obtain ⟨_, _, ⟨T545, L545, kc545, nc545⟩, -, X545, ⟨Lc545, hQ545, l545, y545, z545⟩, st545⟩ := Jvm.LawKit.callS X540 hx (y := (⟨"com/example/benzer/benzer/cli/JsonReaderStartPinLaw", "nonSpace", "(B)Z"⟩ : MethodName)) hown (mvT hZ (hw _ (List.mem_of_getElem? (i := 38) rfl))) (mvT hZ (hw _ (List.mem_of_getElem? (i := 39) rfl))) (mvT hZ (hw _ (List.mem_of_getElem? (i := 3) rfl))) (mvT hZ (hw _ (List.mem_of_getElem? (i := 40) rfl))) (by decide) (backOf (W := 0) (rm7 l Z a0 hw [] (fL 4) h515 n0 ) hZ (hw _ (List.mem_of_getElem? (i := 40) rfl)) (hw _ (List.mem_of_getElem? (i := 3) rfl)) (by decide) (by decide)) (g := (mkF m 244 #[.val (.int p0), .val (.int p1), .val (.int p2), .val (.int p3), .val (.int v414), .val (.int v419), .val (.ref b420), .val (.ref b495), .val (.int v520), .unset, .unset, .unset, .unset] [(.int (fL 4))])) rfl (by rw [hml]; rfl) (argsL := [(.int (fL 4))]) (rest := []) (lenOf pd_6 rfl) rfl (by show 2 * 0 + _ ≤ _; exact Nat.le_of_eq rfl) (hb hby at_244) (fun _ _ => ⟨rfl, eq540, (by decide : 18 + 0 ≤ _), (by decide : 174 + 0 ≤ _)⟩)
                      dsimp only [Pt.U, Pt.locs, Pt.cells, Pt.slots] at X545 l545 y545 z545 st545 hQ545
                      rw [l545, y545, z545] at X545
                      replace X545 : Stand p l e room_1 (s.setVm T487.vm) m #[(.int p0), (.int p1), (.int p2), (.int p3)] below meth c T545 _ 18 174 := X545
                      obtain ⟨rfl, Nq545, eq545⟩ := hQ545
                      have N545 := Fr.app N540 Nq545
                      have k546 : ∀ tg_, Steps p.tables e below (T545.setTop (mkF m 247 #[.val (.int p0), .val (.int p1), .val (.int p2), .val (.int p3), .val (.int v414), .val (.int v419), .val (.ref b420), .val (.ref b495), .val (.int v520), .unset, .unset, .unset, .unset] [(.int (own_ns (fL 4)))])) tg_ → Steps p.tables e below (s₁.setTop (entryFrame m #[(.int p0), (.int p1), (.int p2), (.int p3)] maxLocals)) tg_ := by
                        intro tg_ kt
                        refine k543 tg_ ?_
                        refine XS.icmpNo X540.here hx rfl (hb hby at_237) rfl (tlt hc237_544).2.2.2 ?_
                        show Steps p.tables e below (T540.setTop (mkF m 240 #[.val (.int p0), .val (.int p1), .val (.int p2), .val (.int p3), .val (.int v414), .val (.int v419), .val (.ref b420), .val (.ref b495), .val (.int v520), .unset, .unset, .unset, .unset] [])) _
                        refine XS.aload X540.here hx rfl (hb hby at_240) rfl rfl ?_
                        show Steps p.tables e below (T540.setTop (mkF m 242 #[.val (.int p0), .val (.int p1), .val (.int p2), .val (.int p3), .val (.int v414), .val (.int v419), .val (.ref b420), .val (.ref b495), .val (.int v520), .unset, .unset, .unset, .unset] [(.ref b495)])) _
                        refine XS.iconst X540.here hx rfl (hb hby at_242) ?_
                        show Steps p.tables e below (T540.setTop (mkF m 243 #[.val (.int p0), .val (.int p1), .val (.int p2), .val (.int p3), .val (.int v414), .val (.int v419), .val (.ref b420), .val (.ref b495), .val (.int v520), .unset, .unset, .unset, .unset] [(.int (4 : Int32)), (.ref b495)])) _
                        refine own_ldB X540 hx hZ eq540 VL (i := 4) (by decide : (4 : Int32).toInt = ((4 : Nat) : Int)) (by decide) rfl (g := (mkF m 243 #[.val (.int p0), .val (.int p1), .val (.int p2), .val (.int p3), .val (.int v414), .val (.int v419), .val (.ref b420), .val (.ref b495), .val (.int v520), .unset, .unset, .unset, .unset] [(.int (4 : Int32)), (.ref b495)])) rfl rfl (hb hby at_243) _ ?_
                        show Steps p.tables e below (T540.setTop (mkF m 244 #[.val (.int p0), .val (.int p1), .val (.int p2), .val (.int p3), .val (.int v414), .val (.int v419), .val (.ref b420), .val (.ref b495), .val (.int v520), .unset, .unset, .unset, .unset] [(.int (fL 4))])) _
                        refine st545 _ ?_
                        show Steps p.tables e below (T545.setTop (mkF m 247 #[.val (.int p0), .val (.int p1), .val (.int p2), .val (.int p3), .val (.int v414), .val (.int v419), .val (.ref b420), .val (.ref b495), .val (.int v520), .unset, .unset, .unset, .unset] [(.int (own_ns (fL 4)))])) _
                        exact kt
                      by_cases hc247_547 : (own_ns (fL 4)) = (0 : Int32)
                      · have k548 : ∀ tg_, Steps p.tables e below (T545.setTop (mkF m 253 #[.val (.int p0), .val (.int p1), .val (.int p2), .val (.int p3), .val (.int v414), .val (.int v419), .val (.ref b420), .val (.ref b495), .val (.int v520), .unset, .unset, .unset, .unset] [(.int (5 : Int32)), (.int v520)])) tg_ → Steps p.tables e below (s₁.setTop (entryFrame m #[(.int p0), (.int p1), (.int p2), (.int p3)] maxLocals)) tg_ := by
                          intro tg_ kt
                          refine k546 tg_ ?_
                          refine XS.ifNo X545.here hx rfl (hb hby at_247) rfl ((if0 _ _).trans (teq hc247_547).2) ?_
                          show Steps p.tables e below (T545.setTop (mkF m 250 #[.val (.int p0), .val (.int p1), .val (.int p2), .val (.int p3), .val (.int v414), .val (.int v419), .val (.ref b420), .val (.ref b495), .val (.int v520), .unset, .unset, .unset, .unset] [])) _
                          refine XS.iload X545.here hx rfl (hb hby at_250) rfl ?_
                          show Steps p.tables e below (T545.setTop (mkF m 252 #[.val (.int p0), .val (.int p1), .val (.int p2), .val (.int p3), .val (.int v414), .val (.int v419), .val (.ref b420), .val (.ref b495), .val (.int v520), .unset, .unset, .unset, .unset] [(.int v520)])) _
                          refine XS.iconst X545.here hx rfl (hb hby at_252) ?_
                          show Steps p.tables e below (T545.setTop (mkF m 253 #[.val (.int p0), .val (.int p1), .val (.int p2), .val (.int p3), .val (.int v414), .val (.int v419), .val (.ref b420), .val (.ref b495), .val (.int v520), .unset, .unset, .unset, .unset] [(.int (5 : Int32)), (.int v520)])) _
                          exact kt
                        by_cases hc253_549 : (5 : Int32) < v520
                        · obtain ⟨_, _, ⟨T550, L550, kc550, nc550⟩, -, X550, ⟨Lc550, hQ550, l550, y550, z550⟩, st550⟩ := Jvm.LawKit.callS X545 hx (y := (⟨"com/example/benzer/benzer/cli/JsonReaderStartPinLaw", "nonSpace", "(B)Z"⟩ : MethodName)) hown (mvT hZ (hw _ (List.mem_of_getElem? (i := 38) rfl))) (mvT hZ (hw _ (List.mem_of_getElem? (i := 39) rfl))) (mvT hZ (hw _ (List.mem_of_getElem? (i := 3) rfl))) (mvT hZ (hw _ (List.mem_of_getElem? (i := 40) rfl))) (by decide) (backOf (W := 0) (rm7 l Z a0 hw [] (fL 5) h515 n0 ) hZ (hw _ (List.mem_of_getElem? (i := 40) rfl)) (hw _ (List.mem_of_getElem? (i := 3) rfl)) (by decide) (by decide)) (g := (mkF m 260 #[.val (.int p0), .val (.int p1), .val (.int p2), .val (.int p3), .val (.int v414), .val (.int v419), .val (.ref b420), .val (.ref b495), .val (.int v520), .unset, .unset, .unset, .unset] [(.int (fL 5))])) rfl (by rw [hml]; rfl) (argsL := [(.int (fL 5))]) (rest := []) (lenOf pd_6 rfl) rfl (by show 2 * 0 + _ ≤ _; exact Nat.le_of_eq rfl) (hb hby at_260) (fun _ _ => ⟨rfl, eq545, (by decide : 18 + 0 ≤ _), (by decide : 174 + 0 ≤ _)⟩)
                          dsimp only [Pt.U, Pt.locs, Pt.cells, Pt.slots] at X550 l550 y550 z550 st550 hQ550
                          rw [l550, y550, z550] at X550
                          replace X550 : Stand p l e room_1 (s.setVm T487.vm) m #[(.int p0), (.int p1), (.int p2), (.int p3)] below meth c T550 _ 18 174 := X550
                          obtain ⟨rfl, Nq550, eq550⟩ := hQ550
                          have N550 := Fr.app N545 Nq550
                          have k551 : ∀ tg_, Steps p.tables e below (T550.setTop (mkF m 263 #[.val (.int p0), .val (.int p1), .val (.int p2), .val (.int p3), .val (.int v414), .val (.int v419), .val (.ref b420), .val (.ref b495), .val (.int v520), .unset, .unset, .unset, .unset] [(.int (own_ns (fL 5)))])) tg_ → Steps p.tables e below (s₁.setTop (entryFrame m #[(.int p0), (.int p1), (.int p2), (.int p3)] maxLocals)) tg_ := by
                            intro tg_ kt
                            refine k548 tg_ ?_
                            refine XS.icmpNo X545.here hx rfl (hb hby at_253) rfl (tlt hc253_549).2.2.2 ?_
                            show Steps p.tables e below (T545.setTop (mkF m 256 #[.val (.int p0), .val (.int p1), .val (.int p2), .val (.int p3), .val (.int v414), .val (.int v419), .val (.ref b420), .val (.ref b495), .val (.int v520), .unset, .unset, .unset, .unset] [])) _
                            refine XS.aload X545.here hx rfl (hb hby at_256) rfl rfl ?_
                            show Steps p.tables e below (T545.setTop (mkF m 258 #[.val (.int p0), .val (.int p1), .val (.int p2), .val (.int p3), .val (.int v414), .val (.int v419), .val (.ref b420), .val (.ref b495), .val (.int v520), .unset, .unset, .unset, .unset] [(.ref b495)])) _
                            refine XS.iconst X545.here hx rfl (hb hby at_258) ?_
                            show Steps p.tables e below (T545.setTop (mkF m 259 #[.val (.int p0), .val (.int p1), .val (.int p2), .val (.int p3), .val (.int v414), .val (.int v419), .val (.ref b420), .val (.ref b495), .val (.int v520), .unset, .unset, .unset, .unset] [(.int (5 : Int32)), (.ref b495)])) _
                            refine own_ldB X545 hx hZ eq545 VL (i := 5) (by decide : (5 : Int32).toInt = ((5 : Nat) : Int)) (by decide) rfl (g := (mkF m 259 #[.val (.int p0), .val (.int p1), .val (.int p2), .val (.int p3), .val (.int v414), .val (.int v419), .val (.ref b420), .val (.ref b495), .val (.int v520), .unset, .unset, .unset, .unset] [(.int (5 : Int32)), (.ref b495)])) rfl rfl (hb hby at_259) _ ?_
                            show Steps p.tables e below (T545.setTop (mkF m 260 #[.val (.int p0), .val (.int p1), .val (.int p2), .val (.int p3), .val (.int v414), .val (.int v419), .val (.ref b420), .val (.ref b495), .val (.int v520), .unset, .unset, .unset, .unset] [(.int (fL 5))])) _
                            refine st550 _ ?_
                            show Steps p.tables e below (T550.setTop (mkF m 263 #[.val (.int p0), .val (.int p1), .val (.int p2), .val (.int p3), .val (.int v414), .val (.int v419), .val (.ref b420), .val (.ref b495), .val (.int v520), .unset, .unset, .unset, .unset] [(.int (own_ns (fL 5)))])) _
                            exact kt
                          by_cases hc263_552 : (own_ns (fL 5)) = (0 : Int32)
                          · have k553 : ∀ tg_, Steps p.tables e below (T550.setTop (mkF m 273 #[.val (.int p0), .val (.int p1), .val (.int p2), .val (.int p3), .val (.int v414), .val (.int v419), .val (.ref b420), .val (.ref b495), .val (.int v520), .val (.int (0 : Int32)), .unset, .unset, .unset] [])) tg_ → Steps p.tables e below (s₁.setTop (entryFrame m #[(.int p0), (.int p1), (.int p2), (.int p3)] maxLocals)) tg_ := by
                              intro tg_ kt
                              refine k551 tg_ ?_
                              refine XS.ifYes X550.here hx rfl (pc0 := 263) (pc' := 270) rfl (hb hby at_263) rfl ((if0 _ _).trans (teq hc263_552).1) (by decide) (by decide) ?_
                              show Steps p.tables e below (T550.setTop (mkF m 270 #[.val (.int p0), .val (.int p1), .val (.int p2), .val (.int p3), .val (.int v414), .val (.int v419), .val (.ref b420), .val (.ref b495), .val (.int v520), .unset, .unset, .unset, .unset] [])) _
                              refine XS.iconst X550.here hx rfl (hb hby at_270) ?_
                              show Steps p.tables e below (T550.setTop (mkF m 271 #[.val (.int p0), .val (.int p1), .val (.int p2), .val (.int p3), .val (.int v414), .val (.int v419), .val (.ref b420), .val (.ref b495), .val (.int v520), .unset, .unset, .unset, .unset] [(.int (0 : Int32))])) _
                              refine XS.istore X550.here hx rfl (hb hby at_271) rfl (l' := #[.val (.int p0), .val (.int p1), .val (.int p2), .val (.int p3), .val (.int v414), .val (.int v419), .val (.ref b420), .val (.ref b495), .val (.int v520), .val (.int (0 : Int32)), .unset, .unset, .unset]) rfl ?_
                              show Steps p.tables e below (T550.setTop (mkF m 273 #[.val (.int p0), .val (.int p1), .val (.int p2), .val (.int p3), .val (.int v414), .val (.int v419), .val (.ref b420), .val (.ref b495), .val (.int v520), .val (.int (0 : Int32)), .unset, .unset, .unset] [])) _
                              exact kt
                            have hall554 : ∀ j, j < L → own_sp (fL j) := by
                              intro j hj
                              rcases (by omega : j = 0 ∨ j = 1 ∨ j = 2 ∨ j = 3 ∨ j = 4 ∨ j = 5) with rfl | rfl | rfl | rfl | rfl | rfl
                              · exact own_ns0 hc183_527
                              · exact own_ns0 hc199_532
                              · exact own_ns0 hc215_537
                              · exact own_ns0 hc231_542
                              · exact own_ns0 hc247_547
                              · exact own_ns0 hc263_552
                            exact ⟨T550, _, (0 : Int32), X550, eq550, N550, (Or.inr ⟨rfl, hall554⟩), k553⟩
                          · have k555 : ∀ tg_, Steps p.tables e below (T550.setTop (mkF m 273 #[.val (.int p0), .val (.int p1), .val (.int p2), .val (.int p3), .val (.int v414), .val (.int v419), .val (.ref b420), .val (.ref b495), .val (.int v520), .val (.int (1 : Int32)), .unset, .unset, .unset] [])) tg_ → Steps p.tables e below (s₁.setTop (entryFrame m #[(.int p0), (.int p1), (.int p2), (.int p3)] maxLocals)) tg_ := by
                              intro tg_ kt
                              refine k551 tg_ ?_
                              refine XS.ifNo X550.here hx rfl (hb hby at_263) rfl ((if0 _ _).trans (feq hc263_552).1) ?_
                              show Steps p.tables e below (T550.setTop (mkF m 266 #[.val (.int p0), .val (.int p1), .val (.int p2), .val (.int p3), .val (.int v414), .val (.int v419), .val (.ref b420), .val (.ref b495), .val (.int v520), .unset, .unset, .unset, .unset] [])) _
                              refine XS.iconst X550.here hx rfl (hb hby at_266) ?_
                              show Steps p.tables e below (T550.setTop (mkF m 267 #[.val (.int p0), .val (.int p1), .val (.int p2), .val (.int p3), .val (.int v414), .val (.int v419), .val (.ref b420), .val (.ref b495), .val (.int v520), .unset, .unset, .unset, .unset] [(.int (1 : Int32))])) _
                              refine XS.goto X550.here hx rfl (pc0 := 267) (pc' := 271) rfl (hb hby at_267) (by decide) (by decide) ?_
                              show Steps p.tables e below (T550.setTop (mkF m 271 #[.val (.int p0), .val (.int p1), .val (.int p2), .val (.int p3), .val (.int v414), .val (.int v419), .val (.ref b420), .val (.ref b495), .val (.int v520), .unset, .unset, .unset, .unset] [(.int (1 : Int32))])) _
                              refine XS.istore X550.here hx rfl (hb hby at_271) rfl (l' := #[.val (.int p0), .val (.int p1), .val (.int p2), .val (.int p3), .val (.int v414), .val (.int v419), .val (.ref b420), .val (.ref b495), .val (.int v520), .val (.int (1 : Int32)), .unset, .unset, .unset]) rfl ?_
                              show Steps p.tables e below (T550.setTop (mkF m 273 #[.val (.int p0), .val (.int p1), .val (.int p2), .val (.int p3), .val (.int v414), .val (.int v419), .val (.ref b420), .val (.ref b495), .val (.int v520), .val (.int (1 : Int32)), .unset, .unset, .unset] [])) _
                              exact kt
                            have hlt556 : 5 < L := by have q := Int32.lt_iff_toInt_lt.mp hc253_549; omega
                            exact ⟨T550, _, (1 : Int32), X550, eq550, N550, (Or.inl ⟨rfl, 5, hlt556, own_ns1 hc263_552⟩), k555⟩
                        · have k557 : ∀ tg_, Steps p.tables e below (T545.setTop (mkF m 273 #[.val (.int p0), .val (.int p1), .val (.int p2), .val (.int p3), .val (.int v414), .val (.int v419), .val (.ref b420), .val (.ref b495), .val (.int v520), .val (.int (0 : Int32)), .unset, .unset, .unset] [])) tg_ → Steps p.tables e below (s₁.setTop (entryFrame m #[(.int p0), (.int p1), (.int p2), (.int p3)] maxLocals)) tg_ := by
                            intro tg_ kt
                            refine k548 tg_ ?_
                            refine XS.icmpYes X545.here hx rfl (pc0 := 253) (pc' := 270) rfl (hb hby at_253) rfl (flt hc253_549).2.2.2 (by decide) (by decide) ?_
                            show Steps p.tables e below (T545.setTop (mkF m 270 #[.val (.int p0), .val (.int p1), .val (.int p2), .val (.int p3), .val (.int v414), .val (.int v419), .val (.ref b420), .val (.ref b495), .val (.int v520), .unset, .unset, .unset, .unset] [])) _
                            refine XS.iconst X545.here hx rfl (hb hby at_270) ?_
                            show Steps p.tables e below (T545.setTop (mkF m 271 #[.val (.int p0), .val (.int p1), .val (.int p2), .val (.int p3), .val (.int v414), .val (.int v419), .val (.ref b420), .val (.ref b495), .val (.int v520), .unset, .unset, .unset, .unset] [(.int (0 : Int32))])) _
                            refine XS.istore X545.here hx rfl (hb hby at_271) rfl (l' := #[.val (.int p0), .val (.int p1), .val (.int p2), .val (.int p3), .val (.int v414), .val (.int v419), .val (.ref b420), .val (.ref b495), .val (.int v520), .val (.int (0 : Int32)), .unset, .unset, .unset]) rfl ?_
                            show Steps p.tables e below (T545.setTop (mkF m 273 #[.val (.int p0), .val (.int p1), .val (.int p2), .val (.int p3), .val (.int v414), .val (.int v419), .val (.ref b420), .val (.ref b495), .val (.int v520), .val (.int (0 : Int32)), .unset, .unset, .unset] [])) _
                            exact kt
                          have hall558 : ∀ j, j < L → own_sp (fL j) := by
                            intro j hj
                            rcases (by omega : j = 0 ∨ j = 1 ∨ j = 2 ∨ j = 3 ∨ j = 4 ∨ j = 5) with rfl | rfl | rfl | rfl | rfl | rfl
                            · exact own_ns0 hc183_527
                            · exact own_ns0 hc199_532
                            · exact own_ns0 hc215_537
                            · exact own_ns0 hc231_542
                            · exact own_ns0 hc247_547
                            · exact absurd (Int32.lt_iff_toInt_lt.mpr (by omega)) hc253_549
                          exact ⟨T545, _, (0 : Int32), X545, eq545, N545, (Or.inr ⟨rfl, hall558⟩), k557⟩
                      · have k559 : ∀ tg_, Steps p.tables e below (T545.setTop (mkF m 273 #[.val (.int p0), .val (.int p1), .val (.int p2), .val (.int p3), .val (.int v414), .val (.int v419), .val (.ref b420), .val (.ref b495), .val (.int v520), .val (.int (1 : Int32)), .unset, .unset, .unset] [])) tg_ → Steps p.tables e below (s₁.setTop (entryFrame m #[(.int p0), (.int p1), (.int p2), (.int p3)] maxLocals)) tg_ := by
                          intro tg_ kt
                          refine k546 tg_ ?_
                          refine XS.ifYes X545.here hx rfl (pc0 := 247) (pc' := 266) rfl (hb hby at_247) rfl ((if0 _ _).trans (feq hc247_547).2) (by decide) (by decide) ?_
                          show Steps p.tables e below (T545.setTop (mkF m 266 #[.val (.int p0), .val (.int p1), .val (.int p2), .val (.int p3), .val (.int v414), .val (.int v419), .val (.ref b420), .val (.ref b495), .val (.int v520), .unset, .unset, .unset, .unset] [])) _
                          refine XS.iconst X545.here hx rfl (hb hby at_266) ?_
                          show Steps p.tables e below (T545.setTop (mkF m 267 #[.val (.int p0), .val (.int p1), .val (.int p2), .val (.int p3), .val (.int v414), .val (.int v419), .val (.ref b420), .val (.ref b495), .val (.int v520), .unset, .unset, .unset, .unset] [(.int (1 : Int32))])) _
                          refine XS.goto X545.here hx rfl (pc0 := 267) (pc' := 271) rfl (hb hby at_267) (by decide) (by decide) ?_
                          show Steps p.tables e below (T545.setTop (mkF m 271 #[.val (.int p0), .val (.int p1), .val (.int p2), .val (.int p3), .val (.int v414), .val (.int v419), .val (.ref b420), .val (.ref b495), .val (.int v520), .unset, .unset, .unset, .unset] [(.int (1 : Int32))])) _
                          refine XS.istore X545.here hx rfl (hb hby at_271) rfl (l' := #[.val (.int p0), .val (.int p1), .val (.int p2), .val (.int p3), .val (.int v414), .val (.int v419), .val (.ref b420), .val (.ref b495), .val (.int v520), .val (.int (1 : Int32)), .unset, .unset, .unset]) rfl ?_
                          show Steps p.tables e below (T545.setTop (mkF m 273 #[.val (.int p0), .val (.int p1), .val (.int p2), .val (.int p3), .val (.int v414), .val (.int v419), .val (.ref b420), .val (.ref b495), .val (.int v520), .val (.int (1 : Int32)), .unset, .unset, .unset] [])) _
                          exact kt
                        have hlt560 : 4 < L := by have q := Int32.lt_iff_toInt_lt.mp hc237_544; omega
                        exact ⟨T545, _, (1 : Int32), X545, eq545, N545, (Or.inl ⟨rfl, 4, hlt560, own_ns1 hc247_547⟩), k559⟩
                    · have hc253_561 : ¬ ((5 : Int32) < v520) := (fun q => hc237_544 (Int32.lt_iff_toInt_lt.mpr (by have q2 := Int32.lt_iff_toInt_lt.mp q; omega)))
                      have k562 : ∀ tg_, Steps p.tables e below (T540.setTop (mkF m 273 #[.val (.int p0), .val (.int p1), .val (.int p2), .val (.int p3), .val (.int v414), .val (.int v419), .val (.ref b420), .val (.ref b495), .val (.int v520), .val (.int (0 : Int32)), .unset, .unset, .unset] [])) tg_ → Steps p.tables e below (s₁.setTop (entryFrame m #[(.int p0), (.int p1), (.int p2), (.int p3)] maxLocals)) tg_ := by
                        intro tg_ kt
                        refine k543 tg_ ?_
                        refine XS.icmpYes X540.here hx rfl (pc0 := 237) (pc' := 250) rfl (hb hby at_237) rfl (flt hc237_544).2.2.2 (by decide) (by decide) ?_
                        show Steps p.tables e below (T540.setTop (mkF m 250 #[.val (.int p0), .val (.int p1), .val (.int p2), .val (.int p3), .val (.int v414), .val (.int v419), .val (.ref b420), .val (.ref b495), .val (.int v520), .unset, .unset, .unset, .unset] [])) _
                        refine XS.iload X540.here hx rfl (hb hby at_250) rfl ?_
                        show Steps p.tables e below (T540.setTop (mkF m 252 #[.val (.int p0), .val (.int p1), .val (.int p2), .val (.int p3), .val (.int v414), .val (.int v419), .val (.ref b420), .val (.ref b495), .val (.int v520), .unset, .unset, .unset, .unset] [(.int v520)])) _
                        refine XS.iconst X540.here hx rfl (hb hby at_252) ?_
                        show Steps p.tables e below (T540.setTop (mkF m 253 #[.val (.int p0), .val (.int p1), .val (.int p2), .val (.int p3), .val (.int v414), .val (.int v419), .val (.ref b420), .val (.ref b495), .val (.int v520), .unset, .unset, .unset, .unset] [(.int (5 : Int32)), (.int v520)])) _
                        refine XS.icmpYes X540.here hx rfl (pc0 := 253) (pc' := 270) rfl (hb hby at_253) rfl (flt hc253_561).2.2.2 (by decide) (by decide) ?_
                        show Steps p.tables e below (T540.setTop (mkF m 270 #[.val (.int p0), .val (.int p1), .val (.int p2), .val (.int p3), .val (.int v414), .val (.int v419), .val (.ref b420), .val (.ref b495), .val (.int v520), .unset, .unset, .unset, .unset] [])) _
                        refine XS.iconst X540.here hx rfl (hb hby at_270) ?_
                        show Steps p.tables e below (T540.setTop (mkF m 271 #[.val (.int p0), .val (.int p1), .val (.int p2), .val (.int p3), .val (.int v414), .val (.int v419), .val (.ref b420), .val (.ref b495), .val (.int v520), .unset, .unset, .unset, .unset] [(.int (0 : Int32))])) _
                        refine XS.istore X540.here hx rfl (hb hby at_271) rfl (l' := #[.val (.int p0), .val (.int p1), .val (.int p2), .val (.int p3), .val (.int v414), .val (.int v419), .val (.ref b420), .val (.ref b495), .val (.int v520), .val (.int (0 : Int32)), .unset, .unset, .unset]) rfl ?_
                        show Steps p.tables e below (T540.setTop (mkF m 273 #[.val (.int p0), .val (.int p1), .val (.int p2), .val (.int p3), .val (.int v414), .val (.int v419), .val (.ref b420), .val (.ref b495), .val (.int v520), .val (.int (0 : Int32)), .unset, .unset, .unset] [])) _
                        exact kt
                      have hall563 : ∀ j, j < L → own_sp (fL j) := by
                        intro j hj
                        rcases (by omega : j = 0 ∨ j = 1 ∨ j = 2 ∨ j = 3 ∨ j = 4 ∨ j = 5) with rfl | rfl | rfl | rfl | rfl | rfl
                        · exact own_ns0 hc183_527
                        · exact own_ns0 hc199_532
                        · exact own_ns0 hc215_537
                        · exact own_ns0 hc231_542
                        · exact absurd (Int32.lt_iff_toInt_lt.mpr (by omega)) hc237_544
                        · exact absurd (Int32.lt_iff_toInt_lt.mpr (by omega)) hc253_561
                      exact ⟨T540, _, (0 : Int32), X540, eq540, N540, (Or.inr ⟨rfl, hall563⟩), k562⟩
                  · have k564 : ∀ tg_, Steps p.tables e below (T540.setTop (mkF m 273 #[.val (.int p0), .val (.int p1), .val (.int p2), .val (.int p3), .val (.int v414), .val (.int v419), .val (.ref b420), .val (.ref b495), .val (.int v520), .val (.int (1 : Int32)), .unset, .unset, .unset] [])) tg_ → Steps p.tables e below (s₁.setTop (entryFrame m #[(.int p0), (.int p1), (.int p2), (.int p3)] maxLocals)) tg_ := by
                      intro tg_ kt
                      refine k541 tg_ ?_
                      refine XS.ifYes X540.here hx rfl (pc0 := 231) (pc' := 266) rfl (hb hby at_231) rfl ((if0 _ _).trans (feq hc231_542).2) (by decide) (by decide) ?_
                      show Steps p.tables e below (T540.setTop (mkF m 266 #[.val (.int p0), .val (.int p1), .val (.int p2), .val (.int p3), .val (.int v414), .val (.int v419), .val (.ref b420), .val (.ref b495), .val (.int v520), .unset, .unset, .unset, .unset] [])) _
                      refine XS.iconst X540.here hx rfl (hb hby at_266) ?_
                      show Steps p.tables e below (T540.setTop (mkF m 267 #[.val (.int p0), .val (.int p1), .val (.int p2), .val (.int p3), .val (.int v414), .val (.int v419), .val (.ref b420), .val (.ref b495), .val (.int v520), .unset, .unset, .unset, .unset] [(.int (1 : Int32))])) _
                      refine XS.goto X540.here hx rfl (pc0 := 267) (pc' := 271) rfl (hb hby at_267) (by decide) (by decide) ?_
                      show Steps p.tables e below (T540.setTop (mkF m 271 #[.val (.int p0), .val (.int p1), .val (.int p2), .val (.int p3), .val (.int v414), .val (.int v419), .val (.ref b420), .val (.ref b495), .val (.int v520), .unset, .unset, .unset, .unset] [(.int (1 : Int32))])) _
                      refine XS.istore X540.here hx rfl (hb hby at_271) rfl (l' := #[.val (.int p0), .val (.int p1), .val (.int p2), .val (.int p3), .val (.int v414), .val (.int v419), .val (.ref b420), .val (.ref b495), .val (.int v520), .val (.int (1 : Int32)), .unset, .unset, .unset]) rfl ?_
                      show Steps p.tables e below (T540.setTop (mkF m 273 #[.val (.int p0), .val (.int p1), .val (.int p2), .val (.int p3), .val (.int v414), .val (.int v419), .val (.ref b420), .val (.ref b495), .val (.int v520), .val (.int (1 : Int32)), .unset, .unset, .unset] [])) _
                      exact kt
                    have hlt565 : 3 < L := by have q := Int32.lt_iff_toInt_lt.mp hc221_539; omega
                    exact ⟨T540, _, (1 : Int32), X540, eq540, N540, (Or.inl ⟨rfl, 3, hlt565, own_ns1 hc231_542⟩), k564⟩
                · have hc237_566 : ¬ ((4 : Int32) < v520) := (fun q => hc221_539 (Int32.lt_iff_toInt_lt.mpr (by have q2 := Int32.lt_iff_toInt_lt.mp q; omega)))
                  have hc253_567 : ¬ ((5 : Int32) < v520) := (fun q => hc221_539 (Int32.lt_iff_toInt_lt.mpr (by have q2 := Int32.lt_iff_toInt_lt.mp q; omega)))
                  have k568 : ∀ tg_, Steps p.tables e below (T535.setTop (mkF m 273 #[.val (.int p0), .val (.int p1), .val (.int p2), .val (.int p3), .val (.int v414), .val (.int v419), .val (.ref b420), .val (.ref b495), .val (.int v520), .val (.int (0 : Int32)), .unset, .unset, .unset] [])) tg_ → Steps p.tables e below (s₁.setTop (entryFrame m #[(.int p0), (.int p1), (.int p2), (.int p3)] maxLocals)) tg_ := by
                    intro tg_ kt
                    refine k538 tg_ ?_
                    refine XS.icmpYes X535.here hx rfl (pc0 := 221) (pc' := 234) rfl (hb hby at_221) rfl (flt hc221_539).2.2.2 (by decide) (by decide) ?_
                    show Steps p.tables e below (T535.setTop (mkF m 234 #[.val (.int p0), .val (.int p1), .val (.int p2), .val (.int p3), .val (.int v414), .val (.int v419), .val (.ref b420), .val (.ref b495), .val (.int v520), .unset, .unset, .unset, .unset] [])) _
                    refine XS.iload X535.here hx rfl (hb hby at_234) rfl ?_
                    show Steps p.tables e below (T535.setTop (mkF m 236 #[.val (.int p0), .val (.int p1), .val (.int p2), .val (.int p3), .val (.int v414), .val (.int v419), .val (.ref b420), .val (.ref b495), .val (.int v520), .unset, .unset, .unset, .unset] [(.int v520)])) _
                    refine XS.iconst X535.here hx rfl (hb hby at_236) ?_
                    show Steps p.tables e below (T535.setTop (mkF m 237 #[.val (.int p0), .val (.int p1), .val (.int p2), .val (.int p3), .val (.int v414), .val (.int v419), .val (.ref b420), .val (.ref b495), .val (.int v520), .unset, .unset, .unset, .unset] [(.int (4 : Int32)), (.int v520)])) _
                    refine XS.icmpYes X535.here hx rfl (pc0 := 237) (pc' := 250) rfl (hb hby at_237) rfl (flt hc237_566).2.2.2 (by decide) (by decide) ?_
                    show Steps p.tables e below (T535.setTop (mkF m 250 #[.val (.int p0), .val (.int p1), .val (.int p2), .val (.int p3), .val (.int v414), .val (.int v419), .val (.ref b420), .val (.ref b495), .val (.int v520), .unset, .unset, .unset, .unset] [])) _
                    refine XS.iload X535.here hx rfl (hb hby at_250) rfl ?_
                    show Steps p.tables e below (T535.setTop (mkF m 252 #[.val (.int p0), .val (.int p1), .val (.int p2), .val (.int p3), .val (.int v414), .val (.int v419), .val (.ref b420), .val (.ref b495), .val (.int v520), .unset, .unset, .unset, .unset] [(.int v520)])) _
                    refine XS.iconst X535.here hx rfl (hb hby at_252) ?_
                    show Steps p.tables e below (T535.setTop (mkF m 253 #[.val (.int p0), .val (.int p1), .val (.int p2), .val (.int p3), .val (.int v414), .val (.int v419), .val (.ref b420), .val (.ref b495), .val (.int v520), .unset, .unset, .unset, .unset] [(.int (5 : Int32)), (.int v520)])) _
                    refine XS.icmpYes X535.here hx rfl (pc0 := 253) (pc' := 270) rfl (hb hby at_253) rfl (flt hc253_567).2.2.2 (by decide) (by decide) ?_
                    show Steps p.tables e below (T535.setTop (mkF m 270 #[.val (.int p0), .val (.int p1), .val (.int p2), .val (.int p3), .val (.int v414), .val (.int v419), .val (.ref b420), .val (.ref b495), .val (.int v520), .unset, .unset, .unset, .unset] [])) _
                    refine XS.iconst X535.here hx rfl (hb hby at_270) ?_
                    show Steps p.tables e below (T535.setTop (mkF m 271 #[.val (.int p0), .val (.int p1), .val (.int p2), .val (.int p3), .val (.int v414), .val (.int v419), .val (.ref b420), .val (.ref b495), .val (.int v520), .unset, .unset, .unset, .unset] [(.int (0 : Int32))])) _
                    refine XS.istore X535.here hx rfl (hb hby at_271) rfl (l' := #[.val (.int p0), .val (.int p1), .val (.int p2), .val (.int p3), .val (.int v414), .val (.int v419), .val (.ref b420), .val (.ref b495), .val (.int v520), .val (.int (0 : Int32)), .unset, .unset, .unset]) rfl ?_
                    show Steps p.tables e below (T535.setTop (mkF m 273 #[.val (.int p0), .val (.int p1), .val (.int p2), .val (.int p3), .val (.int v414), .val (.int v419), .val (.ref b420), .val (.ref b495), .val (.int v520), .val (.int (0 : Int32)), .unset, .unset, .unset] [])) _
                    exact kt
                  have hall569 : ∀ j, j < L → own_sp (fL j) := by
                    intro j hj
                    rcases (by omega : j = 0 ∨ j = 1 ∨ j = 2 ∨ j = 3 ∨ j = 4 ∨ j = 5) with rfl | rfl | rfl | rfl | rfl | rfl
                    · exact own_ns0 hc183_527
                    · exact own_ns0 hc199_532
                    · exact own_ns0 hc215_537
                    · exact absurd (Int32.lt_iff_toInt_lt.mpr (by omega)) hc221_539
                    · exact absurd (Int32.lt_iff_toInt_lt.mpr (by omega)) hc237_566
                    · exact absurd (Int32.lt_iff_toInt_lt.mpr (by omega)) hc253_567
                  exact ⟨T535, _, (0 : Int32), X535, eq535, N535, (Or.inr ⟨rfl, hall569⟩), k568⟩
              · have k570 : ∀ tg_, Steps p.tables e below (T535.setTop (mkF m 273 #[.val (.int p0), .val (.int p1), .val (.int p2), .val (.int p3), .val (.int v414), .val (.int v419), .val (.ref b420), .val (.ref b495), .val (.int v520), .val (.int (1 : Int32)), .unset, .unset, .unset] [])) tg_ → Steps p.tables e below (s₁.setTop (entryFrame m #[(.int p0), (.int p1), (.int p2), (.int p3)] maxLocals)) tg_ := by
                  intro tg_ kt
                  refine k536 tg_ ?_
                  refine XS.ifYes X535.here hx rfl (pc0 := 215) (pc' := 266) rfl (hb hby at_215) rfl ((if0 _ _).trans (feq hc215_537).2) (by decide) (by decide) ?_
                  show Steps p.tables e below (T535.setTop (mkF m 266 #[.val (.int p0), .val (.int p1), .val (.int p2), .val (.int p3), .val (.int v414), .val (.int v419), .val (.ref b420), .val (.ref b495), .val (.int v520), .unset, .unset, .unset, .unset] [])) _
                  refine XS.iconst X535.here hx rfl (hb hby at_266) ?_
                  show Steps p.tables e below (T535.setTop (mkF m 267 #[.val (.int p0), .val (.int p1), .val (.int p2), .val (.int p3), .val (.int v414), .val (.int v419), .val (.ref b420), .val (.ref b495), .val (.int v520), .unset, .unset, .unset, .unset] [(.int (1 : Int32))])) _
                  refine XS.goto X535.here hx rfl (pc0 := 267) (pc' := 271) rfl (hb hby at_267) (by decide) (by decide) ?_
                  show Steps p.tables e below (T535.setTop (mkF m 271 #[.val (.int p0), .val (.int p1), .val (.int p2), .val (.int p3), .val (.int v414), .val (.int v419), .val (.ref b420), .val (.ref b495), .val (.int v520), .unset, .unset, .unset, .unset] [(.int (1 : Int32))])) _
                  refine XS.istore X535.here hx rfl (hb hby at_271) rfl (l' := #[.val (.int p0), .val (.int p1), .val (.int p2), .val (.int p3), .val (.int v414), .val (.int v419), .val (.ref b420), .val (.ref b495), .val (.int v520), .val (.int (1 : Int32)), .unset, .unset, .unset]) rfl ?_
                  show Steps p.tables e below (T535.setTop (mkF m 273 #[.val (.int p0), .val (.int p1), .val (.int p2), .val (.int p3), .val (.int v414), .val (.int v419), .val (.ref b420), .val (.ref b495), .val (.int v520), .val (.int (1 : Int32)), .unset, .unset, .unset] [])) _
                  exact kt
                have hlt571 : 2 < L := by have q := Int32.lt_iff_toInt_lt.mp hc205_534; omega
                exact ⟨T535, _, (1 : Int32), X535, eq535, N535, (Or.inl ⟨rfl, 2, hlt571, own_ns1 hc215_537⟩), k570⟩
            · have hc221_572 : ¬ ((3 : Int32) < v520) := (fun q => hc205_534 (Int32.lt_iff_toInt_lt.mpr (by have q2 := Int32.lt_iff_toInt_lt.mp q; omega)))
              have hc237_573 : ¬ ((4 : Int32) < v520) := (fun q => hc205_534 (Int32.lt_iff_toInt_lt.mpr (by have q2 := Int32.lt_iff_toInt_lt.mp q; omega)))
              have hc253_574 : ¬ ((5 : Int32) < v520) := (fun q => hc205_534 (Int32.lt_iff_toInt_lt.mpr (by have q2 := Int32.lt_iff_toInt_lt.mp q; omega)))
              have k575 : ∀ tg_, Steps p.tables e below (T530.setTop (mkF m 273 #[.val (.int p0), .val (.int p1), .val (.int p2), .val (.int p3), .val (.int v414), .val (.int v419), .val (.ref b420), .val (.ref b495), .val (.int v520), .val (.int (0 : Int32)), .unset, .unset, .unset] [])) tg_ → Steps p.tables e below (s₁.setTop (entryFrame m #[(.int p0), (.int p1), (.int p2), (.int p3)] maxLocals)) tg_ := by
                intro tg_ kt
                refine k533 tg_ ?_
                refine XS.icmpYes X530.here hx rfl (pc0 := 205) (pc' := 218) rfl (hb hby at_205) rfl (flt hc205_534).2.2.2 (by decide) (by decide) ?_
                show Steps p.tables e below (T530.setTop (mkF m 218 #[.val (.int p0), .val (.int p1), .val (.int p2), .val (.int p3), .val (.int v414), .val (.int v419), .val (.ref b420), .val (.ref b495), .val (.int v520), .unset, .unset, .unset, .unset] [])) _
                refine XS.iload X530.here hx rfl (hb hby at_218) rfl ?_
                show Steps p.tables e below (T530.setTop (mkF m 220 #[.val (.int p0), .val (.int p1), .val (.int p2), .val (.int p3), .val (.int v414), .val (.int v419), .val (.ref b420), .val (.ref b495), .val (.int v520), .unset, .unset, .unset, .unset] [(.int v520)])) _
                refine XS.iconst X530.here hx rfl (hb hby at_220) ?_
                show Steps p.tables e below (T530.setTop (mkF m 221 #[.val (.int p0), .val (.int p1), .val (.int p2), .val (.int p3), .val (.int v414), .val (.int v419), .val (.ref b420), .val (.ref b495), .val (.int v520), .unset, .unset, .unset, .unset] [(.int (3 : Int32)), (.int v520)])) _
                refine XS.icmpYes X530.here hx rfl (pc0 := 221) (pc' := 234) rfl (hb hby at_221) rfl (flt hc221_572).2.2.2 (by decide) (by decide) ?_
                show Steps p.tables e below (T530.setTop (mkF m 234 #[.val (.int p0), .val (.int p1), .val (.int p2), .val (.int p3), .val (.int v414), .val (.int v419), .val (.ref b420), .val (.ref b495), .val (.int v520), .unset, .unset, .unset, .unset] [])) _
                refine XS.iload X530.here hx rfl (hb hby at_234) rfl ?_
                show Steps p.tables e below (T530.setTop (mkF m 236 #[.val (.int p0), .val (.int p1), .val (.int p2), .val (.int p3), .val (.int v414), .val (.int v419), .val (.ref b420), .val (.ref b495), .val (.int v520), .unset, .unset, .unset, .unset] [(.int v520)])) _
                refine XS.iconst X530.here hx rfl (hb hby at_236) ?_
                show Steps p.tables e below (T530.setTop (mkF m 237 #[.val (.int p0), .val (.int p1), .val (.int p2), .val (.int p3), .val (.int v414), .val (.int v419), .val (.ref b420), .val (.ref b495), .val (.int v520), .unset, .unset, .unset, .unset] [(.int (4 : Int32)), (.int v520)])) _
                refine XS.icmpYes X530.here hx rfl (pc0 := 237) (pc' := 250) rfl (hb hby at_237) rfl (flt hc237_573).2.2.2 (by decide) (by decide) ?_
                show Steps p.tables e below (T530.setTop (mkF m 250 #[.val (.int p0), .val (.int p1), .val (.int p2), .val (.int p3), .val (.int v414), .val (.int v419), .val (.ref b420), .val (.ref b495), .val (.int v520), .unset, .unset, .unset, .unset] [])) _
                refine XS.iload X530.here hx rfl (hb hby at_250) rfl ?_
                show Steps p.tables e below (T530.setTop (mkF m 252 #[.val (.int p0), .val (.int p1), .val (.int p2), .val (.int p3), .val (.int v414), .val (.int v419), .val (.ref b420), .val (.ref b495), .val (.int v520), .unset, .unset, .unset, .unset] [(.int v520)])) _
                refine XS.iconst X530.here hx rfl (hb hby at_252) ?_
                show Steps p.tables e below (T530.setTop (mkF m 253 #[.val (.int p0), .val (.int p1), .val (.int p2), .val (.int p3), .val (.int v414), .val (.int v419), .val (.ref b420), .val (.ref b495), .val (.int v520), .unset, .unset, .unset, .unset] [(.int (5 : Int32)), (.int v520)])) _
                refine XS.icmpYes X530.here hx rfl (pc0 := 253) (pc' := 270) rfl (hb hby at_253) rfl (flt hc253_574).2.2.2 (by decide) (by decide) ?_
                show Steps p.tables e below (T530.setTop (mkF m 270 #[.val (.int p0), .val (.int p1), .val (.int p2), .val (.int p3), .val (.int v414), .val (.int v419), .val (.ref b420), .val (.ref b495), .val (.int v520), .unset, .unset, .unset, .unset] [])) _
                refine XS.iconst X530.here hx rfl (hb hby at_270) ?_
                show Steps p.tables e below (T530.setTop (mkF m 271 #[.val (.int p0), .val (.int p1), .val (.int p2), .val (.int p3), .val (.int v414), .val (.int v419), .val (.ref b420), .val (.ref b495), .val (.int v520), .unset, .unset, .unset, .unset] [(.int (0 : Int32))])) _
                refine XS.istore X530.here hx rfl (hb hby at_271) rfl (l' := #[.val (.int p0), .val (.int p1), .val (.int p2), .val (.int p3), .val (.int v414), .val (.int v419), .val (.ref b420), .val (.ref b495), .val (.int v520), .val (.int (0 : Int32)), .unset, .unset, .unset]) rfl ?_
                show Steps p.tables e below (T530.setTop (mkF m 273 #[.val (.int p0), .val (.int p1), .val (.int p2), .val (.int p3), .val (.int v414), .val (.int v419), .val (.ref b420), .val (.ref b495), .val (.int v520), .val (.int (0 : Int32)), .unset, .unset, .unset] [])) _
                exact kt
              have hall576 : ∀ j, j < L → own_sp (fL j) := by
                intro j hj
                rcases (by omega : j = 0 ∨ j = 1 ∨ j = 2 ∨ j = 3 ∨ j = 4 ∨ j = 5) with rfl | rfl | rfl | rfl | rfl | rfl
                · exact own_ns0 hc183_527
                · exact own_ns0 hc199_532
                · exact absurd (Int32.lt_iff_toInt_lt.mpr (by omega)) hc205_534
                · exact absurd (Int32.lt_iff_toInt_lt.mpr (by omega)) hc221_572
                · exact absurd (Int32.lt_iff_toInt_lt.mpr (by omega)) hc237_573
                · exact absurd (Int32.lt_iff_toInt_lt.mpr (by omega)) hc253_574
              exact ⟨T530, _, (0 : Int32), X530, eq530, N530, (Or.inr ⟨rfl, hall576⟩), k575⟩
          · have k577 : ∀ tg_, Steps p.tables e below (T530.setTop (mkF m 273 #[.val (.int p0), .val (.int p1), .val (.int p2), .val (.int p3), .val (.int v414), .val (.int v419), .val (.ref b420), .val (.ref b495), .val (.int v520), .val (.int (1 : Int32)), .unset, .unset, .unset] [])) tg_ → Steps p.tables e below (s₁.setTop (entryFrame m #[(.int p0), (.int p1), (.int p2), (.int p3)] maxLocals)) tg_ := by
              intro tg_ kt
              refine k531 tg_ ?_
              refine XS.ifYes X530.here hx rfl (pc0 := 199) (pc' := 266) rfl (hb hby at_199) rfl ((if0 _ _).trans (feq hc199_532).2) (by decide) (by decide) ?_
              show Steps p.tables e below (T530.setTop (mkF m 266 #[.val (.int p0), .val (.int p1), .val (.int p2), .val (.int p3), .val (.int v414), .val (.int v419), .val (.ref b420), .val (.ref b495), .val (.int v520), .unset, .unset, .unset, .unset] [])) _
              refine XS.iconst X530.here hx rfl (hb hby at_266) ?_
              show Steps p.tables e below (T530.setTop (mkF m 267 #[.val (.int p0), .val (.int p1), .val (.int p2), .val (.int p3), .val (.int v414), .val (.int v419), .val (.ref b420), .val (.ref b495), .val (.int v520), .unset, .unset, .unset, .unset] [(.int (1 : Int32))])) _
              refine XS.goto X530.here hx rfl (pc0 := 267) (pc' := 271) rfl (hb hby at_267) (by decide) (by decide) ?_
              show Steps p.tables e below (T530.setTop (mkF m 271 #[.val (.int p0), .val (.int p1), .val (.int p2), .val (.int p3), .val (.int v414), .val (.int v419), .val (.ref b420), .val (.ref b495), .val (.int v520), .unset, .unset, .unset, .unset] [(.int (1 : Int32))])) _
              refine XS.istore X530.here hx rfl (hb hby at_271) rfl (l' := #[.val (.int p0), .val (.int p1), .val (.int p2), .val (.int p3), .val (.int v414), .val (.int v419), .val (.ref b420), .val (.ref b495), .val (.int v520), .val (.int (1 : Int32)), .unset, .unset, .unset]) rfl ?_
              show Steps p.tables e below (T530.setTop (mkF m 273 #[.val (.int p0), .val (.int p1), .val (.int p2), .val (.int p3), .val (.int v414), .val (.int v419), .val (.ref b420), .val (.ref b495), .val (.int v520), .val (.int (1 : Int32)), .unset, .unset, .unset] [])) _
              exact kt
            have hlt578 : 1 < L := by have q := Int32.lt_iff_toInt_lt.mp hc189_529; omega
            exact ⟨T530, _, (1 : Int32), X530, eq530, N530, (Or.inl ⟨rfl, 1, hlt578, own_ns1 hc199_532⟩), k577⟩
        · have hc205_579 : ¬ ((2 : Int32) < v520) := (fun q => hc189_529 (Int32.lt_iff_toInt_lt.mpr (by have q2 := Int32.lt_iff_toInt_lt.mp q; omega)))
          have hc221_580 : ¬ ((3 : Int32) < v520) := (fun q => hc189_529 (Int32.lt_iff_toInt_lt.mpr (by have q2 := Int32.lt_iff_toInt_lt.mp q; omega)))
          have hc237_581 : ¬ ((4 : Int32) < v520) := (fun q => hc189_529 (Int32.lt_iff_toInt_lt.mpr (by have q2 := Int32.lt_iff_toInt_lt.mp q; omega)))
          have hc253_582 : ¬ ((5 : Int32) < v520) := (fun q => hc189_529 (Int32.lt_iff_toInt_lt.mpr (by have q2 := Int32.lt_iff_toInt_lt.mp q; omega)))
          have k583 : ∀ tg_, Steps p.tables e below (T525.setTop (mkF m 273 #[.val (.int p0), .val (.int p1), .val (.int p2), .val (.int p3), .val (.int v414), .val (.int v419), .val (.ref b420), .val (.ref b495), .val (.int v520), .val (.int (0 : Int32)), .unset, .unset, .unset] [])) tg_ → Steps p.tables e below (s₁.setTop (entryFrame m #[(.int p0), (.int p1), (.int p2), (.int p3)] maxLocals)) tg_ := by
            intro tg_ kt
            refine k528 tg_ ?_
            refine XS.icmpYes X525.here hx rfl (pc0 := 189) (pc' := 202) rfl (hb hby at_189) rfl (flt hc189_529).2.2.2 (by decide) (by decide) ?_
            show Steps p.tables e below (T525.setTop (mkF m 202 #[.val (.int p0), .val (.int p1), .val (.int p2), .val (.int p3), .val (.int v414), .val (.int v419), .val (.ref b420), .val (.ref b495), .val (.int v520), .unset, .unset, .unset, .unset] [])) _
            refine XS.iload X525.here hx rfl (hb hby at_202) rfl ?_
            show Steps p.tables e below (T525.setTop (mkF m 204 #[.val (.int p0), .val (.int p1), .val (.int p2), .val (.int p3), .val (.int v414), .val (.int v419), .val (.ref b420), .val (.ref b495), .val (.int v520), .unset, .unset, .unset, .unset] [(.int v520)])) _
            refine XS.iconst X525.here hx rfl (hb hby at_204) ?_
            show Steps p.tables e below (T525.setTop (mkF m 205 #[.val (.int p0), .val (.int p1), .val (.int p2), .val (.int p3), .val (.int v414), .val (.int v419), .val (.ref b420), .val (.ref b495), .val (.int v520), .unset, .unset, .unset, .unset] [(.int (2 : Int32)), (.int v520)])) _
            refine XS.icmpYes X525.here hx rfl (pc0 := 205) (pc' := 218) rfl (hb hby at_205) rfl (flt hc205_579).2.2.2 (by decide) (by decide) ?_
            show Steps p.tables e below (T525.setTop (mkF m 218 #[.val (.int p0), .val (.int p1), .val (.int p2), .val (.int p3), .val (.int v414), .val (.int v419), .val (.ref b420), .val (.ref b495), .val (.int v520), .unset, .unset, .unset, .unset] [])) _
            refine XS.iload X525.here hx rfl (hb hby at_218) rfl ?_
            show Steps p.tables e below (T525.setTop (mkF m 220 #[.val (.int p0), .val (.int p1), .val (.int p2), .val (.int p3), .val (.int v414), .val (.int v419), .val (.ref b420), .val (.ref b495), .val (.int v520), .unset, .unset, .unset, .unset] [(.int v520)])) _
            refine XS.iconst X525.here hx rfl (hb hby at_220) ?_
            show Steps p.tables e below (T525.setTop (mkF m 221 #[.val (.int p0), .val (.int p1), .val (.int p2), .val (.int p3), .val (.int v414), .val (.int v419), .val (.ref b420), .val (.ref b495), .val (.int v520), .unset, .unset, .unset, .unset] [(.int (3 : Int32)), (.int v520)])) _
            refine XS.icmpYes X525.here hx rfl (pc0 := 221) (pc' := 234) rfl (hb hby at_221) rfl (flt hc221_580).2.2.2 (by decide) (by decide) ?_
            show Steps p.tables e below (T525.setTop (mkF m 234 #[.val (.int p0), .val (.int p1), .val (.int p2), .val (.int p3), .val (.int v414), .val (.int v419), .val (.ref b420), .val (.ref b495), .val (.int v520), .unset, .unset, .unset, .unset] [])) _
            refine XS.iload X525.here hx rfl (hb hby at_234) rfl ?_
            show Steps p.tables e below (T525.setTop (mkF m 236 #[.val (.int p0), .val (.int p1), .val (.int p2), .val (.int p3), .val (.int v414), .val (.int v419), .val (.ref b420), .val (.ref b495), .val (.int v520), .unset, .unset, .unset, .unset] [(.int v520)])) _
            refine XS.iconst X525.here hx rfl (hb hby at_236) ?_
            show Steps p.tables e below (T525.setTop (mkF m 237 #[.val (.int p0), .val (.int p1), .val (.int p2), .val (.int p3), .val (.int v414), .val (.int v419), .val (.ref b420), .val (.ref b495), .val (.int v520), .unset, .unset, .unset, .unset] [(.int (4 : Int32)), (.int v520)])) _
            refine XS.icmpYes X525.here hx rfl (pc0 := 237) (pc' := 250) rfl (hb hby at_237) rfl (flt hc237_581).2.2.2 (by decide) (by decide) ?_
            show Steps p.tables e below (T525.setTop (mkF m 250 #[.val (.int p0), .val (.int p1), .val (.int p2), .val (.int p3), .val (.int v414), .val (.int v419), .val (.ref b420), .val (.ref b495), .val (.int v520), .unset, .unset, .unset, .unset] [])) _
            refine XS.iload X525.here hx rfl (hb hby at_250) rfl ?_
            show Steps p.tables e below (T525.setTop (mkF m 252 #[.val (.int p0), .val (.int p1), .val (.int p2), .val (.int p3), .val (.int v414), .val (.int v419), .val (.ref b420), .val (.ref b495), .val (.int v520), .unset, .unset, .unset, .unset] [(.int v520)])) _
            refine XS.iconst X525.here hx rfl (hb hby at_252) ?_
            show Steps p.tables e below (T525.setTop (mkF m 253 #[.val (.int p0), .val (.int p1), .val (.int p2), .val (.int p3), .val (.int v414), .val (.int v419), .val (.ref b420), .val (.ref b495), .val (.int v520), .unset, .unset, .unset, .unset] [(.int (5 : Int32)), (.int v520)])) _
            refine XS.icmpYes X525.here hx rfl (pc0 := 253) (pc' := 270) rfl (hb hby at_253) rfl (flt hc253_582).2.2.2 (by decide) (by decide) ?_
            show Steps p.tables e below (T525.setTop (mkF m 270 #[.val (.int p0), .val (.int p1), .val (.int p2), .val (.int p3), .val (.int v414), .val (.int v419), .val (.ref b420), .val (.ref b495), .val (.int v520), .unset, .unset, .unset, .unset] [])) _
            refine XS.iconst X525.here hx rfl (hb hby at_270) ?_
            show Steps p.tables e below (T525.setTop (mkF m 271 #[.val (.int p0), .val (.int p1), .val (.int p2), .val (.int p3), .val (.int v414), .val (.int v419), .val (.ref b420), .val (.ref b495), .val (.int v520), .unset, .unset, .unset, .unset] [(.int (0 : Int32))])) _
            refine XS.istore X525.here hx rfl (hb hby at_271) rfl (l' := #[.val (.int p0), .val (.int p1), .val (.int p2), .val (.int p3), .val (.int v414), .val (.int v419), .val (.ref b420), .val (.ref b495), .val (.int v520), .val (.int (0 : Int32)), .unset, .unset, .unset]) rfl ?_
            show Steps p.tables e below (T525.setTop (mkF m 273 #[.val (.int p0), .val (.int p1), .val (.int p2), .val (.int p3), .val (.int v414), .val (.int v419), .val (.ref b420), .val (.ref b495), .val (.int v520), .val (.int (0 : Int32)), .unset, .unset, .unset] [])) _
            exact kt
          have hall584 : ∀ j, j < L → own_sp (fL j) := by
            intro j hj
            rcases (by omega : j = 0 ∨ j = 1 ∨ j = 2 ∨ j = 3 ∨ j = 4 ∨ j = 5) with rfl | rfl | rfl | rfl | rfl | rfl
            · exact own_ns0 hc183_527
            · exact absurd (Int32.lt_iff_toInt_lt.mpr (by omega)) hc189_529
            · exact absurd (Int32.lt_iff_toInt_lt.mpr (by omega)) hc205_579
            · exact absurd (Int32.lt_iff_toInt_lt.mpr (by omega)) hc221_580
            · exact absurd (Int32.lt_iff_toInt_lt.mpr (by omega)) hc237_581
            · exact absurd (Int32.lt_iff_toInt_lt.mpr (by omega)) hc253_582
          exact ⟨T525, _, (0 : Int32), X525, eq525, N525, (Or.inr ⟨rfl, hall584⟩), k583⟩
      · have k585 : ∀ tg_, Steps p.tables e below (T525.setTop (mkF m 273 #[.val (.int p0), .val (.int p1), .val (.int p2), .val (.int p3), .val (.int v414), .val (.int v419), .val (.ref b420), .val (.ref b495), .val (.int v520), .val (.int (1 : Int32)), .unset, .unset, .unset] [])) tg_ → Steps p.tables e below (s₁.setTop (entryFrame m #[(.int p0), (.int p1), (.int p2), (.int p3)] maxLocals)) tg_ := by
          intro tg_ kt
          refine k526 tg_ ?_
          refine XS.ifYes X525.here hx rfl (pc0 := 183) (pc' := 266) rfl (hb hby at_183) rfl ((if0 _ _).trans (feq hc183_527).2) (by decide) (by decide) ?_
          show Steps p.tables e below (T525.setTop (mkF m 266 #[.val (.int p0), .val (.int p1), .val (.int p2), .val (.int p3), .val (.int v414), .val (.int v419), .val (.ref b420), .val (.ref b495), .val (.int v520), .unset, .unset, .unset, .unset] [])) _
          refine XS.iconst X525.here hx rfl (hb hby at_266) ?_
          show Steps p.tables e below (T525.setTop (mkF m 267 #[.val (.int p0), .val (.int p1), .val (.int p2), .val (.int p3), .val (.int v414), .val (.int v419), .val (.ref b420), .val (.ref b495), .val (.int v520), .unset, .unset, .unset, .unset] [(.int (1 : Int32))])) _
          refine XS.goto X525.here hx rfl (pc0 := 267) (pc' := 271) rfl (hb hby at_267) (by decide) (by decide) ?_
          show Steps p.tables e below (T525.setTop (mkF m 271 #[.val (.int p0), .val (.int p1), .val (.int p2), .val (.int p3), .val (.int v414), .val (.int v419), .val (.ref b420), .val (.ref b495), .val (.int v520), .unset, .unset, .unset, .unset] [(.int (1 : Int32))])) _
          refine XS.istore X525.here hx rfl (hb hby at_271) rfl (l' := #[.val (.int p0), .val (.int p1), .val (.int p2), .val (.int p3), .val (.int v414), .val (.int v419), .val (.ref b420), .val (.ref b495), .val (.int v520), .val (.int (1 : Int32)), .unset, .unset, .unset]) rfl ?_
          show Steps p.tables e below (T525.setTop (mkF m 273 #[.val (.int p0), .val (.int p1), .val (.int p2), .val (.int p3), .val (.int v414), .val (.int v419), .val (.ref b420), .val (.ref b495), .val (.int v520), .val (.int (1 : Int32)), .unset, .unset, .unset] [])) _
          exact kt
        have hlt586 : 0 < L := by have q := Int32.lt_iff_toInt_lt.mp hc173_524; omega
        exact ⟨T525, _, (1 : Int32), X525, eq525, N525, (Or.inl ⟨rfl, 0, hlt586, own_ns1 hc183_527⟩), k585⟩
    · have hc189_587 : ¬ ((1 : Int32) < v520) := (fun q => hc173_524 (Int32.lt_iff_toInt_lt.mpr (by have q2 := Int32.lt_iff_toInt_lt.mp q; omega)))
      have hc205_588 : ¬ ((2 : Int32) < v520) := (fun q => hc173_524 (Int32.lt_iff_toInt_lt.mpr (by have q2 := Int32.lt_iff_toInt_lt.mp q; omega)))
      have hc221_589 : ¬ ((3 : Int32) < v520) := (fun q => hc173_524 (Int32.lt_iff_toInt_lt.mpr (by have q2 := Int32.lt_iff_toInt_lt.mp q; omega)))
      have hc237_590 : ¬ ((4 : Int32) < v520) := (fun q => hc173_524 (Int32.lt_iff_toInt_lt.mpr (by have q2 := Int32.lt_iff_toInt_lt.mp q; omega)))
      have hc253_591 : ¬ ((5 : Int32) < v520) := (fun q => hc173_524 (Int32.lt_iff_toInt_lt.mpr (by have q2 := Int32.lt_iff_toInt_lt.mp q; omega)))
      have k592 : ∀ tg_, Steps p.tables e below (T515.setTop (mkF m 273 #[.val (.int p0), .val (.int p1), .val (.int p2), .val (.int p3), .val (.int v414), .val (.int v419), .val (.ref b420), .val (.ref b495), .val (.int v520), .val (.int (0 : Int32)), .unset, .unset, .unset] [])) tg_ → Steps p.tables e below (s₁.setTop (entryFrame m #[(.int p0), (.int p1), (.int p2), (.int p3)] maxLocals)) tg_ := by
        intro tg_ kt
        refine k523 tg_ ?_
        refine XS.ifYes X515.here hx rfl (pc0 := 173) (pc' := 186) rfl (hb hby at_173) rfl ((if0 _ _).trans (flt hc173_524).2.2.2) (by decide) (by decide) ?_
        show Steps p.tables e below (T515.setTop (mkF m 186 #[.val (.int p0), .val (.int p1), .val (.int p2), .val (.int p3), .val (.int v414), .val (.int v419), .val (.ref b420), .val (.ref b495), .val (.int v520), .unset, .unset, .unset, .unset] [])) _
        refine XS.iload X515.here hx rfl (hb hby at_186) rfl ?_
        show Steps p.tables e below (T515.setTop (mkF m 188 #[.val (.int p0), .val (.int p1), .val (.int p2), .val (.int p3), .val (.int v414), .val (.int v419), .val (.ref b420), .val (.ref b495), .val (.int v520), .unset, .unset, .unset, .unset] [(.int v520)])) _
        refine XS.iconst X515.here hx rfl (hb hby at_188) ?_
        show Steps p.tables e below (T515.setTop (mkF m 189 #[.val (.int p0), .val (.int p1), .val (.int p2), .val (.int p3), .val (.int v414), .val (.int v419), .val (.ref b420), .val (.ref b495), .val (.int v520), .unset, .unset, .unset, .unset] [(.int (1 : Int32)), (.int v520)])) _
        refine XS.icmpYes X515.here hx rfl (pc0 := 189) (pc' := 202) rfl (hb hby at_189) rfl (flt hc189_587).2.2.2 (by decide) (by decide) ?_
        show Steps p.tables e below (T515.setTop (mkF m 202 #[.val (.int p0), .val (.int p1), .val (.int p2), .val (.int p3), .val (.int v414), .val (.int v419), .val (.ref b420), .val (.ref b495), .val (.int v520), .unset, .unset, .unset, .unset] [])) _
        refine XS.iload X515.here hx rfl (hb hby at_202) rfl ?_
        show Steps p.tables e below (T515.setTop (mkF m 204 #[.val (.int p0), .val (.int p1), .val (.int p2), .val (.int p3), .val (.int v414), .val (.int v419), .val (.ref b420), .val (.ref b495), .val (.int v520), .unset, .unset, .unset, .unset] [(.int v520)])) _
        refine XS.iconst X515.here hx rfl (hb hby at_204) ?_
        show Steps p.tables e below (T515.setTop (mkF m 205 #[.val (.int p0), .val (.int p1), .val (.int p2), .val (.int p3), .val (.int v414), .val (.int v419), .val (.ref b420), .val (.ref b495), .val (.int v520), .unset, .unset, .unset, .unset] [(.int (2 : Int32)), (.int v520)])) _
        refine XS.icmpYes X515.here hx rfl (pc0 := 205) (pc' := 218) rfl (hb hby at_205) rfl (flt hc205_588).2.2.2 (by decide) (by decide) ?_
        show Steps p.tables e below (T515.setTop (mkF m 218 #[.val (.int p0), .val (.int p1), .val (.int p2), .val (.int p3), .val (.int v414), .val (.int v419), .val (.ref b420), .val (.ref b495), .val (.int v520), .unset, .unset, .unset, .unset] [])) _
        refine XS.iload X515.here hx rfl (hb hby at_218) rfl ?_
        show Steps p.tables e below (T515.setTop (mkF m 220 #[.val (.int p0), .val (.int p1), .val (.int p2), .val (.int p3), .val (.int v414), .val (.int v419), .val (.ref b420), .val (.ref b495), .val (.int v520), .unset, .unset, .unset, .unset] [(.int v520)])) _
        refine XS.iconst X515.here hx rfl (hb hby at_220) ?_
        show Steps p.tables e below (T515.setTop (mkF m 221 #[.val (.int p0), .val (.int p1), .val (.int p2), .val (.int p3), .val (.int v414), .val (.int v419), .val (.ref b420), .val (.ref b495), .val (.int v520), .unset, .unset, .unset, .unset] [(.int (3 : Int32)), (.int v520)])) _
        refine XS.icmpYes X515.here hx rfl (pc0 := 221) (pc' := 234) rfl (hb hby at_221) rfl (flt hc221_589).2.2.2 (by decide) (by decide) ?_
        show Steps p.tables e below (T515.setTop (mkF m 234 #[.val (.int p0), .val (.int p1), .val (.int p2), .val (.int p3), .val (.int v414), .val (.int v419), .val (.ref b420), .val (.ref b495), .val (.int v520), .unset, .unset, .unset, .unset] [])) _
        refine XS.iload X515.here hx rfl (hb hby at_234) rfl ?_
        show Steps p.tables e below (T515.setTop (mkF m 236 #[.val (.int p0), .val (.int p1), .val (.int p2), .val (.int p3), .val (.int v414), .val (.int v419), .val (.ref b420), .val (.ref b495), .val (.int v520), .unset, .unset, .unset, .unset] [(.int v520)])) _
        refine XS.iconst X515.here hx rfl (hb hby at_236) ?_
        show Steps p.tables e below (T515.setTop (mkF m 237 #[.val (.int p0), .val (.int p1), .val (.int p2), .val (.int p3), .val (.int v414), .val (.int v419), .val (.ref b420), .val (.ref b495), .val (.int v520), .unset, .unset, .unset, .unset] [(.int (4 : Int32)), (.int v520)])) _
        refine XS.icmpYes X515.here hx rfl (pc0 := 237) (pc' := 250) rfl (hb hby at_237) rfl (flt hc237_590).2.2.2 (by decide) (by decide) ?_
        show Steps p.tables e below (T515.setTop (mkF m 250 #[.val (.int p0), .val (.int p1), .val (.int p2), .val (.int p3), .val (.int v414), .val (.int v419), .val (.ref b420), .val (.ref b495), .val (.int v520), .unset, .unset, .unset, .unset] [])) _
        refine XS.iload X515.here hx rfl (hb hby at_250) rfl ?_
        show Steps p.tables e below (T515.setTop (mkF m 252 #[.val (.int p0), .val (.int p1), .val (.int p2), .val (.int p3), .val (.int v414), .val (.int v419), .val (.ref b420), .val (.ref b495), .val (.int v520), .unset, .unset, .unset, .unset] [(.int v520)])) _
        refine XS.iconst X515.here hx rfl (hb hby at_252) ?_
        show Steps p.tables e below (T515.setTop (mkF m 253 #[.val (.int p0), .val (.int p1), .val (.int p2), .val (.int p3), .val (.int v414), .val (.int v419), .val (.ref b420), .val (.ref b495), .val (.int v520), .unset, .unset, .unset, .unset] [(.int (5 : Int32)), (.int v520)])) _
        refine XS.icmpYes X515.here hx rfl (pc0 := 253) (pc' := 270) rfl (hb hby at_253) rfl (flt hc253_591).2.2.2 (by decide) (by decide) ?_
        show Steps p.tables e below (T515.setTop (mkF m 270 #[.val (.int p0), .val (.int p1), .val (.int p2), .val (.int p3), .val (.int v414), .val (.int v419), .val (.ref b420), .val (.ref b495), .val (.int v520), .unset, .unset, .unset, .unset] [])) _
        refine XS.iconst X515.here hx rfl (hb hby at_270) ?_
        show Steps p.tables e below (T515.setTop (mkF m 271 #[.val (.int p0), .val (.int p1), .val (.int p2), .val (.int p3), .val (.int v414), .val (.int v419), .val (.ref b420), .val (.ref b495), .val (.int v520), .unset, .unset, .unset, .unset] [(.int (0 : Int32))])) _
        refine XS.istore X515.here hx rfl (hb hby at_271) rfl (l' := #[.val (.int p0), .val (.int p1), .val (.int p2), .val (.int p3), .val (.int v414), .val (.int v419), .val (.ref b420), .val (.ref b495), .val (.int v520), .val (.int (0 : Int32)), .unset, .unset, .unset]) rfl ?_
        show Steps p.tables e below (T515.setTop (mkF m 273 #[.val (.int p0), .val (.int p1), .val (.int p2), .val (.int p3), .val (.int v414), .val (.int v419), .val (.ref b420), .val (.ref b495), .val (.int v520), .val (.int (0 : Int32)), .unset, .unset, .unset] [])) _
        exact kt
      have hall593 : ∀ j, j < L → own_sp (fL j) := by
        intro j hj
        rcases (by omega : j = 0 ∨ j = 1 ∨ j = 2 ∨ j = 3 ∨ j = 4 ∨ j = 5) with rfl | rfl | rfl | rfl | rfl | rfl
        · exact absurd (Int32.lt_iff_toInt_lt.mpr (by omega)) hc173_524
        · exact absurd (Int32.lt_iff_toInt_lt.mpr (by omega)) hc189_587
        · exact absurd (Int32.lt_iff_toInt_lt.mpr (by omega)) hc205_588
        · exact absurd (Int32.lt_iff_toInt_lt.mpr (by omega)) hc221_589
        · exact absurd (Int32.lt_iff_toInt_lt.mpr (by omega)) hc237_590
        · exact absurd (Int32.lt_iff_toInt_lt.mpr (by omega)) hc253_591
      exact ⟨T515, _, (0 : Int32), X515, e515, N515, (Or.inr ⟨rfl, hall593⟩), k592⟩
  obtain ⟨T594, h594, X594, e594, E594, A594, D594, -, st594⟩ := newO X522 hx hZ hown (hw _ (List.mem_of_getElem? (i := 41) rfl)) (hw _ (List.mem_of_getElem? (i := 42) rfl)) (hw _ (List.mem_of_getElem? (i := 43) rfl)) e522 (g := (mkF m 273 #[.val (.int p0), .val (.int p1), .val (.int p2), .val (.int p3), .val (.int v414), .val (.int v419), .val (.ref b420), .val (.ref b495), .val (.int v520), .val (.int ex522), .unset, .unset, .unset] [])) rfl (hb hby at_273) (by decide) (by decide)
  obtain ⟨b594, g594⟩ : ∃ z, z = h515.size := ⟨_, rfl⟩
  rw [← g594] at A594 D594 st594
  have f595 := (((((((f496.keep ((Keep.refl _ []).ext E495) all0).keep (Keep.of_wr W499) (allS ge_b495 all0)).keep (Keep.of_wr W502) (allS ge_b495 all0)).keep (Keep.of_wr W505) (allS ge_b495 all0)).keep (Keep.of_wr W509) (allS ge_b495 all0)).keep (Keep.of_wr W512) (allS ge_b495 all0)).keep (Keep.of_wr W515) (allS ge_b495 all0))
  have ne_cs_b594 : cs ≠ b594 := Nat.ne_of_lt (Nat.lt_of_lt_of_le ((E_cs.ext f595.2)).lt (Nat.le_of_eq g594.symm))
  have f596 := (f517.keep (Keep.of_wr W515) (ninS ne_b420_b495 nin0))
  have ne_b420_b594 : b420 ≠ b594 := Nat.ne_of_lt (Nat.lt_of_lt_of_le (f596).lt (Nat.le_of_eq g594.symm))
  have ne_b495_b594 : b495 ≠ b594 := Nat.ne_of_lt (Nat.lt_of_lt_of_le (VL).lt (Nat.le_of_eq g594.symm))
  have f597 := (Nat.le_trans (Nat.le_trans (Nat.le_trans (Nat.le_trans (Nat.le_trans (Nat.le_trans (Nat.le_trans f497 ((Keep.refl _ []).ext E495).1) (Keep.of_wr W499).1) (Keep.of_wr W502).1) (Keep.of_wr W505).1) (Keep.of_wr W509).1) (Keep.of_wr W512).1) (Keep.of_wr W515).1)
  have ge_b594 : n0 ≤ b594 := Nat.le_trans f597 (Nat.le_of_eq g594.symm)
  have C598 := CHr.keep ((Keep.refl _ []).ext E594) sf0 R516.1
  have R598 := R516.trans C598
  have sf_b420_598 := C598.safe (f596).lt sf_b420_516
  have sf_b495_598 := C598.safe (VL).lt sf_b495_516
  have sf_b594 := Safe.ext E594 R516.1 (Safe.new (Nat.le_of_eq g594.symm))
  have F599 : Fld Z h594 b594 "com/example/benzer/benzer/cli/JsonReader" "bytes" "[B" .null := D594 (Or.inl (hw _ (List.mem_of_getElem? (i := 56) rfl))) (ty := (.array .byte)) (by decide)
  have F600 : Fld Z h594 b594 "com/example/benzer/benzer/cli/JsonReader" "end" "I" (.int (0 : Int32)) := D594 (Or.inl (hw _ (List.mem_of_getElem? (i := 58) rfl))) (ty := .int) (by decide)
  have F601 : Fld Z h594 b594 "com/example/benzer/benzer/cli/JsonReader" "at" "I" (.int (0 : Int32)) := D594 (Or.inl (hw _ (List.mem_of_getElem? (i := 60) rfl))) (ty := .int) (by decide)
  have F602 : Fld Z h594 b594 "com/example/benzer/benzer/cli/JsonReader" "nested" "I" (.int (0 : Int32)) := D594 (Or.inl (hw _ (List.mem_of_getElem? (i := 62) rfl))) (ty := .int) (by decide)
  obtain ⟨_, _, ⟨T603, L603, kc603, nc603⟩, -, X603, ⟨Lc603, hQ603, l603, y603, z603⟩, st603⟩ := X594.specialBack hx (y := (⟨"com/example/benzer/benzer/cli/JsonReader", "<init>", "()V"⟩ : MethodName)) rfl hown (mvT hZ (hw _ (List.mem_of_getElem? (i := 44) rfl))) (mvT hZ (hw _ (List.mem_of_getElem? (i := 45) rfl))) (mvT hZ (hw _ (List.mem_of_getElem? (i := 46) rfl))) (by decide) (backOf (W := 1) (rm8 l Z a0 hw [] b594 h594 n0 ) hZ (hw _ (List.mem_of_getElem? (i := 46) rfl)) (hw _ (List.mem_of_getElem? (i := 43) rfl)) (by decide) (by decide)) (g := (mkF m 277 #[.val (.int p0), .val (.int p1), .val (.int p2), .val (.int p3), .val (.int v414), .val (.int v419), .val (.ref b420), .val (.ref b495), .val (.int v520), .val (.int ex522), .unset, .unset, .unset] [(.ref b594), (.ref b594)])) rfl (by rw [hml]; rfl) (Steps.refl _) (a := b594) (argsL := []) (rest := [(.ref b594)]) (lenOf pd_7 rfl) rfl (by show 2 * 0 + _ ≤ _; exact Nat.le_of_eq rfl) (hb hby at_277) (fun _ _ => ⟨rfl, e594, (by decide : 19 + 0 ≤ _), (by decide : 178 + 0 ≤ _)⟩)
  dsimp only [Pt.U, Pt.locs, Pt.cells, Pt.slots] at X603 l603 y603 z603 st603 hQ603
  rw [l603, y603, z603] at X603
  replace X603 : Stand p l e room_1 (s.setVm T487.vm) m #[(.int p0), (.int p1), (.int p2), (.int p3)] below meth c T603 _ 19 178 := X603
  obtain ⟨rfl, Nq603, eq603⟩ := hQ603
  have N603 := Fr.app N522 Nq603
  have k604 : ∀ tg_, Steps p.tables e below (T603.setTop (mkF m 287 #[.val (.int p0), .val (.int p1), .val (.int p2), .val (.int p3), .val (.int v414), .val (.int v419), .val (.ref b420), .val (.ref b495), .val (.int v520), .val (.int ex522), .val (.ref b594), .val (.int (1 : Int32)), .unset] [(.int v419)])) tg_ → Steps p.tables e below (s₁.setTop (entryFrame m #[(.int p0), (.int p1), (.int p2), (.int p3)] maxLocals)) tg_ := by
    intro tg_ kt
    refine k522 tg_ ?_
    refine st594 _ ?_
    show Steps p.tables e below (T594.setTop (mkF m 276 #[.val (.int p0), .val (.int p1), .val (.int p2), .val (.int p3), .val (.int v414), .val (.int v419), .val (.ref b420), .val (.ref b495), .val (.int v520), .val (.int ex522), .unset, .unset, .unset] [(.ref b594)])) _
    refine XS.dup X594.here hx rfl (hb hby at_276) rfl rfl ?_
    show Steps p.tables e below (T594.setTop (mkF m 277 #[.val (.int p0), .val (.int p1), .val (.int p2), .val (.int p3), .val (.int v414), .val (.int v419), .val (.ref b420), .val (.ref b495), .val (.int v520), .val (.int ex522), .unset, .unset, .unset] [(.ref b594), (.ref b594)])) _
    refine st603.trans ?_
    show Steps p.tables e below (T603.setTop (mkF m 280 #[.val (.int p0), .val (.int p1), .val (.int p2), .val (.int p3), .val (.int v414), .val (.int v419), .val (.ref b420), .val (.ref b495), .val (.int v520), .val (.int ex522), .unset, .unset, .unset] [(.ref b594)])) _
    refine XS.astore X603.here hx rfl (hb hby at_280) rfl rfl (l' := #[.val (.int p0), .val (.int p1), .val (.int p2), .val (.int p3), .val (.int v414), .val (.int v419), .val (.ref b420), .val (.ref b495), .val (.int v520), .val (.int ex522), .val (.ref b594), .unset, .unset]) rfl ?_
    show Steps p.tables e below (T603.setTop (mkF m 282 #[.val (.int p0), .val (.int p1), .val (.int p2), .val (.int p3), .val (.int v414), .val (.int v419), .val (.ref b420), .val (.ref b495), .val (.int v520), .val (.int ex522), .val (.ref b594), .unset, .unset] [])) _
    refine XS.iconst X603.here hx rfl (hb hby at_282) ?_
    show Steps p.tables e below (T603.setTop (mkF m 283 #[.val (.int p0), .val (.int p1), .val (.int p2), .val (.int p3), .val (.int v414), .val (.int v419), .val (.ref b420), .val (.ref b495), .val (.int v520), .val (.int ex522), .val (.ref b594), .unset, .unset] [(.int (1 : Int32))])) _
    refine XS.istore X603.here hx rfl (hb hby at_283) rfl (l' := #[.val (.int p0), .val (.int p1), .val (.int p2), .val (.int p3), .val (.int v414), .val (.int v419), .val (.ref b420), .val (.ref b495), .val (.int v520), .val (.int ex522), .val (.ref b594), .val (.int (1 : Int32)), .unset]) rfl ?_
    show Steps p.tables e below (T603.setTop (mkF m 285 #[.val (.int p0), .val (.int p1), .val (.int p2), .val (.int p3), .val (.int v414), .val (.int v419), .val (.ref b420), .val (.ref b495), .val (.int v520), .val (.int ex522), .val (.ref b594), .val (.int (1 : Int32)), .unset] [])) _
    refine XS.iload X603.here hx rfl (hb hby at_285) rfl ?_
    show Steps p.tables e below (T603.setTop (mkF m 287 #[.val (.int p0), .val (.int p1), .val (.int p2), .val (.int p3), .val (.int v414), .val (.int v419), .val (.ref b420), .val (.ref b495), .val (.int v520), .val (.int ex522), .val (.ref b594), .val (.int (1 : Int32)), .unset] [(.int v419)])) _
    exact kt
  by_cases hc287_605 : v419 = (0 : Int32)
  · have f606 := (Nat.le_trans f597 ((Keep.refl _ []).ext E594).1)
    obtain ⟨cq607, kq607, q607a, q607b, q607c⟩ := isOf hZ eq603 A594
    obtain ⟨_, _, ⟨T607, L607, kc607, nc607⟩, -, X607, ⟨Lc607, hQ607, l607, y607, z607⟩, st607⟩ := X603.virtualBack hx (y := (⟨"com/example/benzer/benzer/cli/JsonReader", "start", "([BI)V"⟩ : MethodName)) (z := (⟨"com/example/benzer/benzer/cli/JsonReader", "start", "([BI)V"⟩ : MethodName)) hown (mvT hZ (hw _ (List.mem_of_getElem? (i := 50) rfl))) (mvT hZ (hw _ (List.mem_of_getElem? (i := 51) rfl))) (notFace_of_selects (args := #[]) (mvT hZ (hw _ (List.mem_of_getElem? (i := 53) rfl)))) (mvT hZ (hw _ (List.mem_of_getElem? (i := 53) rfl))) (mvT hZ (hw _ (List.mem_of_getElem? (i := 52) rfl))) (by decide) (backOf (W := 0) (rm10 l Z a0 hw [] b594 b495 v520 (.null) (0 : Int32) (0 : Int32) (0 : Int32) h594 n0 f606 A594 F599 F600 F601 F602 ge_b594) hZ (hw _ (List.mem_of_getElem? (i := 54) rfl)) (hw _ (List.mem_of_getElem? (i := 43) rfl)) (by decide) (by decide)) q607a q607c (g := (mkF m 337 #[.val (.int p0), .val (.int p1), .val (.int p2), .val (.int p3), .val (.int v414), .val (.int v419), .val (.ref b420), .val (.ref b495), .val (.int v520), .val (.int ex522), .val (.ref b594), .val (.int (1 : Int32)), .unset] [(.int v520), (.ref b495), (.ref b594)])) rfl (by rw [hml]; rfl) (Steps.refl _) (argsL := [(.ref b495), (.int v520)]) (rest := []) (lenOf pd_8 rfl) rfl (by show 2 * 0 + _ ≤ _; exact Nat.le_of_eq rfl) (hb hby at_337) (fun _ _ => ⟨rfl, eq603, (by decide : 19 + 0 ≤ _), (by decide : 178 + 0 ≤ _)⟩)
    dsimp only [Pt.U, Pt.locs, Pt.cells, Pt.slots] at X607 l607 y607 z607 st607 hQ607
    rw [l607, y607, z607] at X607
    replace X607 : Stand p l e room_1 (s.setVm T487.vm) m #[(.int p0), (.int p1), (.int p2), (.int p3)] below meth c T607 _ 19 178 := X607
    obtain ⟨rfl, Nq607, oK607, oFabytes607, oFaend607, oFaat607, oFanested607⟩ := hQ607
    have N607 := Fr.app N603 Nq607
    have C608 := CHr.keep oK607 (sfS sf_b594 sf0) R598.1
    have R608 := R598.trans C608
    have f609 := (f596.keep ((Keep.refl _ []).ext E594) nin0)
    have sf_b420_608 := C608.safe (f609).lt sf_b420_598
    have f610 := (VL.keep ((Keep.refl _ []).ext E594) nin0)
    have sf_b495_608 := C608.safe (f610).lt sf_b495_598
    have sf_b594_608 := C608.safe (A594).lt sf_b594
    have k611 : ∀ tg_, Steps p.tables e below (T607.setTop (mkF m 342 #[.val (.int p0), .val (.int p1), .val (.int p2), .val (.int p3), .val (.int v414), .val (.int v419), .val (.ref b420), .val (.ref b495), .val (.int v520), .val (.int ex522), .val (.ref b594), .val (.int (1 : Int32)), .unset] [(.ref b594)])) tg_ → Steps p.tables e below (s₁.setTop (entryFrame m #[(.int p0), (.int p1), (.int p2), (.int p3)] maxLocals)) tg_ := by
      intro tg_ kt
      refine k604 tg_ ?_
      refine XS.ifYes X603.here hx rfl (pc0 := 287) (pc' := 331) rfl (hb hby at_287) rfl ((if0 _ _).trans (teq hc287_605).1) (by decide) (by decide) ?_
      show Steps p.tables e below (T603.setTop (mkF m 331 #[.val (.int p0), .val (.int p1), .val (.int p2), .val (.int p3), .val (.int v414), .val (.int v419), .val (.ref b420), .val (.ref b495), .val (.int v520), .val (.int ex522), .val (.ref b594), .val (.int (1 : Int32)), .unset] [])) _
      refine XS.aload X603.here hx rfl (hb hby at_331) rfl rfl ?_
      show Steps p.tables e below (T603.setTop (mkF m 333 #[.val (.int p0), .val (.int p1), .val (.int p2), .val (.int p3), .val (.int v414), .val (.int v419), .val (.ref b420), .val (.ref b495), .val (.int v520), .val (.int ex522), .val (.ref b594), .val (.int (1 : Int32)), .unset] [(.ref b594)])) _
      refine XS.aload X603.here hx rfl (hb hby at_333) rfl rfl ?_
      show Steps p.tables e below (T603.setTop (mkF m 335 #[.val (.int p0), .val (.int p1), .val (.int p2), .val (.int p3), .val (.int v414), .val (.int v419), .val (.ref b420), .val (.ref b495), .val (.int v520), .val (.int ex522), .val (.ref b594), .val (.int (1 : Int32)), .unset] [(.ref b495), (.ref b594)])) _
      refine XS.iload X603.here hx rfl (hb hby at_335) rfl ?_
      show Steps p.tables e below (T603.setTop (mkF m 337 #[.val (.int p0), .val (.int p1), .val (.int p2), .val (.int p3), .val (.int v414), .val (.int v419), .val (.ref b420), .val (.ref b495), .val (.int v520), .val (.int ex522), .val (.ref b594), .val (.int (1 : Int32)), .unset] [(.int v520), (.ref b495), (.ref b594)])) _
      refine st607.trans ?_
      show Steps p.tables e below (T607.setTop (mkF m 340 #[.val (.int p0), .val (.int p1), .val (.int p2), .val (.int p3), .val (.int v414), .val (.int v419), .val (.ref b420), .val (.ref b495), .val (.int v520), .val (.int ex522), .val (.ref b594), .val (.int (1 : Int32)), .unset] [])) _
      refine XS.aload X607.here hx rfl (hb hby at_340) rfl rfl ?_
      show Steps p.tables e below (T607.setTop (mkF m 342 #[.val (.int p0), .val (.int p1), .val (.int p2), .val (.int p3), .val (.int v414), .val (.int v419), .val (.ref b420), .val (.ref b495), .val (.int v520), .val (.int ex522), .val (.ref b594), .val (.int (1 : Int32)), .unset] [(.ref b594)])) _
      exact kt
    obtain ⟨M, hML, hMs, hMt⟩ := own_first fL L
    obtain ⟨zM, hzM⟩ : ∃ z : Int32, z.toInt = ((0 + M : Nat) : Int) := ⟨Int32.ofNat M, by rw [Int32.toInt_ofNat_of_lt (by omega), Nat.zero_add]⟩
    have f613 := (Nat.le_trans f606 oK607.1)
    have f614 := (A594.keep oK607)
    have f615 := (f610.keep oK607 (ninS ne_b495_b594 nin0))
    obtain ⟨cq616, kq616, q616a, q616b, q616c⟩ := isOf hZ rfl f614
    obtain ⟨_, _, ⟨T616, L616, kc616, nc616⟩, -, X616, ⟨Lc616, hQ616, l616, y616, z616⟩, st616⟩ := X607.virtualBack hx (y := (⟨"com/example/benzer/benzer/cli/JsonReader", "hasMore", "()Z"⟩ : MethodName)) (z := (⟨"com/example/benzer/benzer/cli/JsonReader", "hasMore", "()Z"⟩ : MethodName)) hown (mvT hZ (hw _ (List.mem_of_getElem? (i := 63) rfl))) (mvT hZ (hw _ (List.mem_of_getElem? (i := 64) rfl))) (notFace_of_selects (args := #[]) (mvT hZ (hw _ (List.mem_of_getElem? (i := 66) rfl)))) (mvT hZ (hw _ (List.mem_of_getElem? (i := 66) rfl))) (mvT hZ (hw _ (List.mem_of_getElem? (i := 65) rfl))) (by decide) (backOf (W := 0) (rm11 l Z a0 hw [] b594 b495 v520 (0 : Int32) (0 : Int32) 6 fL 0 M L zM T607.heap n0 f613 f614 oFabytes607 oFaend607 oFaat607 oFanested607 f615 ge_b594 (Ne.symm ne_b495_b594) (by decide) hL (by omega) (by omega) (by omega) (fun x hx => by rw [Nat.zero_add]; exact hMs x hx) (fun q => by rw [Nat.zero_add]; exact hMt (by omega)) hzM) hZ (hw _ (List.mem_of_getElem? (i := 67) rfl)) (hw _ (List.mem_of_getElem? (i := 43) rfl)) (by decide) (by decide)) q616a q616c (g := (mkF m 342 #[.val (.int p0), .val (.int p1), .val (.int p2), .val (.int p3), .val (.int v414), .val (.int v419), .val (.ref b420), .val (.ref b495), .val (.int v520), .val (.int ex522), .val (.ref b594), .val (.int (1 : Int32)), .unset] [(.ref b594)])) rfl (by rw [hml]; rfl) (Steps.refl _) (argsL := []) (rest := []) (lenOf pd_2 rfl) rfl (by show 2 * 0 + _ ≤ _; exact Nat.le_of_eq rfl) (hb hby at_342) (fun _ _ => ⟨rfl, rfl, (by decide : 19 + 0 ≤ _), (by decide : 178 + 0 ≤ _)⟩)
    dsimp only [Pt.U, Pt.locs, Pt.cells, Pt.slots] at X616 l616 y616 z616 st616 hQ616
    rw [l616, y616, z616] at X616
    replace X616 : Stand p l e room_1 (s.setVm T487.vm) m #[(.int p0), (.int p1), (.int p2), (.int p3)] below meth c T616 _ 19 178 := X616
    obtain ⟨rfl, Nq616, oK616, oFabytes616, oFaend616, oFaat616, oFanested616⟩ := hQ616
    have N616 := Fr.app N607 Nq616
    have C617 := CHr.keep oK616 (sfS sf_b594_608 sf0) R608.1
    have R617 := R608.trans C617
    have f618 := (f609.keep oK607 (ninS ne_b420_b594 nin0))
    have sf_b420_617 := C617.safe (f618).lt sf_b420_608
    have sf_b495_617 := C617.safe (f615).lt sf_b495_608
    have sf_b594_617 := C617.safe (f614).lt sf_b594_608
    have hc356_619 : (own_hm zM v520) = ex522 := (own_fin hzM hL hML hMs hMt pr522)
    have k620 : ∀ tg_, Steps p.tables e below (T616.setTop (mkF m 364 #[.val (.int p0), .val (.int p1), .val (.int p2), .val (.int p3), .val (.int v414), .val (.int v419), .val (.ref b420), .val (.ref b495), .val (.int v520), .val (.int ex522), .val (.ref b594), .val (.int (1 : Int32)), .val (.int (own_hm zM v520))] [(.int (1 : Int32))])) tg_ → Steps p.tables e below (s₁.setTop (entryFrame m #[(.int p0), (.int p1), (.int p2), (.int p3)] maxLocals)) tg_ := by
      intro tg_ kt
      refine k611 tg_ ?_
      refine st616.trans ?_
      show Steps p.tables e below (T616.setTop (mkF m 345 #[.val (.int p0), .val (.int p1), .val (.int p2), .val (.int p3), .val (.int v414), .val (.int v419), .val (.ref b420), .val (.ref b495), .val (.int v520), .val (.int ex522), .val (.ref b594), .val (.int (1 : Int32)), .unset] [(.int (own_hm zM v520))])) _
      refine XS.istore X616.here hx rfl (hb hby at_345) rfl (l' := #[.val (.int p0), .val (.int p1), .val (.int p2), .val (.int p3), .val (.int v414), .val (.int v419), .val (.ref b420), .val (.ref b495), .val (.int v520), .val (.int ex522), .val (.ref b594), .val (.int (1 : Int32)), .val (.int (own_hm zM v520))]) rfl ?_
      show Steps p.tables e below (T616.setTop (mkF m 347 #[.val (.int p0), .val (.int p1), .val (.int p2), .val (.int p3), .val (.int v414), .val (.int v419), .val (.ref b420), .val (.ref b495), .val (.int v520), .val (.int ex522), .val (.ref b594), .val (.int (1 : Int32)), .val (.int (own_hm zM v520))] [])) _
      refine XS.iload X616.here hx rfl (hb hby at_347) rfl ?_
      show Steps p.tables e below (T616.setTop (mkF m 349 #[.val (.int p0), .val (.int p1), .val (.int p2), .val (.int p3), .val (.int v414), .val (.int v419), .val (.ref b420), .val (.ref b495), .val (.int v520), .val (.int ex522), .val (.ref b594), .val (.int (1 : Int32)), .val (.int (own_hm zM v520))] [(.int (1 : Int32))])) _
      refine XS.ifNo X616.here hx rfl (hb hby at_349) rfl ((if0 _ _).trans (feq (by decide : ¬ ((1 : Int32) = (0 : Int32)))).1) ?_
      show Steps p.tables e below (T616.setTop (mkF m 352 #[.val (.int p0), .val (.int p1), .val (.int p2), .val (.int p3), .val (.int v414), .val (.int v419), .val (.ref b420), .val (.ref b495), .val (.int v520), .val (.int ex522), .val (.ref b594), .val (.int (1 : Int32)), .val (.int (own_hm zM v520))] [])) _
      refine XS.iload X616.here hx rfl (hb hby at_352) rfl ?_
      show Steps p.tables e below (T616.setTop (mkF m 354 #[.val (.int p0), .val (.int p1), .val (.int p2), .val (.int p3), .val (.int v414), .val (.int v419), .val (.ref b420), .val (.ref b495), .val (.int v520), .val (.int ex522), .val (.ref b594), .val (.int (1 : Int32)), .val (.int (own_hm zM v520))] [(.int (own_hm zM v520))])) _
      refine XS.iload X616.here hx rfl (hb hby at_354) rfl ?_
      show Steps p.tables e below (T616.setTop (mkF m 356 #[.val (.int p0), .val (.int p1), .val (.int p2), .val (.int p3), .val (.int v414), .val (.int v419), .val (.ref b420), .val (.ref b495), .val (.int v520), .val (.int ex522), .val (.ref b594), .val (.int (1 : Int32)), .val (.int (own_hm zM v520))] [(.int ex522), (.int (own_hm zM v520))])) _
      refine XS.icmpNo X616.here hx rfl (hb hby at_356) rfl (teq hc356_619).2 ?_
      show Steps p.tables e below (T616.setTop (mkF m 359 #[.val (.int p0), .val (.int p1), .val (.int p2), .val (.int p3), .val (.int v414), .val (.int v419), .val (.ref b420), .val (.ref b495), .val (.int v520), .val (.int ex522), .val (.ref b594), .val (.int (1 : Int32)), .val (.int (own_hm zM v520))] [])) _
      refine XS.iconst X616.here hx rfl (hb hby at_359) ?_
      show Steps p.tables e below (T616.setTop (mkF m 360 #[.val (.int p0), .val (.int p1), .val (.int p2), .val (.int p3), .val (.int v414), .val (.int v419), .val (.ref b420), .val (.ref b495), .val (.int v520), .val (.int ex522), .val (.ref b594), .val (.int (1 : Int32)), .val (.int (own_hm zM v520))] [(.int (1 : Int32))])) _
      refine XS.goto X616.here hx rfl (pc0 := 360) (pc' := 364) rfl (hb hby at_360) (by decide) (by decide) ?_
      show Steps p.tables e below (T616.setTop (mkF m 364 #[.val (.int p0), .val (.int p1), .val (.int p2), .val (.int p3), .val (.int v414), .val (.int v419), .val (.ref b420), .val (.ref b495), .val (.int v520), .val (.int ex522), .val (.ref b594), .val (.int (1 : Int32)), .val (.int (own_hm zM v520))] [(.int (1 : Int32))])) _
      exact kt
    have f621 := (Nat.le_trans (Nat.le_trans (Nat.le_trans (Nat.le_trans (Nat.le_trans (Nat.le_trans (Nat.le_trans (Nat.le_trans (Nat.le_trans (Nat.le_trans (Nat.le_trans (Nat.le_refl T487.heap.size) (Keep.of_wr W492).1) ((Keep.refl _ []).ext E495).1) (Keep.of_wr W499).1) (Keep.of_wr W502).1) (Keep.of_wr W505).1) (Keep.of_wr W509).1) (Keep.of_wr W512).1) (Keep.of_wr W515).1) ((Keep.refl _ []).ext E594).1) oK607.1) oK616.1)
    obtain ⟨fs, hr, hrun, hended, hW1, hW2, hW3, hsame⟩ := Stand.leaveW (s := s) (vm₁ := T487.vm) X616 hS487 (Nat.le_trans f621 (Nat.le_of_eq (congrArg Array.size (Eq.symm (show T616.heap = T616.heap from rfl))))) (v := some (.int (1 : Int32))) (fun h => by rw [Bd.returns] at h; cases h) (hlocks := by first | exact BodyLoose.notSynchronized Bd | exact Body.notSynchronized Bd)
    have hfin : CHr Z consts_1 s.vm s.heap T616.vm T616.heap := by
      rw [hh]
      exact R617.trans (CHv.at (s := s) (vm0 := T487.vm) X616 hZ hEL R617.1)
    refine ⟨_, _, k620 _ (retN X616 hx (t := .boolean) Bd.returns (by simp) (hb hby at_364) hr), hrun, hended, _, _, rfl, ?_, hfin, hW1, hW2, hW3, hsame.mono (by decide) (by decide)⟩
    show Q0 Z p0 p1 p2 p3 zc fm u8 cs xn h0 n0 _ T616.heap _
    exact ⟨rfl, N616⟩
  · have f622 := (Nat.le_trans f597 ((Keep.refl _ []).ext E594).1)
    obtain ⟨cq623, kq623, q623a, q623b, q623c⟩ := isOf hZ eq603 A594
    obtain ⟨_, _, ⟨T623, L623, kc623, nc623⟩, -, X623, ⟨Lc623, hQ623, l623, y623, z623⟩, st623⟩ := X603.virtualBack hx (y := (⟨"com/example/benzer/benzer/cli/JsonReader", "start", "([BI)V"⟩ : MethodName)) (z := (⟨"com/example/benzer/benzer/cli/JsonReader", "start", "([BI)V"⟩ : MethodName)) hown (mvT hZ (hw _ (List.mem_of_getElem? (i := 50) rfl))) (mvT hZ (hw _ (List.mem_of_getElem? (i := 51) rfl))) (notFace_of_selects (args := #[]) (mvT hZ (hw _ (List.mem_of_getElem? (i := 53) rfl)))) (mvT hZ (hw _ (List.mem_of_getElem? (i := 53) rfl))) (mvT hZ (hw _ (List.mem_of_getElem? (i := 52) rfl))) (by decide) (backOf (W := 0) (rm10 l Z a0 hw [] b594 b420 (v414 + (4 : Int32)) (.null) (0 : Int32) (0 : Int32) (0 : Int32) h594 n0 f622 A594 F599 F600 F601 F602 ge_b594) hZ (hw _ (List.mem_of_getElem? (i := 54) rfl)) (hw _ (List.mem_of_getElem? (i := 43) rfl)) (by decide) (by decide)) q623a q623c (g := (mkF m 298 #[.val (.int p0), .val (.int p1), .val (.int p2), .val (.int p3), .val (.int v414), .val (.int v419), .val (.ref b420), .val (.ref b495), .val (.int v520), .val (.int ex522), .val (.ref b594), .val (.int (1 : Int32)), .unset] [(.int (v414 + (4 : Int32))), (.ref b420), (.ref b594)])) rfl (by rw [hml]; rfl) (Steps.refl _) (argsL := [(.ref b420), (.int (v414 + (4 : Int32)))]) (rest := []) (lenOf pd_8 rfl) rfl (by show 2 * 0 + _ ≤ _; exact Nat.le_of_eq rfl) (hb hby at_298) (fun _ _ => ⟨rfl, eq603, (by decide : 19 + 0 ≤ _), (by decide : 178 + 0 ≤ _)⟩)
    dsimp only [Pt.U, Pt.locs, Pt.cells, Pt.slots] at X623 l623 y623 z623 st623 hQ623
    rw [l623, y623, z623] at X623
    replace X623 : Stand p l e room_1 (s.setVm T487.vm) m #[(.int p0), (.int p1), (.int p2), (.int p3)] below meth c T623 _ 19 178 := X623
    obtain ⟨rfl, Nq623, oK623, oFabytes623, oFaend623, oFaat623, oFanested623⟩ := hQ623
    have N623 := Fr.app N603 Nq623
    have C624 := CHr.keep oK623 (sfS sf_b594 sf0) R598.1
    have R624 := R598.trans C624
    have f625 := (f596.keep ((Keep.refl _ []).ext E594) nin0)
    have sf_b420_624 := C624.safe (f625).lt sf_b420_598
    have f626 := (VL.keep ((Keep.refl _ []).ext E594) nin0)
    have sf_b495_624 := C624.safe (f626).lt sf_b495_598
    have sf_b594_624 := C624.safe (A594).lt sf_b594
    have k627 : ∀ tg_, Steps p.tables e below (T623.setTop (mkF m 303 #[.val (.int p0), .val (.int p1), .val (.int p2), .val (.int p3), .val (.int v414), .val (.int v419), .val (.ref b420), .val (.ref b495), .val (.int v520), .val (.int ex522), .val (.ref b594), .val (.int (1 : Int32)), .unset] [(.ref b594)])) tg_ → Steps p.tables e below (s₁.setTop (entryFrame m #[(.int p0), (.int p1), (.int p2), (.int p3)] maxLocals)) tg_ := by
      intro tg_ kt
      refine k604 tg_ ?_
      refine XS.ifNo X603.here hx rfl (hb hby at_287) rfl ((if0 _ _).trans (feq hc287_605).1) ?_
      show Steps p.tables e below (T603.setTop (mkF m 290 #[.val (.int p0), .val (.int p1), .val (.int p2), .val (.int p3), .val (.int v414), .val (.int v419), .val (.ref b420), .val (.ref b495), .val (.int v520), .val (.int ex522), .val (.ref b594), .val (.int (1 : Int32)), .unset] [])) _
      refine XS.aload X603.here hx rfl (hb hby at_290) rfl rfl ?_
      show Steps p.tables e below (T603.setTop (mkF m 292 #[.val (.int p0), .val (.int p1), .val (.int p2), .val (.int p3), .val (.int v414), .val (.int v419), .val (.ref b420), .val (.ref b495), .val (.int v520), .val (.int ex522), .val (.ref b594), .val (.int (1 : Int32)), .unset] [(.ref b594)])) _
      refine XS.aload X603.here hx rfl (hb hby at_292) rfl rfl ?_
      show Steps p.tables e below (T603.setTop (mkF m 294 #[.val (.int p0), .val (.int p1), .val (.int p2), .val (.int p3), .val (.int v414), .val (.int v419), .val (.ref b420), .val (.ref b495), .val (.int v520), .val (.int ex522), .val (.ref b594), .val (.int (1 : Int32)), .unset] [(.ref b420), (.ref b594)])) _
      refine XS.iload X603.here hx rfl (hb hby at_294) rfl ?_
      show Steps p.tables e below (T603.setTop (mkF m 296 #[.val (.int p0), .val (.int p1), .val (.int p2), .val (.int p3), .val (.int v414), .val (.int v419), .val (.ref b420), .val (.ref b495), .val (.int v520), .val (.int ex522), .val (.ref b594), .val (.int (1 : Int32)), .unset] [(.int v414), (.ref b420), (.ref b594)])) _
      refine XS.iconst X603.here hx rfl (hb hby at_296) ?_
      show Steps p.tables e below (T603.setTop (mkF m 297 #[.val (.int p0), .val (.int p1), .val (.int p2), .val (.int p3), .val (.int v414), .val (.int v419), .val (.ref b420), .val (.ref b495), .val (.int v520), .val (.int ex522), .val (.ref b594), .val (.int (1 : Int32)), .unset] [(.int (4 : Int32)), (.int v414), (.ref b420), (.ref b594)])) _
      refine XS.iadd X603.here hx rfl (hb hby at_297) rfl ?_
      show Steps p.tables e below (T603.setTop (mkF m 298 #[.val (.int p0), .val (.int p1), .val (.int p2), .val (.int p3), .val (.int v414), .val (.int v419), .val (.ref b420), .val (.ref b495), .val (.int v520), .val (.int ex522), .val (.ref b594), .val (.int (1 : Int32)), .unset] [(.int (v414 + (4 : Int32))), (.ref b420), (.ref b594)])) _
      refine st623.trans ?_
      show Steps p.tables e below (T623.setTop (mkF m 301 #[.val (.int p0), .val (.int p1), .val (.int p2), .val (.int p3), .val (.int v414), .val (.int v419), .val (.ref b420), .val (.ref b495), .val (.int v520), .val (.int ex522), .val (.ref b594), .val (.int (1 : Int32)), .unset] [])) _
      refine XS.aload X623.here hx rfl (hb hby at_301) rfl rfl ?_
      show Steps p.tables e below (T623.setTop (mkF m 303 #[.val (.int p0), .val (.int p1), .val (.int p2), .val (.int p3), .val (.int v414), .val (.int v419), .val (.ref b420), .val (.ref b495), .val (.int v520), .val (.int ex522), .val (.ref b594), .val (.int (1 : Int32)), .unset] [(.ref b594)])) _
      exact kt
    have hen : (v414 + (4 : Int32)).toInt = ((k + 4 : Nat) : Int) := own_add4 hk hk3 (by decide)
    have f628 := (Nat.le_trans f622 oK623.1)
    have f629 := (A594.keep oK623)
    have f630 := (f625.keep oK623 (ninS ne_b420_b594 nin0))
    have f631 := ((f595.keep ((Keep.refl _ []).ext E594) all0).keep oK623 (allS ge_b594 all0))
    obtain ⟨cq632, kq632, q632a, q632b, q632c⟩ := isOf hZ rfl f629
    obtain ⟨_, _, ⟨T632, L632, kc632, nc632⟩, -, X632, hs632, gr632, ⟨Lc632, hQ632, l632, y632, z632, ch632⟩, st632⟩ := X623.virtualBackS hx (y := (⟨"com/example/benzer/benzer/cli/JsonReader", "value", "()Ljava/lang/Object;"⟩ : MethodName)) (z := (⟨"com/example/benzer/benzer/cli/JsonReader", "value", "()Ljava/lang/Object;"⟩ : MethodName)) hown (mvT hZ (hw _ (List.mem_of_getElem? (i := 72) rfl))) (mvT hZ (hw _ (List.mem_of_getElem? (i := 73) rfl))) (notFace_of_selects (args := #[]) (mvT hZ (hw _ (List.mem_of_getElem? (i := 75) rfl)))) (mvT hZ (hw _ (List.mem_of_getElem? (i := 75) rfl))) (mvT hZ (hw _ (List.mem_of_getElem? (i := 74) rfl))) (by decide) (backOfSH (s := s) (vm0 := T487.vm) (W := 0) (rm13 l Z a0 hw [] b594 b420 (v414 + (4 : Int32)) v414 (0 : Int32) k (own_prev v414) zc fm u8 cs xn T623.heap n0 f628 f629 oFabytes623 oFaend623 oFaat623 oFanested623 f630 ge_b594 (Ne.symm ne_b420_b594) ne_cs_u8 S_zc S_fm S_u8 S_is S_so S_xn E_cs f631 hz hfm hk hk3 hen hfit hn0 hn1 hn2 hn3 hs32) hZ (hw _ (List.mem_of_getElem? (i := 76) rfl)) (hw _ (List.mem_of_getElem? (i := 43) rfl)) (by decide) (by decide) hEL R624.1) q632a q632c (g := (mkF m 303 #[.val (.int p0), .val (.int p1), .val (.int p2), .val (.int p3), .val (.int v414), .val (.int v419), .val (.ref b420), .val (.ref b495), .val (.int v520), .val (.int ex522), .val (.ref b594), .val (.int (1 : Int32)), .unset] [(.ref b594)])) rfl (by rw [hml]; rfl) (Steps.refl _) (argsL := []) (rest := []) (lenOf pd_9 rfl) rfl (by show 2 * 0 + _ ≤ _; exact Nat.le_of_eq rfl) (hb hby at_303) (fun _ _ => ⟨rfl, rfl, (by decide : 19 + 8 ≤ _), (by decide : 178 + 72 ≤ _)⟩)
    dsimp only [Pt.U, Pt.locs, Pt.cells, Pt.slots] at X632 l632 y632 z632 st632 hQ632 hs632 gr632 ch632
    rw [l632, y632, z632] at X632
    have f633 := (Nat.le_trans (Nat.le_trans (Nat.le_trans (Nat.le_trans (Nat.le_trans (Nat.le_trans (Nat.le_trans (Nat.le_trans (Nat.le_trans (Nat.le_trans (Nat.le_refl T487.heap.size) (Keep.of_wr W492).1) ((Keep.refl _ []).ext E495).1) (Keep.of_wr W499).1) (Keep.of_wr W502).1) (Keep.of_wr W505).1) (Keep.of_wr W509).1) (Keep.of_wr W512).1) (Keep.of_wr W515).1) ((Keep.refl _ []).ext E594).1) oK623.1)
    obtain ⟨X632, hS632, hZ, hown⟩ := rebS (s := s) (vm0 := T487.vm) (vm1 := T632.vm) hS487 (Nat.le_trans f633 (Nat.le_of_eq (congrArg Array.size (Eq.symm (show T623.heap = T623.heap from rfl))))) X632 hs632 gr632 hZ hown
    replace X632 : Stand p l e room_1 (s.setVm T632.vm) m #[(.int p0), (.int p1), (.int p2), (.int p3)] below meth c T632 _ 27 250 := X632
    obtain ⟨rfl, Nq632, oK632, oFabytes632, oFaend632, oFaat632, oFanested632⟩ := hQ632
    have N632 := Fr.app N623 Nq632
    have R634 := R624.trans ch632
    have sf_b420_634 := ch632.safe (f630).lt sf_b420_624
    have f635 := (f626.keep oK623 (ninS ne_b495_b594 nin0))
    have sf_b495_634 := ch632.safe (f635).lt sf_b495_624
    have sf_b594_634 := ch632.safe (f629).lt sf_b594_624
    have f636 := (f631.keep oK632 (allS ge_b594 all0))
    obtain ⟨T637, X637, e637, st637⟩ := getS2 X632 hx hZ hown (host := "") (Or.inl (hw _ (List.mem_of_getElem? (i := 146) rfl))) Via.refl rfl (S_xn.ext f636.2) (g := (mkF m 310 #[.val (.int p0), .val (.int p1), .val (.int p2), .val (.int p3), .val (.int v414), .val (.int v419), .val (.ref b420), .val (.ref b495), .val (.int v520), .val (.int ex522), .val (.ref b594), .val (.int (1 : Int32)), .val (.ref xn)] [(.ref xn)])) rfl (hb hby at_310)
    have k638 : ∀ tg_, Steps p.tables e below (T637.setTop (mkF m 318 #[.val (.int p0), .val (.int p1), .val (.int p2), .val (.int p3), .val (.int v414), .val (.int v419), .val (.ref b420), .val (.ref b495), .val (.int v520), .val (.int ex522), .val (.ref b594), .val (.int (1 : Int32)), .val (.ref xn)] [(.ref b594)])) tg_ → Steps p.tables e below (s₁.setTop (entryFrame m #[(.int p0), (.int p1), (.int p2), (.int p3)] maxLocals)) tg_ := by
      intro tg_ kt
      refine k627 tg_ ?_
      refine st632.trans ?_
      show Steps p.tables e below (T632.setTop (mkF m 306 #[.val (.int p0), .val (.int p1), .val (.int p2), .val (.int p3), .val (.int v414), .val (.int v419), .val (.ref b420), .val (.ref b495), .val (.int v520), .val (.int ex522), .val (.ref b594), .val (.int (1 : Int32)), .unset] [(.ref xn)])) _
      refine XS.astore X632.here hx rfl (hb hby at_306) rfl rfl (l' := #[.val (.int p0), .val (.int p1), .val (.int p2), .val (.int p3), .val (.int v414), .val (.int v419), .val (.ref b420), .val (.ref b495), .val (.int v520), .val (.int ex522), .val (.ref b594), .val (.int (1 : Int32)), .val (.ref xn)]) rfl ?_
      show Steps p.tables e below (T632.setTop (mkF m 308 #[.val (.int p0), .val (.int p1), .val (.int p2), .val (.int p3), .val (.int v414), .val (.int v419), .val (.ref b420), .val (.ref b495), .val (.int v520), .val (.int ex522), .val (.ref b594), .val (.int (1 : Int32)), .val (.ref xn)] [])) _
      refine XS.aload X632.here hx rfl (hb hby at_308) rfl rfl ?_
      show Steps p.tables e below (T632.setTop (mkF m 310 #[.val (.int p0), .val (.int p1), .val (.int p2), .val (.int p3), .val (.int v414), .val (.int v419), .val (.ref b420), .val (.ref b495), .val (.int v520), .val (.int ex522), .val (.ref b594), .val (.int (1 : Int32)), .val (.ref xn)] [(.ref xn)])) _
      refine st637 _ ?_
      show Steps p.tables e below (T637.setTop (mkF m 313 #[.val (.int p0), .val (.int p1), .val (.int p2), .val (.int p3), .val (.int v414), .val (.int v419), .val (.ref b420), .val (.ref b495), .val (.int v520), .val (.int ex522), .val (.ref b594), .val (.int (1 : Int32)), .val (.ref xn)] [(.ref xn), (.ref xn)])) _
      refine Jvm.RoadKit.acmp (g := (mkF m 313 #[.val (.int p0), .val (.int p1), .val (.int p2), .val (.int p3), .val (.int v414), .val (.int v419), .val (.ref b420), .val (.ref b495), .val (.int v520), .val (.int ex522), .val (.ref b594), .val (.int (1 : Int32)), .val (.ref xn)] [(.ref xn), (.ref xn)])) X637 hx rfl rfl rfl (pc0 := 313) (pc' := 316) (same := true) rfl (hb hby at_313) rfl (decide_eq_true rfl) (by decide) (by decide) ?_
      show Steps p.tables e below (T637.setTop (mkF m 316 #[.val (.int p0), .val (.int p1), .val (.int p2), .val (.int p3), .val (.int v414), .val (.int v419), .val (.ref b420), .val (.ref b495), .val (.int v520), .val (.int ex522), .val (.ref b594), .val (.int (1 : Int32)), .val (.ref xn)] [])) _
      refine XS.aload X637.here hx rfl (hb hby at_316) rfl rfl ?_
      show Steps p.tables e below (T637.setTop (mkF m 318 #[.val (.int p0), .val (.int p1), .val (.int p2), .val (.int p3), .val (.int v414), .val (.int v419), .val (.ref b420), .val (.ref b495), .val (.int v520), .val (.int ex522), .val (.ref b594), .val (.int (1 : Int32)), .val (.ref xn)] [(.ref b594)])) _
      exact kt
    have hat4 : ((((v414 + (1 : Int32)) + (1 : Int32)) + (1 : Int32)) + (1 : Int32)).toInt = ((k + 1 + 1 + 1 + 1 : Nat) : Int) := (own_inc (own_inc (own_inc (own_inc hk (by omega)) (by omega)) (by omega)) (by omega))
    have f639 := (Nat.le_trans f628 oK632.1)
    have f640 := (f629.keep oK632)
    have f641 := (f630.keep oK632 (ninS ne_b420_b594 nin0))
    obtain ⟨cq642, kq642, q642a, q642b, q642c⟩ := isOf hZ e637 f640
    obtain ⟨_, _, ⟨T642, L642, kc642, nc642⟩, -, X642, ⟨Lc642, hQ642, l642, y642, z642⟩, st642⟩ := X637.virtualBack hx (y := (⟨"com/example/benzer/benzer/cli/JsonReader", "hasMore", "()Z"⟩ : MethodName)) (z := (⟨"com/example/benzer/benzer/cli/JsonReader", "hasMore", "()Z"⟩ : MethodName)) hown (mvT hZ (hw _ (List.mem_of_getElem? (i := 63) rfl))) (mvT hZ (hw _ (List.mem_of_getElem? (i := 64) rfl))) (notFace_of_selects (args := #[]) (mvT hZ (hw _ (List.mem_of_getElem? (i := 66) rfl)))) (mvT hZ (hw _ (List.mem_of_getElem? (i := 66) rfl))) (mvT hZ (hw _ (List.mem_of_getElem? (i := 65) rfl))) (by decide) (backOf (W := 0) (rm11 l Z a0 hw [] b594 b420 (v414 + (4 : Int32)) ((((v414 + (1 : Int32)) + (1 : Int32)) + (1 : Int32)) + (1 : Int32)) (0 : Int32) 8 (own_prev v414) (k + 1 + 1 + 1 + 1) 0 (k + 4) ((((v414 + (1 : Int32)) + (1 : Int32)) + (1 : Int32)) + (1 : Int32)) T632.heap n0 f639 f640 oFabytes632 oFaend632 oFaat632 oFanested632 f641 ge_b594 (Ne.symm ne_b420_b594) hat4 hen (by omega) (by omega) (by omega) (fun x hx => absurd hx (Nat.not_lt_zero _)) (fun q => absurd q (by omega)) hat4) hZ (hw _ (List.mem_of_getElem? (i := 67) rfl)) (hw _ (List.mem_of_getElem? (i := 43) rfl)) (by decide) (by decide)) q642a q642c (g := (mkF m 318 #[.val (.int p0), .val (.int p1), .val (.int p2), .val (.int p3), .val (.int v414), .val (.int v419), .val (.ref b420), .val (.ref b495), .val (.int v520), .val (.int ex522), .val (.ref b594), .val (.int (1 : Int32)), .val (.ref xn)] [(.ref b594)])) rfl (by rw [hml]; rfl) (Steps.refl _) (argsL := []) (rest := []) (lenOf pd_2 rfl) rfl (by show 2 * 0 + _ ≤ _; exact Nat.le_of_eq rfl) (hb hby at_318) (fun _ _ => ⟨rfl, e637, (by decide : 27 + 0 ≤ _), (by decide : 250 + 0 ≤ _)⟩)
    dsimp only [Pt.U, Pt.locs, Pt.cells, Pt.slots] at X642 l642 y642 z642 st642 hQ642
    rw [l642, y642, z642] at X642
    replace X642 : Stand p l e room_1 (s.setVm T632.vm) m #[(.int p0), (.int p1), (.int p2), (.int p3)] below meth c T642 _ 27 250 := X642
    obtain ⟨rfl, Nq642, oK642, oFabytes642, oFaend642, oFaat642, oFanested642⟩ := hQ642
    have N642 := Fr.app N632 Nq642
    have C643 := CHr.keep oK642 (sfS sf_b594_634 sf0) R634.1
    have R643 := R634.trans C643
    have sf_b420_643 := C643.safe (f641).lt sf_b420_634
    have f644 := (f635.keep oK632 (ninS ne_b495_b594 nin0))
    have sf_b495_643 := C643.safe (f644).lt sf_b495_634
    have sf_b594_643 := C643.safe (f640).lt sf_b594_634
    have hc321_645 : (own_hm ((((v414 + (1 : Int32)) + (1 : Int32)) + (1 : Int32)) + (1 : Int32)) (v414 + (4 : Int32))) = (0 : Int32) := (own_hm0 (by rw [hat4, hen]; omega))
    have f646 := (Nat.le_trans f639 oK642.1)
    have f647 := (f640.keep oK642)
    obtain ⟨cq648, kq648, q648a, q648b, q648c⟩ := isOf hZ rfl f647
    obtain ⟨_, _, ⟨T648, L648, kc648, nc648⟩, -, X648, ⟨Lc648, hQ648, l648, y648, z648⟩, st648⟩ := X642.virtualBack hx (y := (⟨"com/example/benzer/benzer/cli/JsonReader", "start", "([BI)V"⟩ : MethodName)) (z := (⟨"com/example/benzer/benzer/cli/JsonReader", "start", "([BI)V"⟩ : MethodName)) hown (mvT hZ (hw _ (List.mem_of_getElem? (i := 50) rfl))) (mvT hZ (hw _ (List.mem_of_getElem? (i := 51) rfl))) (notFace_of_selects (args := #[]) (mvT hZ (hw _ (List.mem_of_getElem? (i := 53) rfl)))) (mvT hZ (hw _ (List.mem_of_getElem? (i := 53) rfl))) (mvT hZ (hw _ (List.mem_of_getElem? (i := 52) rfl))) (by decide) (backOf (W := 0) (rm10 l Z a0 hw [] b594 b495 v520 (.ref b420) (v414 + (4 : Int32)) ((((v414 + (1 : Int32)) + (1 : Int32)) + (1 : Int32)) + (1 : Int32)) (0 : Int32) T642.heap n0 f646 f647 oFabytes642 oFaend642 oFaat642 oFanested642 ge_b594) hZ (hw _ (List.mem_of_getElem? (i := 54) rfl)) (hw _ (List.mem_of_getElem? (i := 43) rfl)) (by decide) (by decide)) q648a q648c (g := (mkF m 337 #[.val (.int p0), .val (.int p1), .val (.int p2), .val (.int p3), .val (.int v414), .val (.int v419), .val (.ref b420), .val (.ref b495), .val (.int v520), .val (.int ex522), .val (.ref b594), .val (.int (1 : Int32)), .val (.ref xn)] [(.int v520), (.ref b495), (.ref b594)])) rfl (by rw [hml]; rfl) (Steps.refl _) (argsL := [(.ref b495), (.int v520)]) (rest := []) (lenOf pd_8 rfl) rfl (by show 2 * 0 + _ ≤ _; exact Nat.le_of_eq rfl) (hb hby at_337) (fun _ _ => ⟨rfl, rfl, (by decide : 27 + 0 ≤ _), (by decide : 250 + 0 ≤ _)⟩)
    dsimp only [Pt.U, Pt.locs, Pt.cells, Pt.slots] at X648 l648 y648 z648 st648 hQ648
    rw [l648, y648, z648] at X648
    replace X648 : Stand p l e room_1 (s.setVm T632.vm) m #[(.int p0), (.int p1), (.int p2), (.int p3)] below meth c T648 _ 27 250 := X648
    obtain ⟨rfl, Nq648, oK648, oFabytes648, oFaend648, oFaat648, oFanested648⟩ := hQ648
    have N648 := Fr.app N642 Nq648
    have C649 := CHr.keep oK648 (sfS sf_b594_643 sf0) R643.1
    have R649 := R643.trans C649
    have f650 := (f641.keep oK642 (ninS ne_b420_b594 nin0))
    have sf_b420_649 := C649.safe (f650).lt sf_b420_643
    have f651 := (f644.keep oK642 (ninS ne_b495_b594 nin0))
    have sf_b495_649 := C649.safe (f651).lt sf_b495_643
    have sf_b594_649 := C649.safe (f647).lt sf_b594_643
    have k652 : ∀ tg_, Steps p.tables e below (T648.setTop (mkF m 342 #[.val (.int p0), .val (.int p1), .val (.int p2), .val (.int p3), .val (.int v414), .val (.int v419), .val (.ref b420), .val (.ref b495), .val (.int v520), .val (.int ex522), .val (.ref b594), .val (.int (1 : Int32)), .val (.ref xn)] [(.ref b594)])) tg_ → Steps p.tables e below (s₁.setTop (entryFrame m #[(.int p0), (.int p1), (.int p2), (.int p3)] maxLocals)) tg_ := by
      intro tg_ kt
      refine k638 tg_ ?_
      refine st642.trans ?_
      show Steps p.tables e below (T642.setTop (mkF m 321 #[.val (.int p0), .val (.int p1), .val (.int p2), .val (.int p3), .val (.int v414), .val (.int v419), .val (.ref b420), .val (.ref b495), .val (.int v520), .val (.int ex522), .val (.ref b594), .val (.int (1 : Int32)), .val (.ref xn)] [(.int (own_hm ((((v414 + (1 : Int32)) + (1 : Int32)) + (1 : Int32)) + (1 : Int32)) (v414 + (4 : Int32))))])) _
      refine XS.ifNo X642.here hx rfl (hb hby at_321) rfl ((if0 _ _).trans (teq hc321_645).2) ?_
      show Steps p.tables e below (T642.setTop (mkF m 324 #[.val (.int p0), .val (.int p1), .val (.int p2), .val (.int p3), .val (.int v414), .val (.int v419), .val (.ref b420), .val (.ref b495), .val (.int v520), .val (.int ex522), .val (.ref b594), .val (.int (1 : Int32)), .val (.ref xn)] [])) _
      refine XS.iconst X642.here hx rfl (hb hby at_324) ?_
      show Steps p.tables e below (T642.setTop (mkF m 325 #[.val (.int p0), .val (.int p1), .val (.int p2), .val (.int p3), .val (.int v414), .val (.int v419), .val (.ref b420), .val (.ref b495), .val (.int v520), .val (.int ex522), .val (.ref b594), .val (.int (1 : Int32)), .val (.ref xn)] [(.int (1 : Int32))])) _
      refine XS.goto X642.here hx rfl (pc0 := 325) (pc' := 329) rfl (hb hby at_325) (by decide) (by decide) ?_
      show Steps p.tables e below (T642.setTop (mkF m 329 #[.val (.int p0), .val (.int p1), .val (.int p2), .val (.int p3), .val (.int v414), .val (.int v419), .val (.ref b420), .val (.ref b495), .val (.int v520), .val (.int ex522), .val (.ref b594), .val (.int (1 : Int32)), .val (.ref xn)] [(.int (1 : Int32))])) _
      refine XS.istore X642.here hx rfl (hb hby at_329) rfl (l' := #[.val (.int p0), .val (.int p1), .val (.int p2), .val (.int p3), .val (.int v414), .val (.int v419), .val (.ref b420), .val (.ref b495), .val (.int v520), .val (.int ex522), .val (.ref b594), .val (.int (1 : Int32)), .val (.ref xn)]) rfl ?_
      show Steps p.tables e below (T642.setTop (mkF m 331 #[.val (.int p0), .val (.int p1), .val (.int p2), .val (.int p3), .val (.int v414), .val (.int v419), .val (.ref b420), .val (.ref b495), .val (.int v520), .val (.int ex522), .val (.ref b594), .val (.int (1 : Int32)), .val (.ref xn)] [])) _
      refine XS.aload X642.here hx rfl (hb hby at_331) rfl rfl ?_
      show Steps p.tables e below (T642.setTop (mkF m 333 #[.val (.int p0), .val (.int p1), .val (.int p2), .val (.int p3), .val (.int v414), .val (.int v419), .val (.ref b420), .val (.ref b495), .val (.int v520), .val (.int ex522), .val (.ref b594), .val (.int (1 : Int32)), .val (.ref xn)] [(.ref b594)])) _
      refine XS.aload X642.here hx rfl (hb hby at_333) rfl rfl ?_
      show Steps p.tables e below (T642.setTop (mkF m 335 #[.val (.int p0), .val (.int p1), .val (.int p2), .val (.int p3), .val (.int v414), .val (.int v419), .val (.ref b420), .val (.ref b495), .val (.int v520), .val (.int ex522), .val (.ref b594), .val (.int (1 : Int32)), .val (.ref xn)] [(.ref b495), (.ref b594)])) _
      refine XS.iload X642.here hx rfl (hb hby at_335) rfl ?_
      show Steps p.tables e below (T642.setTop (mkF m 337 #[.val (.int p0), .val (.int p1), .val (.int p2), .val (.int p3), .val (.int v414), .val (.int v419), .val (.ref b420), .val (.ref b495), .val (.int v520), .val (.int ex522), .val (.ref b594), .val (.int (1 : Int32)), .val (.ref xn)] [(.int v520), (.ref b495), (.ref b594)])) _
      refine st648.trans ?_
      show Steps p.tables e below (T648.setTop (mkF m 340 #[.val (.int p0), .val (.int p1), .val (.int p2), .val (.int p3), .val (.int v414), .val (.int v419), .val (.ref b420), .val (.ref b495), .val (.int v520), .val (.int ex522), .val (.ref b594), .val (.int (1 : Int32)), .val (.ref xn)] [])) _
      refine XS.aload X648.here hx rfl (hb hby at_340) rfl rfl ?_
      show Steps p.tables e below (T648.setTop (mkF m 342 #[.val (.int p0), .val (.int p1), .val (.int p2), .val (.int p3), .val (.int v414), .val (.int v419), .val (.ref b420), .val (.ref b495), .val (.int v520), .val (.int ex522), .val (.ref b594), .val (.int (1 : Int32)), .val (.ref xn)] [(.ref b594)])) _
      exact kt
    obtain ⟨M, hML, hMs, hMt⟩ := own_first fL L
    obtain ⟨zM, hzM⟩ : ∃ z : Int32, z.toInt = ((0 + M : Nat) : Int) := ⟨Int32.ofNat M, by rw [Int32.toInt_ofNat_of_lt (by omega), Nat.zero_add]⟩
    have f654 := (Nat.le_trans f646 oK648.1)
    have f655 := (f647.keep oK648)
    have f656 := (f651.keep oK648 (ninS ne_b495_b594 nin0))
    obtain ⟨cq657, kq657, q657a, q657b, q657c⟩ := isOf hZ rfl f655
    obtain ⟨_, _, ⟨T657, L657, kc657, nc657⟩, -, X657, ⟨Lc657, hQ657, l657, y657, z657⟩, st657⟩ := X648.virtualBack hx (y := (⟨"com/example/benzer/benzer/cli/JsonReader", "hasMore", "()Z"⟩ : MethodName)) (z := (⟨"com/example/benzer/benzer/cli/JsonReader", "hasMore", "()Z"⟩ : MethodName)) hown (mvT hZ (hw _ (List.mem_of_getElem? (i := 63) rfl))) (mvT hZ (hw _ (List.mem_of_getElem? (i := 64) rfl))) (notFace_of_selects (args := #[]) (mvT hZ (hw _ (List.mem_of_getElem? (i := 66) rfl)))) (mvT hZ (hw _ (List.mem_of_getElem? (i := 66) rfl))) (mvT hZ (hw _ (List.mem_of_getElem? (i := 65) rfl))) (by decide) (backOf (W := 0) (rm11 l Z a0 hw [] b594 b495 v520 (0 : Int32) (0 : Int32) 6 fL 0 M L zM T648.heap n0 f654 f655 oFabytes648 oFaend648 oFaat648 oFanested648 f656 ge_b594 (Ne.symm ne_b495_b594) (by decide) hL (by omega) (by omega) (by omega) (fun x hx => by rw [Nat.zero_add]; exact hMs x hx) (fun q => by rw [Nat.zero_add]; exact hMt (by omega)) hzM) hZ (hw _ (List.mem_of_getElem? (i := 67) rfl)) (hw _ (List.mem_of_getElem? (i := 43) rfl)) (by decide) (by decide)) q657a q657c (g := (mkF m 342 #[.val (.int p0), .val (.int p1), .val (.int p2), .val (.int p3), .val (.int v414), .val (.int v419), .val (.ref b420), .val (.ref b495), .val (.int v520), .val (.int ex522), .val (.ref b594), .val (.int (1 : Int32)), .val (.ref xn)] [(.ref b594)])) rfl (by rw [hml]; rfl) (Steps.refl _) (argsL := []) (rest := []) (lenOf pd_2 rfl) rfl (by show 2 * 0 + _ ≤ _; exact Nat.le_of_eq rfl) (hb hby at_342) (fun _ _ => ⟨rfl, rfl, (by decide : 27 + 0 ≤ _), (by decide : 250 + 0 ≤ _)⟩)
    dsimp only [Pt.U, Pt.locs, Pt.cells, Pt.slots] at X657 l657 y657 z657 st657 hQ657
    rw [l657, y657, z657] at X657
    replace X657 : Stand p l e room_1 (s.setVm T632.vm) m #[(.int p0), (.int p1), (.int p2), (.int p3)] below meth c T657 _ 27 250 := X657
    obtain ⟨rfl, Nq657, oK657, oFabytes657, oFaend657, oFaat657, oFanested657⟩ := hQ657
    have N657 := Fr.app N648 Nq657
    have C658 := CHr.keep oK657 (sfS sf_b594_649 sf0) R649.1
    have R658 := R649.trans C658
    have f659 := (f650.keep oK648 (ninS ne_b420_b594 nin0))
    have sf_b420_658 := C658.safe (f659).lt sf_b420_649
    have sf_b495_658 := C658.safe (f656).lt sf_b495_649
    have sf_b594_658 := C658.safe (f655).lt sf_b594_649
    have hc356_660 : (own_hm zM v520) = ex522 := (own_fin hzM hL hML hMs hMt pr522)
    have k661 : ∀ tg_, Steps p.tables e below (T657.setTop (mkF m 364 #[.val (.int p0), .val (.int p1), .val (.int p2), .val (.int p3), .val (.int v414), .val (.int v419), .val (.ref b420), .val (.ref b495), .val (.int v520), .val (.int ex522), .val (.ref b594), .val (.int (1 : Int32)), .val (.int (own_hm zM v520))] [(.int (1 : Int32))])) tg_ → Steps p.tables e below (s₁.setTop (entryFrame m #[(.int p0), (.int p1), (.int p2), (.int p3)] maxLocals)) tg_ := by
      intro tg_ kt
      refine k652 tg_ ?_
      refine st657.trans ?_
      show Steps p.tables e below (T657.setTop (mkF m 345 #[.val (.int p0), .val (.int p1), .val (.int p2), .val (.int p3), .val (.int v414), .val (.int v419), .val (.ref b420), .val (.ref b495), .val (.int v520), .val (.int ex522), .val (.ref b594), .val (.int (1 : Int32)), .val (.ref xn)] [(.int (own_hm zM v520))])) _
      refine XS.istore X657.here hx rfl (hb hby at_345) rfl (l' := #[.val (.int p0), .val (.int p1), .val (.int p2), .val (.int p3), .val (.int v414), .val (.int v419), .val (.ref b420), .val (.ref b495), .val (.int v520), .val (.int ex522), .val (.ref b594), .val (.int (1 : Int32)), .val (.int (own_hm zM v520))]) rfl ?_
      show Steps p.tables e below (T657.setTop (mkF m 347 #[.val (.int p0), .val (.int p1), .val (.int p2), .val (.int p3), .val (.int v414), .val (.int v419), .val (.ref b420), .val (.ref b495), .val (.int v520), .val (.int ex522), .val (.ref b594), .val (.int (1 : Int32)), .val (.int (own_hm zM v520))] [])) _
      refine XS.iload X657.here hx rfl (hb hby at_347) rfl ?_
      show Steps p.tables e below (T657.setTop (mkF m 349 #[.val (.int p0), .val (.int p1), .val (.int p2), .val (.int p3), .val (.int v414), .val (.int v419), .val (.ref b420), .val (.ref b495), .val (.int v520), .val (.int ex522), .val (.ref b594), .val (.int (1 : Int32)), .val (.int (own_hm zM v520))] [(.int (1 : Int32))])) _
      refine XS.ifNo X657.here hx rfl (hb hby at_349) rfl ((if0 _ _).trans (feq (by decide : ¬ ((1 : Int32) = (0 : Int32)))).1) ?_
      show Steps p.tables e below (T657.setTop (mkF m 352 #[.val (.int p0), .val (.int p1), .val (.int p2), .val (.int p3), .val (.int v414), .val (.int v419), .val (.ref b420), .val (.ref b495), .val (.int v520), .val (.int ex522), .val (.ref b594), .val (.int (1 : Int32)), .val (.int (own_hm zM v520))] [])) _
      refine XS.iload X657.here hx rfl (hb hby at_352) rfl ?_
      show Steps p.tables e below (T657.setTop (mkF m 354 #[.val (.int p0), .val (.int p1), .val (.int p2), .val (.int p3), .val (.int v414), .val (.int v419), .val (.ref b420), .val (.ref b495), .val (.int v520), .val (.int ex522), .val (.ref b594), .val (.int (1 : Int32)), .val (.int (own_hm zM v520))] [(.int (own_hm zM v520))])) _
      refine XS.iload X657.here hx rfl (hb hby at_354) rfl ?_
      show Steps p.tables e below (T657.setTop (mkF m 356 #[.val (.int p0), .val (.int p1), .val (.int p2), .val (.int p3), .val (.int v414), .val (.int v419), .val (.ref b420), .val (.ref b495), .val (.int v520), .val (.int ex522), .val (.ref b594), .val (.int (1 : Int32)), .val (.int (own_hm zM v520))] [(.int ex522), (.int (own_hm zM v520))])) _
      refine XS.icmpNo X657.here hx rfl (hb hby at_356) rfl (teq hc356_660).2 ?_
      show Steps p.tables e below (T657.setTop (mkF m 359 #[.val (.int p0), .val (.int p1), .val (.int p2), .val (.int p3), .val (.int v414), .val (.int v419), .val (.ref b420), .val (.ref b495), .val (.int v520), .val (.int ex522), .val (.ref b594), .val (.int (1 : Int32)), .val (.int (own_hm zM v520))] [])) _
      refine XS.iconst X657.here hx rfl (hb hby at_359) ?_
      show Steps p.tables e below (T657.setTop (mkF m 360 #[.val (.int p0), .val (.int p1), .val (.int p2), .val (.int p3), .val (.int v414), .val (.int v419), .val (.ref b420), .val (.ref b495), .val (.int v520), .val (.int ex522), .val (.ref b594), .val (.int (1 : Int32)), .val (.int (own_hm zM v520))] [(.int (1 : Int32))])) _
      refine XS.goto X657.here hx rfl (pc0 := 360) (pc' := 364) rfl (hb hby at_360) (by decide) (by decide) ?_
      show Steps p.tables e below (T657.setTop (mkF m 364 #[.val (.int p0), .val (.int p1), .val (.int p2), .val (.int p3), .val (.int v414), .val (.int v419), .val (.ref b420), .val (.ref b495), .val (.int v520), .val (.int ex522), .val (.ref b594), .val (.int (1 : Int32)), .val (.int (own_hm zM v520))] [(.int (1 : Int32))])) _
      exact kt
    have f662 := (Nat.le_trans (Nat.le_trans (Nat.le_trans (Nat.le_refl T632.heap.size) oK642.1) oK648.1) oK657.1)
    obtain ⟨fs, hr, hrun, hended, hW1, hW2, hW3, hsame⟩ := Stand.leaveW (s := s) (vm₁ := T632.vm) X657 hS632 (Nat.le_trans f662 (Nat.le_of_eq (congrArg Array.size (Eq.symm (show T657.heap = T657.heap from rfl))))) (v := some (.int (1 : Int32))) (fun h => by rw [Bd.returns] at h; cases h) (hlocks := by first | exact BodyLoose.notSynchronized Bd | exact Body.notSynchronized Bd)
    have hfin : CHr Z consts_1 s.vm s.heap T657.vm T657.heap := by
      rw [hh]
      exact R658.trans (CHv.at (s := s) (vm0 := T632.vm) X657 hZ hEL R658.1)
    refine ⟨_, _, k661 _ (retN X657 hx (t := .boolean) Bd.returns (by simp) (hb hby at_364) hr), hrun, hended, _, _, rfl, ?_, hfin, hW1, hW2, hW3, hsame.mono (by decide) (by decide)⟩
    show Q0 Z p0 p1 p2 p3 zc fm u8 cs xn h0 n0 _ T657.heap _
    exact ⟨rfl, N657⟩

theorem own_eqTerm {args : Array Value} {s : State} {t u : Term} {a : Addr} (h : (Jvm.Cond.eq t u).value args s none s [] = some true) (ht : t.eval args s none [] s = some (.ref a)) : u.eval args s none [] s = some (.ref a) := by
  obtain ⟨y, h1, h2⟩ := Cond.eq_one (beq_iff_eq.mpr h : (Jvm.Cond.eq t u).holds args s none s [] = true)
  cases h1.symm.trans ht
  exact h2

set_option maxRecDepth 65536 in
set_option maxHeartbeats 40000000 in
theorem comes_1 {Post : Tables → Env → Array Value → State → Outcome → State → Prop} (hpost : ∀ tb e args s v u, (limb_1_1.after args s (.returned v) u = true ∧ limb_1_2.after args s (.returned v) u = true ∧ True) → ReturnedEndW s (.returned v) u (Jvm.fieldLocs frame_1_writes args s ++ Jvm.arrayLocs frame_1_arrays args s ++ Jvm.staticLocs frame_1_statics s) 32 4288 → Post tb e args s (.returned v) u) :
    ArmFor flags0 classFile x code maxLocals ret World_1 tables_1 room_1 Calls_1 rest_1 Pre_1 Post := by
  intro l hfl _ _ p e ha hc hk s m args below hf hA hF happ hP
  obtain ⟨hcalls, hrest, hpre⟩ := hP
  obtain ⟨-, -, -, hnamed, -, -, -, hat⟩ := (Spec.applies_iff hf).mp happ
  obtain ⟨hg, hn⟩ := and_e (Cond.before_iff.mp (show (Jvm.Cond.and given_1 narrow_1).before args s = true from hpre))
  have hcount := (and_e hg).1
  have hgs0 := (and_e hg).2
  have hi0 := (and_e hgs0).1
  have hgs1 := (and_e hgs0).2
  have hi1 := (and_e hgs1).1
  have hgs2 := (and_e hgs1).2
  have hi2 := (and_e hgs2).1
  have hgs3 := (and_e hgs2).2
  have hi3 := hgs3
  obtain ⟨w0, w1, w2, w3, rfl⟩ : ∃ w0 w1 w2 w3 : Value, args = #[w0, w1, w2, w3] := by
    have hs : args.size = 4 := by simpa [Cond.value, given_1] using hcount
    obtain ⟨L⟩ := args
    match L, hs with
    | [w0, w1, w2, w3], _ => exact ⟨w0, w1, w2, w3, rfl⟩
  have hw := fun d (hd : d ∈ tables_1) => atoms_spec (ws := Jvm.Cond.code x code maxLocals ret :: tables_1) hat d (List.mem_cons_of_mem _ hd)
  have hfit : Fit s := fun {y c} hc i hi => by
    obtain ⟨ha, rfl⟩ := Array.getElem?_eq_some_iff.mp hc
    have q := List.all_eq_true.mp ((Array.all_eq_true_iff_forall_mem.mp hF) _ (Array.getElem_mem ha)) i (List.mem_range.mpr hi)
    simpa [Array.getElem?_eq_getElem hi] using q
  obtain ⟨hsets, hown0⟩ := atoms_of _ (rest_1_c_eq ▸ (show rest_1_c.before _ s = true from hrest))
  have hr0 := Cond.before_iff.mp hown0
  obtain ⟨i0, ei0⟩ := is_v hi0
  obtain rfl : w0 = (.int i0) := Option.some.inj ei0
  obtain ⟨i1, ei1⟩ := is_v hi1
  obtain rfl : w1 = (.int i1) := Option.some.inj ei1
  obtain ⟨i2, ei2⟩ := is_v hi2
  obtain rfl : w2 = (.int i2) := Option.some.inj ei2
  obtain ⟨i3, ei3⟩ := is_v hi3
  obtain rfl : w3 = (.int i3) := Option.some.inj ei3
  have n5 := not_v (Cond.before_iff.mp (hsets _ (List.mem_of_getElem? (i := 2) rfl)))
  obtain ⟨zc, ezc⟩ := is_v (Cond.before_iff.mp (hsets _ (List.mem_of_getElem? (i := 1) rfl)))
  have S_zc := Sta.start ezc (Or.inl (hsets _ (List.mem_of_getElem? (i := 0) rfl)))
  have hz : ¬ (zc = (0 : Int32)) := gotF (Cond.eq_ints ezc (Term.int_eval (0))) n5
  obtain ⟨fm, efm, hfm⟩ := isR_v (Cond.before_iff.mp (hsets _ (List.mem_of_getElem? (i := 8) rfl)))
  have S_fm := Sta.start efm (Or.inl (hsets _ (List.mem_of_getElem? (i := 7) rfl)))
  obtain ⟨cs, ecs⟩ := exa_v (Cond.before_iff.mp (hsets _ (List.mem_of_getElem? (i := 14) rfl)))
  have E_cs := Exa.start ecs (Cond.before_iff.mp (hsets _ (List.mem_of_getElem? (i := 14) rfl)))
  have S_so := Sta.start ecs (Or.inl (hsets _ (List.mem_of_getElem? (i := 10) rfl)))
  obtain ⟨u8, eu8⟩ := exa_v (Cond.before_iff.mp (hsets _ (List.mem_of_getElem? (i := 17) rfl)))
  have E_u8 := Exa.start eu8 (Cond.before_iff.mp (hsets _ (List.mem_of_getElem? (i := 17) rfl)))
  have S_u8 := Sta.start eu8 (Or.inl (hsets _ (List.mem_of_getElem? (i := 16) rfl)))
  have eis := own_eqTerm (Cond.before_iff.mp (hsets _ (List.mem_of_getElem? (i := 13) rfl))) ecs
  have S_is := Sta.start eis (Or.inl (hsets _ (List.mem_of_getElem? (i := 12) rfl)))
  obtain ⟨xn, exn⟩ := exa_v hn
  have S_xn := Sta.start exn (Or.inr ⟨(hw _ (List.mem_of_getElem? (i := 43) rfl)), (hw _ (List.mem_of_getElem? (i := 145) rfl))⟩)
  have hCH : CHv s consts_1 s.vm s.heap := CHv.start (own_EW hw) (fun p hp => hcalls.1 p hp) (hsets _ (List.mem_of_getElem? (i := 2) rfl)) (hw _ (List.mem_of_getElem? (i := 0) rfl)) (hw _ (List.mem_of_getElem? (i := 7) rfl))
  obtain ⟨n, o, h1, h2, h3, _, L, rfl, ⟨rfl, N⟩, -, hq⟩ := rm0 l s _ hw tables_1 i0 i1 i2 i3 zc fm u8 cs xn s.heap s.heap.size (Nat.le_refl _) S_zc S_fm S_u8 S_is S_so S_xn E_cs (Old.start s) hz hfm (own_exa_ne E_cs E_u8 (by decide)) p e ha hc hk s m _ below hf ((Spec.applies_iff_loose hf).mp happ).1 ⟨rfl, State.Warmed39.refl s, rfl, hCH⟩ trivial
  refine ⟨n, _, h1, h2, h3, hpost _ _ _ _ _ _ ⟨Cond.after_iff.mpr rfl, Cond.after_iff.mpr (eq_i res_at (Term.int_eval (1)) rfl), trivial⟩ ⟨hq.1, hq.2.1, hq.2.2.1, (hq.2.2.2.sift fun y hy => Or.inr (N y hy)).mono (by decide) (by decide)⟩⟩
theorem main_1_1 : Claimed_1_1 := comes_1 fun _ _ _ _ _ _ h hF => ⟨h.1, hF⟩
theorem main_1_2 : Claimed_1_2 := comes_1 fun _ _ _ _ _ _ h hF => ⟨h.2.1, hF⟩
end Jvm.Pilot.@@N@@
namespace Jvm.Pilot.@@N@@
open Jvm Jvm.ClassFile Sem Op Lib Jvm.Free Jvm.Stand Jvm.Pilot.@@N@@.Jvm.D
/-! MADE BY PROGRAM (witnessworld.py) out of the Statement's table words and the real class files: 27 classes; the members and pool entries that the words name. The judged class is class 1, her method 3. -/
namespace start1
open Jvm.ClassFile
def u (s : String) : CpInfo := .utf8 (stringToUtf16 s)
/-- a pool by its gaps: so many unusable entries, then the entry; so many at the end -/
def gap : Nat → List CpInfo → List CpInfo
  | 0, r => r
  | n + 1, r => .unusable :: gap n r
def poolList (es : List (Nat × CpInfo)) (last : Nat) : List CpInfo := es.foldr (fun e r => gap e.1 (e.2 :: r)) (gap last [])
def pool (es : List (Nat × CpInfo)) (last : Nat) : Array CpInfo := ⟨poolList es last⟩
def fileOf (pool : Array CpInfo) (this : Nat) (attrs : Array Attribute := #[]) (ms : Array MethodInfo := #[]) (fl : Nat := 33) (sup : Nat := 0) (ifs : Array Nat := #[]) (fds : Array FieldInfo := #[]) : ClassFile where
  minorVersion := 0
  majorVersion := 65
  constantPool := pool
  accessFlags := fl
  thisClass := this
  superClass := sup
  interfaces := ifs
  fields := fds
  methods := ms
  attributes := attrs
def plain (name : String) (sup : Option ClassId) : Class where
  name := name
  kind := .ordinary
  loader := none
  accessFlags := 33
  super := sup
  interfaces := #[]
  cf := none
  fields := #[]
  methods := #[]
  instanceTypes := #[]
  staticTypes := #[]
  resolved := #[]
  callSites := []
  init := .initialized
  statics := none
  mirror := none

def pool0 : Array CpInfo := pool [(5, u "<init>"), (0, u "()V"), (1, .class_ 10), (1, u "java/lang/Object")] 113

def k0c0 : Code := { maxStack := 0, maxLocals := 1, code := object_method_1_code, exceptionTable := #[], attributes := #[] }
def k0m0 : Method := { name := "<init>", desc := "()V", sig := { parameters := [], returnType := none }, accessFlags := 1, code := some k0c0 }
/-- java/lang/Object -/
def k0 : Class := { plain "java/lang/Object" none with
  accessFlags := 33
  interfaces := #[]
  cf := some (fileOf pool0 8 #[] #[{ accessFlags := 1, nameIndex := 5, descriptorIndex := 6, attributes := #[] }] 33 0 #[] #[])
  fields := #[]
  methods := #[k0m0]
  instanceTypes := #[]
  staticTypes := #[]
  resolved := Array.replicate 124 none
  statics := none }

def pool1 : Array CpInfo := pool [(2, .class_ 4), (0, .nameAndType 5 6), (0, u "java/lang/Object"), (0, u "<init>"), (0, u "()V"), (0, .string 8), (0, u "null"), (0, .methodref 10 11), (0, .class_ 12), (0, .nameAndType 13 14), (0, u "java/lang/String"), (0, u "charAt"), (0, u "(I)C"), (0, .methodref 16 17), (0, .class_ 18), (0, .nameAndType 19 20), (0, u "com/example/benzer/benzer/cli/JsonReaderStartPinLaw"), (0, u "prevByte"), (0, u "(II)B"), (0, .integer 2147483647), (0, .methodref 16 23), (0, .nameAndType 24 25), (0, u "nonSpace"), (0, u "(B)Z"), (0, .class_ 27), (0, u "com/example/benzer/benzer/cli/JsonReader"), (0, .methodref 26 3), (0, .methodref 26 30), (0, .nameAndType 31 32), (0, u "start"), (0, u "([BI)V"), (0, .methodref 26 34), (0, .nameAndType 35 36), (0, u "value"), (0, u "()Ljava/lang/Object;"), (0, .fieldref 26 38), (0, .nameAndType 39 40), (0, u "NULL"), (0, u "Ljava/lang/Object;"), (0, .methodref 26 42), (0, .nameAndType 43 44), (0, u "hasMore"), (0, u "()Z"), (3, u "law"), (0, u "(IIII)Z")] 7

def k1m0 : Method := { name := "<init>", desc := "()V", sig := { parameters := [], returnType := none }, accessFlags := 1, code := none }
def k1c1 : Code := { maxStack := 2, maxLocals := 1, code := method_2_code, exceptionTable := #[], attributes := #[] }
def k1m1 : Method := { name := "nonSpace", desc := "(B)Z", sig := { parameters := [.byte], returnType := some .boolean }, accessFlags := 10, code := some k1c1 }
def k1c2 : Code := { maxStack := 3, maxLocals := 2, code := method_3_code, exceptionTable := #[], attributes := #[] }
def k1m2 : Method := { name := "prevByte", desc := "(II)B", sig := { parameters := [.int, .int], returnType := some .byte }, accessFlags := 10, code := some k1c2 }
def k1c3 : Code := { maxStack := 4, maxLocals := 13, code := code, exceptionTable := #[], attributes := #[] }
def k1m3 : Method := { name := "law", desc := "(IIII)Z", sig := { parameters := [.int, .int, .int, .int], returnType := some .boolean }, accessFlags := 9, code := some k1c3 }
/-- com/example/benzer/benzer/cli/JsonReaderStartPinLaw -/
def k1 : Class := { plain "com/example/benzer/benzer/cli/JsonReaderStartPinLaw" (some 0) with
  accessFlags := 49
  interfaces := #[]
  cf := some (fileOf pool1 16 #[] #[{ accessFlags := 1, nameIndex := 5, descriptorIndex := 6, attributes := #[] }, { accessFlags := 10, nameIndex := 24, descriptorIndex := 25, attributes := #[] }, { accessFlags := 10, nameIndex := 19, descriptorIndex := 20, attributes := #[] }, { accessFlags := 9, nameIndex := 48, descriptorIndex := 49, attributes := #[] }] 49 2 #[] #[])
  fields := #[]
  methods := #[k1m0, k1m1, k1m2, k1m3]
  instanceTypes := #[]
  staticTypes := #[]
  resolved := Array.replicate 57 none
  statics := none }

def pool2 : Array CpInfo := pool [(1, .class_ 2), (0, u "java/io/Serializable"), (0, .class_ 4), (0, u "java/lang/Object")] 2

/-- java/io/Serializable -/
def k2 : Class := { plain "java/io/Serializable" (some 0) with
  accessFlags := 1537
  interfaces := #[]
  cf := some (fileOf pool2 1 #[] #[] 1537 3 #[] #[])
  fields := #[]
  methods := #[]
  instanceTypes := #[]
  staticTypes := #[]
  resolved := Array.replicate 7 none
  statics := none }

def pool3 : Array CpInfo := pool [(1, .class_ 2), (0, u "java/lang/Comparable"), (0, .class_ 4), (0, u "java/lang/Object")] 7

/-- java/lang/Comparable -/
def k3 : Class := { plain "java/lang/Comparable" (some 0) with
  accessFlags := 1537
  interfaces := #[]
  cf := some (fileOf pool3 1 #[] #[] 1537 3 #[] #[])
  fields := #[]
  methods := #[]
  instanceTypes := #[]
  staticTypes := #[]
  resolved := Array.replicate 12 none
  statics := none }

def pool4 : Array CpInfo := pool [(2, .class_ 4), (1, u "java/lang/CharSequence"), (42, .class_ 48), (0, u "java/lang/CharSequence$1CodePointIterator"), (10, .class_ 60), (0, u "java/lang/CharSequence$1CharIterator"), (5, .class_ 67), (0, u "java/lang/Object")] 63

/-- java/lang/CharSequence -/
def k4 : Class := { plain "java/lang/CharSequence" (some 0) with
  accessFlags := 1537
  interfaces := #[]
  cf := some (fileOf pool4 2 #[.nestMembers #[47, 59]] #[] 1537 66 #[] #[])
  fields := #[]
  methods := #[]
  instanceTypes := #[]
  staticTypes := #[]
  resolved := Array.replicate 131 none
  statics := none }

def pool5 : Array CpInfo := pool [(1, .class_ 2), (0, u "java/lang/constant/Constable"), (0, .class_ 4), (0, u "java/lang/Object")] 6

/-- java/lang/constant/Constable -/
def k5 : Class := { plain "java/lang/constant/Constable" (some 0) with
  accessFlags := 1537
  interfaces := #[]
  cf := some (fileOf pool5 1 #[] #[] 1537 3 #[] #[])
  fields := #[]
  methods := #[]
  instanceTypes := #[]
  staticTypes := #[]
  resolved := Array.replicate 11 none
  statics := none }

def pool6 : Array CpInfo := pool [(1, .class_ 2), (0, u "java/lang/constant/ConstantDesc"), (0, .class_ 4), (0, u "java/lang/Object")] 32

/-- java/lang/constant/ConstantDesc -/
def k6 : Class := { plain "java/lang/constant/ConstantDesc" (some 0) with
  accessFlags := 1537
  interfaces := #[]
  cf := some (fileOf pool6 1 #[] #[] 1537 3 #[] #[])
  fields := #[]
  methods := #[]
  instanceTypes := #[]
  staticTypes := #[]
  resolved := Array.replicate 37 none
  statics := none }

def pool7 : Array CpInfo := pool [(1, .methodref 2 3), (0, .class_ 4), (0, .nameAndType 5 6), (0, u "java/lang/Object"), (0, u "<init>"), (0, u "()V"), (2, .fieldref 10 11), (0, .class_ 12), (0, .nameAndType 13 14), (0, u "java/lang/String"), (0, u "value"), (0, u "[B"), (0, .fieldref 10 16), (0, .nameAndType 17 18), (0, u "coder"), (0, u "B"), (2, u "hash"), (0, u "I"), (2, u "hashIsZero"), (0, u "Z"), (7, .methodref 10 35), (0, .nameAndType 36 37), (0, u "checkBoundsOffCount"), (0, u "(III)I"), (0, .fieldref 10 39), (0, .nameAndType 40 26), (0, u "COMPACT_STRINGS"), (13, .methodref 55 56), (0, .class_ 57), (0, .nameAndType 58 59), (0, u "java/util/Arrays"), (0, u "copyOfRange"), (0, u "([BII)[B"), (15, .methodref 10 76), (0, .nameAndType 5 77), (0, u "(Ljava/nio/charset/Charset;[BII)V"), (0, .methodref 79 80), (0, .class_ 81), (0, .nameAndType 82 83), (0, u "java/util/Objects"), (0, u "requireNonNull"), (0, u "(Ljava/lang/Object;)Ljava/lang/Object;"), (0, .class_ 85), (0, u "java/nio/charset/Charset"), (0, .fieldref 87 88), (0, .class_ 89), (0, .nameAndType 90 91), (0, u "sun/nio/cs/UTF_8"), (0, u "INSTANCE"), (0, u "Lsun/nio/cs/UTF_8;"), (15, .class_ 109), (1, u "java/lang/StringLatin1"), (6, .fieldref 117 118), (0, .class_ 119), (0, .nameAndType 90 120), (0, u "sun/nio/cs/ISO_8859_1"), (0, u "Lsun/nio/cs/ISO_8859_1;"), (21, u "()Z"), (95, u "([BIILjava/nio/charset/Charset;)V"), (124, u "([BI)C"), (27, u "(II)V"), (35, u "(I)C"), (64, .methodref 10 493), (0, .nameAndType 494 142), (0, u "isLatin1"), (0, .methodref 107 496), (0, .nameAndType 497 363), (0, u "charAt"), (3, u "checkIndex"), (39, .methodref 107 542), (0, .nameAndType 543 544), (0, u "equals"), (0, u "([B[B)Z"), (28, u "(Ljava/lang/Object;)Z"), (1, .class_ 576), (0, u "java/lang/CharSequence"), (22, u "CASE_INSENSITIVE_ORDER"), (0, u "Ljava/util/Comparator;"), (452, .fieldref 1054 1055), (0, .class_ 1056), (0, .nameAndType 1057 1058), (0, u "jdk/internal/util/Preconditions"), (0, u "SIOOBE_FORMATTER"), (0, u "Ljava/util/function/BiFunction;"), (0, .methodref 1054 1060), (0, .nameAndType 501 1061), (0, u "(IILjava/util/function/BiFunction;)I"), (2, u "(IIILjava/util/function/BiFunction;)I"), (0, .methodref 1054 1066), (0, .nameAndType 1067 1064), (0, u "checkFromIndexSize"), (33, u "serialPersistentFields"), (0, u "[Ljava/io/ObjectStreamField;"), (0, .class_ 1104), (0, u "java/lang/String$CaseInsensitiveComparator"), (1, .class_ 1107), (0, u "java/io/Serializable"), (0, .class_ 1109), (0, u "java/lang/Comparable"), (0, .class_ 1111), (0, u "java/lang/constant/Constable"), (0, .class_ 1113), (0, u "java/lang/constant/ConstantDesc"), (2, u "serialVersionUID"), (0, u "J"), (3, u "REPL"), (0, u "C"), (2, u "LATIN1"), (1, u "UTF16")] 323

def k7m0 : Method := { name := "<init>", desc := "()V", sig := { parameters := [], returnType := none }, accessFlags := 1, code := none }
def k7c1 : Code := { maxStack := 6, maxLocals := 5, code := jdk_42_method_10_code, exceptionTable := #[], attributes := #[] }
def k7m1 : Method := { name := "<init>", desc := "([BIILjava/nio/charset/Charset;)V", sig := { parameters := [(.array .byte), .int, .int, (.object "java/nio/charset/Charset")], returnType := none }, accessFlags := 1, code := some k7c1 }
def k7c2 : Code := { maxStack := 6, maxLocals := 11, code := jdk_42_method_11_code, exceptionTable := #[{ startPc := 800, endPc := 813, handlerPc := 816, catchType := 202 }], attributes := #[] }
def k7m2 : Method := { name := "<init>", desc := "(Ljava/nio/charset/Charset;[BII)V", sig := { parameters := [(.object "java/nio/charset/Charset"), (.array .byte), .int, .int], returnType := none }, accessFlags := 2, code := some k7c2 }
def k7c3 : Code := { maxStack := 2, maxLocals := 2, code := jdk_42_method_56_code, exceptionTable := #[], attributes := #[] }
def k7m3 : Method := { name := "charAt", desc := "(I)C", sig := { parameters := [.int], returnType := some .char }, accessFlags := 1, code := some k7c3 }
def k7c4 : Code := { maxStack := 2, maxLocals := 3, code := jdk_42_method_66_code, exceptionTable := #[], attributes := #[] }
def k7m4 : Method := { name := "equals", desc := "(Ljava/lang/Object;)Z", sig := { parameters := [(.object "java/lang/Object")], returnType := some .boolean }, accessFlags := 1, code := some k7c4 }
def k7c5 : Code := { maxStack := 1, maxLocals := 1, code := jdk_42_method_154_code, exceptionTable := #[], attributes := #[] }
def k7m5 : Method := { name := "isLatin1", desc := "()Z", sig := { parameters := [], returnType := some .boolean }, accessFlags := 0, code := some k7c5 }
def k7c6 : Code := { maxStack := 3, maxLocals := 2, code := jdk_42_method_155_code, exceptionTable := #[], attributes := #[] }
def k7m6 : Method := { name := "checkIndex", desc := "(II)V", sig := { parameters := [.int, .int], returnType := none }, accessFlags := 8, code := some k7c6 }
def k7c7 : Code := { maxStack := 4, maxLocals := 3, code := jdk_42_method_157_code, exceptionTable := #[], attributes := #[] }
def k7m7 : Method := { name := "checkBoundsOffCount", desc := "(III)I", sig := { parameters := [.int, .int, .int], returnType := some .int }, accessFlags := 8, code := some k7c7 }
/-- java/lang/String -/
def k7 : Class := { plain "java/lang/String" (some 0) with
  accessFlags := 49
  interfaces := #[2, 3, 4, 5, 6]
  cf := some (fileOf pool7 10 #[.nestMembers #[1103]] #[{ accessFlags := 1, nameIndex := 5, descriptorIndex := 6, attributes := #[] }, { accessFlags := 1, nameIndex := 5, descriptorIndex := 238, attributes := #[] }, { accessFlags := 2, nameIndex := 5, descriptorIndex := 77, attributes := #[] }, { accessFlags := 1, nameIndex := 497, descriptorIndex := 427, attributes := #[] }, { accessFlags := 1, nameIndex := 543, descriptorIndex := 573, attributes := #[] }, { accessFlags := 0, nameIndex := 494, descriptorIndex := 142, attributes := #[] }, { accessFlags := 8, nameIndex := 501, descriptorIndex := 391, attributes := #[] }, { accessFlags := 8, nameIndex := 36, descriptorIndex := 37, attributes := #[] }] 49 2 #[1106, 1108, 575, 1110, 1112] #[{ accessFlags := 18, nameIndex := 13, descriptorIndex := 14, attributes := #[] }, { accessFlags := 18, nameIndex := 17, descriptorIndex := 18, attributes := #[] }, { accessFlags := 2, nameIndex := 21, descriptorIndex := 22, attributes := #[] }, { accessFlags := 2, nameIndex := 25, descriptorIndex := 26, attributes := #[] }, { accessFlags := 26, nameIndex := 1116, descriptorIndex := 1117, attributes := #[] }, { accessFlags := 24, nameIndex := 40, descriptorIndex := 26, attributes := #[] }, { accessFlags := 26, nameIndex := 1101, descriptorIndex := 1102, attributes := #[] }, { accessFlags := 26, nameIndex := 1121, descriptorIndex := 1122, attributes := #[] }, { accessFlags := 25, nameIndex := 599, descriptorIndex := 600, attributes := #[] }, { accessFlags := 24, nameIndex := 1125, descriptorIndex := 18, attributes := #[] }, { accessFlags := 24, nameIndex := 1127, descriptorIndex := 18, attributes := #[] }])
  fields := #[{ name := "value", type := (.array .byte), accessFlags := 18, slot := 0, constantValue := 0 }, { name := "coder", type := .byte, accessFlags := 18, slot := 1, constantValue := 0 }, { name := "hash", type := .int, accessFlags := 2, slot := 2, constantValue := 0 }, { name := "hashIsZero", type := .boolean, accessFlags := 2, slot := 3, constantValue := 0 }, { name := "serialVersionUID", type := .long, accessFlags := 26, slot := 0, constantValue := 0 }, { name := "COMPACT_STRINGS", type := .boolean, accessFlags := 24, slot := 1, constantValue := 0 }, { name := "serialPersistentFields", type := (.array (.object "java/io/ObjectStreamField")), accessFlags := 26, slot := 2, constantValue := 0 }, { name := "REPL", type := .char, accessFlags := 26, slot := 3, constantValue := 0 }, { name := "CASE_INSENSITIVE_ORDER", type := (.object "java/util/Comparator"), accessFlags := 25, slot := 4, constantValue := 0 }, { name := "LATIN1", type := .byte, accessFlags := 24, slot := 5, constantValue := 0 }, { name := "UTF16", type := .byte, accessFlags := 24, slot := 6, constantValue := 0 }]
  methods := #[k7m0, k7m1, k7m2, k7m3, k7m4, k7m5, k7m6, k7m7]
  instanceTypes := #[(.array .byte), .byte, .int, .boolean]
  staticTypes := #[.long, .boolean, (.array (.object "java/io/ObjectStreamField")), .char, (.object "java/util/Comparator"), .byte, .byte]
  resolved := Array.replicate 1451 none
  statics := some 0 }

def pool8 : Array CpInfo := pool [(1, .class_ 2), (0, u "java/lang/String"), (1, .class_ 6), (1, u "java/lang/Object"), (0, u "<init>"), (0, u "()V"), (0, .methodref 1 10), (0, .nameAndType 11 12), (0, u "checkIndex"), (0, u "(II)V"), (1, .class_ 16), (1, u "java/lang/StringLatin1"), (36, u "([BI)C"), (67, u "$assertionsDisabled"), (0, u "Z"), (98, .class_ 223), (1, u "java/lang/StringLatin1$LinesSpliterator"), (28, u "charAt"), (28, u "equals"), (0, u "([B[B)Z"), (107, .class_ 391), (0, u "java/lang/StringLatin1$CharsSpliterator")] 3

def k8m0 : Method := { name := "<init>", desc := "()V", sig := { parameters := [], returnType := none }, accessFlags := 0, code := none }
def k8c1 : Code := { maxStack := 2, maxLocals := 2, code := jdk_43_method_2_code, exceptionTable := #[], attributes := #[] }
def k8m1 : Method := { name := "charAt", desc := "([BI)C", sig := { parameters := [(.array .byte), .int], returnType := some .char }, accessFlags := 9, code := some k8c1 }
def k8c2 : Code := { maxStack := 3, maxLocals := 3, code := jdk_43_method_13_code, exceptionTable := #[], attributes := #[] }
def k8m2 : Method := { name := "equals", desc := "([B[B)Z", sig := { parameters := [(.array .byte), (.array .byte)], returnType := some .boolean }, accessFlags := 9, code := some k8c2 }
/-- java/lang/StringLatin1 -/
def k8 : Class := { plain "java/lang/StringLatin1" (some 0) with
  accessFlags := 48
  interfaces := #[]
  cf := some (fileOf pool8 14 #[.nestMembers #[390, 221]] #[{ accessFlags := 0, nameIndex := 7, descriptorIndex := 8, attributes := #[] }, { accessFlags := 9, nameIndex := 252, descriptorIndex := 53, attributes := #[] }, { accessFlags := 9, nameIndex := 281, descriptorIndex := 282, attributes := #[] }] 48 4 #[] #[{ accessFlags := 4120, nameIndex := 121, descriptorIndex := 122, attributes := #[] }])
  fields := #[{ name := "$assertionsDisabled", type := .boolean, accessFlags := 4120, slot := 0, constantValue := 0 }]
  methods := #[k8m0, k8m1, k8m2]
  instanceTypes := #[]
  staticTypes := #[.boolean]
  resolved := Array.replicate 395 none
  statics := none }

def pool9 : Array CpInfo := pool [(2, .class_ 4), (1, u "java/lang/Object"), (0, u "<init>"), (0, u "()V"), (17, .class_ 26), (1, u "jdk/internal/util/Preconditions"), (6, u "checkIndex"), (15, u "checkFromIndexSize"), (5, .class_ 56), (0, u "jdk/internal/util/Preconditions$4"), (57, .class_ 115), (0, u "jdk/internal/util/Preconditions$1"), (7, u "SIOOBE_FORMATTER"), (0, u "Ljava/util/function/BiFunction;"), (0, .class_ 126), (0, u "jdk/internal/util/Preconditions$2"), (3, u "AIOOBE_FORMATTER"), (0, .class_ 132), (0, u "jdk/internal/util/Preconditions$3"), (3, u "IOOBE_FORMATTER"), (41, u "(IILjava/util/function/BiFunction;)I"), (4, u "(IIILjava/util/function/BiFunction;)I")] 10

def k9m0 : Method := { name := "<init>", desc := "()V", sig := { parameters := [], returnType := none }, accessFlags := 1, code := none }
def k9c1 : Code := { maxStack := 3, maxLocals := 3, code := jdk_41_method_11_code, exceptionTable := #[], attributes := #[] }
def k9m1 : Method := { name := "checkIndex", desc := "(IILjava/util/function/BiFunction;)I", sig := { parameters := [.int, .int, (.object "java/util/function/BiFunction")], returnType := some .int }, accessFlags := 9, code := some k9c1 }
def k9c2 : Code := { maxStack := 4, maxLocals := 4, code := jdk_41_method_13_code, exceptionTable := #[], attributes := #[] }
def k9m2 : Method := { name := "checkFromIndexSize", desc := "(IIILjava/util/function/BiFunction;)I", sig := { parameters := [.int, .int, .int, (.object "java/util/function/BiFunction")], returnType := some .int }, accessFlags := 9, code := some k9c2 }
/-- jdk/internal/util/Preconditions -/
def k9 : Class := { plain "jdk/internal/util/Preconditions" (some 0) with
  accessFlags := 33
  interfaces := #[]
  cf := some (fileOf pool9 24 #[.nestMembers #[55, 131, 125, 114]] #[{ accessFlags := 1, nameIndex := 5, descriptorIndex := 6, attributes := #[] }, { accessFlags := 9, nameIndex := 33, descriptorIndex := 178, attributes := #[] }, { accessFlags := 9, nameIndex := 49, descriptorIndex := 183, attributes := #[] }] 33 2 #[] #[{ accessFlags := 25, nameIndex := 123, descriptorIndex := 124, attributes := #[] }, { accessFlags := 25, nameIndex := 130, descriptorIndex := 124, attributes := #[] }, { accessFlags := 25, nameIndex := 136, descriptorIndex := 124, attributes := #[] }])
  fields := #[{ name := "SIOOBE_FORMATTER", type := (.object "java/util/function/BiFunction"), accessFlags := 25, slot := 0, constantValue := 0 }, { name := "AIOOBE_FORMATTER", type := (.object "java/util/function/BiFunction"), accessFlags := 25, slot := 1, constantValue := 0 }, { name := "IOOBE_FORMATTER", type := (.object "java/util/function/BiFunction"), accessFlags := 25, slot := 2, constantValue := 0 }]
  methods := #[k9m0, k9m1, k9m2]
  instanceTypes := #[]
  staticTypes := #[(.object "java/util/function/BiFunction"), (.object "java/util/function/BiFunction"), (.object "java/util/function/BiFunction")]
  resolved := Array.replicate 194 none
  statics := some 1 }

def pool10 : Array CpInfo := pool [(1, .methodref 2 3), (0, .class_ 4), (0, .nameAndType 5 6), (0, u "java/lang/Object"), (0, u "<init>"), (0, u "()V"), (0, .fieldref 8 9), (0, .class_ 10), (0, .nameAndType 11 12), (0, u "com/example/benzer/benzer/cli/JsonReader"), (0, u "bytes"), (0, u "[B"), (0, .fieldref 8 14), (0, .nameAndType 15 16), (0, u "end"), (0, u "I"), (0, .fieldref 8 18), (0, .nameAndType 19 16), (0, u "at"), (0, .fieldref 8 21), (0, .nameAndType 22 16), (0, u "nested"), (0, .methodref 8 24), (0, .nameAndType 25 6), (0, u "skipSpace"), (18, .methodref 8 45), (0, .nameAndType 46 47), (0, u "isDigit"), (0, u "(B)Z"), (3, u "()Ljava/lang/Object;"), (0, .methodref 8 53), (0, .nameAndType 54 51), (0, u "literal"), (17, .class_ 74), (1, u "java/lang/String"), (10, u "value"), (14, u "(Ljava/lang/Object;)Z"), (46, u "ENDS_PLAIN_RUN"), (0, u "[Z"), (32, .fieldref 182 183), (0, .class_ 184), (0, .nameAndType 185 186), (0, u "java/nio/charset/StandardCharsets"), (0, u "ISO_8859_1"), (0, u "Ljava/nio/charset/Charset;"), (0, .methodref 72 188), (0, .nameAndType 5 189), (0, u "([BIILjava/nio/charset/Charset;)V"), (9, .methodref 8 200), (0, .nameAndType 201 47), (0, u "isWordChar"), (0, .string 203), (0, u "true"), (0, .methodref 72 205), (0, .nameAndType 206 100), (0, u "equals"), (6, .string 214), (0, u "false"), (3, .string 219), (0, u "null"), (0, .fieldref 8 221), (0, .nameAndType 222 223), (0, u "NULL"), (0, u "Ljava/lang/Object;"), (3, u "()Z"), (17, .class_ 246), (0, u "com/example/benzer/benzer/cli/JsonReader$NotJsonException"), (7, u "MOST_NESTED"), (2, u "MOST_NUMBER_CHARS"), (2, u "start"), (0, u "([BI)V"), (0, u "hasMore")] 29

def k10c0 : Code := { maxStack := 1, maxLocals := 1, code := prog_23_method_1_code, exceptionTable := #[], attributes := #[] }
def k10m0 : Method := { name := "<init>", desc := "()V", sig := { parameters := [], returnType := none }, accessFlags := 0, code := some k10c0 }
def k10c1 : Code := { maxStack := 2, maxLocals := 3, code := prog_23_method_2_code, exceptionTable := #[], attributes := #[] }
def k10m1 : Method := { name := "start", desc := "([BI)V", sig := { parameters := [(.array .byte), .int], returnType := none }, accessFlags := 0, code := some k10c1 }
def k10c2 : Code := { maxStack := 2, maxLocals := 1, code := prog_23_method_3_code, exceptionTable := #[], attributes := #[] }
def k10m2 : Method := { name := "hasMore", desc := "()Z", sig := { parameters := [], returnType := some .boolean }, accessFlags := 0, code := some k10c2 }
def k10c3 : Code := { maxStack := 2, maxLocals := 3, code := prog_23_method_4_code, exceptionTable := #[], attributes := #[] }
def k10m3 : Method := { name := "value", desc := "()Ljava/lang/Object;", sig := { parameters := [], returnType := some (.object "java/lang/Object") }, accessFlags := 0, code := some k10c3 }
def k10c4 : Code := { maxStack := 6, maxLocals := 5, code := prog_23_method_16_code, exceptionTable := #[], attributes := #[] }
def k10m4 : Method := { name := "literal", desc := "()Ljava/lang/Object;", sig := { parameters := [], returnType := some (.object "java/lang/Object") }, accessFlags := 2, code := some k10c4 }
def k10c5 : Code := { maxStack := 3, maxLocals := 1, code := prog_23_method_17_code, exceptionTable := #[], attributes := #[] }
def k10m5 : Method := { name := "skipSpace", desc := "()V", sig := { parameters := [], returnType := none }, accessFlags := 2, code := some k10c5 }
def k10c6 : Code := { maxStack := 2, maxLocals := 1, code := prog_23_method_19_code, exceptionTable := #[], attributes := #[] }
def k10m6 : Method := { name := "isDigit", desc := "(B)Z", sig := { parameters := [.byte], returnType := some .boolean }, accessFlags := 10, code := some k10c6 }
def k10c7 : Code := { maxStack := 2, maxLocals := 1, code := prog_23_method_20_code, exceptionTable := #[], attributes := #[] }
def k10m7 : Method := { name := "isWordChar", desc := "(B)Z", sig := { parameters := [.byte], returnType := some .boolean }, accessFlags := 10, code := some k10c7 }
/-- com/example/benzer/benzer/cli/JsonReader -/
def k10 : Class := { plain "com/example/benzer/benzer/cli/JsonReader" (some 0) with
  accessFlags := 48
  interfaces := #[]
  cf := some (fileOf pool10 8 #[.nestMembers #[245]] #[{ accessFlags := 0, nameIndex := 5, descriptorIndex := 6, attributes := #[] }, { accessFlags := 0, nameIndex := 260, descriptorIndex := 261, attributes := #[] }, { accessFlags := 0, nameIndex := 262, descriptorIndex := 227, attributes := #[] }, { accessFlags := 0, nameIndex := 85, descriptorIndex := 51, attributes := #[] }, { accessFlags := 2, nameIndex := 54, descriptorIndex := 51, attributes := #[] }, { accessFlags := 2, nameIndex := 25, descriptorIndex := 6, attributes := #[] }, { accessFlags := 10, nameIndex := 46, descriptorIndex := 47, attributes := #[] }, { accessFlags := 10, nameIndex := 201, descriptorIndex := 47, attributes := #[] }] 48 2 #[] #[{ accessFlags := 24, nameIndex := 222, descriptorIndex := 223, attributes := #[] }, { accessFlags := 26, nameIndex := 254, descriptorIndex := 16, attributes := #[] }, { accessFlags := 26, nameIndex := 257, descriptorIndex := 16, attributes := #[] }, { accessFlags := 26, nameIndex := 147, descriptorIndex := 148, attributes := #[] }, { accessFlags := 2, nameIndex := 11, descriptorIndex := 12, attributes := #[] }, { accessFlags := 2, nameIndex := 15, descriptorIndex := 16, attributes := #[] }, { accessFlags := 2, nameIndex := 19, descriptorIndex := 16, attributes := #[] }, { accessFlags := 2, nameIndex := 22, descriptorIndex := 16, attributes := #[] }])
  fields := #[{ name := "NULL", type := (.object "java/lang/Object"), accessFlags := 24, slot := 0, constantValue := 0 }, { name := "MOST_NESTED", type := .int, accessFlags := 26, slot := 1, constantValue := 0 }, { name := "MOST_NUMBER_CHARS", type := .int, accessFlags := 26, slot := 2, constantValue := 0 }, { name := "ENDS_PLAIN_RUN", type := (.array .boolean), accessFlags := 26, slot := 3, constantValue := 0 }, { name := "bytes", type := (.array .byte), accessFlags := 2, slot := 0, constantValue := 0 }, { name := "end", type := .int, accessFlags := 2, slot := 1, constantValue := 0 }, { name := "at", type := .int, accessFlags := 2, slot := 2, constantValue := 0 }, { name := "nested", type := .int, accessFlags := 2, slot := 3, constantValue := 0 }]
  methods := #[k10m0, k10m1, k10m2, k10m3, k10m4, k10m5, k10m6, k10m7]
  instanceTypes := #[(.array .byte), .int, .int, .int]
  staticTypes := #[(.object "java/lang/Object"), .int, .int, (.array .boolean)]
  resolved := Array.replicate 292 none
  statics := some 2 }

def pool11 : Array CpInfo := pool [(2, .class_ 4), (1, u "java/lang/Object"), (0, u "<init>"), (0, u "()V"), (14, .class_ 23), (1, u "java/nio/charset/StandardCharsets"), (0, u "US_ASCII"), (0, u "Ljava/nio/charset/Charset;"), (7, u "ISO_8859_1"), (7, u "UTF_8"), (5, u "UTF_16BE"), (5, u "UTF_16LE"), (5, u "UTF_16")] 8

def k11m0 : Method := { name := "<init>", desc := "()V", sig := { parameters := [], returnType := none }, accessFlags := 2, code := none }
/-- java/nio/charset/StandardCharsets -/
def k11 : Class := { plain "java/nio/charset/StandardCharsets" (some 0) with
  accessFlags := 49
  interfaces := #[]
  cf := some (fileOf pool11 21 #[] #[{ accessFlags := 2, nameIndex := 5, descriptorIndex := 6, attributes := #[] }] 49 2 #[] #[{ accessFlags := 25, nameIndex := 24, descriptorIndex := 25, attributes := #[] }, { accessFlags := 25, nameIndex := 33, descriptorIndex := 25, attributes := #[] }, { accessFlags := 25, nameIndex := 41, descriptorIndex := 25, attributes := #[] }, { accessFlags := 25, nameIndex := 47, descriptorIndex := 25, attributes := #[] }, { accessFlags := 25, nameIndex := 53, descriptorIndex := 25, attributes := #[] }, { accessFlags := 25, nameIndex := 59, descriptorIndex := 25, attributes := #[] }])
  fields := #[{ name := "US_ASCII", type := (.object "java/nio/charset/Charset"), accessFlags := 25, slot := 0, constantValue := 0 }, { name := "ISO_8859_1", type := (.object "java/nio/charset/Charset"), accessFlags := 25, slot := 1, constantValue := 0 }, { name := "UTF_8", type := (.object "java/nio/charset/Charset"), accessFlags := 25, slot := 2, constantValue := 0 }, { name := "UTF_16BE", type := (.object "java/nio/charset/Charset"), accessFlags := 25, slot := 3, constantValue := 0 }, { name := "UTF_16LE", type := (.object "java/nio/charset/Charset"), accessFlags := 25, slot := 4, constantValue := 0 }, { name := "UTF_16", type := (.object "java/nio/charset/Charset"), accessFlags := 25, slot := 5, constantValue := 0 }]
  methods := #[k11m0]
  instanceTypes := #[]
  staticTypes := #[(.object "java/nio/charset/Charset"), (.object "java/nio/charset/Charset"), (.object "java/nio/charset/Charset"), (.object "java/nio/charset/Charset"), (.object "java/nio/charset/Charset"), (.object "java/nio/charset/Charset")]
  resolved := Array.replicate 68 none
  statics := some 3 }

def pool12 : Array CpInfo := pool [(2, .class_ 4), (1, u "java/lang/Object"), (0, u "<init>"), (0, u "()V"), (35, .class_ 44), (1, u "java/util/Objects"), (0, u "requireNonNull"), (0, u "(Ljava/lang/Object;)Ljava/lang/Object;")] 137

def k12m0 : Method := { name := "<init>", desc := "()V", sig := { parameters := [], returnType := none }, accessFlags := 2, code := none }
def k12c1 : Code := { maxStack := 2, maxLocals := 1, code := jdk_31_method_10_code, exceptionTable := #[], attributes := #[] }
def k12m1 : Method := { name := "requireNonNull", desc := "(Ljava/lang/Object;)Ljava/lang/Object;", sig := { parameters := [(.object "java/lang/Object")], returnType := some (.object "java/lang/Object") }, accessFlags := 9, code := some k12c1 }
/-- java/util/Objects -/
def k12 : Class := { plain "java/util/Objects" (some 0) with
  accessFlags := 49
  interfaces := #[]
  cf := some (fileOf pool12 42 #[] #[{ accessFlags := 2, nameIndex := 5, descriptorIndex := 6, attributes := #[] }, { accessFlags := 9, nameIndex := 45, descriptorIndex := 46, attributes := #[] }] 49 2 #[] #[])
  fields := #[]
  methods := #[k12m0, k12m1]
  instanceTypes := #[]
  staticTypes := #[]
  resolved := Array.replicate 184 none
  statics := none }

def pool13 : Array CpInfo := pool [(18, .class_ 20), (1, u "java/nio/charset/Charset"), (0, u "cache1"), (0, u "[Ljava/lang/Object;"), (2, u "cache2"), (0, .class_ 27), (0, u "java/lang/Object"), (0, .class_ 29), (0, u "java/nio/charset/Charset$1"), (4, .class_ 36), (1, u "java/nio/charset/Charset$ThreadTrackHolder"), (21, .class_ 59), (0, u "java/nio/charset/Charset$2"), (11, .class_ 73), (1, u "java/nio/charset/Charset$ExtendedProviderHolder"), (22, u "standardProvider"), (0, u "Ljava/nio/charset/spi/CharsetProvider;"), (29, u "name"), (7, .class_ 136), (0, u "java/nio/charset/Charset$3"), (5, u "defaultCharset"), (0, u "Ljava/nio/charset/Charset;"), (14, u "zeroAliases"), (0, u "[Ljava/lang/String;"), (29, u "Ljava/lang/String;"), (2, u "aliases"), (2, u "aliasSet"), (0, u "Ljava/util/Set;"), (82, .class_ 280), (0, u "java/lang/Comparable"), (84, .class_ 366), (0, u "java/nio/charset/Charset$ExtendedProviderHolder$1")] 3

/-- java/nio/charset/Charset -/
def k13 : Class := { plain "java/nio/charset/Charset" (some 0) with
  accessFlags := 1057
  interfaces := #[3]
  cf := some (fileOf pool13 18 #[.nestMembers #[71, 365, 34, 135, 58, 28]] #[] 1057 26 #[279] #[{ accessFlags := 26, nameIndex := 96, descriptorIndex := 97, attributes := #[] }, { accessFlags := 26, nameIndex := 158, descriptorIndex := 159, attributes := #[] }, { accessFlags := 74, nameIndex := 21, descriptorIndex := 22, attributes := #[] }, { accessFlags := 74, nameIndex := 25, descriptorIndex := 22, attributes := #[] }, { accessFlags := 10, nameIndex := 142, descriptorIndex := 143, attributes := #[] }, { accessFlags := 18, nameIndex := 127, descriptorIndex := 189, attributes := #[] }, { accessFlags := 18, nameIndex := 192, descriptorIndex := 159, attributes := #[] }, { accessFlags := 2, nameIndex := 195, descriptorIndex := 196, attributes := #[] }])
  fields := #[{ name := "standardProvider", type := (.object "java/nio/charset/spi/CharsetProvider"), accessFlags := 26, slot := 0, constantValue := 0 }, { name := "zeroAliases", type := (.array (.object "java/lang/String")), accessFlags := 26, slot := 1, constantValue := 0 }, { name := "cache1", type := (.array (.object "java/lang/Object")), accessFlags := 74, slot := 2, constantValue := 0 }, { name := "cache2", type := (.array (.object "java/lang/Object")), accessFlags := 74, slot := 3, constantValue := 0 }, { name := "defaultCharset", type := (.object "java/nio/charset/Charset"), accessFlags := 10, slot := 4, constantValue := 0 }, { name := "name", type := (.object "java/lang/String"), accessFlags := 18, slot := 0, constantValue := 0 }, { name := "aliases", type := (.array (.object "java/lang/String")), accessFlags := 18, slot := 1, constantValue := 0 }, { name := "aliasSet", type := (.object "java/util/Set"), accessFlags := 2, slot := 2, constantValue := 0 }]
  methods := #[]
  instanceTypes := #[(.object "java/lang/String"), (.array (.object "java/lang/String")), (.object "java/util/Set")]
  staticTypes := #[(.object "java/nio/charset/spi/CharsetProvider"), (.array (.object "java/lang/String")), (.array (.object "java/lang/Object")), (.array (.object "java/lang/Object")), (.object "java/nio/charset/Charset")]
  resolved := Array.replicate 370 none
  statics := none }

def pool14 : Array CpInfo := pool [(1, .class_ 2), (0, u "sun/nio/cs/HistoricallyNamedCharset"), (0, .class_ 4), (0, u "java/lang/Object")] 4

/-- sun/nio/cs/HistoricallyNamedCharset -/
def k14 : Class := { plain "sun/nio/cs/HistoricallyNamedCharset" (some 0) with
  accessFlags := 1537
  interfaces := #[]
  cf := some (fileOf pool14 1 #[] #[] 1537 3 #[] #[])
  fields := #[]
  methods := #[]
  instanceTypes := #[]
  staticTypes := #[]
  resolved := Array.replicate 9 none
  statics := none }

def pool15 : Array CpInfo := pool [(10, .class_ 12), (1, u "java/nio/charset/Charset"), (0, u "<init>"), (5, .class_ 20), (0, u "sun/nio/cs/ISO_8859_1"), (0, .class_ 22), (0, u "sun/nio/cs/ISO_8859_1$Decoder"), (3, .class_ 27), (0, u "sun/nio/cs/ISO_8859_1$Encoder"), (3, u "()V"), (2, u "INSTANCE"), (0, u "Lsun/nio/cs/ISO_8859_1;"), (0, .class_ 37), (0, u "sun/nio/cs/HistoricallyNamedCharset")] 22

def k15m0 : Method := { name := "<init>", desc := "()V", sig := { parameters := [], returnType := none }, accessFlags := 1, code := none }
/-- sun/nio/cs/ISO_8859_1 -/
def k15 : Class := { plain "sun/nio/cs/ISO_8859_1" (some 13) with
  accessFlags := 33
  interfaces := #[14]
  cf := some (fileOf pool15 19 #[.nestMembers #[26, 21]] #[{ accessFlags := 1, nameIndex := 13, descriptorIndex := 31, attributes := #[] }] 33 10 #[36] #[{ accessFlags := 25, nameIndex := 34, descriptorIndex := 35, attributes := #[] }])
  fields := #[{ name := "INSTANCE", type := (.object "sun/nio/cs/ISO_8859_1"), accessFlags := 25, slot := 0, constantValue := 0 }]
  methods := #[k15m0]
  instanceTypes := #[(.object "java/lang/String"), (.array (.object "java/lang/String")), (.object "java/util/Set")]
  staticTypes := #[(.object "sun/nio/cs/ISO_8859_1")]
  resolved := Array.replicate 60 none
  statics := some 4 }

def pool16 : Array CpInfo := pool [(2, .class_ 4), (1, u "java/nio/charset/Charset"), (130, .class_ 136), (0, u "sun/nio/cs/Unicode"), (0, .class_ 138), (0, u "sun/nio/cs/HistoricallyNamedCharset")] 15

/-- sun/nio/cs/Unicode -/
def k16 : Class := { plain "sun/nio/cs/Unicode" (some 13) with
  accessFlags := 1056
  interfaces := #[14]
  cf := some (fileOf pool16 135 #[] #[] 1056 2 #[137] #[])
  fields := #[]
  methods := #[]
  instanceTypes := #[(.object "java/lang/String"), (.array (.object "java/lang/String")), (.object "java/util/Set")]
  staticTypes := #[]
  resolved := Array.replicate 154 none
  statics := none }

def pool17 : Array CpInfo := pool [(10, .class_ 12), (1, u "sun/nio/cs/Unicode"), (0, u "<init>"), (3, .class_ 18), (0, u "sun/nio/cs/UTF_8$Decoder"), (3, .class_ 23), (0, u "sun/nio/cs/UTF_8$Encoder"), (15, .class_ 40), (0, u "sun/nio/cs/UTF_8"), (2, u "()V"), (2, u "INSTANCE"), (0, u "Lsun/nio/cs/UTF_8;"), (8, u "JLA"), (0, u "Ljdk/internal/access/JavaLangAccess;")] 26

def k17m0 : Method := { name := "<init>", desc := "()V", sig := { parameters := [], returnType := none }, accessFlags := 1, code := none }
/-- sun/nio/cs/UTF_8 -/
def k17 : Class := { plain "sun/nio/cs/UTF_8" (some 16) with
  accessFlags := 49
  interfaces := #[]
  cf := some (fileOf pool17 39 #[.nestMembers #[22, 17]] #[{ accessFlags := 1, nameIndex := 13, descriptorIndex := 43, attributes := #[] }] 49 10 #[] #[{ accessFlags := 25, nameIndex := 46, descriptorIndex := 47, attributes := #[] }, { accessFlags := 26, nameIndex := 56, descriptorIndex := 57, attributes := #[] }])
  fields := #[{ name := "INSTANCE", type := (.object "sun/nio/cs/UTF_8"), accessFlags := 25, slot := 0, constantValue := 0 }, { name := "JLA", type := (.object "jdk/internal/access/JavaLangAccess"), accessFlags := 26, slot := 1, constantValue := 0 }]
  methods := #[k17m0]
  instanceTypes := #[(.object "java/lang/String"), (.array (.object "java/lang/String")), (.object "java/util/Set")]
  staticTypes := #[(.object "sun/nio/cs/UTF_8"), (.object "jdk/internal/access/JavaLangAccess")]
  resolved := Array.replicate 84 none
  statics := some 5 }

def pool18 : Array CpInfo := pool [(2, .class_ 4), (1, u "java/lang/Object"), (0, u "<init>"), (0, u "()V"), (7, .class_ 16), (1, u "java/util/Arrays"), (57, .class_ 76), (1, u "java/util/Arrays$NaturalOrder"), (36, .class_ 115), (1, u "java/util/Arrays$LegacyMergeSort"), (1, u "Z"), (21, u "copyOfRange"), (10, .methodref 151 152), (0, .class_ 153), (0, .nameAndType 154 155), (0, u "java/lang/System"), (0, u "arraycopy"), (0, u "(Ljava/lang/Object;ILjava/lang/Object;II)V"), (148, .methodref 305 306), (0, .class_ 307), (0, .nameAndType 308 309), (0, u "java/lang/Math"), (0, u "min"), (0, u "(II)I"), (29, .methodref 14 340), (0, .nameAndType 341 342), (0, u "copyOfRangeByte"), (0, u "([BII)[B"), (0, .methodref 14 344), (0, .nameAndType 345 346), (0, u "checkLength"), (0, u "(II)V"), (28, .class_ 376), (0, u "java/util/Arrays$ArrayList"), (68, u "$assertionsDisabled"), (269, u "MIN_ARRAY_SORT_GRAN"), (0, u "I"), (2, u "INSERTIONSORT_THRESHOLD"), (255, .class_ 976), (0, u "java/util/Arrays$ArrayItr")] 52

def k18m0 : Method := { name := "<init>", desc := "()V", sig := { parameters := [], returnType := none }, accessFlags := 2, code := none }
def k18c1 : Code := { maxStack := 4, maxLocals := 2, code := jdk_65_method_131_code, exceptionTable := #[], attributes := #[] }
def k18m1 : Method := { name := "checkLength", desc := "(II)V", sig := { parameters := [.int, .int], returnType := none }, accessFlags := 10, code := some k18c1 }
def k18c2 : Code := { maxStack := 3, maxLocals := 3, code := jdk_65_method_132_code, exceptionTable := #[], attributes := #[] }
def k18m2 : Method := { name := "copyOfRange", desc := "([BII)[B", sig := { parameters := [(.array .byte), .int, .int], returnType := some (.array .byte) }, accessFlags := 9, code := some k18c2 }
def k18c3 : Code := { maxStack := 6, maxLocals := 5, code := jdk_65_method_133_code, exceptionTable := #[], attributes := #[] }
def k18m3 : Method := { name := "copyOfRangeByte", desc := "([BII)[B", sig := { parameters := [(.array .byte), .int, .int], returnType := some (.array .byte) }, accessFlags := 10, code := some k18c3 }
/-- java/util/Arrays -/
def k18 : Class := { plain "java/util/Arrays" (some 0) with
  accessFlags := 49
  interfaces := #[]
  cf := some (fileOf pool18 14 #[.nestMembers #[975, 375, 113, 74]] #[{ accessFlags := 2, nameIndex := 5, descriptorIndex := 6, attributes := #[] }, { accessFlags := 10, nameIndex := 345, descriptorIndex := 346, attributes := #[] }, { accessFlags := 9, nameIndex := 139, descriptorIndex := 342, attributes := #[] }, { accessFlags := 10, nameIndex := 341, descriptorIndex := 342, attributes := #[] }] 49 2 #[] #[{ accessFlags := 26, nameIndex := 715, descriptorIndex := 716, attributes := #[] }, { accessFlags := 26, nameIndex := 719, descriptorIndex := 716, attributes := #[] }, { accessFlags := 4120, nameIndex := 445, descriptorIndex := 117, attributes := #[] }])
  fields := #[{ name := "MIN_ARRAY_SORT_GRAN", type := .int, accessFlags := 26, slot := 0, constantValue := 0 }, { name := "INSERTIONSORT_THRESHOLD", type := .int, accessFlags := 26, slot := 1, constantValue := 0 }, { name := "$assertionsDisabled", type := .boolean, accessFlags := 4120, slot := 2, constantValue := 0 }]
  methods := #[k18m0, k18m1, k18m2, k18m3]
  instanceTypes := #[]
  staticTypes := #[.int, .int, .boolean]
  resolved := Array.replicate 1029 none
  statics := none }

def pool19 : Array CpInfo := pool [(1, .class_ 2), (0, u "java/lang/Math"), (1, .class_ 6), (1, u "java/lang/Object"), (0, u "<init>"), (0, u "()V"), (89, .class_ 100), (1, u "java/lang/Math$RandomNumberGeneratorHolder"), (71, u "negativeZeroFloatBits"), (0, u "J"), (2, u "negativeZeroDoubleBits"), (24, u "min"), (43, u "$assertionsDisabled"), (0, u "Z"), (88, u "(II)I"), (2, u "twoToTheDoubleScaleDown"), (0, u "D"), (4, u "twoToTheDoubleScaleUp"), (9, u "E"), (3, u "PI"), (2, u "TAU"), (2, u "DEGREES_TO_RADIANS"), (0, u "RADIANS_TO_DEGREES")] 94

def k19m0 : Method := { name := "<init>", desc := "()V", sig := { parameters := [], returnType := none }, accessFlags := 2, code := none }
def k19c1 : Code := { maxStack := 2, maxLocals := 2, code := jdk_29_method_69_code, exceptionTable := #[], attributes := #[] }
def k19m1 : Method := { name := "min", desc := "(II)I", sig := { parameters := [.int, .int], returnType := some .int }, accessFlags := 9, code := some k19c1 }
/-- java/lang/Math -/
def k19 : Class := { plain "java/lang/Math" (some 0) with
  accessFlags := 49
  interfaces := #[]
  cf := some (fileOf pool19 1 #[.nestMembers #[98]] #[{ accessFlags := 2, nameIndex := 7, descriptorIndex := 8, attributes := #[] }, { accessFlags := 9, nameIndex := 201, descriptorIndex := 335, attributes := #[] }] 49 4 #[] #[{ accessFlags := 25, nameIndex := 354, descriptorIndex := 339, attributes := #[] }, { accessFlags := 25, nameIndex := 358, descriptorIndex := 339, attributes := #[] }, { accessFlags := 25, nameIndex := 361, descriptorIndex := 339, attributes := #[] }, { accessFlags := 26, nameIndex := 364, descriptorIndex := 339, attributes := #[] }, { accessFlags := 26, nameIndex := 365, descriptorIndex := 339, attributes := #[] }, { accessFlags := 26, nameIndex := 172, descriptorIndex := 173, attributes := #[] }, { accessFlags := 26, nameIndex := 176, descriptorIndex := 173, attributes := #[] }, { accessFlags := 8, nameIndex := 344, descriptorIndex := 339, attributes := #[] }, { accessFlags := 8, nameIndex := 338, descriptorIndex := 339, attributes := #[] }, { accessFlags := 4120, nameIndex := 245, descriptorIndex := 246, attributes := #[] }])
  fields := #[{ name := "E", type := .double, accessFlags := 25, slot := 0, constantValue := 0 }, { name := "PI", type := .double, accessFlags := 25, slot := 1, constantValue := 0 }, { name := "TAU", type := .double, accessFlags := 25, slot := 2, constantValue := 0 }, { name := "DEGREES_TO_RADIANS", type := .double, accessFlags := 26, slot := 3, constantValue := 0 }, { name := "RADIANS_TO_DEGREES", type := .double, accessFlags := 26, slot := 4, constantValue := 0 }, { name := "negativeZeroFloatBits", type := .long, accessFlags := 26, slot := 5, constantValue := 0 }, { name := "negativeZeroDoubleBits", type := .long, accessFlags := 26, slot := 6, constantValue := 0 }, { name := "twoToTheDoubleScaleUp", type := .double, accessFlags := 8, slot := 7, constantValue := 0 }, { name := "twoToTheDoubleScaleDown", type := .double, accessFlags := 8, slot := 8, constantValue := 0 }, { name := "$assertionsDisabled", type := .boolean, accessFlags := 4120, slot := 9, constantValue := 0 }]
  methods := #[k19m0, k19m1]
  instanceTypes := #[]
  staticTypes := #[.double, .double, .double, .double, .double, .long, .long, .double, .double, .boolean]
  resolved := Array.replicate 460 none
  statics := none }

def pool20 : Array CpInfo := pool [(2, .class_ 4), (1, u "java/lang/Object"), (0, u "<init>"), (0, u "()V"), (1, .class_ 10), (1, u "java/lang/System"), (0, u "allowSecurityManager"), (0, u "I"), (16, u "cons"), (0, u "Ljava/io/Console;"), (77, .class_ 110), (1, u "java/lang/System$CallersHolder"), (43, u "initialErrStream"), (0, u "Ljava/io/PrintStream;"), (19, u "security"), (0, u "Ljava/lang/SecurityManager;"), (31, .class_ 209), (0, u "java/lang/System$1"), (7, u "props"), (0, u "Ljava/util/Properties;"), (2, u "lineSeparator"), (0, u "Ljava/lang/String;"), (96, .class_ 321), (1, u "java/lang/System$LoggerFinder"), (5, .class_ 328), (0, u "java/lang/System$Logger"), (67, u "err"), (2, u "out"), (91, u "notSupportedJnuEncoding"), (15, u "in"), (17, u "initialIn"), (0, u "Ljava/io/InputStream;"), (35, u "bootLayer"), (0, u "Ljava/lang/ModuleLayer;"), (99, .class_ 664), (0, u "java/lang/System$2"), (9, u "NEVER"), (2, u "MAYBE"), (49, u "arraycopy"), (0, u "(Ljava/lang/Object;ILjava/lang/Object;II)V"), (72, .class_ 802), (0, u "java/lang/System$Logger$Level")] 31

def k20m0 : Method := { name := "<init>", desc := "()V", sig := { parameters := [], returnType := none }, accessFlags := 2, code := none }
def k20m1 : Method := { name := "arraycopy", desc := "(Ljava/lang/Object;ILjava/lang/Object;II)V", sig := { parameters := [(.object "java/lang/Object"), .int, (.object "java/lang/Object"), .int, .int], returnType := none }, accessFlags := 265, code := none }
/-- java/lang/System -/
def k20 : Class := { plain "java/lang/System" (some 0) with
  accessFlags := 49
  interfaces := #[]
  cf := some (fileOf pool20 8 #[.nestMembers #[319, 327, 801, 108, 663, 208]] #[{ accessFlags := 2, nameIndex := 5, descriptorIndex := 6, attributes := #[] }, { accessFlags := 265, nameIndex := 727, descriptorIndex := 728, attributes := #[] }] 49 2 #[] #[{ accessFlags := 25, nameIndex := 507, descriptorIndex := 526, attributes := #[] }, { accessFlags := 25, nameIndex := 399, descriptorIndex := 155, attributes := #[] }, { accessFlags := 25, nameIndex := 396, descriptorIndex := 155, attributes := #[] }, { accessFlags := 10, nameIndex := 525, descriptorIndex := 526, attributes := #[] }, { accessFlags := 26, nameIndex := 674, descriptorIndex := 12, attributes := #[] }, { accessFlags := 26, nameIndex := 677, descriptorIndex := 12, attributes := #[] }, { accessFlags := 10, nameIndex := 11, descriptorIndex := 12, attributes := #[] }, { accessFlags := 74, nameIndex := 175, descriptorIndex := 176, attributes := #[] }, { accessFlags := 10, nameIndex := 491, descriptorIndex := 222, attributes := #[] }, { accessFlags := 74, nameIndex := 29, descriptorIndex := 30, attributes := #[] }, { accessFlags := 74, nameIndex := 154, descriptorIndex := 155, attributes := #[] }, { accessFlags := 10, nameIndex := 217, descriptorIndex := 218, attributes := #[] }, { accessFlags := 10, nameIndex := 221, descriptorIndex := 222, attributes := #[] }, { accessFlags := 8, nameIndex := 562, descriptorIndex := 563, attributes := #[] }])
  fields := #[{ name := "in", type := (.object "java/io/InputStream"), accessFlags := 25, slot := 0, constantValue := 0 }, { name := "out", type := (.object "java/io/PrintStream"), accessFlags := 25, slot := 1, constantValue := 0 }, { name := "err", type := (.object "java/io/PrintStream"), accessFlags := 25, slot := 2, constantValue := 0 }, { name := "initialIn", type := (.object "java/io/InputStream"), accessFlags := 10, slot := 3, constantValue := 0 }, { name := "NEVER", type := .int, accessFlags := 26, slot := 4, constantValue := 0 }, { name := "MAYBE", type := .int, accessFlags := 26, slot := 5, constantValue := 0 }, { name := "allowSecurityManager", type := .int, accessFlags := 10, slot := 6, constantValue := 0 }, { name := "security", type := (.object "java/lang/SecurityManager"), accessFlags := 74, slot := 7, constantValue := 0 }, { name := "notSupportedJnuEncoding", type := (.object "java/lang/String"), accessFlags := 10, slot := 8, constantValue := 0 }, { name := "cons", type := (.object "java/io/Console"), accessFlags := 74, slot := 9, constantValue := 0 }, { name := "initialErrStream", type := (.object "java/io/PrintStream"), accessFlags := 74, slot := 10, constantValue := 0 }, { name := "props", type := (.object "java/util/Properties"), accessFlags := 10, slot := 11, constantValue := 0 }, { name := "lineSeparator", type := (.object "java/lang/String"), accessFlags := 10, slot := 12, constantValue := 0 }, { name := "bootLayer", type := (.object "java/lang/ModuleLayer"), accessFlags := 8, slot := 13, constantValue := 0 }]
  methods := #[k20m0, k20m1]
  instanceTypes := #[]
  staticTypes := #[(.object "java/io/InputStream"), (.object "java/io/PrintStream"), (.object "java/io/PrintStream"), (.object "java/io/InputStream"), .int, .int, .int, (.object "java/lang/SecurityManager"), (.object "java/lang/String"), (.object "java/io/Console"), (.object "java/io/PrintStream"), (.object "java/util/Properties"), (.object "java/lang/String"), (.object "java/lang/ModuleLayer")]
  resolved := Array.replicate 834 none
  statics := none }

def pool21 : Array CpInfo := pool [(9, u "<init>"), (6, .class_ 18), (1, u "java/lang/Object"), (0, u "()V"), (1, .class_ 23), (1, u "jdk/internal/util/ArraysSupport"), (0, u "LOG2_ARRAY_LONG_INDEX_SCALE"), (0, u "I"), (2, u "U"), (0, u "Ljdk/internal/misc/Unsafe;"), (8, u "BIG_ENDIAN"), (0, u "Z"), (8, u "LOG2_BYTE_BIT_SIZE"), (4, u "LOG2_ARRAY_INT_INDEX_SCALE"), (54, u "JLA"), (0, u "Ljdk/internal/access/JavaLangAccess;"), (11, u "LOG2_ARRAY_BOOLEAN_INDEX_SCALE"), (9, u "LOG2_ARRAY_BYTE_INDEX_SCALE"), (5, u "LOG2_ARRAY_CHAR_INDEX_SCALE"), (5, u "LOG2_ARRAY_SHORT_INDEX_SCALE"), (18, u "LOG2_ARRAY_FLOAT_INDEX_SCALE"), (24, u "LOG2_ARRAY_DOUBLE_INDEX_SCALE"), (89, u "T_BOOLEAN"), (2, u "T_CHAR"), (1, u "T_FLOAT"), (1, u "T_DOUBLE"), (1, u "T_BYTE"), (1, u "T_SHORT"), (1, u "T_INT"), (1, u "T_LONG"), (1, u "SOFT_MAX_ARRAY_LENGTH")] 83

def k21m0 : Method := { name := "<init>", desc := "()V", sig := { parameters := [], returnType := none }, accessFlags := 2, code := none }
/-- jdk/internal/util/ArraysSupport -/
def k21 : Class := { plain "jdk/internal/util/ArraysSupport" (some 0) with
  accessFlags := 33
  interfaces := #[]
  cf := some (fileOf pool21 21 #[] #[{ accessFlags := 2, nameIndex := 9, descriptorIndex := 19, attributes := #[] }] 33 16 #[] #[{ accessFlags := 24, nameIndex := 28, descriptorIndex := 29, attributes := #[] }, { accessFlags := 26, nameIndex := 38, descriptorIndex := 39, attributes := #[] }, { accessFlags := 25, nameIndex := 121, descriptorIndex := 25, attributes := #[] }, { accessFlags := 25, nameIndex := 131, descriptorIndex := 25, attributes := #[] }, { accessFlags := 25, nameIndex := 137, descriptorIndex := 25, attributes := #[] }, { accessFlags := 25, nameIndex := 143, descriptorIndex := 25, attributes := #[] }, { accessFlags := 25, nameIndex := 53, descriptorIndex := 25, attributes := #[] }, { accessFlags := 25, nameIndex := 24, descriptorIndex := 25, attributes := #[] }, { accessFlags := 25, nameIndex := 162, descriptorIndex := 25, attributes := #[] }, { accessFlags := 25, nameIndex := 187, descriptorIndex := 25, attributes := #[] }, { accessFlags := 26, nameIndex := 48, descriptorIndex := 25, attributes := #[] }, { accessFlags := 25, nameIndex := 277, descriptorIndex := 25, attributes := #[] }, { accessFlags := 25, nameIndex := 280, descriptorIndex := 25, attributes := #[] }, { accessFlags := 25, nameIndex := 282, descriptorIndex := 25, attributes := #[] }, { accessFlags := 25, nameIndex := 284, descriptorIndex := 25, attributes := #[] }, { accessFlags := 25, nameIndex := 286, descriptorIndex := 25, attributes := #[] }, { accessFlags := 25, nameIndex := 288, descriptorIndex := 25, attributes := #[] }, { accessFlags := 25, nameIndex := 290, descriptorIndex := 25, attributes := #[] }, { accessFlags := 25, nameIndex := 292, descriptorIndex := 25, attributes := #[] }, { accessFlags := 26, nameIndex := 108, descriptorIndex := 109, attributes := #[] }, { accessFlags := 25, nameIndex := 294, descriptorIndex := 25, attributes := #[] }])
  fields := #[{ name := "U", type := (.object "jdk/internal/misc/Unsafe"), accessFlags := 24, slot := 0, constantValue := 0 }, { name := "BIG_ENDIAN", type := .boolean, accessFlags := 26, slot := 1, constantValue := 0 }, { name := "LOG2_ARRAY_BOOLEAN_INDEX_SCALE", type := .int, accessFlags := 25, slot := 2, constantValue := 0 }, { name := "LOG2_ARRAY_BYTE_INDEX_SCALE", type := .int, accessFlags := 25, slot := 3, constantValue := 0 }, { name := "LOG2_ARRAY_CHAR_INDEX_SCALE", type := .int, accessFlags := 25, slot := 4, constantValue := 0 }, { name := "LOG2_ARRAY_SHORT_INDEX_SCALE", type := .int, accessFlags := 25, slot := 5, constantValue := 0 }, { name := "LOG2_ARRAY_INT_INDEX_SCALE", type := .int, accessFlags := 25, slot := 6, constantValue := 0 }, { name := "LOG2_ARRAY_LONG_INDEX_SCALE", type := .int, accessFlags := 25, slot := 7, constantValue := 0 }, { name := "LOG2_ARRAY_FLOAT_INDEX_SCALE", type := .int, accessFlags := 25, slot := 8, constantValue := 0 }, { name := "LOG2_ARRAY_DOUBLE_INDEX_SCALE", type := .int, accessFlags := 25, slot := 9, constantValue := 0 }, { name := "LOG2_BYTE_BIT_SIZE", type := .int, accessFlags := 26, slot := 10, constantValue := 0 }, { name := "T_BOOLEAN", type := .int, accessFlags := 25, slot := 11, constantValue := 0 }, { name := "T_CHAR", type := .int, accessFlags := 25, slot := 12, constantValue := 0 }, { name := "T_FLOAT", type := .int, accessFlags := 25, slot := 13, constantValue := 0 }, { name := "T_DOUBLE", type := .int, accessFlags := 25, slot := 14, constantValue := 0 }, { name := "T_BYTE", type := .int, accessFlags := 25, slot := 15, constantValue := 0 }, { name := "T_SHORT", type := .int, accessFlags := 25, slot := 16, constantValue := 0 }, { name := "T_INT", type := .int, accessFlags := 25, slot := 17, constantValue := 0 }, { name := "T_LONG", type := .int, accessFlags := 25, slot := 18, constantValue := 0 }, { name := "JLA", type := (.object "jdk/internal/access/JavaLangAccess"), accessFlags := 26, slot := 19, constantValue := 0 }, { name := "SOFT_MAX_ARRAY_LENGTH", type := .int, accessFlags := 25, slot := 20, constantValue := 0 }]
  methods := #[k21m0]
  instanceTypes := #[]
  staticTypes := #[(.object "jdk/internal/misc/Unsafe"), .boolean, .int, .int, .int, .int, .int, .int, .int, .int, .int, .int, .int, .int, .int, .int, .int, .int, .int, (.object "jdk/internal/access/JavaLangAccess"), .int]
  resolved := Array.replicate 378 none
  statics := none }

def pool22 : Array CpInfo := pool [(1, u "java/lang/Cloneable"), (0, .class_ 1), (0, u "java/lang/Object"), (0, .class_ 3)] 3

/-- java/lang/Cloneable -/
def k22 : Class := { plain "java/lang/Cloneable" (some 0) with
  accessFlags := 1537
  interfaces := #[]
  cf := some (fileOf pool22 2 #[] #[] 1537 4 #[] #[])
  fields := #[]
  methods := #[]
  instanceTypes := #[]
  staticTypes := #[]
  resolved := Array.replicate 8 none
  statics := none }

/-- the primitive byte -/
def k23 : Class := { plain "byte" none with kind := .primitive 'B', accessFlags := 0x411 }
/-- [B -/
def k24 : Class := { plain "[B" (some 0) with kind := .array 23 .byte, interfaces := #[22, 2], accessFlags := 1041 }

/-- the primitive int -/
def k25 : Class := { plain "int" none with kind := .primitive 'I', accessFlags := 0x411 }
/-- [I -/
def k26 : Class := { plain "[I" (some 0) with kind := .array 25 .int, interfaces := #[22, 2], accessFlags := 1041 }

def heap : Heap := #[{ cls := 7, slots := #[.long 0, .int 1, .null, .int 0, .null, .int 0, .int 0], vm := .statics 7 },
  { cls := 9, slots := #[.null, .null, .null], vm := .statics 9 },
  { cls := 10, slots := #[.ref 6, .int 0, .int 0, .null], vm := .statics 10 },
  { cls := 11, slots := #[.null, .ref 7, .null, .null, .null, .null], vm := .statics 11 },
  { cls := 15, slots := #[.ref 7], vm := .statics 15 },
  { cls := 17, slots := #[.ref 8, .null], vm := .statics 17 },
  { cls := 0, slots := #[], vm := .none },
  { cls := 15, slots := #[.null, .null, .null], vm := .none },
  { cls := 17, slots := #[.null, .null, .null], vm := .none }]
def classes : Array Class := #[k0, k1, k2, k3, k4, k5, k6, k7, k8, k9, k10, k11, k12, k13, k14, k15, k16, k17, k18, k19, k20, k21, k22, k23, k24, k25, k26]
def interned : List (Array UInt16 × Addr) := []
def slotsUsed : Nat := 29
def theMethod : MethodId := ⟨1, 3⟩
def args0 : Array Value := #[.int 1, .int 2, .int 3, .int 4]
def aboutOver (below : List Frame) : State where
  vm := { classes := classes, interned := interned.toArray }
  heap := heap
  slotsUsed := slotsUsed
  threads := #[{ frames := .invoking theMethod args0 :: below }]
def below0 : List Frame := [.native { method := ⟨0, 0⟩, args := #[] }]
def about1 : State := aboutOver below0
def p0 : Program := .bare "" "" ""
def e0 : Env := launch0.env 0 0 0
theorem w_frames : about1.frames = Frame.invoking theMethod args0 :: below0 := rfl
set_option maxRecDepth 65536 in
theorem w_args : argsFit about1.vm theMethod args0 = true := by decide +kernel
set_option maxRecDepth 65536 in
theorem w_heap : heapFits about1 = true := by decide +kernel
set_option maxRecDepth 65536 in
theorem w_runnable : about1.curStatus? = some .runnable := by decide +kernel
set_option maxRecDepth 65536 in
theorem w_alone : about1.alone = true := by decide +kernel
set_option maxRecDepth 65536 in
theorem w_named : about1.methodNamed? x = some theMethod := by decide +kernel
set_option maxRecDepth 65536 in
theorem w_hears : about1.hears theMethod below0 = true := by decide +kernel
set_option maxRecDepth 65536 in
theorem w_ripe : about1.ripe theMethod args0 below0 = true := by decide +kernel
theorem w_running : about1.status = .running := rfl
set_option maxRecDepth 65536 in
theorem w_room : about1.hasRoom e0.platform room_1 = true :=
  launch0.hasRoom_least _ room_1 (by decide +kernel) (by decide +kernel) (by decide +kernel) (by decide +kernel) (by decide +kernel) (by decide +kernel)
theorem allAtoms_all (ts : List Jvm.Cond) (a : Array Jvm.Value) (st : Jvm.State) : (allAtoms ts).before a st = ts.all (fun c => c.before a st) := by
  induction ts with
  | nil => rfl
  | cons c t ih =>
    show (Jvm.Cond.and c (allAtoms t)).before a st = _
    rw [Jvm.Cond.before_and, ih, List.all_cons]
def words1 : List Jvm.Cond := Jvm.Cond.code x code maxLocals ret :: tables_1
/-- a 'code' word, met by the world's own term for the bytes: nothing is compared byte by byte -/
theorem code_word {y : MethodName} {bytes : ByteArray} {mx : Nat} {rt : Option FieldType} {a : Array Value} {s : State} {m : MethodId} {meth : Method} {c : Code} (h1 : s.methodNamed? y = some m) (h2 : s.vm.method? m = some meth) (h3 : meth.code = some c) (h4 : c.code = bytes)
    (h5 : (c.maxLocals == mx && c.exceptionTable.isEmpty && decide (c.maxStack ≤ mostOperands) && decide (meth.sig.returnType = rt) && !meth.locks && decide (parseMethodDescriptor y.desc = some meth.sig)) = true) : (Jvm.Cond.code y bytes mx rt).before a s = true := by
  simp only [Bool.and_eq_true, beq_iff_eq, Bool.not_eq_true', decide_eq_true_eq] at h5
  obtain ⟨⟨⟨⟨⟨g1, g2⟩, g3⟩, g4⟩, g5⟩, g6⟩ := h5
  simp [Cond.before, Cond.holds, Cond.value, h1, h2, h3, h4, g1, g2, g3, g4, g5, g6]
def isCode : Jvm.Cond → Bool
  | .code _ _ _ _ => true
  | .codeWith _ _ _ _ _ => true
  | _ => false
theorem all_split {L : List Jvm.Cond} {P : Jvm.Cond → Bool} (h1 : L.all (fun c => isCode c || P c) = true) (h2 : ∀ c ∈ L.filter isCode, P c = true) : L.all P = true := by
  refine List.all_eq_true.mpr fun c hc => ?_
  have h := List.all_eq_true.mp h1 c hc
  rcases Bool.eq_false_or_eq_true (isCode c) with hi | hi
  · exact h2 c (List.mem_filter.mpr ⟨hc, hi⟩)
  · simpa [hi] using h
set_option maxRecDepth 65536 in
theorem w_c0 : (Jvm.Cond.code x code maxLocals ret).before args0 about1 = true := code_word (m := ⟨1, 3⟩) (meth := k1m3) (c := k1c3) (by decide +kernel) rfl rfl rfl (by decide +kernel)
set_option maxRecDepth 65536 in
theorem w_c1 : (Jvm.Cond.code ({ cls := "com/example/benzer/benzer/cli/JsonReaderStartPinLaw", name := "prevByte", desc := "(II)B" } : Jvm.MethodName) method_3_code (2 : Nat) (Option.some Jvm.ClassFile.FieldType.byte)).before args0 about1 = true := code_word (m := ⟨1, 2⟩) (meth := k1m2) (c := k1c2) (by decide +kernel) rfl rfl rfl (by decide +kernel)
set_option maxRecDepth 65536 in
theorem w_c2 : (Jvm.Cond.code ({ cls := "java/lang/String", name := "charAt", desc := "(I)C" } : Jvm.MethodName) jdk_42_method_56_code (2 : Nat) (Option.some Jvm.ClassFile.FieldType.char)).before args0 about1 = true := code_word (m := ⟨7, 3⟩) (meth := k7m3) (c := k7c3) (by decide +kernel) rfl rfl rfl (by decide +kernel)
set_option maxRecDepth 65536 in
theorem w_c3 : (Jvm.Cond.code ({ cls := "java/lang/String", name := "isLatin1", desc := "()Z" } : Jvm.MethodName) jdk_42_method_154_code (1 : Nat) (Option.some Jvm.ClassFile.FieldType.boolean)).before args0 about1 = true := code_word (m := ⟨7, 5⟩) (meth := k7m5) (c := k7c5) (by decide +kernel) rfl rfl rfl (by decide +kernel)
set_option maxRecDepth 65536 in
theorem w_c4 : (Jvm.Cond.code ({ cls := "java/lang/StringLatin1", name := "charAt", desc := "([BI)C" } : Jvm.MethodName) jdk_43_method_2_code (2 : Nat) (Option.some Jvm.ClassFile.FieldType.char)).before args0 about1 = true := code_word (m := ⟨8, 1⟩) (meth := k8m1) (c := k8c1) (by decide +kernel) rfl rfl rfl (by decide +kernel)
set_option maxRecDepth 65536 in
theorem w_c5 : (Jvm.Cond.code ({ cls := "java/lang/String", name := "checkIndex", desc := "(II)V" } : Jvm.MethodName) jdk_42_method_155_code (2 : Nat) (Option.none : Option Jvm.ClassFile.FieldType)).before args0 about1 = true := code_word (m := ⟨7, 6⟩) (meth := k7m6) (c := k7c6) (by decide +kernel) rfl rfl rfl (by decide +kernel)
set_option maxRecDepth 65536 in
theorem w_c6 : (Jvm.Cond.code ({ cls := "jdk/internal/util/Preconditions", name := "checkIndex", desc := "(IILjava/util/function/BiFunction;)I" } : Jvm.MethodName) jdk_41_method_11_code (3 : Nat) (Option.some Jvm.ClassFile.FieldType.int)).before args0 about1 = true := code_word (m := ⟨9, 1⟩) (meth := k9m1) (c := k9c1) (by decide +kernel) rfl rfl rfl (by decide +kernel)
set_option maxRecDepth 65536 in
theorem w_c7 : (Jvm.Cond.code ({ cls := "com/example/benzer/benzer/cli/JsonReaderStartPinLaw", name := "nonSpace", desc := "(B)Z" } : Jvm.MethodName) method_2_code (1 : Nat) (Option.some Jvm.ClassFile.FieldType.boolean)).before args0 about1 = true := code_word (m := ⟨1, 1⟩) (meth := k1m1) (c := k1c1) (by decide +kernel) rfl rfl rfl (by decide +kernel)
set_option maxRecDepth 65536 in
theorem w_c8 : (Jvm.Cond.code ({ cls := "com/example/benzer/benzer/cli/JsonReader", name := "<init>", desc := "()V" } : Jvm.MethodName) prog_23_method_1_code (1 : Nat) (Option.none : Option Jvm.ClassFile.FieldType)).before args0 about1 = true := code_word (m := ⟨10, 0⟩) (meth := k10m0) (c := k10c0) (by decide +kernel) rfl rfl rfl (by decide +kernel)
set_option maxRecDepth 65536 in
theorem w_c9 : (Jvm.Cond.code ({ cls := "java/lang/Object", name := "<init>", desc := "()V" } : Jvm.MethodName) object_method_1_code (1 : Nat) (Option.none : Option Jvm.ClassFile.FieldType)).before args0 about1 = true := code_word (m := ⟨0, 0⟩) (meth := k0m0) (c := k0c0) (by decide +kernel) rfl rfl rfl (by decide +kernel)
set_option maxRecDepth 65536 in
theorem w_c10 : (Jvm.Cond.code ({ cls := "com/example/benzer/benzer/cli/JsonReader", name := "start", desc := "([BI)V" } : Jvm.MethodName) prog_23_method_2_code (3 : Nat) (Option.none : Option Jvm.ClassFile.FieldType)).before args0 about1 = true := code_word (m := ⟨10, 1⟩) (meth := k10m1) (c := k10c1) (by decide +kernel) rfl rfl rfl (by decide +kernel)
set_option maxRecDepth 65536 in
theorem w_c11 : (Jvm.Cond.code ({ cls := "com/example/benzer/benzer/cli/JsonReader", name := "hasMore", desc := "()Z" } : Jvm.MethodName) prog_23_method_3_code (1 : Nat) (Option.some Jvm.ClassFile.FieldType.boolean)).before args0 about1 = true := code_word (m := ⟨10, 2⟩) (meth := k10m2) (c := k10c2) (by decide +kernel) rfl rfl rfl (by decide +kernel)
set_option maxRecDepth 65536 in
theorem w_c12 : (Jvm.Cond.code ({ cls := "com/example/benzer/benzer/cli/JsonReader", name := "skipSpace", desc := "()V" } : Jvm.MethodName) prog_23_method_17_code (1 : Nat) (Option.none : Option Jvm.ClassFile.FieldType)).before args0 about1 = true := code_word (m := ⟨10, 5⟩) (meth := k10m5) (c := k10c5) (by decide +kernel) rfl rfl rfl (by decide +kernel)
set_option maxRecDepth 65536 in
theorem w_c13 : (Jvm.Cond.code ({ cls := "com/example/benzer/benzer/cli/JsonReader", name := "value", desc := "()Ljava/lang/Object;" } : Jvm.MethodName) prog_23_method_4_code (3 : Nat) (Option.some (Jvm.ClassFile.FieldType.object "java/lang/Object"))).before args0 about1 = true := code_word (m := ⟨10, 3⟩) (meth := k10m3) (c := k10c3) (by decide +kernel) rfl rfl rfl (by decide +kernel)
set_option maxRecDepth 65536 in
theorem w_c14 : (Jvm.Cond.code ({ cls := "com/example/benzer/benzer/cli/JsonReader", name := "isDigit", desc := "(B)Z" } : Jvm.MethodName) prog_23_method_19_code (1 : Nat) (Option.some Jvm.ClassFile.FieldType.boolean)).before args0 about1 = true := code_word (m := ⟨10, 6⟩) (meth := k10m6) (c := k10c6) (by decide +kernel) rfl rfl rfl (by decide +kernel)
set_option maxRecDepth 65536 in
theorem w_c15 : (Jvm.Cond.code ({ cls := "com/example/benzer/benzer/cli/JsonReader", name := "literal", desc := "()Ljava/lang/Object;" } : Jvm.MethodName) prog_23_method_16_code (5 : Nat) (Option.some (Jvm.ClassFile.FieldType.object "java/lang/Object"))).before args0 about1 = true := code_word (m := ⟨10, 4⟩) (meth := k10m4) (c := k10c4) (by decide +kernel) rfl rfl rfl (by decide +kernel)
set_option maxRecDepth 65536 in
theorem w_c16 : (Jvm.Cond.code ({ cls := "com/example/benzer/benzer/cli/JsonReader", name := "isWordChar", desc := "(B)Z" } : Jvm.MethodName) prog_23_method_20_code (1 : Nat) (Option.some Jvm.ClassFile.FieldType.boolean)).before args0 about1 = true := code_word (m := ⟨10, 7⟩) (meth := k10m7) (c := k10c7) (by decide +kernel) rfl rfl rfl (by decide +kernel)
set_option maxRecDepth 65536 in
theorem w_c17 : (Jvm.Cond.code ({ cls := "java/lang/String", name := "<init>", desc := "([BIILjava/nio/charset/Charset;)V" } : Jvm.MethodName) jdk_42_method_10_code (5 : Nat) (Option.none : Option Jvm.ClassFile.FieldType)).before args0 about1 = true := code_word (m := ⟨7, 1⟩) (meth := k7m1) (c := k7c1) (by decide +kernel) rfl rfl rfl (by decide +kernel)
set_option maxRecDepth 65536 in
theorem w_c18 : (Jvm.Cond.code ({ cls := "java/util/Objects", name := "requireNonNull", desc := "(Ljava/lang/Object;)Ljava/lang/Object;" } : Jvm.MethodName) jdk_31_method_10_code (1 : Nat) (Option.some (Jvm.ClassFile.FieldType.object "java/lang/Object"))).before args0 about1 = true := code_word (m := ⟨12, 1⟩) (meth := k12m1) (c := k12c1) (by decide +kernel) rfl rfl rfl (by decide +kernel)
set_option maxRecDepth 65536 in
theorem w_c19 : (Jvm.Cond.code ({ cls := "java/lang/String", name := "checkBoundsOffCount", desc := "(III)I" } : Jvm.MethodName) jdk_42_method_157_code (3 : Nat) (Option.some Jvm.ClassFile.FieldType.int)).before args0 about1 = true := code_word (m := ⟨7, 7⟩) (meth := k7m7) (c := k7c7) (by decide +kernel) rfl rfl rfl (by decide +kernel)
set_option maxRecDepth 65536 in
theorem w_c20 : (Jvm.Cond.code ({ cls := "jdk/internal/util/Preconditions", name := "checkFromIndexSize", desc := "(IIILjava/util/function/BiFunction;)I" } : Jvm.MethodName) jdk_41_method_13_code (4 : Nat) (Option.some Jvm.ClassFile.FieldType.int)).before args0 about1 = true := code_word (m := ⟨9, 2⟩) (meth := k9m2) (c := k9c2) (by decide +kernel) rfl rfl rfl (by decide +kernel)
set_option maxRecDepth 65536 in
theorem w_c21 : (Jvm.Cond.code ({ cls := "java/util/Arrays", name := "copyOfRange", desc := "([BII)[B" } : Jvm.MethodName) jdk_65_method_132_code (3 : Nat) (Option.some (Jvm.ClassFile.FieldType.array Jvm.ClassFile.FieldType.byte))).before args0 about1 = true := code_word (m := ⟨18, 2⟩) (meth := k18m2) (c := k18c2) (by decide +kernel) rfl rfl rfl (by decide +kernel)
set_option maxRecDepth 65536 in
theorem w_c22 : (Jvm.Cond.code ({ cls := "java/util/Arrays", name := "copyOfRangeByte", desc := "([BII)[B" } : Jvm.MethodName) jdk_65_method_133_code (5 : Nat) (Option.some (Jvm.ClassFile.FieldType.array Jvm.ClassFile.FieldType.byte))).before args0 about1 = true := code_word (m := ⟨18, 3⟩) (meth := k18m3) (c := k18c3) (by decide +kernel) rfl rfl rfl (by decide +kernel)
set_option maxRecDepth 65536 in
theorem w_c23 : (Jvm.Cond.code ({ cls := "java/util/Arrays", name := "checkLength", desc := "(II)V" } : Jvm.MethodName) jdk_65_method_131_code (2 : Nat) (Option.none : Option Jvm.ClassFile.FieldType)).before args0 about1 = true := code_word (m := ⟨18, 1⟩) (meth := k18m1) (c := k18c1) (by decide +kernel) rfl rfl rfl (by decide +kernel)
set_option maxRecDepth 65536 in
theorem w_c24 : (Jvm.Cond.code ({ cls := "java/lang/Math", name := "min", desc := "(II)I" } : Jvm.MethodName) jdk_29_method_69_code (2 : Nat) (Option.some Jvm.ClassFile.FieldType.int)).before args0 about1 = true := code_word (m := ⟨19, 1⟩) (meth := k19m1) (c := k19c1) (by decide +kernel) rfl rfl rfl (by decide +kernel)
set_option maxRecDepth 65536 in
theorem w_c25 : (Jvm.Cond.code ({ cls := "java/lang/String", name := "equals", desc := "(Ljava/lang/Object;)Z" } : Jvm.MethodName) jdk_42_method_66_code (3 : Nat) (Option.some Jvm.ClassFile.FieldType.boolean)).before args0 about1 = true := code_word (m := ⟨7, 4⟩) (meth := k7m4) (c := k7c4) (by decide +kernel) rfl rfl rfl (by decide +kernel)
set_option maxRecDepth 65536 in
theorem w_c26 : (Jvm.Cond.code ({ cls := "java/lang/StringLatin1", name := "equals", desc := "([B[B)Z" } : Jvm.MethodName) jdk_43_method_13_code (3 : Nat) (Option.some Jvm.ClassFile.FieldType.boolean)).before args0 about1 = true := code_word (m := ⟨8, 2⟩) (meth := k8m2) (c := k8c2) (by decide +kernel) rfl rfl rfl (by decide +kernel)
/-- likewise of a method with an exception table -/
theorem code_wordW {y : MethodName} {bytes : ByteArray} {mx : Nat} {rt : Option FieldType} {hs : List (Nat × Nat × Nat × Nat)} {a : Array Value} {s : State} {m : MethodId} {meth : Method} {c : Code} (h1 : s.methodNamed? y = some m) (h2 : s.vm.method? m = some meth) (h3 : meth.code = some c) (h4 : c.code = bytes)
    (h5 : (c.maxLocals == mx && decide (c.exceptionTable.toList.map (fun h => (h.startPc, h.endPc, h.handlerPc, h.catchType)) = hs) && decide (c.maxStack ≤ mostOperands) && decide (meth.sig.returnType = rt) && !meth.locks && decide (parseMethodDescriptor y.desc = some meth.sig)) = true) : (Jvm.Cond.codeWith y bytes mx rt hs).before a s = true := by
  simp only [Bool.and_eq_true, beq_iff_eq, Bool.not_eq_true', decide_eq_true_eq] at h5
  obtain ⟨⟨⟨⟨⟨g1, g2⟩, g3⟩, g4⟩, g5⟩, g6⟩ := h5
  simp [Cond.before, Cond.holds, Cond.value, h1, h2, h3, h4, g1, g2, g3, g4, g5, g6]
set_option maxRecDepth 65536 in
theorem w_cW : (Jvm.Cond.codeWith ({ cls := "java/lang/String", name := "<init>", desc := "(Ljava/nio/charset/Charset;[BII)V" } : Jvm.MethodName) jdk_42_method_11_code (11 : Nat) (Option.none : Option Jvm.ClassFile.FieldType) [((800 : Nat), (813 : Nat), (816 : Nat), (202 : Nat))]).before args0 about1 = true := code_wordW (m := ⟨7, 2⟩) (meth := k7m2) (c := k7c2) (by decide +kernel) rfl rfl rfl (by decide +kernel)
def codes1 : List Jvm.Cond := [Jvm.Cond.code x code maxLocals ret, Jvm.Cond.code ({ cls := "com/example/benzer/benzer/cli/JsonReaderStartPinLaw", name := "prevByte", desc := "(II)B" } : Jvm.MethodName) method_3_code (2 : Nat) (Option.some Jvm.ClassFile.FieldType.byte), Jvm.Cond.code ({ cls := "java/lang/String", name := "charAt", desc := "(I)C" } : Jvm.MethodName) jdk_42_method_56_code (2 : Nat) (Option.some Jvm.ClassFile.FieldType.char), Jvm.Cond.code ({ cls := "java/lang/String", name := "isLatin1", desc := "()Z" } : Jvm.MethodName) jdk_42_method_154_code (1 : Nat) (Option.some Jvm.ClassFile.FieldType.boolean), Jvm.Cond.code ({ cls := "java/lang/StringLatin1", name := "charAt", desc := "([BI)C" } : Jvm.MethodName) jdk_43_method_2_code (2 : Nat) (Option.some Jvm.ClassFile.FieldType.char), Jvm.Cond.code ({ cls := "java/lang/String", name := "checkIndex", desc := "(II)V" } : Jvm.MethodName) jdk_42_method_155_code (2 : Nat) (Option.none : Option Jvm.ClassFile.FieldType), Jvm.Cond.code ({ cls := "jdk/internal/util/Preconditions", name := "checkIndex", desc := "(IILjava/util/function/BiFunction;)I" } : Jvm.MethodName) jdk_41_method_11_code (3 : Nat) (Option.some Jvm.ClassFile.FieldType.int), Jvm.Cond.code ({ cls := "com/example/benzer/benzer/cli/JsonReaderStartPinLaw", name := "nonSpace", desc := "(B)Z" } : Jvm.MethodName) method_2_code (1 : Nat) (Option.some Jvm.ClassFile.FieldType.boolean), Jvm.Cond.code ({ cls := "com/example/benzer/benzer/cli/JsonReader", name := "<init>", desc := "()V" } : Jvm.MethodName) prog_23_method_1_code (1 : Nat) (Option.none : Option Jvm.ClassFile.FieldType), Jvm.Cond.code ({ cls := "java/lang/Object", name := "<init>", desc := "()V" } : Jvm.MethodName) object_method_1_code (1 : Nat) (Option.none : Option Jvm.ClassFile.FieldType), Jvm.Cond.code ({ cls := "com/example/benzer/benzer/cli/JsonReader", name := "start", desc := "([BI)V" } : Jvm.MethodName) prog_23_method_2_code (3 : Nat) (Option.none : Option Jvm.ClassFile.FieldType), Jvm.Cond.code ({ cls := "com/example/benzer/benzer/cli/JsonReader", name := "hasMore", desc := "()Z" } : Jvm.MethodName) prog_23_method_3_code (1 : Nat) (Option.some Jvm.ClassFile.FieldType.boolean), Jvm.Cond.code ({ cls := "com/example/benzer/benzer/cli/JsonReader", name := "skipSpace", desc := "()V" } : Jvm.MethodName) prog_23_method_17_code (1 : Nat) (Option.none : Option Jvm.ClassFile.FieldType), Jvm.Cond.code ({ cls := "com/example/benzer/benzer/cli/JsonReader", name := "value", desc := "()Ljava/lang/Object;" } : Jvm.MethodName) prog_23_method_4_code (3 : Nat) (Option.some (Jvm.ClassFile.FieldType.object "java/lang/Object")), Jvm.Cond.code ({ cls := "com/example/benzer/benzer/cli/JsonReader", name := "isDigit", desc := "(B)Z" } : Jvm.MethodName) prog_23_method_19_code (1 : Nat) (Option.some Jvm.ClassFile.FieldType.boolean), Jvm.Cond.code ({ cls := "com/example/benzer/benzer/cli/JsonReader", name := "literal", desc := "()Ljava/lang/Object;" } : Jvm.MethodName) prog_23_method_16_code (5 : Nat) (Option.some (Jvm.ClassFile.FieldType.object "java/lang/Object")), Jvm.Cond.code ({ cls := "com/example/benzer/benzer/cli/JsonReader", name := "isWordChar", desc := "(B)Z" } : Jvm.MethodName) prog_23_method_20_code (1 : Nat) (Option.some Jvm.ClassFile.FieldType.boolean), Jvm.Cond.code ({ cls := "java/lang/String", name := "<init>", desc := "([BIILjava/nio/charset/Charset;)V" } : Jvm.MethodName) jdk_42_method_10_code (5 : Nat) (Option.none : Option Jvm.ClassFile.FieldType), Jvm.Cond.code ({ cls := "java/util/Objects", name := "requireNonNull", desc := "(Ljava/lang/Object;)Ljava/lang/Object;" } : Jvm.MethodName) jdk_31_method_10_code (1 : Nat) (Option.some (Jvm.ClassFile.FieldType.object "java/lang/Object")), Jvm.Cond.code ({ cls := "java/lang/String", name := "checkBoundsOffCount", desc := "(III)I" } : Jvm.MethodName) jdk_42_method_157_code (3 : Nat) (Option.some Jvm.ClassFile.FieldType.int), Jvm.Cond.code ({ cls := "jdk/internal/util/Preconditions", name := "checkFromIndexSize", desc := "(IIILjava/util/function/BiFunction;)I" } : Jvm.MethodName) jdk_41_method_13_code (4 : Nat) (Option.some Jvm.ClassFile.FieldType.int), Jvm.Cond.codeWith ({ cls := "java/lang/String", name := "<init>", desc := "(Ljava/nio/charset/Charset;[BII)V" } : Jvm.MethodName) jdk_42_method_11_code (11 : Nat) (Option.none : Option Jvm.ClassFile.FieldType) [((800 : Nat), (813 : Nat), (816 : Nat), (202 : Nat))], Jvm.Cond.code ({ cls := "java/util/Arrays", name := "copyOfRange", desc := "([BII)[B" } : Jvm.MethodName) jdk_65_method_132_code (3 : Nat) (Option.some (Jvm.ClassFile.FieldType.array Jvm.ClassFile.FieldType.byte)), Jvm.Cond.code ({ cls := "java/util/Arrays", name := "copyOfRangeByte", desc := "([BII)[B" } : Jvm.MethodName) jdk_65_method_133_code (5 : Nat) (Option.some (Jvm.ClassFile.FieldType.array Jvm.ClassFile.FieldType.byte)), Jvm.Cond.code ({ cls := "java/util/Arrays", name := "checkLength", desc := "(II)V" } : Jvm.MethodName) jdk_65_method_131_code (2 : Nat) (Option.none : Option Jvm.ClassFile.FieldType), Jvm.Cond.code ({ cls := "java/lang/Math", name := "min", desc := "(II)I" } : Jvm.MethodName) jdk_29_method_69_code (2 : Nat) (Option.some Jvm.ClassFile.FieldType.int), Jvm.Cond.code ({ cls := "java/lang/String", name := "equals", desc := "(Ljava/lang/Object;)Z" } : Jvm.MethodName) jdk_42_method_66_code (3 : Nat) (Option.some Jvm.ClassFile.FieldType.boolean), Jvm.Cond.code ({ cls := "java/lang/StringLatin1", name := "equals", desc := "([B[B)Z" } : Jvm.MethodName) jdk_43_method_13_code (3 : Nat) (Option.some Jvm.ClassFile.FieldType.boolean)]
set_option maxRecDepth 65536 in
theorem codes_eq : words1.filter isCode = codes1 := rfl
theorem w_codes : ∀ c ∈ words1.filter isCode, c.before args0 about1 = true := by
  rw [codes_eq]
  intro c hc
  simp only [codes1, List.mem_cons, List.not_mem_nil, or_false] at hc
  rcases hc with rfl | rfl | rfl | rfl | rfl | rfl | rfl | rfl | rfl | rfl | rfl | rfl | rfl | rfl | rfl | rfl | rfl | rfl | rfl | rfl | rfl | rfl | rfl | rfl | rfl | rfl | rfl | rfl
  · exact w_c0
  · exact w_c1
  · exact w_c2
  · exact w_c3
  · exact w_c4
  · exact w_c5
  · exact w_c6
  · exact w_c7
  · exact w_c8
  · exact w_c9
  · exact w_c10
  · exact w_c11
  · exact w_c12
  · exact w_c13
  · exact w_c14
  · exact w_c15
  · exact w_c16
  · exact w_c17
  · exact w_c18
  · exact w_c19
  · exact w_c20
  · exact w_cW
  · exact w_c21
  · exact w_c22
  · exact w_c23
  · exact w_c24
  · exact w_c25
  · exact w_c26
set_option maxRecDepth 65536 in
theorem w_t1 : (words1.take 24).all (fun c => isCode c || c.before args0 about1) = true := by decide +kernel
set_option maxRecDepth 65536 in
theorem w_t2 : ((words1.drop 24).take 24).all (fun c => isCode c || c.before args0 about1) = true := by decide +kernel
set_option maxRecDepth 65536 in
theorem w_t3 : (((words1.drop 24).drop 24).take 24).all (fun c => isCode c || c.before args0 about1) = true := by decide +kernel
set_option maxRecDepth 65536 in
theorem w_t4 : ((((words1.drop 24).drop 24).drop 24).take 24).all (fun c => isCode c || c.before args0 about1) = true := by decide +kernel
set_option maxRecDepth 65536 in
theorem w_t5 : (((((words1.drop 24).drop 24).drop 24).drop 24).take 24).all (fun c => isCode c || c.before args0 about1) = true := by decide +kernel
set_option maxRecDepth 65536 in
theorem w_t6 : ((((((words1.drop 24).drop 24).drop 24).drop 24).drop 24).take 24).all (fun c => isCode c || c.before args0 about1) = true := by decide +kernel
set_option maxRecDepth 65536 in
theorem w_t7 : ((((((words1.drop 24).drop 24).drop 24).drop 24).drop 24).drop 24).all (fun c => isCode c || c.before args0 about1) = true := by decide +kernel
theorem w_tables : (allAtoms (Jvm.Cond.code x code maxLocals ret :: tables_1)).before args0 about1 = true := by
  rw [allAtoms_all]
  show words1.all (fun c => c.before args0 about1) = true
  refine all_split ?_ w_codes
  rw [← List.take_append_drop 24 words1, List.all_append, w_t1, ← List.take_append_drop 24 (words1.drop 24), List.all_append, w_t2, ← List.take_append_drop 24 ((words1.drop 24).drop 24), List.all_append, w_t3, ← List.take_append_drop 24 (((words1.drop 24).drop 24).drop 24), List.all_append, w_t4, ← List.take_append_drop 24 ((((words1.drop 24).drop 24).drop 24).drop 24), List.all_append, w_t5, ← List.take_append_drop 24 (((((words1.drop 24).drop 24).drop 24).drop 24).drop 24), List.all_append, w_t6, w_t7]
  rfl
set_option maxRecDepth 65536 in
theorem w_rest : rest_1_c.before args0 about1 = true := by decide +kernel
set_option maxRecDepth 65536 in
theorem w_case : (Jvm.Cond.and given_1 narrow_1).before args0 about1 = true := by decide +kernel
set_option maxRecDepth 65536 in
theorem w_consts : constsHeld consts_1 about1 := Jvm.Lit.constsHeldB_iff.mp (by decide +kernel)
theorem w_applies : (headSpec (Jvm.Cond.code x code maxLocals ret :: tables_1) room_1).applies x e0.platform about1 = true :=
  (Spec.applies_iff w_frames).mpr ⟨w_running, w_runnable, w_alone, w_named, w_hears, w_ripe, w_room, w_tables⟩
theorem atStart : AtStart classFile x code maxLocals ret World_1 tables_1 room_1 Calls_1 rest_1 Pre_1 launch0 p0 e0 about1 theMethod args0 below0 :=
  ⟨lists_1, trivial, launch0.admits_env _ _ _, launch0.least_env, fairChoices_fair.cas, fairChoices_fair.clock, w_frames, w_args, w_heap, w_applies, ⟨w_consts, trivial⟩, w_rest, w_case⟩
end start1
theorem witness_1 : WitnessClaimed_1 := ⟨start1.p0, start1.e0, start1.about1, start1.theMethod, start1.args0, start1.below0, start1.atStart⟩
end Jvm.Pilot.@@N@@
