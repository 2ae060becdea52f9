import JvmDerived
import JvmDerived.Pilot.@@N@@Statement
import JvmDerived.Pilot.@@N@@Code
set_option linter.unusedVariables false
set_option linter.unusedSimpArgs false
namespace Jvm.RoadKit
open Sem ClassFile Op Lib Jvm.Stand Jvm.Free Jvm.LawKit
section New
variable {p : Program} {l : Launch} {e : Env} {R : Room} {s : State} {m : MethodId} {args : Array Value} {below : List Frame} {meth : Method} {c : Code} {T : State} {locs : List Loc} {cells slots : Nat}
theorem retI (X : Stand p l e R s m args below meth c T locs cells slots) (hx : p.tables.exec = Jvm.exec) {pc : Nat} {Ls : Array Slot} {z : Int32} {rest : List Value} (hret : meth.sig.returnType = some .int) (hd : decode c.code pc = .ok (.ireturn, 1)) {fs : List Frame}
    (hl : ∀ (f : JFrame) (acts : List Action), f.method = m → f.locked = none → f.entered = [] → (doReturn e (T.setTop f) acts (some (.int z))).1 = T.setFrames fs) : Steps p.tables e below (T.setTop (mkF m pc Ls (.int z :: rest))) (T.setFrames fs) := by
  have hm' : T.vm.method? m = some meth := X.method'
  have hn : narrow .int (.int z) = .int z := rfl
  show Steps p.tables e below (T.setTop { method := m, pc := pc, locals := Ls, stack := _ :: rest, locked := none }) _
  jvm_step X.here [X.here.top, hx, hd, hm', hret, hn]
  first | (intro acts; rw [hl _ acts rfl rfl rfl]) | rw [hl _ _ rfl rfl rfl]
  exact Steps.refl _
end New
end Jvm.RoadKit
/- laws to paste: Road.backV (cut by pick.py; bodies as the Statement names them) -/
namespace Jvm.Pilot.@@N@@
namespace StrChars
open Jvm Sem ClassFile Op Lib Jvm.Stand Jvm.Free.XT Jvm.Free.ALB Jvm.Free.JM Jvm.Free
open Jvm.Lib.Cold (StaticIs)
/-- a char array whose places are chars -/
def Ch (a : Addr) (A : Cell) (U : State) : Prop := Arr .char a A U ∧ Typed .char A
theorem Ch.mv {a : Addr} {A : Cell} {U U' : State} (h : Ch a A U) (hal : U.vm.Alike U'.vm) (hh : U'.heap = U.heap) : Ch a A U' := ⟨h.1.mv hal hh, h.2⟩
theorem Ch.keep {a : Addr} {A : Cell} {U U' : State} (h : Ch a A U) (hal : U.vm.Alike U'.vm) (hk : U'.heap[a]? = some A) : Ch a A U' := ⟨h.1.keep hal hk, h.2⟩
/-- what place i of a char[]'s cell holds -/
def cv (A : Cell) (i : Nat) : Int32 := match A.slots[i]? with | some (.int x) => x | _ => 0
theorem Ch.get {a : Addr} {A : Cell} {U : State} (h : Ch a A U) {i : Nat} (hi : i < A.slots.size) : A.slots[i]? = some (.int (cv A i)) := by
  have e := Array.getElem?_eq_getElem hi
  have f := h.2 i _ e
  unfold cv; rw [e]
  generalize A.slots[i] = v at f
  cases v <;> simp [fits] at f ⊢
/-- the byte that i2b leaves of a char -/
def lo8 (x : Int32) : Int32 := x.toInt8.toInt32
theorem fits_lo8 (y : Int32) : fits .byte (.int (lo8 y)) = true := by
  have h1 := y.toInt8.le_toInt
  have h2 := y.toInt8.toInt_lt
  simp only [lo8, fits, Bool.and_eq_true, decide_eq_true_eq, Int32.le_iff_toInt_le, Int8.toInt_toInt32, show (-128 : Int32).toInt = -128 from by decide, show (127 : Int32).toInt = 127 from by decide]
  omega
/-- A' is A but that each place j of lo .. hi - 1 holds f j -/
def Laid (A A' : Cell) (lo hi : Nat) (f : Nat → Value) : Prop := A'.cls = A.cls ∧ A'.vm = A.vm ∧ A'.slots.size = A.slots.size ∧ ∀ i, A'.slots[i]? = if lo ≤ i ∧ i < hi then some (f i) else A.slots[i]?
theorem Laid.zero (A : Cell) (lo : Nat) (f : Nat → Value) : Laid A A lo (lo + 0) f := ⟨rfl, rfl, rfl, fun i => by rw [if_neg (by omega)]⟩
theorem Laid.step {A Ak : Cell} {lo k : Nat} {f : Nat → Value} {v : Value} (h : Laid A Ak lo k f) (hlo : lo ≤ k) (hk : k < Ak.slots.size) (hv : v = f k) : Laid A (Ak.setSlot k v) lo (k + 1) f := by
  refine ⟨h.1, h.2.1, by simpa [Cell.setSlot] using h.2.2.1, fun i => ?_⟩
  by_cases e : k = i
  · subst e; rw [Cell.slots_setSlot_self v hk, if_pos (by omega), hv]
  · rw [Cell.slots_setSlot_ne v e, h.2.2.2 i]
    by_cases q : lo ≤ i ∧ i < k
    · rw [if_pos q, if_pos (by omega)]
    · rw [if_neg q, if_neg (by omega)]
def U16 : String := "java/lang/StringUTF16"
namespace Cmp5
def yN : MethodName := ⟨"java/lang/StringUTF16", "compress", "([CI[BII)I"⟩
abbrev yB : ByteArray := jdk_52_method_21_code
theorem d0 : decode yB 0 = .ok (.iconst 0, 1) := by decide +kernel
theorem d1 : decode yB 1 = .ok (.istore 5, 2) := by decide +kernel
theorem d3 : decode yB 3 = .ok (.iload 5, 2) := by decide +kernel
theorem d5 : decode yB 5 = .ok (.iload 4, 2) := by decide +kernel
theorem d7 : decode yB 7 = .ok (.if_icmp (.ge) 37, 3) := by decide +kernel
theorem d10 : decode yB 10 = .ok (.aload_n 0, 1) := by decide +kernel
theorem d11 : decode yB 11 = .ok (.iload_n 1, 1) := by decide +kernel
theorem d12 : decode yB 12 = .ok (.caload, 1) := by decide +kernel
theorem d13 : decode yB 13 = .ok (.istore 6, 2) := by decide +kernel
theorem d15 : decode yB 15 = .ok (.iload 6, 2) := by decide +kernel
theorem d17 : decode yB 17 = .ok (.sipush 255, 3) := by decide +kernel
theorem d20 : decode yB 20 = .ok (.if_icmp (.le) 6, 3) := by decide +kernel
theorem d26 : decode yB 26 = .ok (.aload_n 2, 1) := by decide +kernel
theorem d27 : decode yB 27 = .ok (.iload_n 3, 1) := by decide +kernel
theorem d28 : decode yB 28 = .ok (.iload 6, 2) := by decide +kernel
theorem d30 : decode yB 30 = .ok (.i2b, 1) := by decide +kernel
theorem d31 : decode yB 31 = .ok (.bastore, 1) := by decide +kernel
theorem d32 : decode yB 32 = .ok (.iinc 1 1, 3) := by decide +kernel
theorem d35 : decode yB 35 = .ok (.iinc 3 1, 3) := by decide +kernel
theorem d38 : decode yB 38 = .ok (.iinc 5 1, 3) := by decide +kernel
theorem d41 : decode yB 41 = .ok (.goto (-38), 3) := by decide +kernel
theorem d44 : decode yB 44 = .ok (.iload 4, 2) := by decide +kernel
theorem d46 : decode yB 46 = .ok (.ireturn, 1) := by decide +kernel
def site : List Cond := []
def tab : Cond := tabOf yN yB 7 (some .int) site
def P (b : Addr) (A : Cell) (d : Addr) (B : Cell) (o q len : Nat) (args : Array Value) (s : State) : Prop := args = #[.ref b, .int (Int32.ofNat o), .ref d, .int (Int32.ofNat q), .int (Int32.ofNat len)] ∧ Ch b A s ∧ Arr .byte d B s ∧ b ≠ d ∧ o + len ≤ A.slots.size ∧ q + len ≤ B.slots.size ∧ ∀ i, i < len → ¬ 255 < cv A (o + i)
def E (b : Addr) (A : Cell) (d : Addr) (B : Cell) (o q len : Nat) (r : Option Value) (s u : State) : Prop := r = some (.int (Int32.ofNat len)) ∧ ∃ B', Put d B' s u ∧ Laid B B' q (q + len) (fun j => Value.int (lo8 (cv A (o + (j - q)))))
/-- no char of the range above 255: len; the places written hold each char's low byte -/
theorem law (l : Launch) (b : Addr) (A : Cell) (d : Addr) (B : Cell) (o q len : Nat) : Law l yN 5 5 0 0 yB 7 (some .int) site (P b A d B o q len) (E b A d B o q len) (copyLocs d q len) 0 0 := by
  refine Law.of_walk (plainFor_of_name (by decide +kernel)) (by decide +kernel) (by decide +kernel) (by decide) (fun _ _ h => by rw [h.1]; rfl) (fun _ U U' hal hh h => ⟨h.1, h.2.1.mv hal hh, h.2.2.1.mv hal hh, h.2.2.2⟩) (fun r U U' V V' h1 hal h2 h => ⟨h.1, h.2.elim fun B' q => ⟨B', q.1.mv h1 h2, q.2⟩⟩) ?_
  intro p e s m args below meth c s₁ X0 hexec hbytes hml hret hlk hnm hown hh0 W hP
  obtain ⟨rfl, hA, hB, hne, l1, l2, hp⟩ := hP
  have c1 : Steps p.tables e below (s₁.setTop (entryFrame m #[.ref b, .int (Int32.ofNat o), .ref d, .int (Int32.ofNat q), .int (Int32.ofNat len)] 7)) (s₁.setTop (mkF m 0 #[.val (.ref b), .val (.int (Int32.ofNat o)), .val (.ref d), .val (.int (Int32.ofNat q)), .val (.int (Int32.ofNat len)), .unset, .unset] [])) := entry rfl
  have hA0 := hA.1.mv X0.warmed.alike hh0
  have hB0 := hB.mv X0.warmed.alike hh0
  have a31 := hA.1.2.2.2
  have c2 : Steps p.tables e below (s₁.setTop (entryFrame m #[.ref b, .int (Int32.ofNat o), .ref d, .int (Int32.ofNat q), .int (Int32.ofNat len)] 7)) (s₁.setTop (mkF m 3 #[.val (.ref b), .val (.int (Int32.ofNat o)), .val (.ref d), .val (.int (Int32.ofNat q)), .val (.int (Int32.ofNat len)), .val (.int 0), .unset] [])) := c1.trans (by
    refine iconstV X0.here hexec rfl 0 (hb hbytes d0) (by decide) ?_
    refine XS.istore X0.here hexec rfl (hb hbytes d1) rfl rfl ?_
    exact Steps.refl _)
  have loop : ∀ (r i : Nat), i + r = len → ∀ (z : Slot), (z = .unset ∨ ∃ w, z = .val w ∧ w.category = 1) → ∀ (Tl : State) (Bk : Cell), Stand p l e { frames := 0, locals := 0, cells := 0, slots := 0 } s m #[.ref b, .int (Int32.ofNat o), .ref d, .int (Int32.ofNat q), .int (Int32.ofNat len)] below meth c Tl ([] ++ copyLocs d q i) 0 0 → Put d Bk s₁ Tl → Laid B Bk q (q + i) (fun j => Value.int (lo8 (cv A (o + (j - q))))) →
      Steps p.tables e below (s₁.setTop (entryFrame m #[.ref b, .int (Int32.ofNat o), .ref d, .int (Int32.ofNat q), .int (Int32.ofNat len)] 7)) (Tl.setTop (mkF m 3 #[.val (.ref b), .val (.int (Int32.ofNat (o + i))), .val (.ref d), .val (.int (Int32.ofNat (q + i))), .val (.int (Int32.ofNat len)), .val (.int (Int32.ofNat i)), z] [])) → ∃ (T' : State) (B' : Cell) (z' : Slot), Stand p l e { frames := 0, locals := 0, cells := 0, slots := 0 } s m #[.ref b, .int (Int32.ofNat o), .ref d, .int (Int32.ofNat q), .int (Int32.ofNat len)] below meth c T' ([] ++ copyLocs d q len) 0 0 ∧ Put d B' s₁ T' ∧ Laid B B' q (q + len) (fun j => Value.int (lo8 (cv A (o + (j - q))))) ∧
      Steps p.tables e below (s₁.setTop (entryFrame m #[.ref b, .int (Int32.ofNat o), .ref d, .int (Int32.ofNat q), .int (Int32.ofNat len)] 7)) (T'.setTop (mkF m 3 #[.val (.ref b), .val (.int (Int32.ofNat (o + len))), .val (.ref d), .val (.int (Int32.ofNat (q + len))), .val (.int (Int32.ofNat len)), .val (.int (Int32.ofNat len)), z'] [])) := by
    intro r
    induction r with
    | zero =>
      intro i hi z hz Tl Bk Xl pl fl cl
      have hil : i = len := by omega
      rw [hil] at Xl fl cl
      exact ⟨Tl, Bk, z, Xl, pl, fl, cl⟩
    | succ r ih =>
      intro i hi z hz Tl Bk Xl pl fl cl
      have all := X0.warmed.alike.symm.trans Xl.warmed.alike
      have hAl := hA0.keep all (pl.other hne hA0.1)
      have hBk := hB0.like all pl.1 fl.1 fl.2.1 fl.2.2.1
      have hlt : q + i < Bk.slots.size := by rw [fl.2.2.1]; omega
      have c3 : Steps p.tables e below (s₁.setTop (entryFrame m #[.ref b, .int (Int32.ofNat o), .ref d, .int (Int32.ofNat q), .int (Int32.ofNat len)] 7)) (Tl.setTop (mkF m 12 #[.val (.ref b), .val (.int (Int32.ofNat (o + i))), .val (.ref d), .val (.int (Int32.ofNat (q + i))), .val (.int (Int32.ofNat len)), .val (.int (Int32.ofNat i)), z] [.int (Int32.ofNat (o + i)), .ref b])) := cl.trans (by
        refine XS.iload Xl.here hexec rfl (hb hbytes d3) rfl ?_
        refine XS.iload Xl.here hexec rfl (hb hbytes d5) rfl ?_
        refine XS.icmpNo Xl.here hexec rfl (hb hbytes d7) rfl (ii_ge_f (lt32 (by omega) (by omega))) ?_
        refine XS.aloadN Xl.here hexec rfl (hb hbytes d10) rfl rfl ?_
        refine XS.iloadN Xl.here hexec rfl (hb hbytes d11) rfl ?_
        exact Steps.refl _)
      have c4 : Steps p.tables e below (s₁.setTop (entryFrame m #[.ref b, .int (Int32.ofNat o), .ref d, .int (Int32.ofNat q), .int (Int32.ofNat len)] 7)) (Tl.setTop (mkF m 13 #[.val (.ref b), .val (.int (Int32.ofNat (o + i))), .val (.ref d), .val (.int (Int32.ofNat (q + i))), .val (.int (Int32.ofNat len)), .val (.int (Int32.ofNat i)), z] [.int (cv A (o + i))])) := c3.trans (by
        refine Xl.aget hexec hAl rfl (hA.get (i := o + i) (by omega)) rfl rfl (hb hbytes d12) ?_
        exact Steps.refl _)
      have c5 : Steps p.tables e below (s₁.setTop (entryFrame m #[.ref b, .int (Int32.ofNat o), .ref d, .int (Int32.ofNat q), .int (Int32.ofNat len)] 7)) (Tl.setTop (mkF m 15 #[.val (.ref b), .val (.int (Int32.ofNat (o + i))), .val (.ref d), .val (.int (Int32.ofNat (q + i))), .val (.int (Int32.ofNat len)), .val (.int (Int32.ofNat i)), .val (.int (cv A (o + i)))] [])) := c4.trans (by
        refine XS.istoreS Xl.here hexec rfl (hb hbytes d13) rfl rfl hz ?_
        exact Steps.refl _)
      have c6 : Steps p.tables e below (s₁.setTop (entryFrame m #[.ref b, .int (Int32.ofNat o), .ref d, .int (Int32.ofNat q), .int (Int32.ofNat len)] 7)) (Tl.setTop (mkF m 31 #[.val (.ref b), .val (.int (Int32.ofNat (o + i))), .val (.ref d), .val (.int (Int32.ofNat (q + i))), .val (.int (Int32.ofNat len)), .val (.int (Int32.ofNat i)), .val (.int (cv A (o + i)))] [.int (lo8 (cv A (o + i))), .int (Int32.ofNat (q + i)), .ref d])) := c5.trans (by
        refine XS.iload Xl.here hexec rfl (hb hbytes d15) rfl ?_
        refine sipushV Xl.here hexec rfl 255 (hb hbytes d17) (by decide) ?_
        refine XS.icmpYes Xl.here hexec rfl (pc0 := 20) rfl (hb hbytes d20) rfl (ii_le_t (hp i (by omega))) (by decide) rfl ?_
        refine XS.aloadN Xl.here hexec rfl (hb hbytes d26) rfl rfl ?_
        refine XS.iloadN Xl.here hexec rfl (hb hbytes d27) rfl ?_
        refine XS.iload Xl.here hexec rfl (hb hbytes d28) rfl ?_
        refine i2b Xl.here hexec rfl (hb hbytes d30) rfl ?_
        exact Steps.refl _)
      obtain ⟨T7, X7, p7, st7⟩ := Xl.aput hexec hBk rfl hlt rfl (fits_lo8 (cv A (o + i))) (g := (mkF m 31 #[.val (.ref b), .val (.int (Int32.ofNat (o + i))), .val (.ref d), .val (.int (Int32.ofNat (q + i))), .val (.int (Int32.ofNat len)), .val (.int (Int32.ofNat i)), .val (.int (cv A (o + i)))] [.int (lo8 (cv A (o + i))), .int (Int32.ofNat (q + i)), .ref d])) rfl (rest := []) rfl (hb hbytes d31)
      have c8 : Steps p.tables e below (s₁.setTop (entryFrame m #[.ref b, .int (Int32.ofNat o), .ref d, .int (Int32.ofNat q), .int (Int32.ofNat len)] 7)) (T7.setTop (mkF m 32 #[.val (.ref b), .val (.int (Int32.ofNat (o + i))), .val (.ref d), .val (.int (Int32.ofNat (q + i))), .val (.int (Int32.ofNat len)), .val (.int (Int32.ofNat i)), .val (.int (cv A (o + i)))] [])) := c6.trans (st7 _ (Steps.refl _))
      have c9 : Steps p.tables e below (s₁.setTop (entryFrame m #[.ref b, .int (Int32.ofNat o), .ref d, .int (Int32.ofNat q), .int (Int32.ofNat len)] 7)) (T7.setTop (mkF m 3 #[.val (.ref b), .val (.int (Int32.ofNat (o + i) + 1)), .val (.ref d), .val (.int (Int32.ofNat (q + i) + 1)), .val (.int (Int32.ofNat len)), .val (.int (Int32.ofNat i + 1)), .val (.int (cv A (o + i)))] [])) := c8.trans (by
        refine iincV X7.here hexec rfl 1 (hb hbytes d32) (by decide) rfl rfl ?_
        refine iincV X7.here hexec rfl 1 (hb hbytes d35) (by decide) rfl rfl ?_
        refine iincV X7.here hexec rfl 1 (hb hbytes d38) (by decide) rfl rfl ?_
        refine XS.goto X7.here hexec rfl (pc0 := 41) rfl (hb hbytes d41) (by decide) rfl ?_
        exact Steps.refl _)
      have c10 : Steps p.tables e below (s₁.setTop (entryFrame m #[.ref b, .int (Int32.ofNat o), .ref d, .int (Int32.ofNat q), .int (Int32.ofNat len)] 7)) (T7.setTop (mkF m 3 #[.val (.ref b), .val (.int (Int32.ofNat (o + (i + 1)))), .val (.ref d), .val (.int (Int32.ofNat (q + (i + 1)))), .val (.int (Int32.ofNat len)), .val (.int (Int32.ofNat (i + 1))), .val (.int (cv A (o + i)))] [])) := by
        have := c9
        rw [succ32, succ32, succ32] at this
        exact this
      exact ih (i + 1) (by omega) _ (Or.inr ⟨_, rfl, rfl⟩) T7 _ (by rw [copyLocs_step, ← List.append_assoc]; exact X7) (pl.trans p7) (fl.step (by omega) hlt (by simp)) c10
  obtain ⟨T9, B9, z9, X9, p9, f9, g9⟩ := loop len 0 (by omega) .unset (Or.inl rfl) s₁ B (by simpa [copyLocs] using X0) ⟨hB0.1, fun _ _ => rfl, rfl⟩ (Laid.zero _ _ _) c2
  have c11 : Steps p.tables e below (s₁.setTop (entryFrame m #[.ref b, .int (Int32.ofNat o), .ref d, .int (Int32.ofNat q), .int (Int32.ofNat len)] 7)) (T9.setTop (mkF m 46 #[.val (.ref b), .val (.int (Int32.ofNat (o + len))), .val (.ref d), .val (.int (Int32.ofNat (q + len))), .val (.int (Int32.ofNat len)), .val (.int (Int32.ofNat len)), z9] [.int (Int32.ofNat len)])) := g9.trans (by
    refine XS.iload X9.here hexec rfl (hb hbytes d3) rfl ?_
    refine XS.iload X9.here hexec rfl (hb hbytes d5) rfl ?_
    refine XS.icmpYes X9.here hexec rfl (pc0 := 7) rfl (hb hbytes d7) rfl (ii_ge_t (nlt32 (by omega) (Nat.le_refl _))) (by decide) rfl ?_
    refine XS.iload X9.here hexec rfl (hb hbytes d44) rfl ?_
    exact Steps.refl _)
  exact ⟨T9, some (.int (Int32.ofNat len)), _, _, _, X9, by simp, rfl, rfl, (fun h => by cases h), ⟨rfl, B9, p9.from hh0, f9⟩, fun fs hl => c11.trans (X9.ireturnOut hexec hret rfl (Or.inl rfl) (hb hbytes d46) hl)⟩
end Cmp5
namespace Cmp3
def yN : MethodName := ⟨"java/lang/StringUTF16", "compress", "([CII)[B"⟩
abbrev yB : ByteArray := jdk_52_method_16_code
theorem d0 : decode yB 0 = .ok (.iload_n 2, 1) := by decide +kernel
theorem d1 : decode yB 1 = .ok (.newarray .byte, 2) := by decide +kernel
theorem d3 : decode yB 3 = .ok (.astore_n 3, 1) := by decide +kernel
theorem d4 : decode yB 4 = .ok (.aload_n 0, 1) := by decide +kernel
theorem d5 : decode yB 5 = .ok (.iload_n 1, 1) := by decide +kernel
theorem d6 : decode yB 6 = .ok (.aload_n 3, 1) := by decide +kernel
theorem d7 : decode yB 7 = .ok (.iconst 0, 1) := by decide +kernel
theorem d8 : decode yB 8 = .ok (.iload_n 2, 1) := by decide +kernel
theorem d9 : decode yB 9 = .ok (.invokestatic 115, 3) := by decide +kernel
theorem d12 : decode yB 12 = .ok (.istore 4, 2) := by decide +kernel
theorem d14 : decode yB 14 = .ok (.iload 4, 2) := by decide +kernel
theorem d16 : decode yB 16 = .ok (.iload_n 2, 1) := by decide +kernel
theorem d17 : decode yB 17 = .ok (.if_icmp (.eq) 40, 3) := by decide +kernel
theorem d57 : decode yB 57 = .ok (.aload_n 3, 1) := by decide +kernel
theorem d58 : decode yB 58 = .ok (.areturn, 1) := by decide +kernel
def site : List Cond := [.arrayClass .byte, Cmp5.tab] ++ staticW U16 115 Cmp5.yN
def tab : Cond := tabOf yN yB 6 (some (.array .byte)) site
def P (b : Addr) (A : Cell) (o len : Nat) (args : Array Value) (s : State) : Prop := args = #[.ref b, .int (Int32.ofNat o), .int (Int32.ofNat len)] ∧ Ch b A s ∧ o + len ≤ A.slots.size ∧ len ≤ 536870912 ∧ ∀ i, i < len → ¬ 255 < cv A (o + i)
def E (b : Addr) (A : Cell) (o len : Nat) (r : Option Value) (s u : State) : Prop := NewArr .byte "[B" len (fun j => .int (lo8 (cv A (o + j)))) r s u ∧ u.heap.size = s.heap.size + 1
/-- no char of the range above 255: a new byte[] of their low bytes -/
theorem law (l : Launch) (b : Addr) (A : Cell) (o len : Nat) : Law l yN 3 3 1 18 yB 6 (some (.array .byte)) site (P b A o len) (E b A o len) [] 1 len := by
  refine Law.of_walk (plainFor_of_name (by decide +kernel)) (by decide +kernel) (by decide +kernel) (by decide) (fun _ _ h => by rw [h.1]; rfl) (fun _ U U' hal hh h => ⟨h.1, h.2.1.mv hal hh, h.2.2⟩) (fun r U U' V V' h1 hal h2 h => ⟨NewArr.mv r U U' V V' h1 hal h2 h.1, by rw [h1, h2]; exact h.2⟩) ?_
  intro p e s m args below meth c s₁ X0 hexec hbytes hml hret hlk hnm hown hh0 W hP
  obtain ⟨rfl, hA, l1, l2, hp⟩ := hP
  have a31 := hA.1.2.2.2
  have c1 : Steps p.tables e below (s₁.setTop (entryFrame m #[.ref b, .int (Int32.ofNat o), .int (Int32.ofNat len)] 6)) (s₁.setTop (mkF m 0 #[.val (.ref b), .val (.int (Int32.ofNat o)), .val (.int (Int32.ofNat len)), .unset, .unset, .unset] [])) := entry rfl
  have c2 : Steps p.tables e below (s₁.setTop (entryFrame m #[.ref b, .int (Int32.ofNat o), .int (Int32.ofNat len)] 6)) (s₁.setTop (mkF m 1 #[.val (.ref b), .val (.int (Int32.ofNat o)), .val (.int (Int32.ofNat len)), .unset, .unset, .unset] [.int (Int32.ofNat len)])) := c1.trans (by
    refine XS.iloadN X0.here hexec rfl (hb hbytes d0) rfl ?_
    exact Steps.refl _)
  obtain ⟨T3, B3, X3, ba3, bs3, bv3, bh3, bf3, st3⟩ := X0.anew hexec (atype := .byte) (wk W (.arrayClass .byte)) rfl (by show len * 1 ≤ _; omega) (by omega) (g := (mkF m 1 #[.val (.ref b), .val (.int (Int32.ofNat o)), .val (.int (Int32.ofNat len)), .unset, .unset, .unset] [.int (Int32.ofNat len)])) rfl (hb hbytes d1) (rest := []) rfl (Nat.le_refl _) (by show 0 + len ≤ len; omega)
  rw [hh0] at ba3 st3
  have kp3 : XT.Kept s T3 := (XT.Kept.of_eq hh0).push bh3
  have hA3 := hA.keep X3.warmed.alike (kp3 _ _ hA.1.1)
  have hne : b ≠ s.heap.size := hA.1.ne
  have c4 : Steps p.tables e below (s₁.setTop (entryFrame m #[.ref b, .int (Int32.ofNat o), .int (Int32.ofNat len)] 6)) (T3.setTop (mkF m 3 #[.val (.ref b), .val (.int (Int32.ofNat o)), .val (.int (Int32.ofNat len)), .unset, .unset, .unset] [.ref s.heap.size])) := c2.trans (st3 _ (Steps.refl _))
  have c5 : Steps p.tables e below (s₁.setTop (entryFrame m #[.ref b, .int (Int32.ofNat o), .int (Int32.ofNat len)] 6)) (T3.setTop (mkF m 9 #[.val (.ref b), .val (.int (Int32.ofNat o)), .val (.int (Int32.ofNat len)), .val (.ref s.heap.size), .unset, .unset] [.int (Int32.ofNat len), .int 0, .ref s.heap.size, .int (Int32.ofNat o), .ref b])) := c4.trans (by
    refine XS.astoreN X3.here hexec rfl (hb hbytes d3) rfl rfl rfl ?_
    refine XS.aloadN X3.here hexec rfl (hb hbytes d4) rfl rfl ?_
    refine XS.iloadN X3.here hexec rfl (hb hbytes d5) rfl ?_
    refine XS.aloadN X3.here hexec rfl (hb hbytes d6) rfl rfl ?_
    refine iconstV X3.here hexec rfl 0 (hb hbytes d7) (by decide) ?_
    refine XS.iloadN X3.here hexec rfl (hb hbytes d8) rfl ?_
    exact Steps.refl _)
  obtain ⟨v6, T6, X6, E6, g6⟩ := X3.callS hexec (Cmp5.law l b A s.heap.size B3 o 0 len) hown (wks W (staticW U16 115 Cmp5.yN)) (wk W Cmp5.tab) (W := 0) (Nat.le_of_ble_eq_true rfl) (Nat.le_of_ble_eq_true rfl) (Nat.le_refl _) (by show 0 + len + 0 ≤ len; omega) (g := (mkF m 9 #[.val (.ref b), .val (.int (Int32.ofNat o)), .val (.int (Int32.ofNat len)), .val (.ref s.heap.size), .unset, .unset] [.int (Int32.ofNat len), .int (Int32.ofNat 0), .ref s.heap.size, .int (Int32.ofNat o), .ref b])) rfl (by rw [hml]; rfl) c5 (argsL := [.ref b, .int (Int32.ofNat o), .ref s.heap.size, .int (Int32.ofNat 0), .int (Int32.ofNat len)]) (rest := []) rfl rfl (by show 2 * 0 + 0 ≤ _; decide) (hb hbytes d9) (⟨rfl, hA3, ba3, hne, l1, by rw [bs3]; simp, hp⟩)
  obtain ⟨rfl, B6, p6, f6⟩ := E6
  have c7 : Steps p.tables e below (s₁.setTop (entryFrame m #[.ref b, .int (Int32.ofNat o), .int (Int32.ofNat len)] 6)) (T6.setTop (mkF m 12 #[.val (.ref b), .val (.int (Int32.ofNat o)), .val (.int (Int32.ofNat len)), .val (.ref s.heap.size), .unset, .unset] [.int (Int32.ofNat len)])) := g6
  have c8 : Steps p.tables e below (s₁.setTop (entryFrame m #[.ref b, .int (Int32.ofNat o), .int (Int32.ofNat len)] 6)) (T6.setTop (mkF m 58 #[.val (.ref b), .val (.int (Int32.ofNat o)), .val (.int (Int32.ofNat len)), .val (.ref s.heap.size), .val (.int (Int32.ofNat len)), .unset] [.ref s.heap.size])) := c7.trans (by
    refine XS.istore X6.here hexec rfl (hb hbytes d12) rfl rfl ?_
    refine XS.iload X6.here hexec rfl (hb hbytes d14) rfl ?_
    refine XS.iloadN X6.here hexec rfl (hb hbytes d16) rfl ?_
    refine XS.icmpYes X6.here hexec rfl (pc0 := 17) rfl (hb hbytes d17) rfl (ii_eq_t rfl) (by decide) rfl ?_
    refine XS.aloadN X6.here hexec rfl (hb hbytes d57) rfl rfl ?_
    exact Steps.refl _)
  have X8 := X6.wide (L' := []) (cells' := 1) (slots' := len) (fun x hx hlt => by
    simp only [List.nil_append, copyLocs, List.mem_map, List.mem_range] at hx
    obtain ⟨i, -, rfl⟩ := hx
    exact absurd hlt (Nat.lt_irrefl _)) (Nat.le_refl _) (by omega)
  exact ⟨T6, some (.ref s.heap.size), _, _, _, X8, rfl, rfl, rfl, (fun h => by cases h), ⟨⟨rfl, B6, ba3.like (X3.warmed.alike.symm.trans X6.warmed.alike) p6.1 f6.1 f6.2.1 f6.2.2.1, f6.2.1.trans bv3, by rw [X6.warmed.alike.findClass, f6.1]; exact bf3, by rw [f6.2.2.1, bs3]; simp, fun j hj => by rw [f6.2.2.2 j, if_pos (by omega)]; rfl, kp3.put p6 (Nat.le_refl _)⟩, by rw [p6.2.2, bh3, hh0]; simp⟩, fun fs hl => c8.trans (X8.areturnOut hexec rfl hret rfl (hb hbytes d58) hl)⟩
end Cmp3
namespace CodL
def yN : MethodName := ⟨"java/lang/StringUTF16", "coderFromArrayLen", "([BI)B"⟩
abbrev yB : ByteArray := jdk_52_method_15_code
theorem d0 : decode yB 0 = .ok (.iload_n 1, 1) := by decide +kernel
theorem d1 : decode yB 1 = .ok (.aload_n 0, 1) := by decide +kernel
theorem d2 : decode yB 2 = .ok (.arraylength, 1) := by decide +kernel
theorem d3 : decode yB 3 = .ok (.isub, 1) := by decide +kernel
theorem d4 : decode yB 4 = .ok (.bipush 31, 2) := by decide +kernel
theorem d6 : decode yB 6 = .ok (.iushr, 1) := by decide +kernel
theorem d7 : decode yB 7 = .ok (.i2b, 1) := by decide +kernel
theorem d8 : decode yB 8 = .ok (.ireturn, 1) := by decide +kernel
def site : List Cond := []
def tab : Cond := tabOf yN yB 2 (some .byte) site
def P (d : Addr) (B : Cell) (args : Array Value) (s : State) : Prop := args = #[.ref d, .int (Int32.ofNat B.slots.size)] ∧ Arr .byte d B s
def E (r : Option Value) (s u : State) : Prop := XT.PureE (some (.int 0)) r s u
/-- an array as long as the number of chars: LATIN1 -/
theorem law (l : Launch) (d : Addr) (B : Cell) : Law l yN 2 2 0 0 yB 2 (some .byte) site (P d B) E [] 0 0 := by
  refine Law.of_walk (plainFor_of_name (by decide +kernel)) (by decide +kernel) (by decide +kernel) (by decide) (fun _ _ h => by rw [h.1]; rfl) (fun _ U U' hal hh h => ⟨h.1, h.2.mv hal hh⟩) (fun r U U' V V' h1 hal h2 h => XT.PureE.mv r U U' V V' h1 hal h2 h) ?_
  intro p e s m args below meth c s₁ X0 hexec hbytes hml hret hlk hnm hown hh0 W hP
  obtain ⟨rfl, hB⟩ := hP
  have hB0 := hB.mv X0.warmed.alike hh0
  have c1 : Steps p.tables e below (s₁.setTop (entryFrame m #[.ref d, .int (Int32.ofNat B.slots.size)] 2)) (s₁.setTop (mkF m 0 #[.val (.ref d), .val (.int (Int32.ofNat B.slots.size))] [])) := entry rfl
  have c2 : Steps p.tables e below (s₁.setTop (entryFrame m #[.ref d, .int (Int32.ofNat B.slots.size)] 2)) (s₁.setTop (mkF m 2 #[.val (.ref d), .val (.int (Int32.ofNat B.slots.size))] [.ref d, .int (Int32.ofNat B.slots.size)])) := c1.trans (by
    refine XS.iloadN X0.here hexec rfl (hb hbytes d0) rfl ?_
    refine XS.aloadN X0.here hexec rfl (hb hbytes d1) rfl rfl ?_
    exact Steps.refl _)
  have c3 : Steps p.tables e below (s₁.setTop (entryFrame m #[.ref d, .int (Int32.ofNat B.slots.size)] 2)) (s₁.setTop (mkF m 8 #[.val (.ref d), .val (.int (Int32.ofNat B.slots.size))] [.int (lo8 (ushr (Int32.ofNat B.slots.size - Int32.ofNat B.slots.size) 31))])) := c2.trans (by
    refine X0.alen hexec hB0 rfl rfl (hb hbytes d2) ?_
    refine XS.isub X0.here hexec rfl (hb hbytes d3) rfl ?_
    refine bipushV X0.here hexec rfl 31 (hb hbytes d4) (by decide) ?_
    refine iushr X0.here hexec rfl (hb hbytes d6) rfl ?_
    refine i2b X0.here hexec rfl (hb hbytes d7) rfl ?_
    exact Steps.refl _)
  have e0 : lo8 (ushr (Int32.ofNat B.slots.size - Int32.ofNat B.slots.size) 31) = 0 := by rw [Int32.sub_self]; decide
  rw [e0] at c3
  exact ⟨s₁, some (.int 0), _, _, _, X0, rfl, rfl, rfl, (fun h => by cases h), ⟨rfl, hh0⟩, fun fs hl => c3.trans (X0.ireturnOut hexec hret rfl (Or.inr (Or.inr (Or.inl rfl))) (hb hbytes d8) hl)⟩
end CodL
/-- the String at a is Latin-1 over a new byte[] (the heap's one new cell): the low bytes of the len chars of A from o on; every cell but a is kept -/
def Got (a : Addr) (D : Cell) (fV fC : Field) (A : Cell) (o len : Nat) (r : Option Value) (s u : State) : Prop := r = none ∧ ∃ D' V : Cell, Blank "java/lang/String" a D' u ∧ Same D D' [fV.slot, fC.slot] ∧ D'.slots[fV.slot]? = some (.ref s.heap.size) ∧ D'.slots[fC.slot]? = some (.int 0) ∧ Arr .byte s.heap.size V u ∧ V.vm = .none ∧ u.vm.findClass "[B" = some V.cls ∧ V.slots.size = len ∧ (∀ j, j < len → V.slots[j]? = some (.int (lo8 (cv A (o + j))))) ∧ (∀ (y : Addr) (c : Cell), y ≠ a → s.heap[y]? = some c → u.heap[y]? = some c) ∧ u.heap.size = s.heap.size + 1
theorem Got.mv {a : Addr} {D A : Cell} {fV fC : Field} {o len : Nat} : ∀ r (U U' V V' : State), U'.heap = U.heap → V.vm.Alike V'.vm → V'.heap = V.heap → Got a D fV fC A o len r U V → Got a D fV fC A o len r U' V' :=
  fun r U U' V V' h1 hal h2 ⟨e0, D', X, a1, a2, a3, a4, a5, a6, a7, a8, a9, a10, a11⟩ => ⟨e0, D', X, a1.mv hal h2, a2, by rw [h1]; exact a3, a4, by rw [h1]; exact a5.mv hal h2, a6, by rw [hal.findClass]; exact a7, a8, a9, by rw [h1, h2]; exact a10, by rw [h1, h2]; exact a11⟩
namespace New4
def yN : MethodName := ⟨"java/lang/String", "<init>", "([CIILjava/lang/Void;)V"⟩
abbrev yB : ByteArray := jdk_42_method_149_code
theorem d0 : decode yB 0 = .ok (.aload_n 0, 1) := by decide +kernel
theorem d1 : decode yB 1 = .ok (.invokespecial 1, 3) := by decide +kernel
theorem d4 : decode yB 4 = .ok (.iload_n 3, 1) := by decide +kernel
theorem d5 : decode yB 5 = .ok (.ifCond (.ne) 22, 3) := by decide +kernel
theorem d27 : decode yB 27 = .ok (.getstatic 38, 3) := by decide +kernel
theorem d30 : decode yB 30 = .ok (.ifCond (.eq) 28, 3) := by decide +kernel
theorem d33 : decode yB 33 = .ok (.aload_n 1, 1) := by decide +kernel
theorem d34 : decode yB 34 = .ok (.iload_n 2, 1) := by decide +kernel
theorem d35 : decode yB 35 = .ok (.iload_n 3, 1) := by decide +kernel
theorem d36 : decode yB 36 = .ok (.invokestatic 177, 3) := by decide +kernel
theorem d39 : decode yB 39 = .ok (.astore 5, 2) := by decide +kernel
theorem d41 : decode yB 41 = .ok (.aload_n 0, 1) := by decide +kernel
theorem d42 : decode yB 42 = .ok (.aload 5, 2) := by decide +kernel
theorem d44 : decode yB 44 = .ok (.iload_n 3, 1) := by decide +kernel
theorem d45 : decode yB 45 = .ok (.invokestatic 47, 3) := by decide +kernel
theorem d48 : decode yB 48 = .ok (.putfield 15, 3) := by decide +kernel
theorem d51 : decode yB 51 = .ok (.aload_n 0, 1) := by decide +kernel
theorem d52 : decode yB 52 = .ok (.aload 5, 2) := by decide +kernel
theorem d54 : decode yB 54 = .ok (.putfield 9, 3) := by decide +kernel
theorem d57 : decode yB 57 = .ok (.return_, 1) := by decide +kernel
def site : List Cond := [.fieldLink "java/lang/String" 38 "java/lang/String" "COMPACT_STRINGS" "Z", Cmp3.tab, CodL.tab, .laysFinal "java/lang/String" "java/lang/String" "value" "[B", .fieldLink "java/lang/String" 9 "java/lang/String" "value" "[B", .laysFinal "java/lang/String" "java/lang/String" "coder" "B", .fieldLink "java/lang/String" 15 "java/lang/String" "coder" "B"] ++ objW "java/lang/String" 1 ++ staticW "java/lang/String" 177 Cmp3.yN ++ staticW "java/lang/String" 47 CodL.yN
def tab : Cond := tabOf yN yB 6 none site
def P (a : Addr) (D : Cell) (fV fC : Field) (b : Addr) (A : Cell) (z : Int32) (o len : Nat) (args : Array Value) (s : State) : Prop := args = #[.ref a, .ref b, .int (Int32.ofNat o), .int (Int32.ofNat len), .null] ∧ Blank "java/lang/String" a D s ∧ Found "java/lang/String" "value" "[B" fV s ∧ Found "java/lang/String" "coder" "B" fC s ∧ Ch b A s ∧ StaticIs s "java/lang/String" "COMPACT_STRINGS" "Z" (.int z) ∧ ¬ z = 0 ∧ 0 < len ∧ o + len ≤ A.slots.size ∧ len ≤ 536870912 ∧ ∀ i, i < len → ¬ 255 < cv A (o + i)
def E (a : Addr) (D : Cell) (fV fC : Field) (A : Cell) (o len : Nat) (r : Option Value) (s u : State) : Prop := Got a D fV fC A o len r s u
/-- len > 0, no char of the range above 255: a Latin-1 String of their low bytes -/
theorem law (l : Launch) (a : Addr) (D : Cell) (fV fC : Field) (b : Addr) (A : Cell) (z : Int32) (o len : Nat) : Law l yN 5 4 2 35 yB 6 none site (P a D fV fC b A z o len) (E a D fV fC A o len) [⟨a, fC.slot⟩, ⟨a, fV.slot⟩] 1 len := by
  refine Law.of_walk (plainFor_of_name (by decide +kernel)) (by decide +kernel) (by decide +kernel) (by decide) (fun _ _ h => by rw [h.1]; rfl) (fun _ U U' hal hh h => ⟨h.1, h.2.1.mv hal hh, h.2.2.1.al hal, h.2.2.2.1.al hal, h.2.2.2.2.1.mv hal hh, h.2.2.2.2.2.1.there hal hh, h.2.2.2.2.2.2⟩) (fun r U U' V V' h1 hal h2 h => Got.mv r U U' V V' h1 hal h2 h) ?_
  intro p e s m args below meth c s₁ X0 hexec hbytes hml hret hlk hnm hown hh0 W hP
  obtain ⟨rfl, hB, f1, f2, hA, s1, hz, l0, l1, l2, hp⟩ := hP
  have a31 := hA.1.2.2.2
  have c1 : Steps p.tables e below (s₁.setTop (entryFrame m #[.ref a, .ref b, .int (Int32.ofNat o), .int (Int32.ofNat len), .null] 6)) (s₁.setTop (mkF m 0 #[.val (.ref a), .val (.ref b), .val (.int (Int32.ofNat o)), .val (.int (Int32.ofNat len)), .val .null, .unset] [])) := entry rfl
  have c2 : Steps p.tables e below (s₁.setTop (entryFrame m #[.ref a, .ref b, .int (Int32.ofNat o), .int (Int32.ofNat len), .null] 6)) (s₁.setTop (mkF m 1 #[.val (.ref a), .val (.ref b), .val (.int (Int32.ofNat o)), .val (.int (Int32.ofNat len)), .val .null, .unset] [.ref a])) := c1.trans (by
    refine XS.aloadN X0.here hexec rfl (hb hbytes d0) rfl rfl ?_
    exact Steps.refl _)
  obtain ⟨T3, X3, q3, st3⟩ := X0.oinit hexec hown (wks W (objW "java/lang/String" 1)) (g := (mkF m 1 #[.val (.ref a), .val (.ref b), .val (.int (Int32.ofNat o)), .val (.int (Int32.ofNat len)), .val .null, .unset] [.ref a])) rfl (by rw [hml]; rfl) (rest := []) rfl (hb hbytes d1) (W := 0) (by show 2 * 0 + 0 ≤ _; decide) (Nat.le_of_ble_eq_true rfl) (Nat.le_of_ble_eq_true rfl)
  have hh3 := q3.trans hh0
  have c4 : Steps p.tables e below (s₁.setTop (entryFrame m #[.ref a, .ref b, .int (Int32.ofNat o), .int (Int32.ofNat len), .null] 6)) (T3.setTop (mkF m 27 #[.val (.ref a), .val (.ref b), .val (.int (Int32.ofNat o)), .val (.int (Int32.ofNat len)), .val .null, .unset] [])) := (c2.trans (st3 _ (Steps.refl _))).trans (by
    refine XS.iloadN X3.here hexec rfl (hb hbytes d4) rfl ?_
    refine XS.ifYes X3.here hexec rfl (pc0 := 5) rfl (hb hbytes d5) rfl (i0_ne_t (nz32 (by omega) l0)) (by decide) rfl ?_
    exact Steps.refl _)
  obtain ⟨T5, X5, q5, st5⟩ := X3.sget hexec hown (wk W (.fieldLink "java/lang/String" 38 "java/lang/String" "COMPACT_STRINGS" "Z")) s1 (fun _ _ h => by rw [hh3]; exact h) (g := (mkF m 27 #[.val (.ref a), .val (.ref b), .val (.int (Int32.ofNat o)), .val (.int (Int32.ofNat len)), .val .null, .unset] [])) rfl (hb hbytes d27)
  have hh5 := q5.trans hh3
  have c6 : Steps p.tables e below (s₁.setTop (entryFrame m #[.ref a, .ref b, .int (Int32.ofNat o), .int (Int32.ofNat len), .null] 6)) (T5.setTop (mkF m 30 #[.val (.ref a), .val (.ref b), .val (.int (Int32.ofNat o)), .val (.int (Int32.ofNat len)), .val .null, .unset] [.int z])) := c4.trans (st5 _ (Steps.refl _))
  have c7 : Steps p.tables e below (s₁.setTop (entryFrame m #[.ref a, .ref b, .int (Int32.ofNat o), .int (Int32.ofNat len), .null] 6)) (T5.setTop (mkF m 36 #[.val (.ref a), .val (.ref b), .val (.int (Int32.ofNat o)), .val (.int (Int32.ofNat len)), .val .null, .unset] [.int (Int32.ofNat len), .int (Int32.ofNat o), .ref b])) := c6.trans (by
    refine XS.ifNo X5.here hexec rfl (hb hbytes d30) rfl (i0_eq_f hz) ?_
    refine XS.aloadN X5.here hexec rfl (hb hbytes d33) rfl rfl ?_
    refine XS.iloadN X5.here hexec rfl (hb hbytes d34) rfl ?_
    refine XS.iloadN X5.here hexec rfl (hb hbytes d35) rfl ?_
    exact Steps.refl _)
  obtain ⟨v8, T8, X8, E8, g8⟩ := X5.callS hexec (Cmp3.law l b A o len) hown (wks W (staticW "java/lang/String" 177 Cmp3.yN)) (wk W Cmp3.tab) (W := 0) (Nat.le_of_ble_eq_true rfl) (Nat.le_of_ble_eq_true rfl) (Nat.le_refl _) (by show 0 + len ≤ len; omega) (g := (mkF m 36 #[.val (.ref a), .val (.ref b), .val (.int (Int32.ofNat o)), .val (.int (Int32.ofNat len)), .val .null, .unset] [.int (Int32.ofNat len), .int (Int32.ofNat o), .ref b])) rfl (by rw [hml]; rfl) c7 (argsL := [.ref b, .int (Int32.ofNat o), .int (Int32.ofNat len)]) (rest := []) rfl rfl (by show 2 * 0 + 0 ≤ _; decide) (hb hbytes d36) (⟨rfl, hA.mv X5.warmed.alike hh5, l1, l2, hp⟩)
  obtain ⟨e8, z8⟩ := E8
  obtain ⟨rfl, N, n1, n2, n3, n4, n5, n6⟩ := NewArr.mv _ T5 s _ _ hh5.symm (Vm.Alike.refl _) rfl e8
  rw [hh5] at z8
  have hB1 := hB.keep X8.warmed.alike (n6 _ _ hB.1)
  have hne : s.heap.size ≠ a := (Nat.ne_of_lt (Array.getElem?_eq_some_iff.mp hB.1).1).symm
  have c9 : Steps p.tables e below (s₁.setTop (entryFrame m #[.ref a, .ref b, .int (Int32.ofNat o), .int (Int32.ofNat len), .null] 6)) (T8.setTop (mkF m 39 #[.val (.ref a), .val (.ref b), .val (.int (Int32.ofNat o)), .val (.int (Int32.ofNat len)), .val .null, .unset] [.ref s.heap.size])) := g8
  have c10 : Steps p.tables e below (s₁.setTop (entryFrame m #[.ref a, .ref b, .int (Int32.ofNat o), .int (Int32.ofNat len), .null] 6)) (T8.setTop (mkF m 45 #[.val (.ref a), .val (.ref b), .val (.int (Int32.ofNat o)), .val (.int (Int32.ofNat len)), .val .null, .val (.ref s.heap.size)] [.int (Int32.ofNat N.slots.size), .ref s.heap.size, .ref a])) := by
    have hc : Steps p.tables e below (s₁.setTop (entryFrame m #[.ref a, .ref b, .int (Int32.ofNat o), .int (Int32.ofNat len), .null] 6)) (T8.setTop (mkF m 45 #[.val (.ref a), .val (.ref b), .val (.int (Int32.ofNat o)), .val (.int (Int32.ofNat len)), .val .null, .val (.ref s.heap.size)] [.int (Int32.ofNat len), .ref s.heap.size, .ref a])) := c9.trans (by
      refine XS.astore X8.here hexec rfl (hb hbytes d39) rfl rfl rfl ?_
      refine XS.aloadN X8.here hexec rfl (hb hbytes d41) rfl rfl ?_
      refine XS.aload X8.here hexec rfl (hb hbytes d42) rfl rfl ?_
      refine XS.iloadN X8.here hexec rfl (hb hbytes d44) rfl ?_
      exact Steps.refl _)
    rw [n4]; exact hc
  obtain ⟨v11, T11, X11, E11, g11⟩ := X8.callS hexec (CodL.law l s.heap.size N) hown (wks W (staticW "java/lang/String" 47 CodL.yN)) (wk W CodL.tab) (W := 1) (Nat.le_of_ble_eq_true rfl) (Nat.le_of_ble_eq_true rfl) (Nat.le_refl _) (by show 0 + len + 0 ≤ len; omega) (g := (mkF m 45 #[.val (.ref a), .val (.ref b), .val (.int (Int32.ofNat o)), .val (.int (Int32.ofNat len)), .val .null, .val (.ref s.heap.size)] [.int (Int32.ofNat N.slots.size), .ref s.heap.size, .ref a])) rfl (by rw [hml]; rfl) c10 (argsL := [.ref s.heap.size, .int (Int32.ofNat N.slots.size)]) (rest := [.ref a]) rfl rfl (by show 2 * 0 + (1 + 0) ≤ _; decide) (hb hbytes d45) (⟨rfl, n1⟩)
  obtain ⟨rfl, q11⟩ := E11
  have hB11 := hB1.mv (X8.warmed.alike.symm.trans X11.warmed.alike) q11
  have c12 : Steps p.tables e below (s₁.setTop (entryFrame m #[.ref a, .ref b, .int (Int32.ofNat o), .int (Int32.ofNat len), .null] 6)) (T11.setTop (mkF m 48 #[.val (.ref a), .val (.ref b), .val (.int (Int32.ofNat o)), .val (.int (Int32.ofNat len)), .val .null, .val (.ref s.heap.size)] [.int 0, .ref a])) := g11
  obtain ⟨T13, X13, p13, bl13, sl13, st13⟩ := X11.finit hexec hown (wk W (.fieldLink "java/lang/String" 15 "java/lang/String" "coder" "B")) (Or.inr ⟨_, (wk W (.laysFinal "java/lang/String" "java/lang/String" "coder" "B"))⟩) (Or.inl ⟨rfl, hnm⟩) f2 (Or.inl rfl) hB11 (t := .byte) (by decide +kernel) rfl (g := (mkF m 48 #[.val (.ref a), .val (.ref b), .val (.int (Int32.ofNat o)), .val (.int (Int32.ofNat len)), .val .null, .val (.ref s.heap.size)] [.int 0, .ref a])) rfl (rest := []) rfl (hb hbytes d48)
  have c14 : Steps p.tables e below (s₁.setTop (entryFrame m #[.ref a, .ref b, .int (Int32.ofNat o), .int (Int32.ofNat len), .null] 6)) (T13.setTop (mkF m 54 #[.val (.ref a), .val (.ref b), .val (.int (Int32.ofNat o)), .val (.int (Int32.ofNat len)), .val .null, .val (.ref s.heap.size)] [.ref s.heap.size, .ref a])) := (c12.trans (st13 _ (Steps.refl _))).trans (by
    refine XS.aloadN X13.here hexec rfl (hb hbytes d51) rfl rfl ?_
    refine XS.aload X13.here hexec rfl (hb hbytes d52) rfl rfl ?_
    exact Steps.refl _)
  obtain ⟨T15, X15, p15, bl15, sl15, st15⟩ := X13.finit hexec hown (wk W (.fieldLink "java/lang/String" 9 "java/lang/String" "value" "[B")) (Or.inr ⟨_, (wk W (.laysFinal "java/lang/String" "java/lang/String" "value" "[B"))⟩) (Or.inl ⟨rfl, hnm⟩) f1 (Or.inl rfl) bl13 (t := (.array .byte)) (by decide +kernel) rfl (g := (mkF m 54 #[.val (.ref a), .val (.ref b), .val (.int (Int32.ofNat o)), .val (.int (Int32.ofNat len)), .val .null, .val (.ref s.heap.size)] [.ref s.heap.size, .ref a])) rfl (rest := []) rfl (hb hbytes d54)
  have c16 : Steps p.tables e below (s₁.setTop (entryFrame m #[.ref a, .ref b, .int (Int32.ofNat o), .int (Int32.ofNat len), .null] 6)) (T15.setTop (mkF m 57 #[.val (.ref a), .val (.ref b), .val (.int (Int32.ofNat o)), .val (.int (Int32.ofNat len)), .val .null, .val (.ref s.heap.size)] [])) := c14.trans (st15 _ (Steps.refl _))
  have ap := apart (Or.inr ⟨_, (wk W (.laysFinal "java/lang/String" "java/lang/String" "value" "[B"))⟩) (Or.inr ⟨_, (wk W (.laysFinal "java/lang/String" "java/lang/String" "coder" "B"))⟩) f1 f2 (t₁ := .array .byte) (t₂ := .byte) (by decide +kernel) (by decide +kernel) (by decide)
  have al := X8.warmed.alike.symm.trans X15.warmed.alike
  have n7 : T11.heap[s.heap.size]? = some N := by rw [q11]; exact n1.1
  exact ⟨T15, none, _, _, _, X15, by simp, rfl, by omega, (fun _ => rfl), ⟨rfl, _, N, bl15, ((Same.refl D _).set _ (by simp)).set _ (by simp), sl15, (Cell.slots_setSlot_ne _ ap).trans sl13, n1.keep al (p15.other hne (p13.other hne n7)), n2, by rw [al.findClass]; exact n3, n4, n5, fun y c h1 h2 => p15.other h1 (p13.other h1 (by rw [q11]; exact n6 y c h2)), by rw [p15.2.2, p13.2.2, q11]; exact z8⟩, fun fs hl => c16.trans (X15.returnOut hexec hret (hb hbytes d57) hl)⟩
end New4
namespace New1
def yN : MethodName := ⟨"java/lang/String", "<init>", "([C)V"⟩
abbrev yB : ByteArray := jdk_42_method_3_code
theorem d0 : decode yB 0 = .ok (.aload_n 0, 1) := by decide +kernel
theorem d1 : decode yB 1 = .ok (.aload_n 1, 1) := by decide +kernel
theorem d2 : decode yB 2 = .ok (.iconst 0, 1) := by decide +kernel
theorem d3 : decode yB 3 = .ok (.aload_n 1, 1) := by decide +kernel
theorem d4 : decode yB 4 = .ok (.arraylength, 1) := by decide +kernel
theorem d5 : decode yB 5 = .ok (.aconst_null, 1) := by decide +kernel
theorem d6 : decode yB 6 = .ok (.invokespecial 27, 3) := by decide +kernel
theorem d9 : decode yB 9 = .ok (.return_, 1) := by decide +kernel
def site : List Cond := [New4.tab] ++ initW "java/lang/String" 27 New4.yN
def tab : Cond := tabOf yN yB 2 none site
def P (a : Addr) (D : Cell) (fV fC : Field) (b : Addr) (A : Cell) (z : Int32) (args : Array Value) (s : State) : Prop := args = #[.ref a, .ref b] ∧ Blank "java/lang/String" a D s ∧ Found "java/lang/String" "value" "[B" fV s ∧ Found "java/lang/String" "coder" "B" fC s ∧ Ch b A s ∧ StaticIs s "java/lang/String" "COMPACT_STRINGS" "Z" (.int z) ∧ ¬ z = 0 ∧ 0 < A.slots.size ∧ A.slots.size ≤ 536870912 ∧ ∀ i, i < A.slots.size → ¬ 255 < cv A i
def E (a : Addr) (D : Cell) (fV fC : Field) (A : Cell) (r : Option Value) (s u : State) : Prop := Got a D fV fC A 0 A.slots.size r s u
/-- new String(chars), not empty, no char above 255: a Latin-1 String of their low bytes -/
theorem law (l : Launch) (a : Addr) (D : Cell) (fV fC : Field) (b : Addr) (A : Cell) (z : Int32) : Law l yN 2 1 3 52 yB 2 none site (P a D fV fC b A z) (E a D fV fC A) [⟨a, fC.slot⟩, ⟨a, fV.slot⟩] 1 A.slots.size := by
  refine Law.of_walk (plainFor_of_name (by decide +kernel)) (by decide +kernel) (by decide +kernel) (by decide) (fun _ _ h => by rw [h.1]; rfl) (fun _ U U' hal hh h => ⟨h.1, h.2.1.mv hal hh, h.2.2.1.al hal, h.2.2.2.1.al hal, h.2.2.2.2.1.mv hal hh, h.2.2.2.2.2.1.there hal hh, h.2.2.2.2.2.2⟩) (fun r U U' V V' h1 hal h2 h => Got.mv r U U' V V' h1 hal h2 h) ?_
  intro p e s m args below meth c s₁ X0 hexec hbytes hml hret hlk hnm hown hh0 W hP
  obtain ⟨rfl, hB, f1, f2, hA, s1, hz, l0, l2, hp⟩ := hP
  have c1 : Steps p.tables e below (s₁.setTop (entryFrame m #[.ref a, .ref b] 2)) (s₁.setTop (mkF m 0 #[.val (.ref a), .val (.ref b)] [])) := entry rfl
  have c2 : Steps p.tables e below (s₁.setTop (entryFrame m #[.ref a, .ref b] 2)) (s₁.setTop (mkF m 6 #[.val (.ref a), .val (.ref b)] [.null, .int (Int32.ofNat A.slots.size), .int 0, .ref b, .ref a])) := c1.trans (by
    refine XS.aloadN X0.here hexec rfl (hb hbytes d0) rfl rfl ?_
    refine XS.aloadN X0.here hexec rfl (hb hbytes d1) rfl rfl ?_
    refine iconstV X0.here hexec rfl 0 (hb hbytes d2) (by decide) ?_
    refine XS.aloadN X0.here hexec rfl (hb hbytes d3) rfl rfl ?_
    refine X0.alen hexec (hA.1.mv X0.warmed.alike hh0) rfl rfl (hb hbytes d4) ?_
    refine XS.aconstNull X0.here hexec rfl (hb hbytes d5) ?_
    exact Steps.refl _)
  obtain ⟨v3, T3, X3, E3, g3⟩ := X0.callN hexec (New4.law l a D fV fC b A z 0 A.slots.size) rfl hown (wks W (initW "java/lang/String" 27 New4.yN)) (W New4.tab (by simp only [site, List.mem_cons, List.mem_append, true_or, or_true])) (W := 0) (Nat.le_of_ble_eq_true rfl) (Nat.le_of_ble_eq_true rfl) (Nat.le_refl _) (by show 0 + A.slots.size ≤ A.slots.size; omega) (g := (mkF m 6 #[.val (.ref a), .val (.ref b)] [.null, .int (Int32.ofNat A.slots.size), .int (Int32.ofNat 0), .ref b, .ref a])) rfl (by rw [hml]; rfl) c2 (argsL := [.ref b, .int (Int32.ofNat 0), .int (Int32.ofNat A.slots.size), .null]) (rest := []) rfl rfl (by show 2 * 0 + 0 ≤ _; decide) (hb hbytes d6) (⟨rfl, hB.mv X0.warmed.alike hh0, f1.al X0.warmed.alike, f2.al X0.warmed.alike, hA.mv X0.warmed.alike hh0, s1.there X0.warmed.alike hh0, hz, l0, by omega, l2, fun i hi => by rw [Nat.zero_add]; exact hp i hi⟩)
  have e0 := Got.mv _ s₁ s _ _ hh0.symm (Vm.Alike.refl _) rfl E3
  obtain rfl := e0.1
  have c4 : Steps p.tables e below (s₁.setTop (entryFrame m #[.ref a, .ref b] 2)) (T3.setTop (mkF m 9 #[.val (.ref a), .val (.ref b)] [])) := g3
  exact ⟨T3, none, _, _, _, X3, by simp, rfl, by omega, (fun _ => rfl), e0, fun fs hl => c4.trans (X3.returnOut hexec hret (hb hbytes d9) hl)⟩
theorem pays {l : Launch} {R : Room} {p : Program} {e : Env} {below : List Frame} {s : State} {sargs : Array Value} {len W : Nat} (a : Addr) (D : Cell) (fV fC : Field) (b : Addr) (A : Cell) (z : Int32) (htab : tab.before sargs s = true) (hfr : 4 ≤ R.frames) (hlo : W + 65 ≤ R.locals) :
    Back l R p e below s sargs yN len W (fun A₁ a₁ => A₁.cells + 1 ≤ R.cells ∧ A₁.slots + A.slots.size ≤ R.slots ∧ P a D fV fC b A z a₁ A₁.U) (fun A₁ _ v₁ B₁ => E a D fV fC A v₁ A₁.U B₁.U ∧ B₁.locs = A₁.locs ++ [⟨a, fC.slot⟩, ⟨a, fV.slot⟩] ∧ B₁.cells = A₁.cells + 1 ∧ B₁.slots = A₁.slots + A.slots.size) :=
  (law l a D fV fC b A z).pays htab hfr (by omega)
end New1
end StrChars
namespace StrChars.Road
open Jvm Sem ClassFile Op Lib Jvm.Stand Jvm.Free Jvm.Free.XT
open Jvm.Lib.Cold (StaticIs)
abbrev ST : String := "java/lang/String"
/-- every table word that New1's law asks, flat -/
abbrev words : List Jvm.Cond := [.code New1.yN New1.yB 2 none, .initialized ST, .methodLink ST 27 New4.yN, .instanceMethod New4.yN,
  .code New4.yN New4.yB 6 none, .fieldLink ST 38 ST "COMPACT_STRINGS" "Z", .laysFinal ST ST "value" "[B", .fieldLink ST 9 ST "value" "[B", .laysFinal ST ST "coder" "B", .fieldLink ST 15 ST "coder" "B",
  .methodLink ST 1 Lib.objectInit, .instanceMethod Lib.objectInit, .code Lib.objectInit ⟨#[0xb1]⟩ 1 none, .methodLink ST 177 Cmp3.yN, .static Cmp3.yN, .methodLink ST 47 CodL.yN, .static CodL.yN,
  .code Cmp3.yN Cmp3.yB 6 (some (.array .byte)), .initialized U16, .arrayClass .byte, .methodLink U16 115 Cmp5.yN, .static Cmp5.yN, .code Cmp5.yN Cmp5.yB 7 (some .int), .code CodL.yN CodL.yB 2 (some .byte)]
theorem tab_of {a : Array Value} {s : State} (h : ∀ w ∈ words, w.before a s = true) : New1.tab.before a s = true := by
  have h5 : Cmp5.tab.before a s = true := unparts (wk h (.code Cmp5.yN Cmp5.yB 7 (some .int))) (wks h (.initialized Cmp5.yN.cls :: Cmp5.site))
  have hc : CodL.tab.before a s = true := unparts (wk h (.code CodL.yN CodL.yB 2 (some .byte))) (wks h (.initialized CodL.yN.cls :: CodL.site))
  have q5 : ∀ w ∈ Cmp5.tab :: words, w.before a s = true := fun w hw => (List.mem_cons.mp hw).elim (fun e => e ▸ h5) (h w)
  have h3 : Cmp3.tab.before a s = true := unparts (wk q5 (.code Cmp3.yN Cmp3.yB 6 (some (.array .byte)))) (wks q5 (.initialized Cmp3.yN.cls :: Cmp3.site))
  have q3 : ∀ w ∈ Cmp3.tab :: CodL.tab :: words, w.before a s = true := fun w hw => (List.mem_cons.mp hw).elim (fun e => e ▸ h3) fun hw => (List.mem_cons.mp hw).elim (fun e => e ▸ hc) (h w)
  have h4 : New4.tab.before a s = true := unparts (wk q3 (.code New4.yN New4.yB 6 none)) (wks q3 (.initialized New4.yN.cls :: New4.site))
  have q4 : ∀ w ∈ New4.tab :: words, w.before a s = true := fun w hw => (List.mem_cons.mp hw).elim (fun e => e ▸ h4) (h w)
  exact unparts (wk q4 (.code New1.yN New1.yB 2 none)) (wks q4 (.initialized New1.yN.cls :: New1.site))
/-- the words ride from the start Z to the walk's own state -/
theorem moved {Z s : State} {a0 args : Array Value} (hZ : Z.Warmed39 s.vm) (hw : ∀ d ∈ words, d.before a0 Z = true) : ∀ d ∈ words, d.before args s = true := fun d hd => by
  have q := hw d hd
  have t : ∀ d ∈ words, d = .arrayClass .byte ∨ (d.onTables && d.keepsFace) = true := by decide +kernel
  rcases t d hd with rfl | t
  · exact RoadKit.mvA hZ q
  · exact RoadKit.mv hZ q t
/-- WHAT COMES BACK, over the tables of the start Z: h the heap at the call, h' behind it -/
def Q (Z : State) (x : Addr) (A : Cell) (h : Heap) (v : Option Value) (h' : Heap) (L : List Loc) : Prop := v = none ∧ (∀ y ∈ L, y.base = x) ∧ RoadKit.Keep h h' [x] ∧ h'.size = h.size + 1 ∧ RoadKit.Exa Z h' x ST ∧ RoadKit.Fld Z h' x ST "value" "[B" (.ref h.size) ∧ RoadKit.Fld Z h' x ST "coder" "B" (.int 0) ∧
  (∃ V : Cell, RoadKit.Arr Z h' h.size V .byte ∧ V.vm = .none ∧ Z.vm.findClass "[B" = some V.cls ∧ V.slots.size = A.slots.size ∧ ∀ j, j < A.slots.size → V.slots[j]? = some (.int (lo8 (cv A j)))) ∧
  ∀ (O n d : String) (w : Value), RoadKit.Fld Z h x O n d w → RoadKit.slotOf Z O n d ≠ RoadKit.slotOf Z ST "value" "[B" → RoadKit.slotOf Z O n d ≠ RoadKit.slotOf Z ST "coder" "B" → RoadKit.Fld Z h' x O n d w
/-- **new String(chars) AT A CALL, IN THE ROAD'S FORM**: for specialBack behind newO: x the fresh String, b the char[] with the cell A -/
theorem back {p : Program} {l : Launch} {e : Env} {R : Room} {s : State} {args : Array Value} {below : List Frame} {len W : Nat} {Z : State} {a0 : Array Value} {h : Heap} (hZ : Z.Warmed39 s.vm) (hw : ∀ d ∈ words, d.before a0 Z = true) {kI : Nat} (wi : (Jvm.Cond.instantiable ST kI).before a0 Z = true)
    {x b : Addr} {A : Cell} {z : Int32} {v0 c0 : Value} (E : RoadKit.Exa Z h x ST) (V : RoadKit.Fld Z h x ST "value" "[B" v0) (C : RoadKit.Fld Z h x ST "coder" "B" c0) (K : RoadKit.Arr Z h b A .char) (hty : Typed .char A) (S : RoadKit.Sta Z h ST "COMPACT_STRINGS" "Z" (.int z)) (hz : ¬ z = 0)
    (l0 : 0 < A.slots.size) (l2 : A.slots.size ≤ 536870912) (hp : ∀ i, i < A.slots.size → ¬ 255 < cv A i) (hfr : 4 ≤ R.frames) (hlo : W + 65 ≤ R.locals) :
    Back l R p e below s args New1.yN len W (fun P a => a = #[.ref x, .ref b] ∧ P.U.heap = h ∧ P.cells + 1 ≤ R.cells ∧ P.slots + A.slots.size ≤ R.slots)
      (fun P _ v B => ∃ L, Q Z x A h v B.U.heap L ∧ B.locs = P.locs ++ L ∧ B.cells = P.cells + 1 ∧ B.slots = P.slots + A.slots.size) := by
  intro m meth c P g ig mk a X hg hsize hdg hW hn hp'
  obtain ⟨rfl, rfl, r1, r2⟩ := hp'
  have al : Z.vm.Alike P.U.vm := hZ.alike.trans X.warmed.alike
  obtain ⟨D, cfV, kV, iV, fV, hD, gV, stV, knV, obV, asV, slV⟩ := id V
  obtain ⟨D', cfC, kC, iC, fC, hD', gC, stC, -, -, asC, slC⟩ := id C
  cases hD.symm.trans hD'
  obtain ⟨D2, kD, e1, e2, e3, e4, e5⟩ := id E
  cases hD.symm.trans e1
  obtain ⟨c2, k2, i1, i2, i3, -⟩ := Cond.instantiable_spec wi
  cases e2.symm.trans i1
  cases e3.symm.trans i2
  obtain ⟨kU, u1, u2⟩ := al.2.2 _ _ e3
  have hB : Blank ST x D P.U := ⟨hD, ⟨knV, fun q hq => by rw [hq] at obV; cases obV⟩, by rw [al.findClass]; exact e2, kU, u1, by rw [u2]; exact i3, by rw [u2]; exact e5 i3⟩
  have F1 : Found ST "value" "[B" fV P.U := ⟨SBG.found_only al ⟨cfV, kV, iV, gV⟩, stV⟩
  have F2 : Found ST "coder" "B" fC P.U := ⟨SBG.found_only al ⟨cfC, kC, iC, gC⟩, stC⟩
  have hA : Ch b A P.U := ⟨⟨K.1, State.isArrayOf_alike al K.2.1, K.2.2, by omega⟩, hty⟩
  have hS : StaticIs P.U ST "COMPACT_STRINGS" "Z" (.int z) := by
    obtain ⟨cfS, iS, kS, fS, st, cS, t1, t2, t3, t4, t5, t6, t7⟩ := S
    exact StaticIs.there (s := { Z with heap := P.U.heap }) ⟨cfS, iS, kS, fS, st, cS, t1, t2, t3, t4, t5, (fun q => by rw [q] at t6; cases t6), t7⟩ al rfl
  obtain ⟨v, B, X', ⟨⟨hv, E', V', q1, q2, q3, q4, q5, q6, q7, q8, q9, q10, q11⟩, hl, hc, hs⟩, st⟩ := New1.pays x D fV fC b A z (tab_of (moved hZ hw)) hfr hlo m meth c P g ig mk _ X hg hsize hdg hW hn ⟨r1, r2, rfl, hB, F1, F2, hA, hS, hz, l0, l2, hp⟩
  have al' : Z.vm.Alike B.U.vm := hZ.alike.trans X'.warmed.alike
  have hsz : E'.slots.size = D.slots.size := by
    obtain ⟨-, -, -, kB, w1, w2, w3⟩ := q1
    obtain ⟨kB', y1, y2⟩ := al'.2.2 _ _ e3
    rw [q2.2.1] at w1
    cases w1.symm.trans y1
    rw [w3, e5 i3, y2]
  refine ⟨v, B, X', ⟨_, ⟨hv, ?_, ⟨by omega, fun y cy hy hn' => q10 y cy (by simpa using hn') hy, fun y cy hy => ?_⟩, q11, ⟨E', _, q1.1, by rw [q2.2.1]; exact e2, by rw [q2.2.1]; exact e3, by rw [q2.1]; exact obV, fun _ => by rw [hsz]; exact e5 i3⟩,
    ⟨E', cfV, kV, iV, fV, q1.1, gV, stV, by rw [q2.1]; exact knV, by rw [q2.1]; exact obV, by rw [q2.2.1]; exact asV, q3⟩, ⟨E', cfC, kC, iC, fC, q1.1, gC, stC, by rw [q2.1]; exact knV, by rw [q2.1]; exact obV, by rw [q2.2.1]; exact asC, q4⟩,
    ⟨V', ⟨q5.1, State.isArrayOf_alike al'.symm q5.2.1, q5.2.2.1⟩, q6, by rw [← al'.findClass]; exact q7, q8, fun j hj => by have := q9 j hj; rwa [Nat.zero_add] at this⟩, fun O n d w F n1 n2 => ?_⟩, hl, hc, hs⟩, st⟩
  · intro y hy
    simp only [List.mem_cons, List.not_mem_nil, or_false] at hy
    rcases hy with rfl | rfl <;> rfl
  · by_cases q : y = x
    · subst q
      cases hD.symm.trans hy
      exact ⟨E', q1.1, q2.2.1, q2.1, hsz⟩
    · exact ⟨cy, q10 y cy q hy, rfl, rfl, rfl⟩
  · obtain ⟨D3, cf, k, i, f, g1, g2, g3, g4, g5, g6, g7⟩ := F
    cases hD.symm.trans g1
    simp only [RoadKit.slotOf, g2, gV, gC, Option.map_some, Option.getD_some] at n1 n2
    exact ⟨E', cf, k, i, f, q1.1, g2, g3, by rw [q2.1]; exact g4, by rw [q2.1]; exact g5, by rw [q2.2.1]; exact g6, by rw [q2.2.2 f.slot (by simp [n1, n2])]; exact g7⟩
end StrChars.Road
namespace StrChars.Road
open Jvm Sem ClassFile Op Lib Jvm.Stand Jvm.Free Jvm.Free.XT
/-- WHAT COMES BACK, the byte[] as a list of values -/
def QA (Z : State) (x : Addr) (zn : Int32) (cs : List Int32) (h : Heap) (v : Option Value) (h' : Heap) (L : List Loc) : Prop := v = none ∧ (∀ y ∈ L, y.base = x) ∧ RoadKit.Keep h h' [x] ∧ h'.size = h.size + 1 ∧ RoadKit.Exa Z h' x ST ∧ RoadKit.Fld Z h' x ST "value" "[B" (.ref h.size) ∧ RoadKit.Fld Z h' x ST "coder" "B" (.int 0) ∧
  (∃ kb, Z.vm.findClass "[B" = some kb ∧ RoadKit.Arv Z h' h.size kb .byte zn (cs.map fun c => .int (lo8 c)) (.int 0)) ∧
  ∀ (O n d : String) (w : Value), RoadKit.Fld Z h x O n d w → RoadKit.slotOf Z O n d ≠ RoadKit.slotOf Z ST "value" "[B" → RoadKit.slotOf Z O n d ≠ RoadKit.slotOf Z ST "coder" "B" → RoadKit.Fld Z h' x O n d w
/-- **new String(chars) AT A CALL, THE ARRAYS AS LISTS**: the char[] at b holds cs, not empty, no char above 255 -/
theorem backArv {p : Program} {l : Launch} {e : Env} {R : Room} {s : State} {args : Array Value} {below : List Frame} {len W : Nat} {Z : State} {a0 : Array Value} {h : Heap} (hZ : Z.Warmed39 s.vm) (hw : ∀ d ∈ words, d.before a0 Z = true) {kI : Nat} (wi : (Jvm.Cond.instantiable ST kI).before a0 Z = true)
    {x b : Addr} {k : ClassId} {zn z : Int32} {cs : List Int32} {dv v0 c0 : Value} (E : RoadKit.Exa Z h x ST) (V : RoadKit.Fld Z h x ST "value" "[B" v0) (C : RoadKit.Fld Z h x ST "coder" "B" c0) (K : RoadKit.Arv Z h b k .char zn (cs.map Value.int) dv) (S : RoadKit.Sta Z h ST "COMPACT_STRINGS" "Z" (.int z)) (hz : ¬ z = 0)
    (hlen : zn.toNatClampNeg = cs.length) (h0 : 0 < cs.length) (hbig : cs.length ≤ 536870912) (hall : ∀ c ∈ cs, ¬ 255 < c) (hfr : 4 ≤ R.frames) (hlo : W + 65 ≤ R.locals) :
    Back l R p e below s args New1.yN len W (fun P a => a = #[.ref x, .ref b] ∧ P.U.heap = h ∧ P.cells + 1 ≤ R.cells ∧ P.slots + cs.length ≤ R.slots)
      (fun P _ v B => ∃ L, QA Z x zn cs h v B.U.heap L ∧ B.locs = P.locs ++ L ∧ B.cells = P.cells + 1 ∧ B.slots = P.slots + cs.length) := by
  obtain ⟨A, K1, K2, K3, K4, K5, K6⟩ := K
  have e : A.slots.size = cs.length := K3.trans hlen
  have hat : ∀ (i : Nat) (hi : i < cs.length), A.slots[i]? = some (.int cs[i]) := fun i hi => by rw [K5 i (by omega)]; simp [List.getD_eq_getElem?_getD, hi]
  have hcv : ∀ (i : Nat) (hi : i < cs.length), cv A i = cs[i] := fun i hi => by unfold cv; rw [hat i hi]
  have hty : Typed .char A := fun i v hv => by
    have hi : i < A.slots.size := (Array.getElem?_eq_some_iff.mp hv).1
    have q := K5 i hi
    rw [hv] at q
    rw [Option.some.inj q]
    exact K6 i hi
  refine Back.mono (back hZ hw wi E V C K1 hty S hz (by omega) (by omega) (fun i hi => by rw [hcv i (by omega)]; exact hall _ (List.getElem_mem _)) hfr hlo) (fun P a hp => ⟨hp.1, hp.2.1, hp.2.2.1, by rw [e]; exact hp.2.2.2⟩) (fun P a v B hp hq => ?_)
  obtain ⟨L, ⟨q1, q2, q3, q4, q5, q6, q7, ⟨V', v1, v2, v3, v4, v5⟩, q9⟩, hl, hc, hs⟩ := hq
  refine ⟨L, ⟨q1, q2, q3, q4, q5, q6, q7, ⟨V'.cls, v3, V', v1, rfl, by rw [v4, e, hlen], K4, fun i hi => ?_, fun i hi => ?_⟩, q9⟩, hl, hc, by rw [hs, e]⟩
  · have hi' : i < cs.length := by omega
    rw [v5 i (by omega), hcv i hi']; simp [List.getD_eq_getElem?_getD, hi']
  · have hi' : i < cs.length := by omega
    simp only [List.getD_eq_getElem?_getD, List.getElem?_map, List.getElem?_eq_getElem hi', Option.map_some, Option.getD_some]
    exact fits_lo8 _
end StrChars.Road
namespace StrChars.Road
open Jvm Sem ClassFile Op Lib Jvm.Stand Jvm.Free Jvm.Free.XT
/-- WHAT COMES BACK, in the writer's own shape -/
def QV (Z : State) (x : Addr) (N : Int32) (bs : List Int32) (h : Heap) (n0 : Nat) (v : Option Value) (h' : Heap) (L : List Loc) : Prop := v = none ∧ RoadKit.Fr n0 L ∧ RoadKit.Keep h h' [x] ∧ RoadKit.Exa Z h' x ST ∧ RoadKit.Fld Z h' x ST "coder" "B" (.int 0) ∧
  ∃ (t : Addr) (kb : ClassId), n0 ≤ t ∧ h.size ≤ t ∧ ¬ t = x ∧ RoadKit.Fld Z h' x ST "value" "[B" (.ref t) ∧ RoadKit.Arv Z h' t kb .byte N (bs.map Value.int) (.int 0)
/-- **new String(chars) AT A CALL, FOR THE WRITER**: a char[] of n known ints, each 0 to 255 -/
theorem backV {p : Program} {l : Launch} {e : Env} {R : Room} {s : State} {args : Array Value} {below : List Frame} {len W : Nat} {Z : State} {a0 : Array Value} {h : Heap} (hZ : Z.Warmed39 s.vm) (hw : ∀ d ∈ words, d.before a0 Z = true) {kI : Nat} (wi : (Jvm.Cond.instantiable ST kI).before a0 Z = true)
    {x b : Addr} {kC : ClassId} {cs bs : List Int32} {d v0 c0 : Value} {z N : Int32} {n n0 : Nat} (hx0 : n0 ≤ x) (hh0 : n0 ≤ h.size) (E : RoadKit.Exa Z h x ST) (V : RoadKit.Fld Z h x ST "value" "[B" v0) (C : RoadKit.Fld Z h x ST "coder" "B" c0) (K : RoadKit.Arv Z h b kC .char N (cs.map Value.int) d) (S : RoadKit.Sta Z h ST "COMPACT_STRINGS" "Z" (.int z)) (hz : ¬ z = 0)
    (hn : cs.length = n) (hN : N = Int32.ofNat n) (l0 : 0 < n) (l2 : n ≤ 4000) (hp : ∀ c ∈ cs, ¬ c < 0 ∧ ¬ (255 : Int32) < c) (hb : bs = cs.map (fun c => c.toInt8.toInt32)) (hfr : 4 ≤ R.frames) (hlo : W + 65 ≤ R.locals) :
    Back l R p e below s args (⟨"java/lang/String", "<init>", "([C)V"⟩ : MethodName) len W (fun P a => a = #[.ref x, .ref b] ∧ P.U.heap = h ∧ P.cells + 1 ≤ R.cells ∧ P.slots + n ≤ R.slots)
      (fun P _ v B => ∃ L, QV Z x N bs h n0 v B.U.heap L ∧ B.locs = P.locs ++ L ∧ B.cells = P.cells + 1 ∧ B.slots = P.slots + n) := by
  subst hn hN hb
  refine Back.mono (backArv hZ hw wi E V C K S hz (n32 (by omega)) l0 (by omega) (fun c hc => (hp c hc).2) hfr hlo) (fun P a hp => hp) (fun P a v B hp hq => ?_)
  obtain ⟨L, ⟨q1, q2, q3, q4, q5, q6, q7, ⟨kb, v1, v2⟩, q9⟩, hl, hc, hs⟩ := hq
  exact ⟨L, ⟨q1, fun y hy => by rw [q2 y hy]; exact hx0, q3, q5, q7, h.size, kb, hh0, Nat.le_refl _, Nat.ne_of_gt E.lt, q6, by rw [List.map_map]; exact v2⟩, hl, hc, hs⟩
end StrChars.Road
end Jvm.Pilot.@@N@@

namespace Jvm.Pilot.@@N@@
open Jvm Jvm.ClassFile Sem Op Lib Jvm.Free Jvm.Stand Jvm.LawKit Jvm.RoadKit Bundle Jvm.Pilot.@@N@@.Jvm.D
section Own
variable {p : Program} {l : Launch} {e : Env} {R : Room} {s : State} {m : MethodId} {args : Array Value} {below : List Frame} {meth : Method} {c : Code} {T : State} {locs : List Loc} {cells slots : Nat} {Z : State} {a0 : Array Value} {h h' : Heap}
/-- an array of n places, whose j-th holds f j -/
def own_AF (Z : State) (h : Heap) (a : Addr) (ty : FieldType) (n : Nat) (f : Nat → Value) : Prop := n < 2147483648 ∧ ∃ c : Cell, Arr Z h a c ty ∧ c.slots.size = n ∧ ∀ j, j < n → c.slots[j]? = some (f j)
/-- an array of ints, bytes, chars, booleans -/
def own_AI (Z : State) (h : Heap) (a : Addr) (ty : FieldType) (n : Nat) (f : Nat → Int32) : Prop := own_AF Z h a ty n (fun j => .int (f j))
def own_AL (Z : State) (h : Heap) (a : Addr) (n : Nat) (f : Nat → Int64) : Prop := own_AF Z h a .long n (fun j => .long (f j))
def own_upd {α : Type} (f : Nat → α) (i : Nat) (x : α) : Nat → α := fun j => if j = i then x else f j
theorem own_AF.lt {a : Addr} {ty : FieldType} {n : Nat} {f : Nat → Value} (F : own_AF Z h a ty n f) : a < h.size := by obtain ⟨_, c, A, -⟩ := F; exact A.lt
theorem own_AI.lt {a : Addr} {ty : FieldType} {n : Nat} {f : Nat → Int32} (F : own_AI Z h a ty n f) : a < h.size := own_AF.lt F
theorem own_AL.lt {a : Addr} {n : Nat} {f : Nat → Int64} (F : own_AL Z h a n f) : a < h.size := own_AF.lt F
theorem own_AF.keep {a : Addr} {ty : FieldType} {n : Nat} {f : Nat → Value} {ws : List Addr} (F : own_AF Z h a ty n f) (K : Keep h h' ws) (q : a ∉ ws) : own_AF Z h' a ty n f := by
  obtain ⟨b, c, A, r⟩ := F; exact ⟨b, c, ⟨K.2.1 a c A.1 q, A.2⟩, r⟩
theorem own_AI.keep {a : Addr} {ty : FieldType} {n : Nat} {f : Nat → Int32} {ws : List Addr} (F : own_AI Z h a ty n f) (K : Keep h h' ws) (q : a ∉ ws) : own_AI Z h' a ty n f := own_AF.keep F K q
theorem own_AL.keep {a : Addr} {n : Nat} {f : Nat → Int64} {ws : List Addr} (F : own_AL Z h a n f) (K : Keep h h' ws) (q : a ∉ ws) : own_AL Z h' a n f := own_AF.keep F K q
theorem own_AF.congr {a : Addr} {ty : FieldType} {n : Nat} {f g : Nat → Value} (F : own_AF Z h a ty n f) (q : ∀ j, j < n → f j = g j) : own_AF Z h a ty n g := by
  obtain ⟨b, c, A, s, r⟩ := F; exact ⟨b, c, A, s, fun j hj => by rw [r j hj, q j hj]⟩
theorem own_AI.congr {a : Addr} {ty : FieldType} {n : Nat} {f g : Nat → Int32} (F : own_AI Z h a ty n f) (q : ∀ j, j < n → f j = g j) : own_AI Z h a ty n g := own_AF.congr F fun j hj => by show Value.int (f j) = .int (g j); rw [q j hj]
theorem own_AF.wr {a : Addr} {ty : FieldType} {n i : Nat} {f : Nat → Value} {v : Value} (F : own_AF Z h a ty n f) (hi : i < n) (W : Wr h h' a i v) : own_AF Z h' a ty n (own_upd f i v) := by
  obtain ⟨b, c, A, s, r⟩ := F
  refine ⟨b, _, A.same W, by rw [sz_set]; exact s, fun j hj => ?_⟩
  simp only [Cell.setSlot, own_upd, Array.getElem?_setIfInBounds]
  by_cases q : i = j
  · subst q; simp [s, hi]
  · have q' : ¬ j = i := fun e => q e.symm
    simp [q, q', r j hj]
theorem own_AI.wr {a : Addr} {ty : FieldType} {n i : Nat} {f : Nat → Int32} {x : Int32} (F : own_AI Z h a ty n f) (hi : i < n) (W : Wr h h' a i (.int x)) : own_AI Z h' a ty n (own_upd f i x) :=
  (own_AF.wr F hi W).congr fun j hj => by simp only [own_upd]; split <;> rfl
theorem own_AL.wr {a : Addr} {n i : Nat} {f : Nat → Int64} {x : Int64} (F : own_AL Z h a n f) (hi : i < n) (W : Wr h h' a i (.long x)) : own_AL Z h' a n (own_upd f i x) :=
  (own_AF.wr F hi W).congr fun j hj => by simp only [own_upd]; split <;> rfl
theorem own_idx {j : Int32} {i : Nat} (hj : j.toInt = i) : ¬ j < 0 ∧ j.toNatClampNeg = i := by
  refine ⟨by rw [Int32.lt_iff_toInt_lt, Int32.toInt_zero]; omega, ?_⟩
  have := nat_of (j := j) (by rw [Int32.lt_iff_toInt_lt, Int32.toInt_zero]; omega)
  omega
theorem own_inb {j : Int32} {i n : Nat} {cl : Cell} (hj : j.toInt = i) (hi : i < n) (hs : cl.slots.size = n) : ¬ (j < 0 ∨ cl.slots.size ≤ j.toNatClampNeg) := by
  obtain ⟨h1, h2⟩ := own_idx hj
  rintro (q | q)
  · exact h1 q
  · rw [h2, hs] at q; omega
theorem own_ldF {a : Addr} {n i : Nat} {ty : FieldType} {f : Nat → Value} {j : Int32} {v : Value} (A : own_AF Z h a ty n f) (hj : j.toInt = i) (hi : i < n) (hv : f i = v) : ∃ cl : Cell, Arr Z h a cl ty ∧ ¬ (j < 0 ∨ cl.slots.size ≤ j.toNatClampNeg) ∧ cl.slots[j.toNatClampNeg]? = some v := by
  obtain ⟨b, cl, Ar, hs, hf⟩ := A
  exact ⟨cl, Ar, own_inb hj hi hs, by rw [(own_idx hj).2, hf i hi, hv]⟩
theorem own_ldI (X : Stand p l e R s m args below meth c T locs cells slots) (hx : p.tables.exec = Jvm.exec) (hZ : Z.Warmed39 s.vm) (eT : T.heap = h) {a : Addr} {n i : Nat} {f : Nat → Int32} {j x : Int32} (A : own_AI Z h a .int n f) (hj : j.toInt = i) (hi : i < n) (hv : f i = x) {g : JFrame} (hg : g.method = m) {rest : List Value} (hs : g.stack = .int j :: .ref a :: rest) (hd : decode c.code g.pc = .ok (.iaload, 1)) :
    ∀ target, Steps p.tables e below (T.setTop { g with pc := g.pc + 1, stack := .int x :: rest }) target → Steps p.tables e below (T.setTop g) target := by
  obtain ⟨cl, Ar, h1, h2⟩ := own_ldF A hj hi (by rw [hv])
  exact X.iaload hx (by rw [eT]; exact Ar.1) (State.isArrayOf_alike hZ.alike Ar.2.1) Ar.2.2 h1 h2 hg hs hd
theorem own_ldC (X : Stand p l e R s m args below meth c T locs cells slots) (hx : p.tables.exec = Jvm.exec) (hZ : Z.Warmed39 s.vm) (eT : T.heap = h) {a : Addr} {n i : Nat} {f : Nat → Int32} {j x : Int32} (A : own_AI Z h a .char n f) (hj : j.toInt = i) (hi : i < n) (hv : f i = x) {g : JFrame} (hg : g.method = m) {rest : List Value} (hs : g.stack = .int j :: .ref a :: rest) (hd : decode c.code g.pc = .ok (.caload, 1)) :
    ∀ target, Steps p.tables e below (T.setTop { g with pc := g.pc + 1, stack := .int x :: rest }) target → Steps p.tables e below (T.setTop g) target := by
  obtain ⟨cl, Ar, h1, h2⟩ := own_ldF A hj hi (by rw [hv])
  exact X.caload hx (by rw [eT]; exact Ar.1) (State.isArrayOf_alike hZ.alike Ar.2.1) Ar.2.2 h1 h2 hg hs hd
theorem own_ldB (X : Stand p l e R s m args below meth c T locs cells slots) (hx : p.tables.exec = Jvm.exec) (hZ : Z.Warmed39 s.vm) (eT : T.heap = h) {a : Addr} {n i : Nat} {f : Nat → Int32} {j x : Int32} (A : own_AI Z h a .byte n f) (hj : j.toInt = i) (hi : i < n) (hv : f i = x) {g : JFrame} (hg : g.method = m) {rest : List Value} (hs : g.stack = .int j :: .ref a :: rest) (hd : decode c.code g.pc = .ok (.baload, 1)) :
    ∀ target, Steps p.tables e below (T.setTop { g with pc := g.pc + 1, stack := .int x :: rest }) target → Steps p.tables e below (T.setTop g) target := by
  obtain ⟨cl, Ar, h1, h2⟩ := own_ldF A hj hi (by rw [hv])
  exact X.baloadBytes hx (by rw [eT]; exact Ar.1) (State.isArrayOf_alike hZ.alike Ar.2.1) Ar.2.2 h1 h2 hg hs hd
theorem own_ldZ (X : Stand p l e R s m args below meth c T locs cells slots) (hx : p.tables.exec = Jvm.exec) (hZ : Z.Warmed39 s.vm) (eT : T.heap = h) {a : Addr} {n i : Nat} {f : Nat → Int32} {j x : Int32} (A : own_AI Z h a .boolean n f) (hj : j.toInt = i) (hi : i < n) (hv : f i = x) {g : JFrame} (hg : g.method = m) {rest : List Value} (hs : g.stack = .int j :: .ref a :: rest) (hd : decode c.code g.pc = .ok (.baload, 1)) :
    ∀ target, Steps p.tables e below (T.setTop { g with pc := g.pc + 1, stack := .int x :: rest }) target → Steps p.tables e below (T.setTop g) target := by
  obtain ⟨cl, Ar, h1, h2⟩ := own_ldF A hj hi (by rw [hv])
  exact X.baloadBooleans hx (by rw [eT]; exact Ar.1) (State.isArrayOf_alike hZ.alike Ar.2.1) Ar.2.2 h1 h2 hg hs hd
theorem own_ldJ (X : Stand p l e R s m args below meth c T locs cells slots) (hx : p.tables.exec = Jvm.exec) (hZ : Z.Warmed39 s.vm) (eT : T.heap = h) {a : Addr} {n i : Nat} {f : Nat → Int64} {j : Int32} {x : Int64} (A : own_AL Z h a n f) (hj : j.toInt = i) (hi : i < n) (hv : f i = x) {g : JFrame} (hg : g.method = m) {rest : List Value} (hs : g.stack = .int j :: .ref a :: rest) (hd : decode c.code g.pc = .ok (.laload, 1)) :
    ∀ target, Steps p.tables e below (T.setTop { g with pc := g.pc + 1, stack := .long x :: rest }) target → Steps p.tables e below (T.setTop g) target := by
  obtain ⟨cl, Ar, h1, h2⟩ := own_ldF A hj hi (by rw [hv])
  exact X.laload hx (by rw [eT]; exact Ar.1) (State.isArrayOf_alike hZ.alike Ar.2.1) Ar.2.2 h1 h2 hg hs hd
theorem own_ldR (X : Stand p l e R s m args below meth c T locs cells slots) (hx : p.tables.exec = Jvm.exec) (hZ : Z.Warmed39 s.vm) (eT : T.heap = h) {a : Addr} {n i : Nat} {ty : FieldType} {f : Nat → Value} {j : Int32} {v : Value} (hty : ty.isReference = true) (A : own_AF Z h a ty n f) (hj : j.toInt = i) (hi : i < n) (hv : f i = v) {g : JFrame} (hg : g.method = m) {rest : List Value} (hs : g.stack = .int j :: .ref a :: rest) (hd : decode c.code g.pc = .ok (.aaload, 1)) :
    ∀ target, Steps p.tables e below (T.setTop { g with pc := g.pc + 1, stack := v :: rest }) target → Steps p.tables e below (T.setTop g) target := by
  obtain ⟨cl, Ar, h1, h2⟩ := own_ldF A hj hi hv
  exact X.aaload hx (by rw [eT]; exact Ar.1) (State.isArrayOf_alike hZ.alike Ar.2.1) hty Ar.2.2 h1 h2 hg hs hd
theorem own_len (X : Stand p l e R s m args below meth c T locs cells slots) (hx : p.tables.exec = Jvm.exec) (hZ : Z.Warmed39 s.vm) (eT : T.heap = h) {a : Addr} {n : Nat} {ty : FieldType} {f : Nat → Value} {z : Int32} (A : own_AF Z h a ty n f) (hz : z.toInt = n) {g : JFrame} (hg : g.method = m) {rest : List Value} (hs : g.stack = .ref a :: rest) (hd : decode c.code g.pc = .ok (.arraylength, 1)) :
    ∀ target, Steps p.tables e below (T.setTop { g with pc := g.pc + 1, stack := .int z :: rest }) target → Steps p.tables e below (T.setTop g) target := by
  obtain ⟨b, cl, Ar, hs', hf⟩ := A
  intro target k
  refine X.arraylength hx (by rw [eT]; exact Ar.1) (State.isArrayOf_alike hZ.alike Ar.2.1) hg hs hd target ?_
  have q : cl.slots.size.toInt32 = z := by
    apply Int32.toInt_inj.mp
    rw [hs', len_toInt (by omega), hz]
  rw [q]; exact k
theorem own_stI (X : Stand p l e R s m args below meth c T locs cells slots) (hx : p.tables.exec = Jvm.exec) (hZ : Z.Warmed39 s.vm) (eT : T.heap = h) {a : Addr} {n i : Nat} {f : Nat → Int32} {j x : Int32} (A : own_AI Z h a .int n f) (hj : j.toInt = i) (hi : i < n) {g : JFrame} (hg : g.method = m) {rest : List Value} (hs : g.stack = .int x :: .int j :: .ref a :: rest) (hd : decode c.code g.pc = .ok (.iastore, 1)) :
    ∃ T' h', Stand p l e R s m args below meth c T' (locs ++ [⟨a, i⟩]) cells slots ∧ T'.heap = h' ∧ Wr h h' a i (.int x) ∧ own_AI Z h' a .int n (own_upd f i x) ∧ ∀ target, Steps p.tables e below (T'.setTop { g with pc := g.pc + 1, stack := rest }) target → Steps p.tables e below (T.setTop g) target := by
  obtain ⟨cl, Ar, h1, -⟩ := own_ldF A hj hi rfl
  obtain ⟨T', h', X', e', W, st⟩ := stI X hx hZ eT Ar h1 hg hs hd
  rw [(own_idx hj).2] at X' W
  exact ⟨T', h', X', e', W, A.wr hi W, st⟩
theorem own_stB (X : Stand p l e R s m args below meth c T locs cells slots) (hx : p.tables.exec = Jvm.exec) (hZ : Z.Warmed39 s.vm) (eT : T.heap = h) {a : Addr} {n i : Nat} {f : Nat → Int32} {j x : Int32} (A : own_AI Z h a .byte n f) (hj : j.toInt = i) (hi : i < n) {g : JFrame} (hg : g.method = m) {rest : List Value} (hs : g.stack = .int x :: .int j :: .ref a :: rest) (hd : decode c.code g.pc = .ok (.bastore, 1)) :
    ∃ T' h', Stand p l e R s m args below meth c T' (locs ++ [⟨a, i⟩]) cells slots ∧ T'.heap = h' ∧ Wr h h' a i (.int (x.toInt8.toInt32)) ∧ own_AI Z h' a .byte n (own_upd f i (x.toInt8.toInt32)) ∧ ∀ target, Steps p.tables e below (T'.setTop { g with pc := g.pc + 1, stack := rest }) target → Steps p.tables e below (T.setTop g) target := by
  obtain ⟨cl, Ar, h1, -⟩ := own_ldF A hj hi rfl
  obtain ⟨T', h', X', e', W, st⟩ := stB X hx hZ eT Ar h1 hg hs hd
  rw [(own_idx hj).2] at X' W
  exact ⟨T', h', X', e', W, A.wr hi W, st⟩
theorem own_stZ (X : Stand p l e R s m args below meth c T locs cells slots) (hx : p.tables.exec = Jvm.exec) (hZ : Z.Warmed39 s.vm) (eT : T.heap = h) {a : Addr} {n i : Nat} {f : Nat → Int32} {j x : Int32} (A : own_AI Z h a .boolean n f) (hj : j.toInt = i) (hi : i < n) {g : JFrame} (hg : g.method = m) {rest : List Value} (hs : g.stack = .int x :: .int j :: .ref a :: rest) (hd : decode c.code g.pc = .ok (.bastore, 1)) :
    ∃ T' h', Stand p l e R s m args below meth c T' (locs ++ [⟨a, i⟩]) cells slots ∧ T'.heap = h' ∧ Wr h h' a i (.int (x &&& 1)) ∧ own_AI Z h' a .boolean n (own_upd f i (x &&& 1)) ∧ ∀ target, Steps p.tables e below (T'.setTop { g with pc := g.pc + 1, stack := rest }) target → Steps p.tables e below (T.setTop g) target := by
  obtain ⟨cl, Ar, h1, -⟩ := own_ldF A hj hi rfl
  obtain ⟨T', h', X', e', W, st⟩ := stZ X hx hZ eT Ar h1 hg hs hd
  rw [(own_idx hj).2] at X' W
  exact ⟨T', h', X', e', W, A.wr hi W, st⟩
theorem own_stC (X : Stand p l e R s m args below meth c T locs cells slots) (hx : p.tables.exec = Jvm.exec) (hZ : Z.Warmed39 s.vm) (eT : T.heap = h) {a : Addr} {n i : Nat} {f : Nat → Int32} {j x : Int32} (A : own_AI Z h a .char n f) (hj : j.toInt = i) (hi : i < n) {g : JFrame} (hg : g.method = m) {rest : List Value} (hs : g.stack = .int x :: .int j :: .ref a :: rest) (hd : decode c.code g.pc = .ok (.castore, 1)) :
    ∃ T' h', Stand p l e R s m args below meth c T' (locs ++ [⟨a, i⟩]) cells slots ∧ T'.heap = h' ∧ Wr h h' a i (.int (x.toUInt32.toUInt16.toUInt32.toInt32)) ∧ own_AI Z h' a .char n (own_upd f i (x.toUInt32.toUInt16.toUInt32.toInt32)) ∧ ∀ target, Steps p.tables e below (T'.setTop { g with pc := g.pc + 1, stack := rest }) target → Steps p.tables e below (T.setTop g) target := by
  obtain ⟨cl, Ar, h1, -⟩ := own_ldF A hj hi rfl
  obtain ⟨T', h', X', e', W, st⟩ := stC X hx hZ eT Ar h1 hg hs hd
  rw [(own_idx hj).2] at X' W
  exact ⟨T', h', X', e', W, A.wr hi W, st⟩
theorem own_stJ (X : Stand p l e R s m args below meth c T locs cells slots) (hx : p.tables.exec = Jvm.exec) (hZ : Z.Warmed39 s.vm) (eT : T.heap = h) {a : Addr} {n i : Nat} {f : Nat → Int64} {j : Int32} {x : Int64} (A : own_AL Z h a n f) (hj : j.toInt = i) (hi : i < n) {g : JFrame} (hg : g.method = m) {rest : List Value} (hs : g.stack = .long x :: .int j :: .ref a :: rest) (hd : decode c.code g.pc = .ok (.lastore, 1)) :
    ∃ T' h', Stand p l e R s m args below meth c T' (locs ++ [⟨a, i⟩]) cells slots ∧ T'.heap = h' ∧ Wr h h' a i (.long x) ∧ own_AL Z h' a n (own_upd f i x) ∧ ∀ target, Steps p.tables e below (T'.setTop { g with pc := g.pc + 1, stack := rest }) target → Steps p.tables e below (T.setTop g) target := by
  obtain ⟨cl, Ar, h1, -⟩ := own_ldF A hj hi rfl
  obtain ⟨T', h', X', e', W, st⟩ := stJ X hx hZ eT Ar h1 hg hs hd
  rw [(own_idx hj).2] at X' W
  exact ⟨T', h', X', e', W, A.wr hi W, st⟩
theorem own_newF {a : Addr} {cA : ClassId} {ty : FieldType} {n : Int32} {i : Nat} (hn : n.toInt = i) (A : Arr Z h a (newA cA ty n) ty) : own_AF Z h a ty i (fun _ => defaultValue ty) := by
  obtain ⟨h1, h2⟩ := own_idx hn
  have := n.toInt_lt
  refine ⟨by omega, _, A, by rw [sz_new, h2], fun j hj => ?_⟩
  simp [newA, h2, hj]
theorem own_newI {a : Addr} {cA : ClassId} {ty : FieldType} {n : Int32} {i : Nat} (hn : n.toInt = i) (A : Arr Z h a (newA cA ty n) ty) (hd : defaultValue ty = .int 0) : own_AI Z h a ty i (fun _ => 0) :=
  (own_newF hn A).congr fun _ _ => hd
theorem own_newL {a : Addr} {cA : ClassId} {n : Int32} {i : Nat} (hn : n.toInt = i) (A : Arr Z h a (newA cA .long n) .long) : own_AL Z h a i (fun _ => 0) :=
  (own_newF hn A).congr fun _ _ => rfl
theorem own_Sta.keep {C n d : String} {v : Value} {ws : List Addr} (F : Sta Z h C n d v) (K : Keep h h' ws) (q : ∀ x ∈ ws, ∀ cl : Cell, h[x]? = some cl → cl.vm.isStatics = false) : Sta Z h' C n d v := by
  obtain ⟨cf, i, k, f, st, cell, h1, h2, h3, h4, h5, h6, h7⟩ := F
  refine ⟨cf, i, k, f, st, cell, h1, h2, h3, h4, K.2.1 st cell h5 (fun q' => ?_), h6, h7⟩
  have := q st q' cell h5
  rw [h6] at this; cases this
theorem own_selP {args : Array Value} {C : String} {y y' : MethodName} (hcls : y'.cls = y.cls) (hs : (Jvm.Cond.selects C y' y').before args s = true) (hi' : (Jvm.Cond.instanceMethod y').before args s = true) (hp : (Jvm.Cond.privateMethod y).before args s = true) (hi : (Jvm.Cond.instanceMethod y).before args s = true) (hy : y.cls ≠ "java/lang/invoke/MethodHandle" ∧ y.cls ≠ "java/lang/invoke/VarHandle") : (Jvm.Cond.selects y.cls y y).before args s = true := by
  obtain ⟨mk, methM, hnamed, -⟩ := Cond.instanceMethod_spec hi'
  obtain ⟨kr, hk, hni⟩ := notFace_of_selects hs mk hnamed
  have hc := findClass_of_methodNamed hnamed
  rw [hcls] at hc
  exact selects_self_of_private hc hk hni (Cond.privateMethod_at hp) hi hy
end Own

theorem own_fldeq {args : Array Value} {s : State} {t : Term} {x : Addr} {C n d : String} {k : Int32} (h : (Jvm.Cond.eq (.field t C n d) (.int k)).value args s none s [] = some true) (ht : t.eval args s none [] s = some (.ref x)) : Fld s s.heap x C n d (.int k) := by
  obtain ⟨y, h1, h2⟩ := Cond.eq_one (beq_iff_eq.mpr h : (Jvm.Cond.eq (.field t C n d) (.int k)).holds args s none s [] = true)
  have e : y = .int k := (Option.some.inj (show some (Value.int k) = some y from h2)).symm
  subst e
  exact Fld.start ((fld_at ht).symm.trans h1)
theorem own_fldeqL {args : Array Value} {s : State} {t : Term} {x : Addr} {C n d : String} {k : Int64} (h : (Jvm.Cond.eq (.field t C n d) (.long k)).value args s none s [] = some true) (ht : t.eval args s none [] s = some (.ref x)) : Fld s s.heap x C n d (.long k) := by
  obtain ⟨y, h1, h2⟩ := Cond.eq_one (beq_iff_eq.mpr h : (Jvm.Cond.eq (.field t C n d) (.long k)).holds args s none s [] = true)
  have e : y = .long k := (Option.some.inj (show some (Value.long k) = some y from h2)).symm
  subst e
  exact Fld.start ((fld_at ht).symm.trans h1)


theorem own_arv1 {Z : State} {h : Heap} {a : Addr} {f : Nat → Int32} {x : Int32} (F : own_AI Z h a .char 1 f) (hx : f 0 = x) (hf : fits .char (.int x) = true) : ∃ k, Arv Z h a k .char (1 : Int32) (([x] : List Int32).map Value.int) (.int 0) := by
  obtain ⟨b, cl, A, sz, r⟩ := F
  refine ⟨cl.cls, cl, A, rfl, by rw [sz]; rfl, by decide, fun k hk => ?_, fun k hk => ?_⟩
  · rw [sz] at hk
    obtain rfl : k = 0 := by omega
    rw [r 0 (by omega)]; show some (Value.int (f 0)) = _; rw [hx]; rfl
  · rw [sz] at hk
    obtain rfl : k = 0 := by omega
    exact hf
theorem own_ch (x : Int32) : 0 ≤ (((x &&& (255 : Int32)).toUInt32.toUInt16.toUInt32.toInt32).toUInt32.toUInt16.toUInt32.toInt32).toInt ∧ (((x &&& (255 : Int32)).toUInt32.toUInt16.toUInt32.toInt32).toUInt32.toUInt16.toUInt32.toInt32).toInt ≤ 255 := by
  have a := c_mask x 255 8 (by decide) (by decide)
  simp only [show (2 ^ 8 : Nat) = 256 from by decide, Int.cast_ofNat_Int] at a
  have b := c_i2c (x &&& 255)
  have d := c_i2c (x &&& 255).toUInt32.toUInt16.toUInt32.toInt32
  omega

theorem d8_0 : decode jdk_30_method_1_code 0 = .ok (.aload_n 0, 1) := by decide +kernel
theorem d8_1 : decode jdk_30_method_1_code 1 = .ok (.invokespecial 1, 3) := by decide +kernel
theorem d8_4 : decode jdk_30_method_1_code 4 = .ok (.return_, 1) := by decide +kernel
theorem pn_8 : plainName "java/lang/Record" = true := by first | (simp [plainName, overriddenIn]; done) | decide +kernel
theorem ef_8 (m : MethodId) (x0 : Addr) : entryFrame m #[(.ref x0)] 1 = mkF m 0 #[.val (.ref x0)] [] := by first | (simp [entryFrame, mkF, argsToLocals, Value.category]; done) | rfl
def Q8 (Z : State) (a : Addr) (h0 : Heap) (n0 : Nat) (rv_ : Option Value) (h : Heap) (LL_ : List Loc) : Prop := rv_ = none ∧ Fr n0 LL_ ∧ h = h0
set_option maxRecDepth 65536 in
set_option maxHeartbeats 40000000 in
theorem rm8 (l : Launch) (Z : State) (a0 : Array Value) (hw : ∀ d ∈ tables_1, d.before a0 Z = true) (ws : List Jvm.Cond) (a : Addr) (h0 : Heap) (n0 : Nat) :
    MetFree l (⟨"java/lang/Record", "<init>", "()V"⟩ : MethodName) (head1 (Jvm.Cond.code (⟨"java/lang/Record", "<init>", "()V"⟩ : MethodName) jdk_30_method_1_code 1 none :: ws) ({ frames := 1, cells := 0, slots := 0, locals := 12 } : Room)) (fun aa UU => aa = #[(.ref a)] ∧ Z.Warmed39 UU.vm ∧ UU.heap = h0) (fun _ _ _ _ _ => True) (fun _ UU oo UV => ∃ vv LL, oo = .returned vv ∧ Q8 Z a h0 n0 vv UV.heap LL ∧ FrameEnd UU oo UV LL ({ frames := 1, cells := 0, slots := 0, locals := 12 } : Room).cells ({ frames := 1, cells := 0, slots := 0, locals := 12 } : Room).slots) := by
  refine MetFree.of_bodySF (plainFor_of_name pn_8) hisR ?_
  intro p e s m args below meth c s₁ Bd hml0 hP hK
  obtain ⟨rfl, hZ, hh⟩ := hP
  have hx := Bd.exec
  have hby := Bd.bytes
  have hml : c.maxLocals = 1 := hml0
  have hown : s.vm.findClass "java/lang/Record" = some m.cls := findClass_of_methodNamed Bd.named
  have hnm := (name_of_methodNamed Bd.named Bd.method).1
  have X0 : Stand p l e ({ frames := 1, cells := 0, slots := 0, locals := 12 } : Room) s m #[(.ref a)] below meth c s₁ [] 0 0 := Stand.of_body Bd
  have e0 : s₁.heap = h0 := by rw [← hh, Bd.state]; rfl
  have N0 := Fr.nil n0
  have k0 : ∀ tg_, Steps p.tables e below (s₁.setTop (mkF m 0 #[.val (.ref a)] [])) tg_ → Steps p.tables e below (s₁.setTop (entryFrame m #[(.ref a)] 1)) tg_ := fun tg_ k => castTop (ef_8 m a) k
  obtain ⟨T1, X1, e1, st1⟩ := initO X0 hx hZ hown (hw _ (List.mem_of_getElem? (i := 45) rfl)) (hw _ (List.mem_of_getElem? (i := 19) rfl)) (hw _ (List.mem_of_getElem? (i := 20) rfl)) e0 (g := (mkF m 1 #[.val (.ref a)] [(.ref a)])) rfl (by rw [hml]; rfl) rfl (hb hby d8_1) (by decide) (W := 0) (by show 2 * 0 + _ ≤ _; exact Nat.le_of_eq rfl) (by decide)
  have k2 : ∀ tg_, Steps p.tables e below (T1.setTop (mkF m 4 #[.val (.ref a)] [])) tg_ → Steps p.tables e below (s₁.setTop (entryFrame m #[(.ref a)] 1)) tg_ := by
    intro tg_ kt
    refine k0 tg_ ?_
    refine XS.aloadN X0.here hx rfl (hb hby d8_0) rfl rfl ?_
    show Steps p.tables e below (s₁.setTop (mkF m 1 #[.val (.ref a)] [(.ref a)])) _
    refine st1 _ ?_
    show Steps p.tables e below (T1.setTop (mkF m 4 #[.val (.ref a)] [])) _
    exact kt
  obtain ⟨fs, hr, hrun, hended, hW, hsame⟩ := X1.leave (v := none) (fun _ => rfl)
  refine ⟨_, _, k2 _ (X1.returnOut hx Bd.returns (hb hby d8_4) hr), hrun, hended, _, _, rfl, ?_, ⟨_, rfl⟩, hW, hsame.mono (by decide) (by decide)⟩
  show Q8 Z a h0 n0 _ T1.heap _
  rw [e1]
  exact ⟨rfl, N0, rfl⟩
theorem d9_0 : decode jdk_31_method_10_code 0 = .ok (.aload_n 0, 1) := by decide +kernel
theorem d9_1 : decode jdk_31_method_10_code 1 = .ok (.ifnonnull 11, 3) := by decide +kernel
theorem d9_12 : decode jdk_31_method_10_code 12 = .ok (.aload_n 0, 1) := by decide +kernel
theorem d9_13 : decode jdk_31_method_10_code 13 = .ok (.areturn, 1) := by decide +kernel
theorem pn_9 : plainName "java/util/Objects" = true := by first | (simp [plainName, overriddenIn]; done) | decide +kernel
theorem ef_9 (m : MethodId) (x0 : Addr) : entryFrame m #[(.ref x0)] 1 = mkF m 0 #[.val (.ref x0)] [] := by first | (simp [entryFrame, mkF, argsToLocals, Value.category]; done) | rfl
def Q9 (Z : State) (x : Addr) (h0 : Heap) (n0 : Nat) (rv_ : Option Value) (h : Heap) (LL_ : List Loc) : Prop := rv_ = some (.ref x) ∧ Fr n0 LL_ ∧ h = h0
set_option maxRecDepth 65536 in
set_option maxHeartbeats 40000000 in
theorem rm9 (l : Launch) (Z : State) (a0 : Array Value) (hw : ∀ d ∈ tables_1, d.before a0 Z = true) (ws : List Jvm.Cond) (x : Addr) (h0 : Heap) (n0 : Nat) :
    MetFree l (⟨"java/util/Objects", "requireNonNull", "(Ljava/lang/Object;)Ljava/lang/Object;"⟩ : MethodName) (head1 (Jvm.Cond.code (⟨"java/util/Objects", "requireNonNull", "(Ljava/lang/Object;)Ljava/lang/Object;"⟩ : MethodName) jdk_31_method_10_code 1 (some (.object "java/lang/Object")) :: ws) ({ frames := 0, cells := 0, slots := 0, locals := 0 } : Room)) (fun aa UU => aa = #[(.ref x)] ∧ Z.Warmed39 UU.vm ∧ UU.heap = h0) (fun _ _ _ _ _ => True) (fun _ UU oo UV => ∃ vv LL, oo = .returned vv ∧ Q9 Z x h0 n0 vv UV.heap LL ∧ FrameEnd UU oo UV LL ({ frames := 0, cells := 0, slots := 0, locals := 0 } : Room).cells ({ frames := 0, cells := 0, slots := 0, locals := 0 } : Room).slots) := by
  refine MetFree.of_bodySF (plainFor_of_name pn_9) hisR ?_
  intro p e s m args below meth c s₁ Bd hml0 hP hK
  obtain ⟨rfl, hZ, hh⟩ := hP
  have hx := Bd.exec
  have hby := Bd.bytes
  have hml : c.maxLocals = 1 := hml0
  have hown : s.vm.findClass "java/util/Objects" = some m.cls := findClass_of_methodNamed Bd.named
  have hnm := (name_of_methodNamed Bd.named Bd.method).1
  have X0 : Stand p l e ({ frames := 0, cells := 0, slots := 0, locals := 0 } : Room) s m #[(.ref x)] below meth c s₁ [] 0 0 := Stand.of_body Bd
  have e0 : s₁.heap = h0 := by rw [← hh, Bd.state]; rfl
  have N0 := Fr.nil n0
  have k0 : ∀ tg_, Steps p.tables e below (s₁.setTop (mkF m 0 #[.val (.ref x)] [])) tg_ → Steps p.tables e below (s₁.setTop (entryFrame m #[(.ref x)] 1)) tg_ := fun tg_ k => castTop (ef_9 m x) k
  have k3 : ∀ tg_, Steps p.tables e below (s₁.setTop (mkF m 13 #[.val (.ref x)] [(.ref x)])) tg_ → Steps p.tables e below (s₁.setTop (entryFrame m #[(.ref x)] 1)) tg_ := by
    intro tg_ kt
    refine k0 tg_ ?_
    refine XS.aloadN X0.here hx rfl (hb hby d9_0) rfl rfl ?_
    show Steps p.tables e below (s₁.setTop (mkF m 1 #[.val (.ref x)] [(.ref x)])) _
    refine XS.ifnonnullYes X0.here hx rfl (pc0 := 1) (pc' := 12) rfl (hb hby d9_1) rfl (by decide) (by decide) ?_
    show Steps p.tables e below (s₁.setTop (mkF m 12 #[.val (.ref x)] [])) _
    refine XS.aloadN X0.here hx rfl (hb hby d9_12) rfl rfl ?_
    show Steps p.tables e below (s₁.setTop (mkF m 13 #[.val (.ref x)] [(.ref x)])) _
    exact kt
  obtain ⟨fs, hr, hrun, hended, hW, hsame⟩ := X0.leave (v := some (.ref x)) (fun h => by rw [Bd.returns] at h; cases h)
  refine ⟨_, _, k3 _ (retOut X0 hx Bd.returns rfl (Or.inr (Or.inr (Or.inr (Or.inr ⟨rfl, rfl, rfl⟩)))) (hb hby d9_13) hr), hrun, hended, _, _, rfl, ?_, ⟨_, rfl⟩, hW, hsame.mono (by decide) (by decide)⟩
  show Q9 Z x h0 n0 _ s₁.heap _
  rw [e0]
  exact ⟨rfl, N0, rfl⟩
theorem pd_2 : parseMethodDescriptor "()V" = some ⟨[], none⟩ := by decide +kernel
theorem pd_7 : parseMethodDescriptor "(Ljava/lang/Object;)Ljava/lang/Object;" = some ⟨[(.object "java/lang/Object")], some (.object "java/lang/Object")⟩ := by decide +kernel
theorem d7_0 : decode prog_66_method_1_code 0 = .ok (.aload_n 0, 1) := by decide +kernel
theorem d7_1 : decode prog_66_method_1_code 1 = .ok (.invokespecial 1, 3) := by decide +kernel
theorem d7_4 : decode prog_66_method_1_code 4 = .ok (.aload_n 1, 1) := by decide +kernel
theorem d7_5 : decode prog_66_method_1_code 5 = .ok (.invokestatic 7, 3) := by decide +kernel
theorem d7_8 : decode prog_66_method_1_code 8 = .ok (.pop, 1) := by decide +kernel
theorem d7_9 : decode prog_66_method_1_code 9 = .ok (.aload_n 0, 1) := by decide +kernel
theorem d7_10 : decode prog_66_method_1_code 10 = .ok (.aload_n 1, 1) := by decide +kernel
theorem d7_11 : decode prog_66_method_1_code 11 = .ok (.putfield 13, 3) := by decide +kernel
theorem d7_14 : decode prog_66_method_1_code 14 = .ok (.aload_n 0, 1) := by decide +kernel
theorem d7_15 : decode prog_66_method_1_code 15 = .ok (.iload_n 2, 1) := by decide +kernel
theorem d7_16 : decode prog_66_method_1_code 16 = .ok (.putfield 19, 3) := by decide +kernel
theorem d7_19 : decode prog_66_method_1_code 19 = .ok (.return_, 1) := by decide +kernel
theorem pn_7 : plainName "com/example/fieldstone/fieldstone/store/Header" = true := by first | (simp [plainName, overriddenIn]; done) | decide +kernel
theorem ef_7 (m : MethodId) (x0 : Addr) (x1 : Addr) (x2 : Int32) : entryFrame m #[(.ref x0), (.ref x1), (.int x2)] 3 = mkF m 0 #[.val (.ref x0), .val (.ref x1), .val (.int x2)] [] := by first | (simp [entryFrame, mkF, argsToLocals, Value.category]; done) | rfl
def Q7 (Z : State) (a : Addr) (str : Addr) (i : Int32) (h0 : Heap) (n0 : Nat) (rv_ : Option Value) (h : Heap) (LL_ : List Loc) : Prop := rv_ = none ∧ Fr n0 LL_ ∧ Keep h0 h [a]
set_option maxRecDepth 65536 in
set_option maxHeartbeats 40000000 in
theorem rm7 (l : Launch) (Z : State) (a0 : Array Value) (hw : ∀ d ∈ tables_1, d.before a0 Z = true) (ws : List Jvm.Cond) (a : Addr) (str : Addr) (i : Int32) (h0 : Heap) (n0 : Nat) (Z0 : n0 ≤ h0.size) (E_a : Exa Z h0 a "com/example/fieldstone/fieldstone/store/Header") (F_a_codec : Fld Z h0 a "com/example/fieldstone/fieldstone/store/Header" "codec" "Ljava/lang/String;" .null) (F_a_version : Fld Z h0 a "com/example/fieldstone/fieldstone/store/Header" "version" "I" (.int (0 : Int32))) (g_a : n0 ≤ a) :
    MetFree l (⟨"com/example/fieldstone/fieldstone/store/Header", "<init>", "(Ljava/lang/String;I)V"⟩ : MethodName) (head1 (Jvm.Cond.code (⟨"com/example/fieldstone/fieldstone/store/Header", "<init>", "(Ljava/lang/String;I)V"⟩ : MethodName) prog_66_method_1_code 3 none :: ws) ({ frames := 2, cells := 0, slots := 0, locals := 24 } : Room)) (fun aa UU => aa = #[(.ref a), (.ref str), (.int i)] ∧ Z.Warmed39 UU.vm ∧ UU.heap = h0) (fun _ _ _ _ _ => True) (fun _ UU oo UV => ∃ vv LL, oo = .returned vv ∧ Q7 Z a str i h0 n0 vv UV.heap LL ∧ FrameEnd UU oo UV LL ({ frames := 2, cells := 0, slots := 0, locals := 24 } : Room).cells ({ frames := 2, cells := 0, slots := 0, locals := 24 } : Room).slots) := by
  refine MetFree.of_bodySF (plainFor_of_name pn_7) hisR ?_
  intro p e s m args below meth c s₁ Bd hml0 hP hK
  obtain ⟨rfl, hZ, hh⟩ := hP
  have hx := Bd.exec
  have hby := Bd.bytes
  have hml : c.maxLocals = 3 := hml0
  have hown : s.vm.findClass "com/example/fieldstone/fieldstone/store/Header" = some m.cls := findClass_of_methodNamed Bd.named
  have hnm := (name_of_methodNamed Bd.named Bd.method).1
  have X0 : Stand p l e ({ frames := 2, cells := 0, slots := 0, locals := 24 } : Room) s m #[(.ref a), (.ref str), (.int i)] below meth c s₁ [] 0 0 := Stand.of_body Bd
  have e0 : s₁.heap = h0 := by rw [← hh, Bd.state]; rfl
  have N0 := Fr.nil n0
  have k0 : ∀ tg_, Steps p.tables e below (s₁.setTop (mkF m 0 #[.val (.ref a), .val (.ref str), .val (.int i)] [])) tg_ → Steps p.tables e below (s₁.setTop (entryFrame m #[(.ref a), (.ref str), (.int i)] 3)) tg_ := fun tg_ k => castTop (ef_7 m a str i) k
  obtain ⟨_, _, ⟨T4, L4, kc4, nc4⟩, -, X4, ⟨Lc4, hQ4, l4, y4, z4⟩, st4⟩ := X0.specialBack hx (y := (⟨"java/lang/Record", "<init>", "()V"⟩ : MethodName)) rfl hown (mvT hZ (hw _ (List.mem_of_getElem? (i := 40) rfl))) (mvT hZ (hw _ (List.mem_of_getElem? (i := 41) rfl))) (mvT hZ (hw _ (List.mem_of_getElem? (i := 44) rfl))) (by decide) (backOf (W := 0) (rm8 l Z a0 hw [] a h0 n0 ) hZ (hw _ (List.mem_of_getElem? (i := 44) rfl)) (hw _ (List.mem_of_getElem? (i := 43) rfl)) (by decide) (by decide)) (g := (mkF m 1 #[.val (.ref a), .val (.ref str), .val (.int i)] [(.ref a)])) rfl (by rw [hml]; rfl) (Steps.refl _) (a := a) (argsL := []) (rest := []) (lenOf pd_2 rfl) rfl (by show 2 * 0 + _ ≤ _; exact Nat.le_of_eq rfl) (hb hby d7_1) (fun _ _ => ⟨rfl, e0, (by decide : 0 + 0 ≤ _), (by decide : 0 + 0 ≤ _)⟩)
  dsimp only [Pt.U, Pt.locs, Pt.cells, Pt.slots] at X4 l4 y4 z4 st4 hQ4
  rw [l4, y4, z4] at X4
  replace X4 : Stand p l e ({ frames := 2, cells := 0, slots := 0, locals := 24 } : Room) s m #[(.ref a), (.ref str), (.int i)] below meth c T4 _ 0 0 := X4
  obtain ⟨rfl, Nq4, eq4⟩ := hQ4
  have N4 := Fr.app N0 Nq4
  obtain ⟨_, _, ⟨T5, L5, kc5, nc5⟩, -, X5, ⟨Lc5, hQ5, l5, y5, z5⟩, st5⟩ := Jvm.LawKit.callS X4 hx (y := (⟨"java/util/Objects", "requireNonNull", "(Ljava/lang/Object;)Ljava/lang/Object;"⟩ : MethodName)) hown (mvT hZ (hw _ (List.mem_of_getElem? (i := 46) rfl))) (mvT hZ (hw _ (List.mem_of_getElem? (i := 47) rfl))) (mvT hZ (hw _ (List.mem_of_getElem? (i := 48) rfl))) (mvT hZ (hw _ (List.mem_of_getElem? (i := 49) rfl))) (by decide) (backOf (W := 0) (rm9 l Z a0 hw [] str h0 n0 ) hZ (hw _ (List.mem_of_getElem? (i := 49) rfl)) (hw _ (List.mem_of_getElem? (i := 48) rfl)) (by decide) (by decide)) (g := (mkF m 5 #[.val (.ref a), .val (.ref str), .val (.int i)] [(.ref str)])) rfl (by rw [hml]; rfl) (argsL := [(.ref str)]) (rest := []) (lenOf pd_7 rfl) rfl (by show 2 * 0 + _ ≤ _; exact Nat.le_of_eq rfl) (hb hby d7_5) (fun _ _ => ⟨rfl, eq4, (by decide : 0 + 0 ≤ _), (by decide : 0 + 0 ≤ _)⟩)
  dsimp only [Pt.U, Pt.locs, Pt.cells, Pt.slots] at X5 l5 y5 z5 st5 hQ5
  rw [l5, y5, z5] at X5
  replace X5 : Stand p l e ({ frames := 2, cells := 0, slots := 0, locals := 24 } : Room) s m #[(.ref a), (.ref str), (.int i)] below meth c T5 _ 0 0 := X5
  obtain ⟨rfl, Nq5, eq5⟩ := hQ5
  have N5 := Fr.app N4 Nq5
  obtain ⟨T6, h6, X6, e6, W6, st6⟩ := putF X5 hx hZ hown (host := "") (Or.inl (hw _ (List.mem_of_getElem? (i := 50) rfl))) Via.refl eq5 F_a_codec E_a (Or.inr ⟨(hw _ (List.mem_of_getElem? (i := 51) rfl)), rfl, hnm⟩) (hw _ (List.mem_of_getElem? (i := 6) rfl)) (ty := (.object "java/lang/String")) (by decide) rfl rfl (g := (mkF m 11 #[.val (.ref a), .val (.ref str), .val (.int i)] [(.ref str), (.ref a)])) rfl rfl (hb hby d7_11)
  have N6 := Fr.snoc X6 N5 g_a
  have F6 := Fld.same W6 F_a_codec
  have f7 := (Fld.other W6 F_a_version (Or.inr (slot_ne (Or.inr (hw _ (List.mem_of_getElem? (i := 53) rfl))) (Or.inr (hw _ (List.mem_of_getElem? (i := 51) rfl))) (by decide) (t := .int) (t' := (.object "java/lang/String")) (by decide) (by decide))))
  have f8 := (E_a.keep (Keep.of_wr W6))
  obtain ⟨T9, h9, X9, e9, W9, st9⟩ := putF X6 hx hZ hown (host := "") (Or.inl (hw _ (List.mem_of_getElem? (i := 52) rfl))) Via.refl e6 f7 f8 (Or.inr ⟨(hw _ (List.mem_of_getElem? (i := 53) rfl)), rfl, hnm⟩) (hw _ (List.mem_of_getElem? (i := 6) rfl)) (ty := .int) (by decide) rfl rfl (g := (mkF m 16 #[.val (.ref a), .val (.ref str), .val (.int i)] [(.int i), (.ref a)])) rfl rfl (hb hby d7_16)
  have N9 := Fr.snoc X9 N6 g_a
  have F9 := Fld.same W9 f7
  have k10 : ∀ tg_, Steps p.tables e below (T9.setTop (mkF m 19 #[.val (.ref a), .val (.ref str), .val (.int i)] [])) tg_ → Steps p.tables e below (s₁.setTop (entryFrame m #[(.ref a), (.ref str), (.int i)] 3)) tg_ := by
    intro tg_ kt
    refine k0 tg_ ?_
    refine XS.aloadN X0.here hx rfl (hb hby d7_0) rfl rfl ?_
    show Steps p.tables e below (s₁.setTop (mkF m 1 #[.val (.ref a), .val (.ref str), .val (.int i)] [(.ref a)])) _
    refine st4.trans ?_
    show Steps p.tables e below (T4.setTop (mkF m 4 #[.val (.ref a), .val (.ref str), .val (.int i)] [])) _
    refine XS.aloadN X4.here hx rfl (hb hby d7_4) rfl rfl ?_
    show Steps p.tables e below (T4.setTop (mkF m 5 #[.val (.ref a), .val (.ref str), .val (.int i)] [(.ref str)])) _
    refine st5 _ ?_
    show Steps p.tables e below (T5.setTop (mkF m 8 #[.val (.ref a), .val (.ref str), .val (.int i)] [(.ref str)])) _
    refine XS.pop X5.here hx rfl (hb hby d7_8) rfl rfl ?_
    show Steps p.tables e below (T5.setTop (mkF m 9 #[.val (.ref a), .val (.ref str), .val (.int i)] [])) _
    refine XS.aloadN X5.here hx rfl (hb hby d7_9) rfl rfl ?_
    show Steps p.tables e below (T5.setTop (mkF m 10 #[.val (.ref a), .val (.ref str), .val (.int i)] [(.ref a)])) _
    refine XS.aloadN X5.here hx rfl (hb hby d7_10) rfl rfl ?_
    show Steps p.tables e below (T5.setTop (mkF m 11 #[.val (.ref a), .val (.ref str), .val (.int i)] [(.ref str), (.ref a)])) _
    refine st6 _ ?_
    show Steps p.tables e below (T6.setTop (mkF m 14 #[.val (.ref a), .val (.ref str), .val (.int i)] [])) _
    refine XS.aloadN X6.here hx rfl (hb hby d7_14) rfl rfl ?_
    show Steps p.tables e below (T6.setTop (mkF m 15 #[.val (.ref a), .val (.ref str), .val (.int i)] [(.ref a)])) _
    refine XS.iloadN X6.here hx rfl (hb hby d7_15) rfl ?_
    show Steps p.tables e below (T6.setTop (mkF m 16 #[.val (.ref a), .val (.ref str), .val (.int i)] [(.int i), (.ref a)])) _
    refine st9 _ ?_
    show Steps p.tables e below (T9.setTop (mkF m 19 #[.val (.ref a), .val (.ref str), .val (.int i)] [])) _
    exact kt
  have f11 := (((Keep.refl h0 [a]).trans (Keep.of_wr W6) (allS (Or.inl (List.mem_of_getElem? (i := 0) rfl)) all0)).trans (Keep.of_wr W9) (allS (Or.inl (List.mem_of_getElem? (i := 0) rfl)) all0))
  obtain ⟨fs, hr, hrun, hended, hW, hsame⟩ := X9.leave (v := none) (fun _ => rfl)
  refine ⟨_, _, k10 _ (X9.returnOut hx Bd.returns (hb hby d7_19) hr), hrun, hended, _, _, rfl, ?_, ⟨_, rfl⟩, hW, hsame.mono (by decide) (by decide)⟩
  show Q7 Z a str i h0 n0 _ T9.heap _
  rw [e9]
  exact ⟨rfl, N9, f11⟩
theorem d10_0 : decode prog_62_method_1_code 0 = .ok (.aload_n 0, 1) := by decide +kernel
theorem d10_1 : decode prog_62_method_1_code 1 = .ok (.invokespecial 1, 3) := by decide +kernel
theorem d10_4 : decode prog_62_method_1_code 4 = .ok (.aload_n 1, 1) := by decide +kernel
theorem d10_5 : decode prog_62_method_1_code 5 = .ok (.invokestatic 7, 3) := by decide +kernel
theorem d10_8 : decode prog_62_method_1_code 8 = .ok (.pop, 1) := by decide +kernel
theorem d10_9 : decode prog_62_method_1_code 9 = .ok (.aload_n 2, 1) := by decide +kernel
theorem d10_10 : decode prog_62_method_1_code 10 = .ok (.invokestatic 7, 3) := by decide +kernel
theorem d10_13 : decode prog_62_method_1_code 13 = .ok (.pop, 1) := by decide +kernel
theorem d10_14 : decode prog_62_method_1_code 14 = .ok (.aload_n 0, 1) := by decide +kernel
theorem d10_15 : decode prog_62_method_1_code 15 = .ok (.aload_n 1, 1) := by decide +kernel
theorem d10_16 : decode prog_62_method_1_code 16 = .ok (.putfield 13, 3) := by decide +kernel
theorem d10_19 : decode prog_62_method_1_code 19 = .ok (.aload_n 0, 1) := by decide +kernel
theorem d10_20 : decode prog_62_method_1_code 20 = .ok (.aload_n 2, 1) := by decide +kernel
theorem d10_21 : decode prog_62_method_1_code 21 = .ok (.putfield 19, 3) := by decide +kernel
theorem d10_24 : decode prog_62_method_1_code 24 = .ok (.return_, 1) := by decide +kernel
theorem pn_10 : plainName "com/example/fieldstone/fieldstone/store/FileForm" = true := by first | (simp [plainName, overriddenIn]; done) | decide +kernel
theorem ef_10 (m : MethodId) (x0 : Addr) (x1 : Addr) (x2 : Addr) : entryFrame m #[(.ref x0), (.ref x1), (.ref x2)] 3 = mkF m 0 #[.val (.ref x0), .val (.ref x1), .val (.ref x2)] [] := by first | (simp [entryFrame, mkF, argsToLocals, Value.category]; done) | rfl
def Q10 (Z : State) (a : Addr) (hdr : Addr) (tr : Addr) (h0 : Heap) (n0 : Nat) (rv_ : Option Value) (h : Heap) (LL_ : List Loc) : Prop := rv_ = none ∧ Fr n0 LL_ ∧ Keep h0 h [a] ∧ Fld Z h a "com/example/fieldstone/fieldstone/store/FileForm" "trailer" "Lcom/example/fieldstone/fieldstone/store/FileForm$Trailer;" (.ref tr)
set_option maxRecDepth 65536 in
set_option maxHeartbeats 40000000 in
theorem rm10 (l : Launch) (Z : State) (a0 : Array Value) (hw : ∀ d ∈ tables_1, d.before a0 Z = true) (ws : List Jvm.Cond) (a : Addr) (hdr : Addr) (tr : Addr) (h0 : Heap) (n0 : Nat) (Z0 : n0 ≤ h0.size) (E_a : Exa Z h0 a "com/example/fieldstone/fieldstone/store/FileForm") (F_a_header : Fld Z h0 a "com/example/fieldstone/fieldstone/store/FileForm" "header" "Lcom/example/fieldstone/fieldstone/store/Header;" .null) (F_a_trailer : Fld Z h0 a "com/example/fieldstone/fieldstone/store/FileForm" "trailer" "Lcom/example/fieldstone/fieldstone/store/FileForm$Trailer;" .null) (g_a : n0 ≤ a) :
    MetFree l (⟨"com/example/fieldstone/fieldstone/store/FileForm", "<init>", "(Lcom/example/fieldstone/fieldstone/store/Header;Lcom/example/fieldstone/fieldstone/store/FileForm$Trailer;)V"⟩ : MethodName) (head1 (Jvm.Cond.code (⟨"com/example/fieldstone/fieldstone/store/FileForm", "<init>", "(Lcom/example/fieldstone/fieldstone/store/Header;Lcom/example/fieldstone/fieldstone/store/FileForm$Trailer;)V"⟩ : MethodName) prog_62_method_1_code 3 none :: ws) ({ frames := 2, cells := 0, slots := 0, locals := 24 } : Room)) (fun aa UU => aa = #[(.ref a), (.ref hdr), (.ref tr)] ∧ Z.Warmed39 UU.vm ∧ UU.heap = h0) (fun _ _ _ _ _ => True) (fun _ UU oo UV => ∃ vv LL, oo = .returned vv ∧ Q10 Z a hdr tr h0 n0 vv UV.heap LL ∧ FrameEnd UU oo UV LL ({ frames := 2, cells := 0, slots := 0, locals := 24 } : Room).cells ({ frames := 2, cells := 0, slots := 0, locals := 24 } : Room).slots) := by
  refine MetFree.of_bodySF (plainFor_of_name pn_10) hisR ?_
  intro p e s m args below meth c s₁ Bd hml0 hP hK
  obtain ⟨rfl, hZ, hh⟩ := hP
  have hx := Bd.exec
  have hby := Bd.bytes
  have hml : c.maxLocals = 3 := hml0
  have hown : s.vm.findClass "com/example/fieldstone/fieldstone/store/FileForm" = some m.cls := findClass_of_methodNamed Bd.named
  have hnm := (name_of_methodNamed Bd.named Bd.method).1
  have X0 : Stand p l e ({ frames := 2, cells := 0, slots := 0, locals := 24 } : Room) s m #[(.ref a), (.ref hdr), (.ref tr)] below meth c s₁ [] 0 0 := Stand.of_body Bd
  have e0 : s₁.heap = h0 := by rw [← hh, Bd.state]; rfl
  have N0 := Fr.nil n0
  have k0 : ∀ tg_, Steps p.tables e below (s₁.setTop (mkF m 0 #[.val (.ref a), .val (.ref hdr), .val (.ref tr)] [])) tg_ → Steps p.tables e below (s₁.setTop (entryFrame m #[(.ref a), (.ref hdr), (.ref tr)] 3)) tg_ := fun tg_ k => castTop (ef_10 m a hdr tr) k
  obtain ⟨_, _, ⟨T12, L12, kc12, nc12⟩, -, X12, ⟨Lc12, hQ12, l12, y12, z12⟩, st12⟩ := X0.specialBack hx (y := (⟨"java/lang/Record", "<init>", "()V"⟩ : MethodName)) rfl hown (mvT hZ (hw _ (List.mem_of_getElem? (i := 60) rfl))) (mvT hZ (hw _ (List.mem_of_getElem? (i := 41) rfl))) (mvT hZ (hw _ (List.mem_of_getElem? (i := 44) rfl))) (by decide) (backOf (W := 0) (rm8 l Z a0 hw [] a h0 n0 ) hZ (hw _ (List.mem_of_getElem? (i := 44) rfl)) (hw _ (List.mem_of_getElem? (i := 43) rfl)) (by decide) (by decide)) (g := (mkF m 1 #[.val (.ref a), .val (.ref hdr), .val (.ref tr)] [(.ref a)])) rfl (by rw [hml]; rfl) (Steps.refl _) (a := a) (argsL := []) (rest := []) (lenOf pd_2 rfl) rfl (by show 2 * 0 + _ ≤ _; exact Nat.le_of_eq rfl) (hb hby d10_1) (fun _ _ => ⟨rfl, e0, (by decide : 0 + 0 ≤ _), (by decide : 0 + 0 ≤ _)⟩)
  dsimp only [Pt.U, Pt.locs, Pt.cells, Pt.slots] at X12 l12 y12 z12 st12 hQ12
  rw [l12, y12, z12] at X12
  replace X12 : Stand p l e ({ frames := 2, cells := 0, slots := 0, locals := 24 } : Room) s m #[(.ref a), (.ref hdr), (.ref tr)] below meth c T12 _ 0 0 := X12
  obtain ⟨rfl, Nq12, eq12⟩ := hQ12
  have N12 := Fr.app N0 Nq12
  obtain ⟨_, _, ⟨T13, L13, kc13, nc13⟩, -, X13, ⟨Lc13, hQ13, l13, y13, z13⟩, st13⟩ := Jvm.LawKit.callS X12 hx (y := (⟨"java/util/Objects", "requireNonNull", "(Ljava/lang/Object;)Ljava/lang/Object;"⟩ : MethodName)) hown (mvT hZ (hw _ (List.mem_of_getElem? (i := 61) rfl))) (mvT hZ (hw _ (List.mem_of_getElem? (i := 47) rfl))) (mvT hZ (hw _ (List.mem_of_getElem? (i := 48) rfl))) (mvT hZ (hw _ (List.mem_of_getElem? (i := 49) rfl))) (by decide) (backOf (W := 0) (rm9 l Z a0 hw [] hdr h0 n0 ) hZ (hw _ (List.mem_of_getElem? (i := 49) rfl)) (hw _ (List.mem_of_getElem? (i := 48) rfl)) (by decide) (by decide)) (g := (mkF m 5 #[.val (.ref a), .val (.ref hdr), .val (.ref tr)] [(.ref hdr)])) rfl (by rw [hml]; rfl) (argsL := [(.ref hdr)]) (rest := []) (lenOf pd_7 rfl) rfl (by show 2 * 0 + _ ≤ _; exact Nat.le_of_eq rfl) (hb hby d10_5) (fun _ _ => ⟨rfl, eq12, (by decide : 0 + 0 ≤ _), (by decide : 0 + 0 ≤ _)⟩)
  dsimp only [Pt.U, Pt.locs, Pt.cells, Pt.slots] at X13 l13 y13 z13 st13 hQ13
  rw [l13, y13, z13] at X13
  replace X13 : Stand p l e ({ frames := 2, cells := 0, slots := 0, locals := 24 } : Room) s m #[(.ref a), (.ref hdr), (.ref tr)] below meth c T13 _ 0 0 := X13
  obtain ⟨rfl, Nq13, eq13⟩ := hQ13
  have N13 := Fr.app N12 Nq13
  obtain ⟨_, _, ⟨T14, L14, kc14, nc14⟩, -, X14, ⟨Lc14, hQ14, l14, y14, z14⟩, st14⟩ := Jvm.LawKit.callS X13 hx (y := (⟨"java/util/Objects", "requireNonNull", "(Ljava/lang/Object;)Ljava/lang/Object;"⟩ : MethodName)) hown (mvT hZ (hw _ (List.mem_of_getElem? (i := 61) rfl))) (mvT hZ (hw _ (List.mem_of_getElem? (i := 47) rfl))) (mvT hZ (hw _ (List.mem_of_getElem? (i := 48) rfl))) (mvT hZ (hw _ (List.mem_of_getElem? (i := 49) rfl))) (by decide) (backOf (W := 0) (rm9 l Z a0 hw [] tr h0 n0 ) hZ (hw _ (List.mem_of_getElem? (i := 49) rfl)) (hw _ (List.mem_of_getElem? (i := 48) rfl)) (by decide) (by decide)) (g := (mkF m 10 #[.val (.ref a), .val (.ref hdr), .val (.ref tr)] [(.ref tr)])) rfl (by rw [hml]; rfl) (argsL := [(.ref tr)]) (rest := []) (lenOf pd_7 rfl) rfl (by show 2 * 0 + _ ≤ _; exact Nat.le_of_eq rfl) (hb hby d10_10) (fun _ _ => ⟨rfl, eq13, (by decide : 0 + 0 ≤ _), (by decide : 0 + 0 ≤ _)⟩)
  dsimp only [Pt.U, Pt.locs, Pt.cells, Pt.slots] at X14 l14 y14 z14 st14 hQ14
  rw [l14, y14, z14] at X14
  replace X14 : Stand p l e ({ frames := 2, cells := 0, slots := 0, locals := 24 } : Room) s m #[(.ref a), (.ref hdr), (.ref tr)] below meth c T14 _ 0 0 := X14
  obtain ⟨rfl, Nq14, eq14⟩ := hQ14
  have N14 := Fr.app N13 Nq14
  obtain ⟨T15, h15, X15, e15, W15, st15⟩ := putF X14 hx hZ hown (host := "") (Or.inl (hw _ (List.mem_of_getElem? (i := 62) rfl))) Via.refl eq14 F_a_header E_a (Or.inr ⟨(hw _ (List.mem_of_getElem? (i := 63) rfl)), rfl, hnm⟩) (hw _ (List.mem_of_getElem? (i := 55) rfl)) (ty := (.object "com/example/fieldstone/fieldstone/store/Header")) (by decide) rfl rfl (g := (mkF m 16 #[.val (.ref a), .val (.ref hdr), .val (.ref tr)] [(.ref hdr), (.ref a)])) rfl rfl (hb hby d10_16)
  have N15 := Fr.snoc X15 N14 g_a
  have F15 := Fld.same W15 F_a_header
  have f16 := (Fld.other W15 F_a_trailer (Or.inr (slot_ne (Or.inr (hw _ (List.mem_of_getElem? (i := 65) rfl))) (Or.inr (hw _ (List.mem_of_getElem? (i := 63) rfl))) (by decide) (t := (.object "com/example/fieldstone/fieldstone/store/FileForm$Trailer")) (t' := (.object "com/example/fieldstone/fieldstone/store/Header")) (by decide) (by decide))))
  have f17 := (E_a.keep (Keep.of_wr W15))
  obtain ⟨T18, h18, X18, e18, W18, st18⟩ := putF X15 hx hZ hown (host := "") (Or.inl (hw _ (List.mem_of_getElem? (i := 64) rfl))) Via.refl e15 f16 f17 (Or.inr ⟨(hw _ (List.mem_of_getElem? (i := 65) rfl)), rfl, hnm⟩) (hw _ (List.mem_of_getElem? (i := 55) rfl)) (ty := (.object "com/example/fieldstone/fieldstone/store/FileForm$Trailer")) (by decide) rfl rfl (g := (mkF m 21 #[.val (.ref a), .val (.ref hdr), .val (.ref tr)] [(.ref tr), (.ref a)])) rfl rfl (hb hby d10_21)
  have N18 := Fr.snoc X18 N15 g_a
  have F18 := Fld.same W18 f16
  have k19 : ∀ tg_, Steps p.tables e below (T18.setTop (mkF m 24 #[.val (.ref a), .val (.ref hdr), .val (.ref tr)] [])) tg_ → Steps p.tables e below (s₁.setTop (entryFrame m #[(.ref a), (.ref hdr), (.ref tr)] 3)) tg_ := by
    intro tg_ kt
    refine k0 tg_ ?_
    refine XS.aloadN X0.here hx rfl (hb hby d10_0) rfl rfl ?_
    show Steps p.tables e below (s₁.setTop (mkF m 1 #[.val (.ref a), .val (.ref hdr), .val (.ref tr)] [(.ref a)])) _
    refine st12.trans ?_
    show Steps p.tables e below (T12.setTop (mkF m 4 #[.val (.ref a), .val (.ref hdr), .val (.ref tr)] [])) _
    refine XS.aloadN X12.here hx rfl (hb hby d10_4) rfl rfl ?_
    show Steps p.tables e below (T12.setTop (mkF m 5 #[.val (.ref a), .val (.ref hdr), .val (.ref tr)] [(.ref hdr)])) _
    refine st13 _ ?_
    show Steps p.tables e below (T13.setTop (mkF m 8 #[.val (.ref a), .val (.ref hdr), .val (.ref tr)] [(.ref hdr)])) _
    refine XS.pop X13.here hx rfl (hb hby d10_8) rfl rfl ?_
    show Steps p.tables e below (T13.setTop (mkF m 9 #[.val (.ref a), .val (.ref hdr), .val (.ref tr)] [])) _
    refine XS.aloadN X13.here hx rfl (hb hby d10_9) rfl rfl ?_
    show Steps p.tables e below (T13.setTop (mkF m 10 #[.val (.ref a), .val (.ref hdr), .val (.ref tr)] [(.ref tr)])) _
    refine st14 _ ?_
    show Steps p.tables e below (T14.setTop (mkF m 13 #[.val (.ref a), .val (.ref hdr), .val (.ref tr)] [(.ref tr)])) _
    refine XS.pop X14.here hx rfl (hb hby d10_13) rfl rfl ?_
    show Steps p.tables e below (T14.setTop (mkF m 14 #[.val (.ref a), .val (.ref hdr), .val (.ref tr)] [])) _
    refine XS.aloadN X14.here hx rfl (hb hby d10_14) rfl rfl ?_
    show Steps p.tables e below (T14.setTop (mkF m 15 #[.val (.ref a), .val (.ref hdr), .val (.ref tr)] [(.ref a)])) _
    refine XS.aloadN X14.here hx rfl (hb hby d10_15) rfl rfl ?_
    show Steps p.tables e below (T14.setTop (mkF m 16 #[.val (.ref a), .val (.ref hdr), .val (.ref tr)] [(.ref hdr), (.ref a)])) _
    refine st15 _ ?_
    show Steps p.tables e below (T15.setTop (mkF m 19 #[.val (.ref a), .val (.ref hdr), .val (.ref tr)] [])) _
    refine XS.aloadN X15.here hx rfl (hb hby d10_19) rfl rfl ?_
    show Steps p.tables e below (T15.setTop (mkF m 20 #[.val (.ref a), .val (.ref hdr), .val (.ref tr)] [(.ref a)])) _
    refine XS.aloadN X15.here hx rfl (hb hby d10_20) rfl rfl ?_
    show Steps p.tables e below (T15.setTop (mkF m 21 #[.val (.ref a), .val (.ref hdr), .val (.ref tr)] [(.ref tr), (.ref a)])) _
    refine st18 _ ?_
    show Steps p.tables e below (T18.setTop (mkF m 24 #[.val (.ref a), .val (.ref hdr), .val (.ref tr)] [])) _
    exact kt
  have f20 := (((Keep.refl h0 [a]).trans (Keep.of_wr W15) (allS (Or.inl (List.mem_of_getElem? (i := 0) rfl)) all0)).trans (Keep.of_wr W18) (allS (Or.inl (List.mem_of_getElem? (i := 0) rfl)) all0))
  obtain ⟨fs, hr, hrun, hended, hW, hsame⟩ := X18.leave (v := none) (fun _ => rfl)
  refine ⟨_, _, k19 _ (X18.returnOut hx Bd.returns (hb hby d10_24) hr), hrun, hended, _, _, rfl, ?_, ⟨_, rfl⟩, hW, hsame.mono (by decide) (by decide)⟩
  show Q10 Z a hdr tr h0 n0 _ T18.heap _
  rw [e18]
  exact ⟨rfl, N18, f20, F18⟩
theorem d11_0 : decode prog_62_method_2_code 0 = .ok (.aload_n 0, 1) := by decide +kernel
theorem d11_1 : decode prog_62_method_2_code 1 = .ok (.getfield 19, 3) := by decide +kernel
theorem d11_4 : decode prog_62_method_2_code 4 = .ok (.getstatic 23, 3) := by decide +kernel
theorem d11_7 : decode prog_62_method_2_code 7 = .ok (.if_acmp .ne 7, 3) := by decide +kernel
theorem d11_10 : decode prog_62_method_2_code 10 = .ok (.iconst 1, 1) := by decide +kernel
theorem d11_11 : decode prog_62_method_2_code 11 = .ok (.goto 4, 3) := by decide +kernel
theorem d11_15 : decode prog_62_method_2_code 15 = .ok (.ireturn, 1) := by decide +kernel
theorem pn_11 : plainName "com/example/fieldstone/fieldstone/store/FileForm" = true := by first | (simp [plainName, overriddenIn]; done) | decide +kernel
theorem ef_foF (m : MethodId) (x0 : Addr) : entryFrame m #[(.ref x0)] 1 = mkF m 0 #[.val (.ref x0)] [] := by first | (simp [entryFrame, mkF, argsToLocals, Value.category]; done) | rfl
def QfoF (Z : State) (a : Addr) (xf : Addr) (h0 : Heap) (n0 : Nat) (rv_ : Option Value) (h : Heap) (LL_ : List Loc) : Prop := rv_ = some (.int (1 : Int32)) ∧ Fr n0 LL_ ∧ h = h0
set_option maxRecDepth 65536 in
set_option maxHeartbeats 40000000 in
theorem rmfoF (l : Launch) (Z : State) (a0 : Array Value) (hw : ∀ d ∈ tables_1, d.before a0 Z = true) (ws : List Jvm.Cond) (a : Addr) (xf : Addr) (h0 : Heap) (n0 : Nat) (F_a_trailer : Fld Z h0 a "com/example/fieldstone/fieldstone/store/FileForm" "trailer" "Lcom/example/fieldstone/fieldstone/store/FileForm$Trailer;" (.ref xf)) (S_FOOTER : Sta Z h0 "com/example/fieldstone/fieldstone/store/FileForm$Trailer" "FOOTER" "Lcom/example/fieldstone/fieldstone/store/FileForm$Trailer;" (.ref xf)) :
    MetFree l (⟨"com/example/fieldstone/fieldstone/store/FileForm", "footer", "()Z"⟩ : MethodName) (head1 (Jvm.Cond.code (⟨"com/example/fieldstone/fieldstone/store/FileForm", "footer", "()Z"⟩ : MethodName) prog_62_method_2_code 1 (some .boolean) :: ws) ({ frames := 0, cells := 0, slots := 0, locals := 0 } : Room)) (fun aa UU => aa = #[(.ref a)] ∧ Z.Warmed39 UU.vm ∧ UU.heap = h0) (fun _ _ _ _ _ => True) (fun _ UU oo UV => ∃ vv LL, oo = .returned vv ∧ QfoF Z a xf h0 n0 vv UV.heap LL ∧ FrameEnd UU oo UV LL ({ frames := 0, cells := 0, slots := 0, locals := 0 } : Room).cells ({ frames := 0, cells := 0, slots := 0, locals := 0 } : Room).slots) := by
  refine MetFree.of_bodySF (plainFor_of_name pn_11) hisR ?_
  intro p e s m args below meth c s₁ Bd hml0 hP hK
  obtain ⟨rfl, hZ, hh⟩ := hP
  have hx := Bd.exec
  have hby := Bd.bytes
  have hml : c.maxLocals = 1 := hml0
  have hown : s.vm.findClass "com/example/fieldstone/fieldstone/store/FileForm" = some m.cls := findClass_of_methodNamed Bd.named
  have hnm := (name_of_methodNamed Bd.named Bd.method).1
  have X0 : Stand p l e ({ frames := 0, cells := 0, slots := 0, locals := 0 } : Room) s m #[(.ref a)] below meth c s₁ [] 0 0 := Stand.of_body Bd
  have e0 : s₁.heap = h0 := by rw [← hh, Bd.state]; rfl
  have N0 := Fr.nil n0
  have k0 : ∀ tg_, Steps p.tables e below (s₁.setTop (mkF m 0 #[.val (.ref a)] [])) tg_ → Steps p.tables e below (s₁.setTop (entryFrame m #[(.ref a)] 1)) tg_ := fun tg_ k => castTop (ef_foF m a) k
  obtain ⟨T21, X21, e21, st21⟩ := getF X0 hx hZ hown (host := "") (Or.inl (hw _ (List.mem_of_getElem? (i := 64) rfl))) Via.refl e0 F_a_trailer (g := (mkF m 1 #[.val (.ref a)] [(.ref a)])) rfl rfl (hb hby d11_1)
  obtain ⟨T22, X22, e22, st22⟩ := getS2 X21 hx hZ hown (host := "") (Or.inl (hw _ (List.mem_of_getElem? (i := 71) rfl))) Via.refl e21 S_FOOTER (g := (mkF m 4 #[.val (.ref a)] [(.ref xf)])) rfl (hb hby d11_4)
  have k23 : ∀ tg_, Steps p.tables e below (T22.setTop (mkF m 15 #[.val (.ref a)] [(.int (1 : Int32))])) tg_ → Steps p.tables e below (s₁.setTop (entryFrame m #[(.ref a)] 1)) tg_ := by
    intro tg_ kt
    refine k0 tg_ ?_
    refine XS.aloadN X0.here hx rfl (hb hby d11_0) rfl rfl ?_
    show Steps p.tables e below (s₁.setTop (mkF m 1 #[.val (.ref a)] [(.ref a)])) _
    refine st21 _ ?_
    show Steps p.tables e below (T21.setTop (mkF m 4 #[.val (.ref a)] [(.ref xf)])) _
    refine st22 _ ?_
    show Steps p.tables e below (T22.setTop (mkF m 7 #[.val (.ref a)] [(.ref xf), (.ref xf)])) _
    refine Jvm.RoadKit.acmp (g := (mkF m 7 #[.val (.ref a)] [(.ref xf), (.ref xf)])) X22 hx rfl rfl rfl (pc0 := 7) (pc' := 10) (same := true) rfl (hb hby d11_7) rfl (decide_eq_true rfl) (by decide) (by decide) ?_
    show Steps p.tables e below (T22.setTop (mkF m 10 #[.val (.ref a)] [])) _
    refine XS.iconst X22.here hx rfl (hb hby d11_10) ?_
    show Steps p.tables e below (T22.setTop (mkF m 11 #[.val (.ref a)] [(.int (1 : Int32))])) _
    refine XS.goto X22.here hx rfl (pc0 := 11) (pc' := 15) rfl (hb hby d11_11) (by decide) (by decide) ?_
    show Steps p.tables e below (T22.setTop (mkF m 15 #[.val (.ref a)] [(.int (1 : Int32))])) _
    exact kt
  obtain ⟨fs, hr, hrun, hended, hW, hsame⟩ := X22.leave (v := some (.int (1 : Int32))) (fun h => by rw [Bd.returns] at h; cases h)
  refine ⟨_, _, k23 _ (retN X22 hx (t := .boolean) Bd.returns (by simp) (hb hby d11_15) hr), hrun, hended, _, _, rfl, ?_, ⟨_, rfl⟩, hW, hsame.mono (by decide) (by decide)⟩
  show QfoF Z a xf h0 n0 _ T22.heap _
  rw [e22]
  exact ⟨rfl, N0, rfl⟩
theorem d11_14 : decode prog_62_method_2_code 14 = .ok (.iconst 0, 1) := by decide +kernel
theorem ef_foN (m : MethodId) (x0 : Addr) : entryFrame m #[(.ref x0)] 1 = mkF m 0 #[.val (.ref x0)] [] := by first | (simp [entryFrame, mkF, argsToLocals, Value.category]; done) | rfl
def QfoN (Z : State) (a : Addr) (tr : Addr) (xf : Addr) (h0 : Heap) (n0 : Nat) (rv_ : Option Value) (h : Heap) (LL_ : List Loc) : Prop := rv_ = some (.int (0 : Int32)) ∧ Fr n0 LL_ ∧ h = h0
set_option maxRecDepth 65536 in
set_option maxHeartbeats 40000000 in
theorem rmfoN (l : Launch) (Z : State) (a0 : Array Value) (hw : ∀ d ∈ tables_1, d.before a0 Z = true) (ws : List Jvm.Cond) (a : Addr) (tr : Addr) (xf : Addr) (h0 : Heap) (n0 : Nat) (F_a_trailer : Fld Z h0 a "com/example/fieldstone/fieldstone/store/FileForm" "trailer" "Lcom/example/fieldstone/fieldstone/store/FileForm$Trailer;" (.ref tr)) (S_FOOTER : Sta Z h0 "com/example/fieldstone/fieldstone/store/FileForm$Trailer" "FOOTER" "Lcom/example/fieldstone/fieldstone/store/FileForm$Trailer;" (.ref xf)) (ne_tr_xf : tr ≠ xf) :
    MetFree l (⟨"com/example/fieldstone/fieldstone/store/FileForm", "footer", "()Z"⟩ : MethodName) (head1 (Jvm.Cond.code (⟨"com/example/fieldstone/fieldstone/store/FileForm", "footer", "()Z"⟩ : MethodName) prog_62_method_2_code 1 (some .boolean) :: ws) ({ frames := 0, cells := 0, slots := 0, locals := 0 } : Room)) (fun aa UU => aa = #[(.ref a)] ∧ Z.Warmed39 UU.vm ∧ UU.heap = h0) (fun _ _ _ _ _ => True) (fun _ UU oo UV => ∃ vv LL, oo = .returned vv ∧ QfoN Z a tr xf h0 n0 vv UV.heap LL ∧ FrameEnd UU oo UV LL ({ frames := 0, cells := 0, slots := 0, locals := 0 } : Room).cells ({ frames := 0, cells := 0, slots := 0, locals := 0 } : Room).slots) := by
  refine MetFree.of_bodySF (plainFor_of_name pn_11) hisR ?_
  intro p e s m args below meth c s₁ Bd hml0 hP hK
  obtain ⟨rfl, hZ, hh⟩ := hP
  have hx := Bd.exec
  have hby := Bd.bytes
  have hml : c.maxLocals = 1 := hml0
  have hown : s.vm.findClass "com/example/fieldstone/fieldstone/store/FileForm" = some m.cls := findClass_of_methodNamed Bd.named
  have hnm := (name_of_methodNamed Bd.named Bd.method).1
  have X0 : Stand p l e ({ frames := 0, cells := 0, slots := 0, locals := 0 } : Room) s m #[(.ref a)] below meth c s₁ [] 0 0 := Stand.of_body Bd
  have e0 : s₁.heap = h0 := by rw [← hh, Bd.state]; rfl
  have N0 := Fr.nil n0
  have k0 : ∀ tg_, Steps p.tables e below (s₁.setTop (mkF m 0 #[.val (.ref a)] [])) tg_ → Steps p.tables e below (s₁.setTop (entryFrame m #[(.ref a)] 1)) tg_ := fun tg_ k => castTop (ef_foN m a) k
  obtain ⟨T24, X24, e24, st24⟩ := getF X0 hx hZ hown (host := "") (Or.inl (hw _ (List.mem_of_getElem? (i := 64) rfl))) Via.refl e0 F_a_trailer (g := (mkF m 1 #[.val (.ref a)] [(.ref a)])) rfl rfl (hb hby d11_1)
  obtain ⟨T25, X25, e25, st25⟩ := getS2 X24 hx hZ hown (host := "") (Or.inl (hw _ (List.mem_of_getElem? (i := 71) rfl))) Via.refl e24 S_FOOTER (g := (mkF m 4 #[.val (.ref a)] [(.ref tr)])) rfl (hb hby d11_4)
  have k26 : ∀ tg_, Steps p.tables e below (T25.setTop (mkF m 15 #[.val (.ref a)] [(.int (0 : Int32))])) tg_ → Steps p.tables e below (s₁.setTop (entryFrame m #[(.ref a)] 1)) tg_ := by
    intro tg_ kt
    refine k0 tg_ ?_
    refine XS.aloadN X0.here hx rfl (hb hby d11_0) rfl rfl ?_
    show Steps p.tables e below (s₁.setTop (mkF m 1 #[.val (.ref a)] [(.ref a)])) _
    refine st24 _ ?_
    show Steps p.tables e below (T24.setTop (mkF m 4 #[.val (.ref a)] [(.ref tr)])) _
    refine st25 _ ?_
    show Steps p.tables e below (T25.setTop (mkF m 7 #[.val (.ref a)] [(.ref xf), (.ref tr)])) _
    refine Jvm.RoadKit.acmp (g := (mkF m 7 #[.val (.ref a)] [(.ref xf), (.ref tr)])) X25 hx rfl rfl rfl (pc0 := 7) (pc' := 14) (same := false) rfl (hb hby d11_7) rfl (decide_eq_false fun q => ne_tr_xf (Value.ref.inj q)) (by decide) (by decide) ?_
    show Steps p.tables e below (T25.setTop (mkF m 14 #[.val (.ref a)] [])) _
    refine XS.iconst X25.here hx rfl (hb hby d11_14) ?_
    show Steps p.tables e below (T25.setTop (mkF m 15 #[.val (.ref a)] [(.int (0 : Int32))])) _
    exact kt
  obtain ⟨fs, hr, hrun, hended, hW, hsame⟩ := X25.leave (v := some (.int (0 : Int32))) (fun h => by rw [Bd.returns] at h; cases h)
  refine ⟨_, _, k26 _ (retN X25 hx (t := .boolean) Bd.returns (by simp) (hb hby d11_15) hr), hrun, hended, _, _, rfl, ?_, ⟨_, rfl⟩, hW, hsame.mono (by decide) (by decide)⟩
  show QfoN Z a tr xf h0 n0 _ T25.heap _
  rw [e25]
  exact ⟨rfl, N0, rfl⟩
theorem pd_0 : parseMethodDescriptor "([C)V" = some ⟨[(.array .char)], none⟩ := by decide +kernel
theorem pd_6 : parseMethodDescriptor "(Ljava/lang/String;I)V" = some ⟨[(.object "java/lang/String"), .int], none⟩ := by decide +kernel
theorem pd_8 : parseMethodDescriptor "(Lcom/example/fieldstone/fieldstone/store/Header;Lcom/example/fieldstone/fieldstone/store/FileForm$Trailer;)V" = some ⟨[(.object "com/example/fieldstone/fieldstone/store/Header"), (.object "com/example/fieldstone/fieldstone/store/FileForm$Trailer")], none⟩ := by decide +kernel
theorem pd_9 : parseMethodDescriptor "()Z" = some ⟨[], some .boolean⟩ := by decide +kernel
theorem pn_0 : plainName "com/example/fieldstone/fieldstone/store/FileFormFooterPinLaw" = true := by first | (simp [plainName, overriddenIn]; done) | decide +kernel
theorem ef_0 (m : MethodId) (x0 : Int32) (x1 : Int32) (x2 : Int32) : entryFrame m #[(.int x0), (.int x1), (.int x2)] maxLocals = mkF m 0 #[.val (.int x0), .val (.int x1), .val (.int x2), .unset, .unset, .unset, .unset, .unset, .unset] [] := by first | (simp [entryFrame, mkF, argsToLocals, Value.category, maxLocals]; done) | rfl
def Q0 (Z : State) (p0 : Int32) (p1 : Int32) (p2 : Int32) (xn : Addr) (xf : Addr) (xc : Addr) (zc : Int32) (h0 : Heap) (n0 : Nat) (rv_ : Option Value) (h : Heap) (LL_ : List Loc) : Prop := rv_ = some (.int 1) ∧ Fr n0 LL_
set_option maxRecDepth 65536 in
set_option maxHeartbeats 40000000 in
theorem rm0 (l : Launch) (Z : State) (a0 : Array Value) (hw : ∀ d ∈ tables_1, d.before a0 Z = true) (ws : List Jvm.Cond) (p0 : Int32) (p1 : Int32) (p2 : Int32) (xn : Addr) (xf : Addr) (xc : Addr) (zc : Int32) (h0 : Heap) (n0 : Nat) (Z0 : n0 ≤ h0.size) (S_xn : Sta Z Z.heap "com/example/fieldstone/fieldstone/store/FileForm$Trailer" "NONE" "Lcom/example/fieldstone/fieldstone/store/FileForm$Trailer;" (.ref xn)) (S_xf : Sta Z Z.heap "com/example/fieldstone/fieldstone/store/FileForm$Trailer" "FOOTER" "Lcom/example/fieldstone/fieldstone/store/FileForm$Trailer;" (.ref xf)) (S_xc : Sta Z Z.heap "com/example/fieldstone/fieldstone/store/FileForm$Trailer" "CHECKSUM" "Lcom/example/fieldstone/fieldstone/store/FileForm$Trailer;" (.ref xc)) (S_cs : Sta Z Z.heap "java/lang/String" "COMPACT_STRINGS" "Z" (.int zc)) (hz : ¬ zc = 0) (X00 : Old Z n0 h0) (ne_nf : xn ≠ xf) (ne_cf : xc ≠ xf) :
    MetFree l x (head1 (Jvm.Cond.code x code maxLocals ret :: ws) room_1) (fun aa UU => aa = #[(.int p0), (.int p1), (.int p2)] ∧ Z.Warmed39 UU.vm ∧ UU.heap = h0) (fun _ _ _ _ _ => True) (fun _ UU oo UV => ∃ vv LL, oo = .returned vv ∧ Q0 Z p0 p1 p2 xn xf xc zc h0 n0 vv UV.heap LL ∧ FrameEnd UU oo UV LL room_1.cells room_1.slots) := by
  refine MetFree.of_bodySF (plainFor_of_name pn_0) hisR ?_
  intro p e s m args below meth c s₁ Bd hml0 hP hK
  obtain ⟨rfl, hZ, hh⟩ := hP
  have hx := Bd.exec
  have hby := Bd.bytes
  have hml : c.maxLocals = 9 := hml0
  have hown : s.vm.findClass "com/example/fieldstone/fieldstone/store/FileFormFooterPinLaw" = some m.cls := findClass_of_methodNamed Bd.named
  have hnm := (name_of_methodNamed Bd.named Bd.method).1
  have X0 : Stand p l e room_1 s m #[(.int p0), (.int p1), (.int p2)] below meth c s₁ [] 0 0 := Stand.of_body Bd
  have e0 : s₁.heap = h0 := by rw [← hh, Bd.state]; rfl
  have N0 := Fr.nil n0
  have k0 : ∀ tg_, Steps p.tables e below (s₁.setTop (mkF m 0 #[.val (.int p0), .val (.int p1), .val (.int p2), .unset, .unset, .unset, .unset, .unset, .unset] [])) tg_ → Steps p.tables e below (s₁.setTop (entryFrame m #[(.int p0), (.int p1), (.int p2)] maxLocals)) tg_ := fun tg_ k => castTop (ef_0 m p0 p1 p2) k
  have k27 : ∀ tg_, Steps p.tables e below (s₁.setTop (mkF m 6 #[.val (.int p0), .val (.int p1), .val (.int p2), .unset, .unset, .unset, .unset, .unset, .unset] [(.int ((p0 &&& (2147483647 : Int32)) % (3 : Int32)))])) tg_ → Steps p.tables e below (s₁.setTop (entryFrame m #[(.int p0), (.int p1), (.int p2)] maxLocals)) tg_ := by
    intro tg_ kt
    refine k0 tg_ ?_
    refine XS.iloadN X0.here hx rfl (hb hby at_0) rfl ?_
    show Steps p.tables e below (s₁.setTop (mkF m 1 #[.val (.int p0), .val (.int p1), .val (.int p2), .unset, .unset, .unset, .unset, .unset, .unset] [(.int p0)])) _
    refine X0.ldcInt hx hown (mvT hZ (hw _ (List.mem_of_getElem? (i := 0) rfl))) (g := (mkF m 1 #[.val (.int p0), .val (.int p1), .val (.int p2), .unset, .unset, .unset, .unset, .unset, .unset] [(.int p0)])) rfl (hb hby at_1) _ ?_
    show Steps p.tables e below (s₁.setTop (mkF m 3 #[.val (.int p0), .val (.int p1), .val (.int p2), .unset, .unset, .unset, .unset, .unset, .unset] [(.int (2147483647 : Int32)), (.int p0)])) _
    refine XS.iand X0.here hx rfl (hb hby at_3) rfl ?_
    show Steps p.tables e below (s₁.setTop (mkF m 4 #[.val (.int p0), .val (.int p1), .val (.int p2), .unset, .unset, .unset, .unset, .unset, .unset] [(.int (p0 &&& (2147483647 : Int32)))])) _
    refine XS.iconst X0.here hx rfl (hb hby at_4) ?_
    show Steps p.tables e below (s₁.setTop (mkF m 5 #[.val (.int p0), .val (.int p1), .val (.int p2), .unset, .unset, .unset, .unset, .unset, .unset] [(.int (3 : Int32)), (.int (p0 &&& (2147483647 : Int32)))])) _
    refine iremM X0 hx rfl (hb hby at_5) rfl (by decide) ?_
    show Steps p.tables e below (s₁.setTop (mkF m 6 #[.val (.int p0), .val (.int p1), .val (.int p2), .unset, .unset, .unset, .unset, .unset, .unset] [(.int ((p0 &&& (2147483647 : Int32)) % (3 : Int32)))])) _
    exact kt
  obtain ⟨v28, hv28⟩ : ∃ z : Int32, z = ((p0 &&& (2147483647 : Int32)) % (3 : Int32)) := ⟨_, rfl⟩
  rw [← hv28] at k27
  have k29 : ∀ tg_, Steps p.tables e below (s₁.setTop (mkF m 8 #[.val (.int p0), .val (.int p1), .val (.int p2), .val (.int v28), .unset, .unset, .unset, .unset, .unset] [(.int v28)])) tg_ → Steps p.tables e below (s₁.setTop (entryFrame m #[(.int p0), (.int p1), (.int p2)] maxLocals)) tg_ := by
    intro tg_ kt
    refine k27 tg_ ?_
    refine XS.istoreN X0.here hx rfl (hb hby at_6) rfl (l' := #[.val (.int p0), .val (.int p1), .val (.int p2), .val (.int v28), .unset, .unset, .unset, .unset, .unset]) rfl ?_
    show Steps p.tables e below (s₁.setTop (mkF m 7 #[.val (.int p0), .val (.int p1), .val (.int p2), .val (.int v28), .unset, .unset, .unset, .unset, .unset] [])) _
    refine XS.iloadN X0.here hx rfl (hb hby at_7) rfl ?_
    show Steps p.tables e below (s₁.setTop (mkF m 8 #[.val (.int p0), .val (.int p1), .val (.int p2), .val (.int v28), .unset, .unset, .unset, .unset, .unset] [(.int v28)])) _
    exact kt
  by_cases hc8_30 : v28 = (0 : Int32)
  · obtain ⟨T31, X31, e31, st31⟩ := getS2 X0 hx hZ hown (host := "") (Or.inl (hw _ (List.mem_of_getElem? (i := 1) rfl))) Via.refl e0 (S_xn.ext X00.2) (g := (mkF m 11 #[.val (.int p0), .val (.int p1), .val (.int p2), .val (.int v28), .unset, .unset, .unset, .unset, .unset] [])) rfl (hb hby at_11)
    obtain ⟨T32, h32, kA32, X32, e32, E32, A32, st32⟩ := newP X31 hx hZ (hw _ (List.mem_of_getElem? (i := 4) rfl)) e31 (g := (mkF m 38 #[.val (.int p0), .val (.int p1), .val (.int p2), .val (.int v28), .val (.ref xn), .unset, .unset, .unset, .unset] [(.int (1 : Int32))])) rfl (hb hby at_38) rfl (by decide) (cap := 1) (by decide) (by decide) (by decide) (by decide)
    obtain ⟨b32, g32⟩ : ∃ z, z = h0.size := ⟨_, rfl⟩
    rw [← g32] at A32 st32
    have ge_b32 : n0 ≤ b32 := Nat.le_trans Z0 (Nat.le_of_eq g32.symm)
    have V32 : own_AI Z h32 b32 .char 1 (fun _ => 0) := own_newI (by decide : (1 : Int32).toInt = ((1 : Nat) : Int)) A32 rfl
    obtain ⟨T33, h33, X33, e33, W33, V33, st33⟩ := own_stC X32 hx hZ e32 V32 (i := 0) (by decide : (0 : Int32).toInt = ((0 : Nat) : Int)) (by decide) (g := (mkF m 51 #[.val (.int p0), .val (.int p1), .val (.int p2), .val (.int v28), .val (.ref xn), .val (.ref b32), .unset, .unset, .unset] [(.int ((p1 &&& (255 : Int32)).toUInt32.toUInt16.toUInt32.toInt32)), (.int (0 : Int32)), (.ref b32)])) rfl rfl (hb hby at_51)
    have N33 := Fr.snoc X33 N0 ge_b32
    obtain ⟨T34, h34, X34, e34, E34, A34, D34, -, st34⟩ := newO X33 hx hZ hown (hw _ (List.mem_of_getElem? (i := 5) rfl)) (hw _ (List.mem_of_getElem? (i := 6) rfl)) (hw _ (List.mem_of_getElem? (i := 7) rfl)) e33 (g := (mkF m 52 #[.val (.int p0), .val (.int p1), .val (.int p2), .val (.int v28), .val (.ref xn), .val (.ref b32), .unset, .unset, .unset] [])) rfl (hb hby at_52) (by decide) (by decide)
    obtain ⟨b34, g34⟩ : ∃ z, z = h33.size := ⟨_, rfl⟩
    rw [← g34] at A34 D34 st34
    have ne_b32_b34 : b32 ≠ b34 := Nat.ne_of_lt (Nat.lt_of_lt_of_le (V33).lt (Nat.le_of_eq g34.symm))
    have f35 := (Nat.le_trans (Nat.le_trans Z0 ((Keep.refl _ []).ext E32).1) (Keep.of_wr W33).1)
    have ge_b34 : n0 ≤ b34 := Nat.le_trans f35 (Nat.le_of_eq g34.symm)
    have F36 : Fld Z h34 b34 "com/example/fieldstone/fieldstone/store/Header" "codec" "Ljava/lang/String;" .null := D34 (Or.inr (hw _ (List.mem_of_getElem? (i := 51) rfl))) (ty := (.object "java/lang/String")) (by decide)
    have F37 : Fld Z h34 b34 "com/example/fieldstone/fieldstone/store/Header" "version" "I" (.int (0 : Int32)) := D34 (Or.inr (hw _ (List.mem_of_getElem? (i := 53) rfl))) (ty := .int) (by decide)
    obtain ⟨T38, h38, X38, e38, E38, A38, D38, -, st38⟩ := newO X34 hx hZ hown (hw _ (List.mem_of_getElem? (i := 8) rfl)) (hw _ (List.mem_of_getElem? (i := 9) rfl)) (hw _ (List.mem_of_getElem? (i := 10) rfl)) e34 (g := (mkF m 56 #[.val (.int p0), .val (.int p1), .val (.int p2), .val (.int v28), .val (.ref xn), .val (.ref b32), .unset, .unset, .unset] [(.ref b34), (.ref b34)])) rfl (hb hby at_56) (by decide) (by decide)
    obtain ⟨b38, g38⟩ : ∃ z, z = h34.size := ⟨_, rfl⟩
    rw [← g38] at A38 D38 st38
    have f39 := (V33.keep ((Keep.refl _ []).ext E34) nin0)
    have ne_b32_b38 : b32 ≠ b38 := Nat.ne_of_lt (Nat.lt_of_lt_of_le (f39).lt (Nat.le_of_eq g38.symm))
    have ne_b34_b38 : b34 ≠ b38 := Nat.ne_of_lt (Nat.lt_of_lt_of_le (A34).lt (Nat.le_of_eq g38.symm))
    have f40 := (Nat.le_trans f35 ((Keep.refl _ []).ext E34).1)
    have ge_b38 : n0 ≤ b38 := Nat.le_trans f40 (Nat.le_of_eq g38.symm)
    have F41 : Fld Z h38 b38 "java/lang/String" "coder" "B" (.int (0 : Int32)) := D38 (Or.inr (hw _ (List.mem_of_getElem? (i := 34) rfl))) (ty := .byte) (by decide)
    have F42 : Fld Z h38 b38 "java/lang/String" "value" "[B" .null := D38 (Or.inr (hw _ (List.mem_of_getElem? (i := 36) rfl))) (ty := (.array .byte)) (by decide)
    have f44 := (f39.keep ((Keep.refl _ []).ext E38) nin0)
    have hws : ∀ d ∈ StrChars.Road.words, d.before a0 Z = true := fun d hd => hw d ((by decide +kernel : ∀ d ∈ StrChars.Road.words, d ∈ tables_1) d hd)
    have hchr := own_ch p1
    have o255 : (255 : Int32).toInt = 255 := by decide
    have o0 : (0 : Int32).toInt = 0 := by decide
    obtain ⟨kC, KC⟩ := own_arv1 f44 (x := (((p1 &&& (255 : Int32)).toUInt32.toUInt16.toUInt32.toInt32).toUInt32.toUInt16.toUInt32.toInt32)) rfl (fits_nar_char _)
    have hp : ∀ c ∈ ([(((p1 &&& (255 : Int32)).toUInt32.toUInt16.toUInt32.toInt32).toUInt32.toUInt16.toUInt32.toInt32)] : List Int32), ¬ c < 0 ∧ ¬ (255 : Int32) < c := by
      intro c hc
      rw [List.mem_singleton] at hc
      subst hc
      exact ⟨fun q => absurd (Int32.lt_iff_toInt_lt.mp q) (by omega), fun q => absurd (Int32.lt_iff_toInt_lt.mp q) (by omega)⟩
    have f45 := (Nat.le_trans f40 ((Keep.refl _ []).ext E38).1)
    have f46 := ((((X00.keep ((Keep.refl _ []).ext E32) all0).keep (Keep.of_wr W33) (allS ge_b32 all0)).keep ((Keep.refl _ []).ext E34) all0).keep ((Keep.refl _ []).ext E38) all0)
    obtain ⟨_, _, ⟨T43, L43, kc43, nc43⟩, -, X43, ⟨Lc43, hQ43, l43, y43, z43⟩, st43⟩ := X38.specialBack hx (y := (⟨"java/lang/String", "<init>", "([C)V"⟩ : MethodName)) rfl hown (mvT hZ (hw _ (List.mem_of_getElem? (i := 11) rfl))) (mvT hZ (hw _ (List.mem_of_getElem? (i := 12) rfl))) (mvT hZ (hw _ (List.mem_of_getElem? (i := 13) rfl))) (by decide) (StrChars.Road.backV (W := 3) hZ hws (kI := 4) (hw _ (List.mem_of_getElem? (i := 9) rfl)) (cs := ([(((p1 &&& (255 : Int32)).toUInt32.toUInt16.toUInt32.toInt32).toUInt32.toUInt16.toUInt32.toInt32)] : List Int32)) (bs := ([(((p1 &&& (255 : Int32)).toUInt32.toUInt16.toUInt32.toInt32).toUInt32.toUInt16.toUInt32.toInt32)] : List Int32).map (fun c => c.toInt8.toInt32)) (n := 1) ge_b38 f45 A38 F42 F41 KC (S_cs.ext f46.2) hz rfl rfl (by decide) (by decide) hp rfl (by decide) (by decide)) (g := (mkF m 62 #[.val (.int p0), .val (.int p1), .val (.int p2), .val (.int v28), .val (.ref xn), .val (.ref b32), .unset, .unset, .unset] [(.ref b32), (.ref b38), (.ref b38), (.ref b34), (.ref b34)])) rfl (by rw [hml]; rfl) (Steps.refl _) (a := b38) (argsL := [(.ref b32)]) (rest := [(.ref b38), (.ref b34), (.ref b34)]) (lenOf pd_0 rfl) rfl (by show 2 * 0 + _ ≤ _; exact Nat.le_of_eq rfl) (hb hby at_62) (fun _ _ => ⟨rfl, e38, (by decide : 3 + 1 ≤ _), (by decide : 7 + 1 ≤ _)⟩)
    dsimp only [Pt.U, Pt.locs, Pt.cells, Pt.slots] at X43 l43 y43 z43 st43 hQ43
    rw [l43, y43, z43] at X43
    replace X43 : Stand p l e room_1 s m #[(.int p0), (.int p1), (.int p2)] below meth c T43 _ 4 8 := X43
    obtain ⟨rfl, Nq43, Kq43, gE43, -⟩ := hQ43
    have N43 := Fr.app N33 Nq43
    have f47 := (Nat.le_trans f45 Kq43.1)
    have f48 := ((A34.keep ((Keep.refl _ []).ext E38)).keep Kq43)
    have f49 := ((F36.keep ((Keep.refl _ []).ext E38) nin0).keep Kq43 (ninS ne_b34_b38 nin0))
    have f50 := ((F37.keep ((Keep.refl _ []).ext E38) nin0).keep Kq43 (ninS ne_b34_b38 nin0))
    obtain ⟨_, _, ⟨T51, L51, kc51, nc51⟩, -, X51, ⟨Lc51, hQ51, l51, y51, z51⟩, st51⟩ := X43.specialBack hx (y := (⟨"com/example/fieldstone/fieldstone/store/Header", "<init>", "(Ljava/lang/String;I)V"⟩ : MethodName)) rfl hown (mvT hZ (hw _ (List.mem_of_getElem? (i := 37) rfl))) (mvT hZ (hw _ (List.mem_of_getElem? (i := 38) rfl))) (mvT hZ (hw _ (List.mem_of_getElem? (i := 39) rfl))) (by decide) (backOf (W := 1) (rm7 l Z a0 hw [] b34 b38 p2 T43.heap n0 f47 f48 f49 f50 ge_b34) hZ (hw _ (List.mem_of_getElem? (i := 39) rfl)) (hw _ (List.mem_of_getElem? (i := 7) rfl)) (by decide) (by decide)) (g := (mkF m 66 #[.val (.int p0), .val (.int p1), .val (.int p2), .val (.int v28), .val (.ref xn), .val (.ref b32), .unset, .unset, .unset] [(.int p2), (.ref b38), (.ref b34), (.ref b34)])) rfl (by rw [hml]; rfl) (Steps.refl _) (a := b34) (argsL := [(.ref b38), (.int p2)]) (rest := [(.ref b34)]) (lenOf pd_6 rfl) rfl (by show 2 * 0 + _ ≤ _; exact Nat.le_of_eq rfl) (hb hby at_66) (fun _ _ => ⟨rfl, rfl, (by decide : 4 + 0 ≤ _), (by decide : 8 + 0 ≤ _)⟩)
    dsimp only [Pt.U, Pt.locs, Pt.cells, Pt.slots] at X51 l51 y51 z51 st51 hQ51
    rw [l51, y51, z51] at X51
    replace X51 : Stand p l e room_1 s m #[(.int p0), (.int p1), (.int p2)] below meth c T51 _ 4 8 := X51
    obtain ⟨rfl, Nq51, oK51⟩ := hQ51
    have N51 := Fr.app N43 Nq51
    obtain ⟨T52, h52, X52, e52, E52, A52, D52, -, st52⟩ := newO X51 hx hZ hown (hw _ (List.mem_of_getElem? (i := 54) rfl)) (hw _ (List.mem_of_getElem? (i := 55) rfl)) (hw _ (List.mem_of_getElem? (i := 56) rfl)) rfl (g := (mkF m 71 #[.val (.int p0), .val (.int p1), .val (.int p2), .val (.int v28), .val (.ref xn), .val (.ref b32), .val (.ref b34), .unset, .unset] [])) rfl (hb hby at_71) (by decide) (by decide)
    obtain ⟨b52, g52⟩ : ∃ z, z = T51.heap.size := ⟨_, rfl⟩
    rw [← g52] at A52 D52 st52
    have f53 := ((f44.keep Kq43 (ninS ne_b32_b38 nin0)).keep oK51 (ninS ne_b32_b34 nin0))
    have ne_b32_b52 : b32 ≠ b52 := Nat.ne_of_lt (Nat.lt_of_lt_of_le (f53).lt (Nat.le_of_eq g52.symm))
    have f54 := (f48.keep oK51)
    have ne_b34_b52 : b34 ≠ b52 := Nat.ne_of_lt (Nat.lt_of_lt_of_le (f54).lt (Nat.le_of_eq g52.symm))
    have f55 := (gE43.keep oK51)
    have ne_b38_b52 : b38 ≠ b52 := Nat.ne_of_lt (Nat.lt_of_lt_of_le (f55).lt (Nat.le_of_eq g52.symm))
    have f56 := (Nat.le_trans f47 oK51.1)
    have ge_b52 : n0 ≤ b52 := Nat.le_trans f56 (Nat.le_of_eq g52.symm)
    have F57 : Fld Z h52 b52 "com/example/fieldstone/fieldstone/store/FileForm" "header" "Lcom/example/fieldstone/fieldstone/store/Header;" .null := D52 (Or.inr (hw _ (List.mem_of_getElem? (i := 63) rfl))) (ty := (.object "com/example/fieldstone/fieldstone/store/Header")) (by decide)
    have F58 : Fld Z h52 b52 "com/example/fieldstone/fieldstone/store/FileForm" "trailer" "Lcom/example/fieldstone/fieldstone/store/FileForm$Trailer;" .null := D52 (Or.inr (hw _ (List.mem_of_getElem? (i := 65) rfl))) (ty := (.object "com/example/fieldstone/fieldstone/store/FileForm$Trailer")) (by decide)
    have k59 : ∀ tg_, Steps p.tables e below (T52.setTop (mkF m 77 #[.val (.int p0), .val (.int p1), .val (.int p2), .val (.int v28), .val (.ref xn), .val (.ref b32), .val (.ref b34), .unset, .unset] [(.ref b34), (.ref b52), (.ref b52)])) tg_ → Steps p.tables e below (s₁.setTop (entryFrame m #[(.int p0), (.int p1), (.int p2)] maxLocals)) tg_ := by
      intro tg_ kt
      refine k29 tg_ ?_
      refine XS.ifNo X0.here hx rfl (hb hby at_8) rfl ((if0 _ _).trans (teq hc8_30).2) ?_
      show Steps p.tables e below (s₁.setTop (mkF m 11 #[.val (.int p0), .val (.int p1), .val (.int p2), .val (.int v28), .unset, .unset, .unset, .unset, .unset] [])) _
      refine st31 _ ?_
      show Steps p.tables e below (T31.setTop (mkF m 14 #[.val (.int p0), .val (.int p1), .val (.int p2), .val (.int v28), .unset, .unset, .unset, .unset, .unset] [(.ref xn)])) _
      refine XS.astore X31.here hx rfl (hb hby at_14) rfl rfl (l' := #[.val (.int p0), .val (.int p1), .val (.int p2), .val (.int v28), .val (.ref xn), .unset, .unset, .unset, .unset]) rfl ?_
      show Steps p.tables e below (T31.setTop (mkF m 16 #[.val (.int p0), .val (.int p1), .val (.int p2), .val (.int v28), .val (.ref xn), .unset, .unset, .unset, .unset] [])) _
      refine XS.goto X31.here hx rfl (pc0 := 16) (pc' := 37) rfl (hb hby at_16) (by decide) (by decide) ?_
      show Steps p.tables e below (T31.setTop (mkF m 37 #[.val (.int p0), .val (.int p1), .val (.int p2), .val (.int v28), .val (.ref xn), .unset, .unset, .unset, .unset] [])) _
      refine XS.iconst X31.here hx rfl (hb hby at_37) ?_
      show Steps p.tables e below (T31.setTop (mkF m 38 #[.val (.int p0), .val (.int p1), .val (.int p2), .val (.int v28), .val (.ref xn), .unset, .unset, .unset, .unset] [(.int (1 : Int32))])) _
      refine st32 _ ?_
      show Steps p.tables e below (T32.setTop (mkF m 40 #[.val (.int p0), .val (.int p1), .val (.int p2), .val (.int v28), .val (.ref xn), .unset, .unset, .unset, .unset] [(.ref b32)])) _
      refine XS.astore X32.here hx rfl (hb hby at_40) rfl rfl (l' := #[.val (.int p0), .val (.int p1), .val (.int p2), .val (.int v28), .val (.ref xn), .val (.ref b32), .unset, .unset, .unset]) rfl ?_
      show Steps p.tables e below (T32.setTop (mkF m 42 #[.val (.int p0), .val (.int p1), .val (.int p2), .val (.int v28), .val (.ref xn), .val (.ref b32), .unset, .unset, .unset] [])) _
      refine XS.aload X32.here hx rfl (hb hby at_42) rfl rfl ?_
      show Steps p.tables e below (T32.setTop (mkF m 44 #[.val (.int p0), .val (.int p1), .val (.int p2), .val (.int v28), .val (.ref xn), .val (.ref b32), .unset, .unset, .unset] [(.ref b32)])) _
      refine XS.iconst X32.here hx rfl (hb hby at_44) ?_
      show Steps p.tables e below (T32.setTop (mkF m 45 #[.val (.int p0), .val (.int p1), .val (.int p2), .val (.int v28), .val (.ref xn), .val (.ref b32), .unset, .unset, .unset] [(.int (0 : Int32)), (.ref b32)])) _
      refine XS.iloadN X32.here hx rfl (hb hby at_45) rfl ?_
      show Steps p.tables e below (T32.setTop (mkF m 46 #[.val (.int p0), .val (.int p1), .val (.int p2), .val (.int v28), .val (.ref xn), .val (.ref b32), .unset, .unset, .unset] [(.int p1), (.int (0 : Int32)), (.ref b32)])) _
      refine XS.sipush X32.here hx rfl (hb hby at_46) ?_
      show Steps p.tables e below (T32.setTop (mkF m 49 #[.val (.int p0), .val (.int p1), .val (.int p2), .val (.int v28), .val (.ref xn), .val (.ref b32), .unset, .unset, .unset] [(.int (255 : Int32)), (.int p1), (.int (0 : Int32)), (.ref b32)])) _
      refine XS.iand X32.here hx rfl (hb hby at_49) rfl ?_
      show Steps p.tables e below (T32.setTop (mkF m 50 #[.val (.int p0), .val (.int p1), .val (.int p2), .val (.int v28), .val (.ref xn), .val (.ref b32), .unset, .unset, .unset] [(.int (p1 &&& (255 : Int32))), (.int (0 : Int32)), (.ref b32)])) _
      refine XS.i2c X32.here hx rfl (hb hby at_50) rfl ?_
      show Steps p.tables e below (T32.setTop (mkF m 51 #[.val (.int p0), .val (.int p1), .val (.int p2), .val (.int v28), .val (.ref xn), .val (.ref b32), .unset, .unset, .unset] [(.int ((p1 &&& (255 : Int32)).toUInt32.toUInt16.toUInt32.toInt32)), (.int (0 : Int32)), (.ref b32)])) _
      refine st33 _ ?_
      show Steps p.tables e below (T33.setTop (mkF m 52 #[.val (.int p0), .val (.int p1), .val (.int p2), .val (.int v28), .val (.ref xn), .val (.ref b32), .unset, .unset, .unset] [])) _
      refine st34 _ ?_
      show Steps p.tables e below (T34.setTop (mkF m 55 #[.val (.int p0), .val (.int p1), .val (.int p2), .val (.int v28), .val (.ref xn), .val (.ref b32), .unset, .unset, .unset] [(.ref b34)])) _
      refine XS.dup X34.here hx rfl (hb hby at_55) rfl rfl ?_
      show Steps p.tables e below (T34.setTop (mkF m 56 #[.val (.int p0), .val (.int p1), .val (.int p2), .val (.int v28), .val (.ref xn), .val (.ref b32), .unset, .unset, .unset] [(.ref b34), (.ref b34)])) _
      refine st38 _ ?_
      show Steps p.tables e below (T38.setTop (mkF m 59 #[.val (.int p0), .val (.int p1), .val (.int p2), .val (.int v28), .val (.ref xn), .val (.ref b32), .unset, .unset, .unset] [(.ref b38), (.ref b34), (.ref b34)])) _
      refine XS.dup X38.here hx rfl (hb hby at_59) rfl rfl ?_
      show Steps p.tables e below (T38.setTop (mkF m 60 #[.val (.int p0), .val (.int p1), .val (.int p2), .val (.int v28), .val (.ref xn), .val (.ref b32), .unset, .unset, .unset] [(.ref b38), (.ref b38), (.ref b34), (.ref b34)])) _
      refine XS.aload X38.here hx rfl (hb hby at_60) rfl rfl ?_
      show Steps p.tables e below (T38.setTop (mkF m 62 #[.val (.int p0), .val (.int p1), .val (.int p2), .val (.int v28), .val (.ref xn), .val (.ref b32), .unset, .unset, .unset] [(.ref b32), (.ref b38), (.ref b38), (.ref b34), (.ref b34)])) _
      refine st43.trans ?_
      show Steps p.tables e below (T43.setTop (mkF m 65 #[.val (.int p0), .val (.int p1), .val (.int p2), .val (.int v28), .val (.ref xn), .val (.ref b32), .unset, .unset, .unset] [(.ref b38), (.ref b34), (.ref b34)])) _
      refine XS.iloadN X43.here hx rfl (hb hby at_65) rfl ?_
      show Steps p.tables e below (T43.setTop (mkF m 66 #[.val (.int p0), .val (.int p1), .val (.int p2), .val (.int v28), .val (.ref xn), .val (.ref b32), .unset, .unset, .unset] [(.int p2), (.ref b38), (.ref b34), (.ref b34)])) _
      refine st51.trans ?_
      show Steps p.tables e below (T51.setTop (mkF m 69 #[.val (.int p0), .val (.int p1), .val (.int p2), .val (.int v28), .val (.ref xn), .val (.ref b32), .unset, .unset, .unset] [(.ref b34)])) _
      refine XS.astore X51.here hx rfl (hb hby at_69) rfl rfl (l' := #[.val (.int p0), .val (.int p1), .val (.int p2), .val (.int v28), .val (.ref xn), .val (.ref b32), .val (.ref b34), .unset, .unset]) rfl ?_
      show Steps p.tables e below (T51.setTop (mkF m 71 #[.val (.int p0), .val (.int p1), .val (.int p2), .val (.int v28), .val (.ref xn), .val (.ref b32), .val (.ref b34), .unset, .unset] [])) _
      refine st52 _ ?_
      show Steps p.tables e below (T52.setTop (mkF m 74 #[.val (.int p0), .val (.int p1), .val (.int p2), .val (.int v28), .val (.ref xn), .val (.ref b32), .val (.ref b34), .unset, .unset] [(.ref b52)])) _
      refine XS.dup X52.here hx rfl (hb hby at_74) rfl rfl ?_
      show Steps p.tables e below (T52.setTop (mkF m 75 #[.val (.int p0), .val (.int p1), .val (.int p2), .val (.int v28), .val (.ref xn), .val (.ref b32), .val (.ref b34), .unset, .unset] [(.ref b52), (.ref b52)])) _
      refine XS.aload X52.here hx rfl (hb hby at_75) rfl rfl ?_
      show Steps p.tables e below (T52.setTop (mkF m 77 #[.val (.int p0), .val (.int p1), .val (.int p2), .val (.int v28), .val (.ref xn), .val (.ref b32), .val (.ref b34), .unset, .unset] [(.ref b34), (.ref b52), (.ref b52)])) _
      exact kt
    have f60 := (Nat.le_trans f56 ((Keep.refl _ []).ext E52).1)
    obtain ⟨_, _, ⟨T61, L61, kc61, nc61⟩, -, X61, ⟨Lc61, hQ61, l61, y61, z61⟩, st61⟩ := X52.specialBack hx (y := (⟨"com/example/fieldstone/fieldstone/store/FileForm", "<init>", "(Lcom/example/fieldstone/fieldstone/store/Header;Lcom/example/fieldstone/fieldstone/store/FileForm$Trailer;)V"⟩ : MethodName)) rfl hown (mvT hZ (hw _ (List.mem_of_getElem? (i := 57) rfl))) (mvT hZ (hw _ (List.mem_of_getElem? (i := 58) rfl))) (mvT hZ (hw _ (List.mem_of_getElem? (i := 59) rfl))) (by decide) (backOf (W := 1) (rm10 l Z a0 hw [] b52 b34 xn h52 n0 f60 A52 F57 F58 ge_b52) hZ (hw _ (List.mem_of_getElem? (i := 59) rfl)) (hw _ (List.mem_of_getElem? (i := 56) rfl)) (by decide) (by decide)) (g := (mkF m 79 #[.val (.int p0), .val (.int p1), .val (.int p2), .val (.int v28), .val (.ref xn), .val (.ref b32), .val (.ref b34), .unset, .unset] [(.ref xn), (.ref b34), (.ref b52), (.ref b52)])) rfl (by rw [hml]; rfl) (Steps.refl _) (a := b52) (argsL := [(.ref b34), (.ref xn)]) (rest := [(.ref b52)]) (lenOf pd_8 rfl) rfl (by show 2 * 0 + _ ≤ _; exact Nat.le_of_eq rfl) (hb hby at_79) (fun _ _ => ⟨rfl, e52, (by decide : 5 + 0 ≤ _), (by decide : 10 + 0 ≤ _)⟩)
    dsimp only [Pt.U, Pt.locs, Pt.cells, Pt.slots] at X61 l61 y61 z61 st61 hQ61
    rw [l61, y61, z61] at X61
    replace X61 : Stand p l e room_1 s m #[(.int p0), (.int p1), (.int p2)] below meth c T61 _ 5 10 := X61
    obtain ⟨rfl, Nq61, oK61, oFatrailer61⟩ := hQ61
    have N61 := Fr.app N51 Nq61
    have hc86_74 : ¬ (v28 = (2 : Int32)) := (by
        have ar62 := rng32 v28
        have ar63 := rng32 p0
        have ar64 : (2147483647 : Int32).toInt = 2147483647 := by decide
        have ar65 := c_mask p0 (2147483647 : Int32) 31 (by decide) (by decide)
        simp only [show (2 ^ 31 : Nat) = 2147483648 from by decide, Int.cast_ofNat_Int] at ar65
        have ar66 := rng32 (p0 &&& (2147483647 : Int32))
        have ar67 : (3 : Int32).toInt = 3 := by decide
        first | have ar68 := (c_irem (p0 &&& (2147483647 : Int32)) (3 : Int32) 3 (by decide)).1 (by omega) | have ar68 := c_irem (p0 &&& (2147483647 : Int32)) (3 : Int32) 3 (by decide)
        have ar69 := rng32 ((p0 &&& (2147483647 : Int32)) % (3 : Int32))
        have ar70 := congrArg Int32.toInt hv28
        have ar71 : (0 : Int32).toInt = 0 := by decide
        have ar72 : v28.toInt = (0 : Int32).toInt := congrArg Int32.toInt hc8_30
        have ar73 : (2 : Int32).toInt = 2 := by decide
        exact fun qq_ => absurd (congrArg Int32.toInt qq_) (by omega))
    have f75 := ((((f46.keep Kq43 (allS ge_b38 all0)).keep oK51 (allS ge_b34 all0)).keep ((Keep.refl _ []).ext E52) all0).keep oK61 (allS ge_b52 all0))
    have f77 := (A52.keep oK61)
    obtain ⟨cq76, kq76, q76a, q76b, q76c⟩ := isOf hZ rfl f77
    obtain ⟨_, _, ⟨T76, L76, kc76, nc76⟩, -, X76, ⟨Lc76, hQ76, l76, y76, z76⟩, st76⟩ := X61.virtualBack hx (y := (⟨"com/example/fieldstone/fieldstone/store/FileForm", "footer", "()Z"⟩ : MethodName)) (z := (⟨"com/example/fieldstone/fieldstone/store/FileForm", "footer", "()Z"⟩ : MethodName)) hown (mvT hZ (hw _ (List.mem_of_getElem? (i := 66) rfl))) (mvT hZ (hw _ (List.mem_of_getElem? (i := 67) rfl))) (notFace_of_selects (args := #[]) (mvT hZ (hw _ (List.mem_of_getElem? (i := 69) rfl)))) (mvT hZ (hw _ (List.mem_of_getElem? (i := 69) rfl))) (mvT hZ (hw _ (List.mem_of_getElem? (i := 68) rfl))) (by decide) (backOf (W := 0) (rmfoN l Z a0 hw [] b52 xn xf T61.heap n0 oFatrailer61 (S_xf.ext f75.2) ne_nf) hZ (hw _ (List.mem_of_getElem? (i := 70) rfl)) (hw _ (List.mem_of_getElem? (i := 56) rfl)) (by decide) (by decide)) q76a q76c (g := (mkF m 98 #[.val (.int p0), .val (.int p1), .val (.int p2), .val (.int v28), .val (.ref xn), .val (.ref b32), .val (.ref b34), .val (.ref b52), .val (.int (0 : Int32))] [(.ref b52)])) rfl (by rw [hml]; rfl) (Steps.refl _) (argsL := []) (rest := []) (lenOf pd_9 rfl) rfl (by show 2 * 0 + _ ≤ _; exact Nat.le_of_eq rfl) (hb hby at_98) (fun _ _ => ⟨rfl, rfl, (by decide : 5 + 0 ≤ _), (by decide : 10 + 0 ≤ _)⟩)
    dsimp only [Pt.U, Pt.locs, Pt.cells, Pt.slots] at X76 l76 y76 z76 st76 hQ76
    rw [l76, y76, z76] at X76
    replace X76 : Stand p l e room_1 s m #[(.int p0), (.int p1), (.int p2)] below meth c T76 _ 5 10 := X76
    obtain ⟨rfl, Nq76, eq76⟩ := hQ76
    have N76 := Fr.app N61 Nq76
    have k78 : ∀ tg_, Steps p.tables e below (T76.setTop (mkF m 111 #[.val (.int p0), .val (.int p1), .val (.int p2), .val (.int v28), .val (.ref xn), .val (.ref b32), .val (.ref b34), .val (.ref b52), .val (.int (0 : Int32))] [(.int (1 : Int32))])) tg_ → Steps p.tables e below (s₁.setTop (entryFrame m #[(.int p0), (.int p1), (.int p2)] maxLocals)) tg_ := by
      intro tg_ kt
      refine k59 tg_ ?_
      refine XS.aload X52.here hx rfl (hb hby at_77) rfl rfl ?_
      show Steps p.tables e below (T52.setTop (mkF m 79 #[.val (.int p0), .val (.int p1), .val (.int p2), .val (.int v28), .val (.ref xn), .val (.ref b32), .val (.ref b34), .unset, .unset] [(.ref xn), (.ref b34), (.ref b52), (.ref b52)])) _
      refine st61.trans ?_
      show Steps p.tables e below (T61.setTop (mkF m 82 #[.val (.int p0), .val (.int p1), .val (.int p2), .val (.int v28), .val (.ref xn), .val (.ref b32), .val (.ref b34), .unset, .unset] [(.ref b52)])) _
      refine XS.astore X61.here hx rfl (hb hby at_82) rfl rfl (l' := #[.val (.int p0), .val (.int p1), .val (.int p2), .val (.int v28), .val (.ref xn), .val (.ref b32), .val (.ref b34), .val (.ref b52), .unset]) rfl ?_
      show Steps p.tables e below (T61.setTop (mkF m 84 #[.val (.int p0), .val (.int p1), .val (.int p2), .val (.int v28), .val (.ref xn), .val (.ref b32), .val (.ref b34), .val (.ref b52), .unset] [])) _
      refine XS.iloadN X61.here hx rfl (hb hby at_84) rfl ?_
      show Steps p.tables e below (T61.setTop (mkF m 85 #[.val (.int p0), .val (.int p1), .val (.int p2), .val (.int v28), .val (.ref xn), .val (.ref b32), .val (.ref b34), .val (.ref b52), .unset] [(.int v28)])) _
      refine XS.iconst X61.here hx rfl (hb hby at_85) ?_
      show Steps p.tables e below (T61.setTop (mkF m 86 #[.val (.int p0), .val (.int p1), .val (.int p2), .val (.int v28), .val (.ref xn), .val (.ref b32), .val (.ref b34), .val (.ref b52), .unset] [(.int (2 : Int32)), (.int v28)])) _
      refine XS.icmpYes X61.here hx rfl (pc0 := 86) (pc' := 93) rfl (hb hby at_86) rfl (feq hc86_74).2 (by decide) (by decide) ?_
      show Steps p.tables e below (T61.setTop (mkF m 93 #[.val (.int p0), .val (.int p1), .val (.int p2), .val (.int v28), .val (.ref xn), .val (.ref b32), .val (.ref b34), .val (.ref b52), .unset] [])) _
      refine XS.iconst X61.here hx rfl (hb hby at_93) ?_
      show Steps p.tables e below (T61.setTop (mkF m 94 #[.val (.int p0), .val (.int p1), .val (.int p2), .val (.int v28), .val (.ref xn), .val (.ref b32), .val (.ref b34), .val (.ref b52), .unset] [(.int (0 : Int32))])) _
      refine XS.istore X61.here hx rfl (hb hby at_94) rfl (l' := #[.val (.int p0), .val (.int p1), .val (.int p2), .val (.int v28), .val (.ref xn), .val (.ref b32), .val (.ref b34), .val (.ref b52), .val (.int (0 : Int32))]) rfl ?_
      show Steps p.tables e below (T61.setTop (mkF m 96 #[.val (.int p0), .val (.int p1), .val (.int p2), .val (.int v28), .val (.ref xn), .val (.ref b32), .val (.ref b34), .val (.ref b52), .val (.int (0 : Int32))] [])) _
      refine XS.aload X61.here hx rfl (hb hby at_96) rfl rfl ?_
      show Steps p.tables e below (T61.setTop (mkF m 98 #[.val (.int p0), .val (.int p1), .val (.int p2), .val (.int v28), .val (.ref xn), .val (.ref b32), .val (.ref b34), .val (.ref b52), .val (.int (0 : Int32))] [(.ref b52)])) _
      refine st76.trans ?_
      show Steps p.tables e below (T76.setTop (mkF m 101 #[.val (.int p0), .val (.int p1), .val (.int p2), .val (.int v28), .val (.ref xn), .val (.ref b32), .val (.ref b34), .val (.ref b52), .val (.int (0 : Int32))] [(.int (0 : Int32))])) _
      refine XS.iload X76.here hx rfl (hb hby at_101) rfl ?_
      show Steps p.tables e below (T76.setTop (mkF m 103 #[.val (.int p0), .val (.int p1), .val (.int p2), .val (.int v28), .val (.ref xn), .val (.ref b32), .val (.ref b34), .val (.ref b52), .val (.int (0 : Int32))] [(.int (0 : Int32)), (.int (0 : Int32))])) _
      refine XS.icmpNo X76.here hx rfl (hb hby at_103) rfl (teq (by decide : (0 : Int32) = (0 : Int32))).2 ?_
      show Steps p.tables e below (T76.setTop (mkF m 106 #[.val (.int p0), .val (.int p1), .val (.int p2), .val (.int v28), .val (.ref xn), .val (.ref b32), .val (.ref b34), .val (.ref b52), .val (.int (0 : Int32))] [])) _
      refine XS.iconst X76.here hx rfl (hb hby at_106) ?_
      show Steps p.tables e below (T76.setTop (mkF m 107 #[.val (.int p0), .val (.int p1), .val (.int p2), .val (.int v28), .val (.ref xn), .val (.ref b32), .val (.ref b34), .val (.ref b52), .val (.int (0 : Int32))] [(.int (1 : Int32))])) _
      refine XS.goto X76.here hx rfl (pc0 := 107) (pc' := 111) rfl (hb hby at_107) (by decide) (by decide) ?_
      show Steps p.tables e below (T76.setTop (mkF m 111 #[.val (.int p0), .val (.int p1), .val (.int p2), .val (.int v28), .val (.ref xn), .val (.ref b32), .val (.ref b34), .val (.ref b52), .val (.int (0 : Int32))] [(.int (1 : Int32))])) _
      exact kt
    obtain ⟨fs, hr, hrun, hended, hW, hsame⟩ := X76.leave (v := some (.int (1 : Int32))) (fun h => by rw [Bd.returns] at h; cases h)
    refine ⟨_, _, k78 _ (retN X76 hx (t := .boolean) Bd.returns (by simp) (hb hby at_111) hr), hrun, hended, _, _, rfl, ?_, ⟨_, rfl⟩, hW, hsame.mono (by decide) (by decide)⟩
    show Q0 Z p0 p1 p2 xn xf xc zc h0 n0 _ T76.heap _
    rw [eq76]
    exact ⟨rfl, N76⟩
  · have k79 : ∀ tg_, Steps p.tables e below (s₁.setTop (mkF m 21 #[.val (.int p0), .val (.int p1), .val (.int p2), .val (.int v28), .unset, .unset, .unset, .unset, .unset] [(.int (1 : Int32)), (.int v28)])) tg_ → Steps p.tables e below (s₁.setTop (entryFrame m #[(.int p0), (.int p1), (.int p2)] maxLocals)) tg_ := by
      intro tg_ kt
      refine k29 tg_ ?_
      refine XS.ifYes X0.here hx rfl (pc0 := 8) (pc' := 19) rfl (hb hby at_8) rfl ((if0 _ _).trans (feq hc8_30).2) (by decide) (by decide) ?_
      show Steps p.tables e below (s₁.setTop (mkF m 19 #[.val (.int p0), .val (.int p1), .val (.int p2), .val (.int v28), .unset, .unset, .unset, .unset, .unset] [])) _
      refine XS.iloadN X0.here hx rfl (hb hby at_19) rfl ?_
      show Steps p.tables e below (s₁.setTop (mkF m 20 #[.val (.int p0), .val (.int p1), .val (.int p2), .val (.int v28), .unset, .unset, .unset, .unset, .unset] [(.int v28)])) _
      refine XS.iconst X0.here hx rfl (hb hby at_20) ?_
      show Steps p.tables e below (s₁.setTop (mkF m 21 #[.val (.int p0), .val (.int p1), .val (.int p2), .val (.int v28), .unset, .unset, .unset, .unset, .unset] [(.int (1 : Int32)), (.int v28)])) _
      exact kt
    by_cases hc21_80 : v28 = (1 : Int32)
    · obtain ⟨T81, X81, e81, st81⟩ := getS2 X0 hx hZ hown (host := "") (Or.inl (hw _ (List.mem_of_getElem? (i := 73) rfl))) Via.refl e0 (S_xc.ext X00.2) (g := (mkF m 24 #[.val (.int p0), .val (.int p1), .val (.int p2), .val (.int v28), .unset, .unset, .unset, .unset, .unset] [])) rfl (hb hby at_24)
      obtain ⟨T82, h82, kA82, X82, e82, E82, A82, st82⟩ := newP X81 hx hZ (hw _ (List.mem_of_getElem? (i := 4) rfl)) e81 (g := (mkF m 38 #[.val (.int p0), .val (.int p1), .val (.int p2), .val (.int v28), .val (.ref xc), .unset, .unset, .unset, .unset] [(.int (1 : Int32))])) rfl (hb hby at_38) rfl (by decide) (cap := 1) (by decide) (by decide) (by decide) (by decide)
      obtain ⟨b82, g82⟩ : ∃ z, z = h0.size := ⟨_, rfl⟩
      rw [← g82] at A82 st82
      have ge_b82 : n0 ≤ b82 := Nat.le_trans Z0 (Nat.le_of_eq g82.symm)
      have V82 : own_AI Z h82 b82 .char 1 (fun _ => 0) := own_newI (by decide : (1 : Int32).toInt = ((1 : Nat) : Int)) A82 rfl
      obtain ⟨T83, h83, X83, e83, W83, V83, st83⟩ := own_stC X82 hx hZ e82 V82 (i := 0) (by decide : (0 : Int32).toInt = ((0 : Nat) : Int)) (by decide) (g := (mkF m 51 #[.val (.int p0), .val (.int p1), .val (.int p2), .val (.int v28), .val (.ref xc), .val (.ref b82), .unset, .unset, .unset] [(.int ((p1 &&& (255 : Int32)).toUInt32.toUInt16.toUInt32.toInt32)), (.int (0 : Int32)), (.ref b82)])) rfl rfl (hb hby at_51)
      have N83 := Fr.snoc X83 N0 ge_b82
      obtain ⟨T84, h84, X84, e84, E84, A84, D84, -, st84⟩ := newO X83 hx hZ hown (hw _ (List.mem_of_getElem? (i := 5) rfl)) (hw _ (List.mem_of_getElem? (i := 6) rfl)) (hw _ (List.mem_of_getElem? (i := 7) rfl)) e83 (g := (mkF m 52 #[.val (.int p0), .val (.int p1), .val (.int p2), .val (.int v28), .val (.ref xc), .val (.ref b82), .unset, .unset, .unset] [])) rfl (hb hby at_52) (by decide) (by decide)
      obtain ⟨b84, g84⟩ : ∃ z, z = h83.size := ⟨_, rfl⟩
      rw [← g84] at A84 D84 st84
      have ne_b82_b84 : b82 ≠ b84 := Nat.ne_of_lt (Nat.lt_of_lt_of_le (V83).lt (Nat.le_of_eq g84.symm))
      have f85 := (Nat.le_trans (Nat.le_trans Z0 ((Keep.refl _ []).ext E82).1) (Keep.of_wr W83).1)
      have ge_b84 : n0 ≤ b84 := Nat.le_trans f85 (Nat.le_of_eq g84.symm)
      have F86 : Fld Z h84 b84 "com/example/fieldstone/fieldstone/store/Header" "codec" "Ljava/lang/String;" .null := D84 (Or.inr (hw _ (List.mem_of_getElem? (i := 51) rfl))) (ty := (.object "java/lang/String")) (by decide)
      have F87 : Fld Z h84 b84 "com/example/fieldstone/fieldstone/store/Header" "version" "I" (.int (0 : Int32)) := D84 (Or.inr (hw _ (List.mem_of_getElem? (i := 53) rfl))) (ty := .int) (by decide)
      obtain ⟨T88, h88, X88, e88, E88, A88, D88, -, st88⟩ := newO X84 hx hZ hown (hw _ (List.mem_of_getElem? (i := 8) rfl)) (hw _ (List.mem_of_getElem? (i := 9) rfl)) (hw _ (List.mem_of_getElem? (i := 10) rfl)) e84 (g := (mkF m 56 #[.val (.int p0), .val (.int p1), .val (.int p2), .val (.int v28), .val (.ref xc), .val (.ref b82), .unset, .unset, .unset] [(.ref b84), (.ref b84)])) rfl (hb hby at_56) (by decide) (by decide)
      obtain ⟨b88, g88⟩ : ∃ z, z = h84.size := ⟨_, rfl⟩
      rw [← g88] at A88 D88 st88
      have f89 := (V83.keep ((Keep.refl _ []).ext E84) nin0)
      have ne_b82_b88 : b82 ≠ b88 := Nat.ne_of_lt (Nat.lt_of_lt_of_le (f89).lt (Nat.le_of_eq g88.symm))
      have ne_b84_b88 : b84 ≠ b88 := Nat.ne_of_lt (Nat.lt_of_lt_of_le (A84).lt (Nat.le_of_eq g88.symm))
      have f90 := (Nat.le_trans f85 ((Keep.refl _ []).ext E84).1)
      have ge_b88 : n0 ≤ b88 := Nat.le_trans f90 (Nat.le_of_eq g88.symm)
      have F91 : Fld Z h88 b88 "java/lang/String" "coder" "B" (.int (0 : Int32)) := D88 (Or.inr (hw _ (List.mem_of_getElem? (i := 34) rfl))) (ty := .byte) (by decide)
      have F92 : Fld Z h88 b88 "java/lang/String" "value" "[B" .null := D88 (Or.inr (hw _ (List.mem_of_getElem? (i := 36) rfl))) (ty := (.array .byte)) (by decide)
      have f94 := (f89.keep ((Keep.refl _ []).ext E88) nin0)
      have hws : ∀ d ∈ StrChars.Road.words, d.before a0 Z = true := fun d hd => hw d ((by decide +kernel : ∀ d ∈ StrChars.Road.words, d ∈ tables_1) d hd)
      have hchr := own_ch p1
      have o255 : (255 : Int32).toInt = 255 := by decide
      have o0 : (0 : Int32).toInt = 0 := by decide
      obtain ⟨kC, KC⟩ := own_arv1 f94 (x := (((p1 &&& (255 : Int32)).toUInt32.toUInt16.toUInt32.toInt32).toUInt32.toUInt16.toUInt32.toInt32)) rfl (fits_nar_char _)
      have hp : ∀ c ∈ ([(((p1 &&& (255 : Int32)).toUInt32.toUInt16.toUInt32.toInt32).toUInt32.toUInt16.toUInt32.toInt32)] : List Int32), ¬ c < 0 ∧ ¬ (255 : Int32) < c := by
        intro c hc
        rw [List.mem_singleton] at hc
        subst hc
        exact ⟨fun q => absurd (Int32.lt_iff_toInt_lt.mp q) (by omega), fun q => absurd (Int32.lt_iff_toInt_lt.mp q) (by omega)⟩
      have f95 := (Nat.le_trans f90 ((Keep.refl _ []).ext E88).1)
      have f96 := ((((X00.keep ((Keep.refl _ []).ext E82) all0).keep (Keep.of_wr W83) (allS ge_b82 all0)).keep ((Keep.refl _ []).ext E84) all0).keep ((Keep.refl _ []).ext E88) all0)
      obtain ⟨_, _, ⟨T93, L93, kc93, nc93⟩, -, X93, ⟨Lc93, hQ93, l93, y93, z93⟩, st93⟩ := X88.specialBack hx (y := (⟨"java/lang/String", "<init>", "([C)V"⟩ : MethodName)) rfl hown (mvT hZ (hw _ (List.mem_of_getElem? (i := 11) rfl))) (mvT hZ (hw _ (List.mem_of_getElem? (i := 12) rfl))) (mvT hZ (hw _ (List.mem_of_getElem? (i := 13) rfl))) (by decide) (StrChars.Road.backV (W := 3) hZ hws (kI := 4) (hw _ (List.mem_of_getElem? (i := 9) rfl)) (cs := ([(((p1 &&& (255 : Int32)).toUInt32.toUInt16.toUInt32.toInt32).toUInt32.toUInt16.toUInt32.toInt32)] : List Int32)) (bs := ([(((p1 &&& (255 : Int32)).toUInt32.toUInt16.toUInt32.toInt32).toUInt32.toUInt16.toUInt32.toInt32)] : List Int32).map (fun c => c.toInt8.toInt32)) (n := 1) ge_b88 f95 A88 F92 F91 KC (S_cs.ext f96.2) hz rfl rfl (by decide) (by decide) hp rfl (by decide) (by decide)) (g := (mkF m 62 #[.val (.int p0), .val (.int p1), .val (.int p2), .val (.int v28), .val (.ref xc), .val (.ref b82), .unset, .unset, .unset] [(.ref b82), (.ref b88), (.ref b88), (.ref b84), (.ref b84)])) rfl (by rw [hml]; rfl) (Steps.refl _) (a := b88) (argsL := [(.ref b82)]) (rest := [(.ref b88), (.ref b84), (.ref b84)]) (lenOf pd_0 rfl) rfl (by show 2 * 0 + _ ≤ _; exact Nat.le_of_eq rfl) (hb hby at_62) (fun _ _ => ⟨rfl, e88, (by decide : 3 + 1 ≤ _), (by decide : 7 + 1 ≤ _)⟩)
      dsimp only [Pt.U, Pt.locs, Pt.cells, Pt.slots] at X93 l93 y93 z93 st93 hQ93
      rw [l93, y93, z93] at X93
      replace X93 : Stand p l e room_1 s m #[(.int p0), (.int p1), (.int p2)] below meth c T93 _ 4 8 := X93
      obtain ⟨rfl, Nq93, Kq93, gE93, -⟩ := hQ93
      have N93 := Fr.app N83 Nq93
      have f97 := (Nat.le_trans f95 Kq93.1)
      have f98 := ((A84.keep ((Keep.refl _ []).ext E88)).keep Kq93)
      have f99 := ((F86.keep ((Keep.refl _ []).ext E88) nin0).keep Kq93 (ninS ne_b84_b88 nin0))
      have f100 := ((F87.keep ((Keep.refl _ []).ext E88) nin0).keep Kq93 (ninS ne_b84_b88 nin0))
      obtain ⟨_, _, ⟨T101, L101, kc101, nc101⟩, -, X101, ⟨Lc101, hQ101, l101, y101, z101⟩, st101⟩ := X93.specialBack hx (y := (⟨"com/example/fieldstone/fieldstone/store/Header", "<init>", "(Ljava/lang/String;I)V"⟩ : MethodName)) rfl hown (mvT hZ (hw _ (List.mem_of_getElem? (i := 37) rfl))) (mvT hZ (hw _ (List.mem_of_getElem? (i := 38) rfl))) (mvT hZ (hw _ (List.mem_of_getElem? (i := 39) rfl))) (by decide) (backOf (W := 1) (rm7 l Z a0 hw [] b84 b88 p2 T93.heap n0 f97 f98 f99 f100 ge_b84) hZ (hw _ (List.mem_of_getElem? (i := 39) rfl)) (hw _ (List.mem_of_getElem? (i := 7) rfl)) (by decide) (by decide)) (g := (mkF m 66 #[.val (.int p0), .val (.int p1), .val (.int p2), .val (.int v28), .val (.ref xc), .val (.ref b82), .unset, .unset, .unset] [(.int p2), (.ref b88), (.ref b84), (.ref b84)])) rfl (by rw [hml]; rfl) (Steps.refl _) (a := b84) (argsL := [(.ref b88), (.int p2)]) (rest := [(.ref b84)]) (lenOf pd_6 rfl) rfl (by show 2 * 0 + _ ≤ _; exact Nat.le_of_eq rfl) (hb hby at_66) (fun _ _ => ⟨rfl, rfl, (by decide : 4 + 0 ≤ _), (by decide : 8 + 0 ≤ _)⟩)
      dsimp only [Pt.U, Pt.locs, Pt.cells, Pt.slots] at X101 l101 y101 z101 st101 hQ101
      rw [l101, y101, z101] at X101
      replace X101 : Stand p l e room_1 s m #[(.int p0), (.int p1), (.int p2)] below meth c T101 _ 4 8 := X101
      obtain ⟨rfl, Nq101, oK101⟩ := hQ101
      have N101 := Fr.app N93 Nq101
      obtain ⟨T102, h102, X102, e102, E102, A102, D102, -, st102⟩ := newO X101 hx hZ hown (hw _ (List.mem_of_getElem? (i := 54) rfl)) (hw _ (List.mem_of_getElem? (i := 55) rfl)) (hw _ (List.mem_of_getElem? (i := 56) rfl)) rfl (g := (mkF m 71 #[.val (.int p0), .val (.int p1), .val (.int p2), .val (.int v28), .val (.ref xc), .val (.ref b82), .val (.ref b84), .unset, .unset] [])) rfl (hb hby at_71) (by decide) (by decide)
      obtain ⟨b102, g102⟩ : ∃ z, z = T101.heap.size := ⟨_, rfl⟩
      rw [← g102] at A102 D102 st102
      have f103 := ((f94.keep Kq93 (ninS ne_b82_b88 nin0)).keep oK101 (ninS ne_b82_b84 nin0))
      have ne_b82_b102 : b82 ≠ b102 := Nat.ne_of_lt (Nat.lt_of_lt_of_le (f103).lt (Nat.le_of_eq g102.symm))
      have f104 := (f98.keep oK101)
      have ne_b84_b102 : b84 ≠ b102 := Nat.ne_of_lt (Nat.lt_of_lt_of_le (f104).lt (Nat.le_of_eq g102.symm))
      have f105 := (gE93.keep oK101)
      have ne_b88_b102 : b88 ≠ b102 := Nat.ne_of_lt (Nat.lt_of_lt_of_le (f105).lt (Nat.le_of_eq g102.symm))
      have f106 := (Nat.le_trans f97 oK101.1)
      have ge_b102 : n0 ≤ b102 := Nat.le_trans f106 (Nat.le_of_eq g102.symm)
      have F107 : Fld Z h102 b102 "com/example/fieldstone/fieldstone/store/FileForm" "header" "Lcom/example/fieldstone/fieldstone/store/Header;" .null := D102 (Or.inr (hw _ (List.mem_of_getElem? (i := 63) rfl))) (ty := (.object "com/example/fieldstone/fieldstone/store/Header")) (by decide)
      have F108 : Fld Z h102 b102 "com/example/fieldstone/fieldstone/store/FileForm" "trailer" "Lcom/example/fieldstone/fieldstone/store/FileForm$Trailer;" .null := D102 (Or.inr (hw _ (List.mem_of_getElem? (i := 65) rfl))) (ty := (.object "com/example/fieldstone/fieldstone/store/FileForm$Trailer")) (by decide)
      have k109 : ∀ tg_, Steps p.tables e below (T102.setTop (mkF m 77 #[.val (.int p0), .val (.int p1), .val (.int p2), .val (.int v28), .val (.ref xc), .val (.ref b82), .val (.ref b84), .unset, .unset] [(.ref b84), (.ref b102), (.ref b102)])) tg_ → Steps p.tables e below (s₁.setTop (entryFrame m #[(.int p0), (.int p1), (.int p2)] maxLocals)) tg_ := by
        intro tg_ kt
        refine k79 tg_ ?_
        refine XS.icmpNo X0.here hx rfl (hb hby at_21) rfl (teq hc21_80).2 ?_
        show Steps p.tables e below (s₁.setTop (mkF m 24 #[.val (.int p0), .val (.int p1), .val (.int p2), .val (.int v28), .unset, .unset, .unset, .unset, .unset] [])) _
        refine st81 _ ?_
        show Steps p.tables e below (T81.setTop (mkF m 27 #[.val (.int p0), .val (.int p1), .val (.int p2), .val (.int v28), .unset, .unset, .unset, .unset, .unset] [(.ref xc)])) _
        refine XS.astore X81.here hx rfl (hb hby at_27) rfl rfl (l' := #[.val (.int p0), .val (.int p1), .val (.int p2), .val (.int v28), .val (.ref xc), .unset, .unset, .unset, .unset]) rfl ?_
        show Steps p.tables e below (T81.setTop (mkF m 29 #[.val (.int p0), .val (.int p1), .val (.int p2), .val (.int v28), .val (.ref xc), .unset, .unset, .unset, .unset] [])) _
        refine XS.goto X81.here hx rfl (pc0 := 29) (pc' := 37) rfl (hb hby at_29) (by decide) (by decide) ?_
        show Steps p.tables e below (T81.setTop (mkF m 37 #[.val (.int p0), .val (.int p1), .val (.int p2), .val (.int v28), .val (.ref xc), .unset, .unset, .unset, .unset] [])) _
        refine XS.iconst X81.here hx rfl (hb hby at_37) ?_
        show Steps p.tables e below (T81.setTop (mkF m 38 #[.val (.int p0), .val (.int p1), .val (.int p2), .val (.int v28), .val (.ref xc), .unset, .unset, .unset, .unset] [(.int (1 : Int32))])) _
        refine st82 _ ?_
        show Steps p.tables e below (T82.setTop (mkF m 40 #[.val (.int p0), .val (.int p1), .val (.int p2), .val (.int v28), .val (.ref xc), .unset, .unset, .unset, .unset] [(.ref b82)])) _
        refine XS.astore X82.here hx rfl (hb hby at_40) rfl rfl (l' := #[.val (.int p0), .val (.int p1), .val (.int p2), .val (.int v28), .val (.ref xc), .val (.ref b82), .unset, .unset, .unset]) rfl ?_
        show Steps p.tables e below (T82.setTop (mkF m 42 #[.val (.int p0), .val (.int p1), .val (.int p2), .val (.int v28), .val (.ref xc), .val (.ref b82), .unset, .unset, .unset] [])) _
        refine XS.aload X82.here hx rfl (hb hby at_42) rfl rfl ?_
        show Steps p.tables e below (T82.setTop (mkF m 44 #[.val (.int p0), .val (.int p1), .val (.int p2), .val (.int v28), .val (.ref xc), .val (.ref b82), .unset, .unset, .unset] [(.ref b82)])) _
        refine XS.iconst X82.here hx rfl (hb hby at_44) ?_
        show Steps p.tables e below (T82.setTop (mkF m 45 #[.val (.int p0), .val (.int p1), .val (.int p2), .val (.int v28), .val (.ref xc), .val (.ref b82), .unset, .unset, .unset] [(.int (0 : Int32)), (.ref b82)])) _
        refine XS.iloadN X82.here hx rfl (hb hby at_45) rfl ?_
        show Steps p.tables e below (T82.setTop (mkF m 46 #[.val (.int p0), .val (.int p1), .val (.int p2), .val (.int v28), .val (.ref xc), .val (.ref b82), .unset, .unset, .unset] [(.int p1), (.int (0 : Int32)), (.ref b82)])) _
        refine XS.sipush X82.here hx rfl (hb hby at_46) ?_
        show Steps p.tables e below (T82.setTop (mkF m 49 #[.val (.int p0), .val (.int p1), .val (.int p2), .val (.int v28), .val (.ref xc), .val (.ref b82), .unset, .unset, .unset] [(.int (255 : Int32)), (.int p1), (.int (0 : Int32)), (.ref b82)])) _
        refine XS.iand X82.here hx rfl (hb hby at_49) rfl ?_
        show Steps p.tables e below (T82.setTop (mkF m 50 #[.val (.int p0), .val (.int p1), .val (.int p2), .val (.int v28), .val (.ref xc), .val (.ref b82), .unset, .unset, .unset] [(.int (p1 &&& (255 : Int32))), (.int (0 : Int32)), (.ref b82)])) _
        refine XS.i2c X82.here hx rfl (hb hby at_50) rfl ?_
        show Steps p.tables e below (T82.setTop (mkF m 51 #[.val (.int p0), .val (.int p1), .val (.int p2), .val (.int v28), .val (.ref xc), .val (.ref b82), .unset, .unset, .unset] [(.int ((p1 &&& (255 : Int32)).toUInt32.toUInt16.toUInt32.toInt32)), (.int (0 : Int32)), (.ref b82)])) _
        refine st83 _ ?_
        show Steps p.tables e below (T83.setTop (mkF m 52 #[.val (.int p0), .val (.int p1), .val (.int p2), .val (.int v28), .val (.ref xc), .val (.ref b82), .unset, .unset, .unset] [])) _
        refine st84 _ ?_
        show Steps p.tables e below (T84.setTop (mkF m 55 #[.val (.int p0), .val (.int p1), .val (.int p2), .val (.int v28), .val (.ref xc), .val (.ref b82), .unset, .unset, .unset] [(.ref b84)])) _
        refine XS.dup X84.here hx rfl (hb hby at_55) rfl rfl ?_
        show Steps p.tables e below (T84.setTop (mkF m 56 #[.val (.int p0), .val (.int p1), .val (.int p2), .val (.int v28), .val (.ref xc), .val (.ref b82), .unset, .unset, .unset] [(.ref b84), (.ref b84)])) _
        refine st88 _ ?_
        show Steps p.tables e below (T88.setTop (mkF m 59 #[.val (.int p0), .val (.int p1), .val (.int p2), .val (.int v28), .val (.ref xc), .val (.ref b82), .unset, .unset, .unset] [(.ref b88), (.ref b84), (.ref b84)])) _
        refine XS.dup X88.here hx rfl (hb hby at_59) rfl rfl ?_
        show Steps p.tables e below (T88.setTop (mkF m 60 #[.val (.int p0), .val (.int p1), .val (.int p2), .val (.int v28), .val (.ref xc), .val (.ref b82), .unset, .unset, .unset] [(.ref b88), (.ref b88), (.ref b84), (.ref b84)])) _
        refine XS.aload X88.here hx rfl (hb hby at_60) rfl rfl ?_
        show Steps p.tables e below (T88.setTop (mkF m 62 #[.val (.int p0), .val (.int p1), .val (.int p2), .val (.int v28), .val (.ref xc), .val (.ref b82), .unset, .unset, .unset] [(.ref b82), (.ref b88), (.ref b88), (.ref b84), (.ref b84)])) _
        refine st93.trans ?_
        show Steps p.tables e below (T93.setTop (mkF m 65 #[.val (.int p0), .val (.int p1), .val (.int p2), .val (.int v28), .val (.ref xc), .val (.ref b82), .unset, .unset, .unset] [(.ref b88), (.ref b84), (.ref b84)])) _
        refine XS.iloadN X93.here hx rfl (hb hby at_65) rfl ?_
        show Steps p.tables e below (T93.setTop (mkF m 66 #[.val (.int p0), .val (.int p1), .val (.int p2), .val (.int v28), .val (.ref xc), .val (.ref b82), .unset, .unset, .unset] [(.int p2), (.ref b88), (.ref b84), (.ref b84)])) _
        refine st101.trans ?_
        show Steps p.tables e below (T101.setTop (mkF m 69 #[.val (.int p0), .val (.int p1), .val (.int p2), .val (.int v28), .val (.ref xc), .val (.ref b82), .unset, .unset, .unset] [(.ref b84)])) _
        refine XS.astore X101.here hx rfl (hb hby at_69) rfl rfl (l' := #[.val (.int p0), .val (.int p1), .val (.int p2), .val (.int v28), .val (.ref xc), .val (.ref b82), .val (.ref b84), .unset, .unset]) rfl ?_
        show Steps p.tables e below (T101.setTop (mkF m 71 #[.val (.int p0), .val (.int p1), .val (.int p2), .val (.int v28), .val (.ref xc), .val (.ref b82), .val (.ref b84), .unset, .unset] [])) _
        refine st102 _ ?_
        show Steps p.tables e below (T102.setTop (mkF m 74 #[.val (.int p0), .val (.int p1), .val (.int p2), .val (.int v28), .val (.ref xc), .val (.ref b82), .val (.ref b84), .unset, .unset] [(.ref b102)])) _
        refine XS.dup X102.here hx rfl (hb hby at_74) rfl rfl ?_
        show Steps p.tables e below (T102.setTop (mkF m 75 #[.val (.int p0), .val (.int p1), .val (.int p2), .val (.int v28), .val (.ref xc), .val (.ref b82), .val (.ref b84), .unset, .unset] [(.ref b102), (.ref b102)])) _
        refine XS.aload X102.here hx rfl (hb hby at_75) rfl rfl ?_
        show Steps p.tables e below (T102.setTop (mkF m 77 #[.val (.int p0), .val (.int p1), .val (.int p2), .val (.int v28), .val (.ref xc), .val (.ref b82), .val (.ref b84), .unset, .unset] [(.ref b84), (.ref b102), (.ref b102)])) _
        exact kt
      have f110 := (Nat.le_trans f106 ((Keep.refl _ []).ext E102).1)
      obtain ⟨_, _, ⟨T111, L111, kc111, nc111⟩, -, X111, ⟨Lc111, hQ111, l111, y111, z111⟩, st111⟩ := X102.specialBack hx (y := (⟨"com/example/fieldstone/fieldstone/store/FileForm", "<init>", "(Lcom/example/fieldstone/fieldstone/store/Header;Lcom/example/fieldstone/fieldstone/store/FileForm$Trailer;)V"⟩ : MethodName)) rfl hown (mvT hZ (hw _ (List.mem_of_getElem? (i := 57) rfl))) (mvT hZ (hw _ (List.mem_of_getElem? (i := 58) rfl))) (mvT hZ (hw _ (List.mem_of_getElem? (i := 59) rfl))) (by decide) (backOf (W := 1) (rm10 l Z a0 hw [] b102 b84 xc h102 n0 f110 A102 F107 F108 ge_b102) hZ (hw _ (List.mem_of_getElem? (i := 59) rfl)) (hw _ (List.mem_of_getElem? (i := 56) rfl)) (by decide) (by decide)) (g := (mkF m 79 #[.val (.int p0), .val (.int p1), .val (.int p2), .val (.int v28), .val (.ref xc), .val (.ref b82), .val (.ref b84), .unset, .unset] [(.ref xc), (.ref b84), (.ref b102), (.ref b102)])) rfl (by rw [hml]; rfl) (Steps.refl _) (a := b102) (argsL := [(.ref b84), (.ref xc)]) (rest := [(.ref b102)]) (lenOf pd_8 rfl) rfl (by show 2 * 0 + _ ≤ _; exact Nat.le_of_eq rfl) (hb hby at_79) (fun _ _ => ⟨rfl, e102, (by decide : 5 + 0 ≤ _), (by decide : 10 + 0 ≤ _)⟩)
      dsimp only [Pt.U, Pt.locs, Pt.cells, Pt.slots] at X111 l111 y111 z111 st111 hQ111
      rw [l111, y111, z111] at X111
      replace X111 : Stand p l e room_1 s m #[(.int p0), (.int p1), (.int p2)] below meth c T111 _ 5 10 := X111
      obtain ⟨rfl, Nq111, oK111, oFatrailer111⟩ := hQ111
      have N111 := Fr.app N101 Nq111
      have hc86_126 : ¬ (v28 = (2 : Int32)) := (by
          have ar112 := rng32 v28
          have ar113 := rng32 p0
          have ar114 : (2147483647 : Int32).toInt = 2147483647 := by decide
          have ar115 := c_mask p0 (2147483647 : Int32) 31 (by decide) (by decide)
          simp only [show (2 ^ 31 : Nat) = 2147483648 from by decide, Int.cast_ofNat_Int] at ar115
          have ar116 := rng32 (p0 &&& (2147483647 : Int32))
          have ar117 : (3 : Int32).toInt = 3 := by decide
          first | have ar118 := (c_irem (p0 &&& (2147483647 : Int32)) (3 : Int32) 3 (by decide)).1 (by omega) | have ar118 := c_irem (p0 &&& (2147483647 : Int32)) (3 : Int32) 3 (by decide)
          have ar119 := rng32 ((p0 &&& (2147483647 : Int32)) % (3 : Int32))
          have ar120 := congrArg Int32.toInt hv28
          have ar121 : (0 : Int32).toInt = 0 := by decide
          have ar122 : ¬ (v28.toInt = (0 : Int32).toInt) := fun qq_ => hc8_30 (Int32.toInt_inj.mp qq_)
          have ar123 : (1 : Int32).toInt = 1 := by decide
          have ar124 : v28.toInt = (1 : Int32).toInt := congrArg Int32.toInt hc21_80
          have ar125 : (2 : Int32).toInt = 2 := by decide
          exact fun qq_ => absurd (congrArg Int32.toInt qq_) (by omega))
      have f127 := ((((f96.keep Kq93 (allS ge_b88 all0)).keep oK101 (allS ge_b84 all0)).keep ((Keep.refl _ []).ext E102) all0).keep oK111 (allS ge_b102 all0))
      have f129 := (A102.keep oK111)
      obtain ⟨cq128, kq128, q128a, q128b, q128c⟩ := isOf hZ rfl f129
      obtain ⟨_, _, ⟨T128, L128, kc128, nc128⟩, -, X128, ⟨Lc128, hQ128, l128, y128, z128⟩, st128⟩ := X111.virtualBack hx (y := (⟨"com/example/fieldstone/fieldstone/store/FileForm", "footer", "()Z"⟩ : MethodName)) (z := (⟨"com/example/fieldstone/fieldstone/store/FileForm", "footer", "()Z"⟩ : MethodName)) hown (mvT hZ (hw _ (List.mem_of_getElem? (i := 66) rfl))) (mvT hZ (hw _ (List.mem_of_getElem? (i := 67) rfl))) (notFace_of_selects (args := #[]) (mvT hZ (hw _ (List.mem_of_getElem? (i := 69) rfl)))) (mvT hZ (hw _ (List.mem_of_getElem? (i := 69) rfl))) (mvT hZ (hw _ (List.mem_of_getElem? (i := 68) rfl))) (by decide) (backOf (W := 0) (rmfoN l Z a0 hw [] b102 xc xf T111.heap n0 oFatrailer111 (S_xf.ext f127.2) ne_cf) hZ (hw _ (List.mem_of_getElem? (i := 70) rfl)) (hw _ (List.mem_of_getElem? (i := 56) rfl)) (by decide) (by decide)) q128a q128c (g := (mkF m 98 #[.val (.int p0), .val (.int p1), .val (.int p2), .val (.int v28), .val (.ref xc), .val (.ref b82), .val (.ref b84), .val (.ref b102), .val (.int (0 : Int32))] [(.ref b102)])) rfl (by rw [hml]; rfl) (Steps.refl _) (argsL := []) (rest := []) (lenOf pd_9 rfl) rfl (by show 2 * 0 + _ ≤ _; exact Nat.le_of_eq rfl) (hb hby at_98) (fun _ _ => ⟨rfl, rfl, (by decide : 5 + 0 ≤ _), (by decide : 10 + 0 ≤ _)⟩)
      dsimp only [Pt.U, Pt.locs, Pt.cells, Pt.slots] at X128 l128 y128 z128 st128 hQ128
      rw [l128, y128, z128] at X128
      replace X128 : Stand p l e room_1 s m #[(.int p0), (.int p1), (.int p2)] below meth c T128 _ 5 10 := X128
      obtain ⟨rfl, Nq128, eq128⟩ := hQ128
      have N128 := Fr.app N111 Nq128
      have k130 : ∀ tg_, Steps p.tables e below (T128.setTop (mkF m 111 #[.val (.int p0), .val (.int p1), .val (.int p2), .val (.int v28), .val (.ref xc), .val (.ref b82), .val (.ref b84), .val (.ref b102), .val (.int (0 : Int32))] [(.int (1 : Int32))])) tg_ → Steps p.tables e below (s₁.setTop (entryFrame m #[(.int p0), (.int p1), (.int p2)] maxLocals)) tg_ := by
        intro tg_ kt
        refine k109 tg_ ?_
        refine XS.aload X102.here hx rfl (hb hby at_77) rfl rfl ?_
        show Steps p.tables e below (T102.setTop (mkF m 79 #[.val (.int p0), .val (.int p1), .val (.int p2), .val (.int v28), .val (.ref xc), .val (.ref b82), .val (.ref b84), .unset, .unset] [(.ref xc), (.ref b84), (.ref b102), (.ref b102)])) _
        refine st111.trans ?_
        show Steps p.tables e below (T111.setTop (mkF m 82 #[.val (.int p0), .val (.int p1), .val (.int p2), .val (.int v28), .val (.ref xc), .val (.ref b82), .val (.ref b84), .unset, .unset] [(.ref b102)])) _
        refine XS.astore X111.here hx rfl (hb hby at_82) rfl rfl (l' := #[.val (.int p0), .val (.int p1), .val (.int p2), .val (.int v28), .val (.ref xc), .val (.ref b82), .val (.ref b84), .val (.ref b102), .unset]) rfl ?_
        show Steps p.tables e below (T111.setTop (mkF m 84 #[.val (.int p0), .val (.int p1), .val (.int p2), .val (.int v28), .val (.ref xc), .val (.ref b82), .val (.ref b84), .val (.ref b102), .unset] [])) _
        refine XS.iloadN X111.here hx rfl (hb hby at_84) rfl ?_
        show Steps p.tables e below (T111.setTop (mkF m 85 #[.val (.int p0), .val (.int p1), .val (.int p2), .val (.int v28), .val (.ref xc), .val (.ref b82), .val (.ref b84), .val (.ref b102), .unset] [(.int v28)])) _
        refine XS.iconst X111.here hx rfl (hb hby at_85) ?_
        show Steps p.tables e below (T111.setTop (mkF m 86 #[.val (.int p0), .val (.int p1), .val (.int p2), .val (.int v28), .val (.ref xc), .val (.ref b82), .val (.ref b84), .val (.ref b102), .unset] [(.int (2 : Int32)), (.int v28)])) _
        refine XS.icmpYes X111.here hx rfl (pc0 := 86) (pc' := 93) rfl (hb hby at_86) rfl (feq hc86_126).2 (by decide) (by decide) ?_
        show Steps p.tables e below (T111.setTop (mkF m 93 #[.val (.int p0), .val (.int p1), .val (.int p2), .val (.int v28), .val (.ref xc), .val (.ref b82), .val (.ref b84), .val (.ref b102), .unset] [])) _
        refine XS.iconst X111.here hx rfl (hb hby at_93) ?_
        show Steps p.tables e below (T111.setTop (mkF m 94 #[.val (.int p0), .val (.int p1), .val (.int p2), .val (.int v28), .val (.ref xc), .val (.ref b82), .val (.ref b84), .val (.ref b102), .unset] [(.int (0 : Int32))])) _
        refine XS.istore X111.here hx rfl (hb hby at_94) rfl (l' := #[.val (.int p0), .val (.int p1), .val (.int p2), .val (.int v28), .val (.ref xc), .val (.ref b82), .val (.ref b84), .val (.ref b102), .val (.int (0 : Int32))]) rfl ?_
        show Steps p.tables e below (T111.setTop (mkF m 96 #[.val (.int p0), .val (.int p1), .val (.int p2), .val (.int v28), .val (.ref xc), .val (.ref b82), .val (.ref b84), .val (.ref b102), .val (.int (0 : Int32))] [])) _
        refine XS.aload X111.here hx rfl (hb hby at_96) rfl rfl ?_
        show Steps p.tables e below (T111.setTop (mkF m 98 #[.val (.int p0), .val (.int p1), .val (.int p2), .val (.int v28), .val (.ref xc), .val (.ref b82), .val (.ref b84), .val (.ref b102), .val (.int (0 : Int32))] [(.ref b102)])) _
        refine st128.trans ?_
        show Steps p.tables e below (T128.setTop (mkF m 101 #[.val (.int p0), .val (.int p1), .val (.int p2), .val (.int v28), .val (.ref xc), .val (.ref b82), .val (.ref b84), .val (.ref b102), .val (.int (0 : Int32))] [(.int (0 : Int32))])) _
        refine XS.iload X128.here hx rfl (hb hby at_101) rfl ?_
        show Steps p.tables e below (T128.setTop (mkF m 103 #[.val (.int p0), .val (.int p1), .val (.int p2), .val (.int v28), .val (.ref xc), .val (.ref b82), .val (.ref b84), .val (.ref b102), .val (.int (0 : Int32))] [(.int (0 : Int32)), (.int (0 : Int32))])) _
        refine XS.icmpNo X128.here hx rfl (hb hby at_103) rfl (teq (by decide : (0 : Int32) = (0 : Int32))).2 ?_
        show Steps p.tables e below (T128.setTop (mkF m 106 #[.val (.int p0), .val (.int p1), .val (.int p2), .val (.int v28), .val (.ref xc), .val (.ref b82), .val (.ref b84), .val (.ref b102), .val (.int (0 : Int32))] [])) _
        refine XS.iconst X128.here hx rfl (hb hby at_106) ?_
        show Steps p.tables e below (T128.setTop (mkF m 107 #[.val (.int p0), .val (.int p1), .val (.int p2), .val (.int v28), .val (.ref xc), .val (.ref b82), .val (.ref b84), .val (.ref b102), .val (.int (0 : Int32))] [(.int (1 : Int32))])) _
        refine XS.goto X128.here hx rfl (pc0 := 107) (pc' := 111) rfl (hb hby at_107) (by decide) (by decide) ?_
        show Steps p.tables e below (T128.setTop (mkF m 111 #[.val (.int p0), .val (.int p1), .val (.int p2), .val (.int v28), .val (.ref xc), .val (.ref b82), .val (.ref b84), .val (.ref b102), .val (.int (0 : Int32))] [(.int (1 : Int32))])) _
        exact kt
      obtain ⟨fs, hr, hrun, hended, hW, hsame⟩ := X128.leave (v := some (.int (1 : Int32))) (fun h => by rw [Bd.returns] at h; cases h)
      refine ⟨_, _, k130 _ (retN X128 hx (t := .boolean) Bd.returns (by simp) (hb hby at_111) hr), hrun, hended, _, _, rfl, ?_, ⟨_, rfl⟩, hW, hsame.mono (by decide) (by decide)⟩
      show Q0 Z p0 p1 p2 xn xf xc zc h0 n0 _ T128.heap _
      rw [eq128]
      exact ⟨rfl, N128⟩
    · obtain ⟨T131, X131, e131, st131⟩ := getS2 X0 hx hZ hown (host := "") (Or.inl (hw _ (List.mem_of_getElem? (i := 75) rfl))) Via.refl e0 (S_xf.ext X00.2) (g := (mkF m 32 #[.val (.int p0), .val (.int p1), .val (.int p2), .val (.int v28), .unset, .unset, .unset, .unset, .unset] [])) rfl (hb hby at_32)
      obtain ⟨T132, h132, kA132, X132, e132, E132, A132, st132⟩ := newP X131 hx hZ (hw _ (List.mem_of_getElem? (i := 4) rfl)) e131 (g := (mkF m 38 #[.val (.int p0), .val (.int p1), .val (.int p2), .val (.int v28), .val (.ref xf), .unset, .unset, .unset, .unset] [(.int (1 : Int32))])) rfl (hb hby at_38) rfl (by decide) (cap := 1) (by decide) (by decide) (by decide) (by decide)
      obtain ⟨b132, g132⟩ : ∃ z, z = h0.size := ⟨_, rfl⟩
      rw [← g132] at A132 st132
      have ge_b132 : n0 ≤ b132 := Nat.le_trans Z0 (Nat.le_of_eq g132.symm)
      have V132 : own_AI Z h132 b132 .char 1 (fun _ => 0) := own_newI (by decide : (1 : Int32).toInt = ((1 : Nat) : Int)) A132 rfl
      obtain ⟨T133, h133, X133, e133, W133, V133, st133⟩ := own_stC X132 hx hZ e132 V132 (i := 0) (by decide : (0 : Int32).toInt = ((0 : Nat) : Int)) (by decide) (g := (mkF m 51 #[.val (.int p0), .val (.int p1), .val (.int p2), .val (.int v28), .val (.ref xf), .val (.ref b132), .unset, .unset, .unset] [(.int ((p1 &&& (255 : Int32)).toUInt32.toUInt16.toUInt32.toInt32)), (.int (0 : Int32)), (.ref b132)])) rfl rfl (hb hby at_51)
      have N133 := Fr.snoc X133 N0 ge_b132
      obtain ⟨T134, h134, X134, e134, E134, A134, D134, -, st134⟩ := newO X133 hx hZ hown (hw _ (List.mem_of_getElem? (i := 5) rfl)) (hw _ (List.mem_of_getElem? (i := 6) rfl)) (hw _ (List.mem_of_getElem? (i := 7) rfl)) e133 (g := (mkF m 52 #[.val (.int p0), .val (.int p1), .val (.int p2), .val (.int v28), .val (.ref xf), .val (.ref b132), .unset, .unset, .unset] [])) rfl (hb hby at_52) (by decide) (by decide)
      obtain ⟨b134, g134⟩ : ∃ z, z = h133.size := ⟨_, rfl⟩
      rw [← g134] at A134 D134 st134
      have ne_b132_b134 : b132 ≠ b134 := Nat.ne_of_lt (Nat.lt_of_lt_of_le (V133).lt (Nat.le_of_eq g134.symm))
      have f135 := (Nat.le_trans (Nat.le_trans Z0 ((Keep.refl _ []).ext E132).1) (Keep.of_wr W133).1)
      have ge_b134 : n0 ≤ b134 := Nat.le_trans f135 (Nat.le_of_eq g134.symm)
      have F136 : Fld Z h134 b134 "com/example/fieldstone/fieldstone/store/Header" "codec" "Ljava/lang/String;" .null := D134 (Or.inr (hw _ (List.mem_of_getElem? (i := 51) rfl))) (ty := (.object "java/lang/String")) (by decide)
      have F137 : Fld Z h134 b134 "com/example/fieldstone/fieldstone/store/Header" "version" "I" (.int (0 : Int32)) := D134 (Or.inr (hw _ (List.mem_of_getElem? (i := 53) rfl))) (ty := .int) (by decide)
      obtain ⟨T138, h138, X138, e138, E138, A138, D138, -, st138⟩ := newO X134 hx hZ hown (hw _ (List.mem_of_getElem? (i := 8) rfl)) (hw _ (List.mem_of_getElem? (i := 9) rfl)) (hw _ (List.mem_of_getElem? (i := 10) rfl)) e134 (g := (mkF m 56 #[.val (.int p0), .val (.int p1), .val (.int p2), .val (.int v28), .val (.ref xf), .val (.ref b132), .unset, .unset, .unset] [(.ref b134), (.ref b134)])) rfl (hb hby at_56) (by decide) (by decide)
      obtain ⟨b138, g138⟩ : ∃ z, z = h134.size := ⟨_, rfl⟩
      rw [← g138] at A138 D138 st138
      have f139 := (V133.keep ((Keep.refl _ []).ext E134) nin0)
      have ne_b132_b138 : b132 ≠ b138 := Nat.ne_of_lt (Nat.lt_of_lt_of_le (f139).lt (Nat.le_of_eq g138.symm))
      have ne_b134_b138 : b134 ≠ b138 := Nat.ne_of_lt (Nat.lt_of_lt_of_le (A134).lt (Nat.le_of_eq g138.symm))
      have f140 := (Nat.le_trans f135 ((Keep.refl _ []).ext E134).1)
      have ge_b138 : n0 ≤ b138 := Nat.le_trans f140 (Nat.le_of_eq g138.symm)
      have F141 : Fld Z h138 b138 "java/lang/String" "coder" "B" (.int (0 : Int32)) := D138 (Or.inr (hw _ (List.mem_of_getElem? (i := 34) rfl))) (ty := .byte) (by decide)
      have F142 : Fld Z h138 b138 "java/lang/String" "value" "[B" .null := D138 (Or.inr (hw _ (List.mem_of_getElem? (i := 36) rfl))) (ty := (.array .byte)) (by decide)
      have f144 := (f139.keep ((Keep.refl _ []).ext E138) nin0)
      have hws : ∀ d ∈ StrChars.Road.words, d.before a0 Z = true := fun d hd => hw d ((by decide +kernel : ∀ d ∈ StrChars.Road.words, d ∈ tables_1) d hd)
      have hchr := own_ch p1
      have o255 : (255 : Int32).toInt = 255 := by decide
      have o0 : (0 : Int32).toInt = 0 := by decide
      obtain ⟨kC, KC⟩ := own_arv1 f144 (x := (((p1 &&& (255 : Int32)).toUInt32.toUInt16.toUInt32.toInt32).toUInt32.toUInt16.toUInt32.toInt32)) rfl (fits_nar_char _)
      have hp : ∀ c ∈ ([(((p1 &&& (255 : Int32)).toUInt32.toUInt16.toUInt32.toInt32).toUInt32.toUInt16.toUInt32.toInt32)] : List Int32), ¬ c < 0 ∧ ¬ (255 : Int32) < c := by
        intro c hc
        rw [List.mem_singleton] at hc
        subst hc
        exact ⟨fun q => absurd (Int32.lt_iff_toInt_lt.mp q) (by omega), fun q => absurd (Int32.lt_iff_toInt_lt.mp q) (by omega)⟩
      have f145 := (Nat.le_trans f140 ((Keep.refl _ []).ext E138).1)
      have f146 := ((((X00.keep ((Keep.refl _ []).ext E132) all0).keep (Keep.of_wr W133) (allS ge_b132 all0)).keep ((Keep.refl _ []).ext E134) all0).keep ((Keep.refl _ []).ext E138) all0)
      obtain ⟨_, _, ⟨T143, L143, kc143, nc143⟩, -, X143, ⟨Lc143, hQ143, l143, y143, z143⟩, st143⟩ := X138.specialBack hx (y := (⟨"java/lang/String", "<init>", "([C)V"⟩ : MethodName)) rfl hown (mvT hZ (hw _ (List.mem_of_getElem? (i := 11) rfl))) (mvT hZ (hw _ (List.mem_of_getElem? (i := 12) rfl))) (mvT hZ (hw _ (List.mem_of_getElem? (i := 13) rfl))) (by decide) (StrChars.Road.backV (W := 3) hZ hws (kI := 4) (hw _ (List.mem_of_getElem? (i := 9) rfl)) (cs := ([(((p1 &&& (255 : Int32)).toUInt32.toUInt16.toUInt32.toInt32).toUInt32.toUInt16.toUInt32.toInt32)] : List Int32)) (bs := ([(((p1 &&& (255 : Int32)).toUInt32.toUInt16.toUInt32.toInt32).toUInt32.toUInt16.toUInt32.toInt32)] : List Int32).map (fun c => c.toInt8.toInt32)) (n := 1) ge_b138 f145 A138 F142 F141 KC (S_cs.ext f146.2) hz rfl rfl (by decide) (by decide) hp rfl (by decide) (by decide)) (g := (mkF m 62 #[.val (.int p0), .val (.int p1), .val (.int p2), .val (.int v28), .val (.ref xf), .val (.ref b132), .unset, .unset, .unset] [(.ref b132), (.ref b138), (.ref b138), (.ref b134), (.ref b134)])) rfl (by rw [hml]; rfl) (Steps.refl _) (a := b138) (argsL := [(.ref b132)]) (rest := [(.ref b138), (.ref b134), (.ref b134)]) (lenOf pd_0 rfl) rfl (by show 2 * 0 + _ ≤ _; exact Nat.le_of_eq rfl) (hb hby at_62) (fun _ _ => ⟨rfl, e138, (by decide : 3 + 1 ≤ _), (by decide : 7 + 1 ≤ _)⟩)
      dsimp only [Pt.U, Pt.locs, Pt.cells, Pt.slots] at X143 l143 y143 z143 st143 hQ143
      rw [l143, y143, z143] at X143
      replace X143 : Stand p l e room_1 s m #[(.int p0), (.int p1), (.int p2)] below meth c T143 _ 4 8 := X143
      obtain ⟨rfl, Nq143, Kq143, gE143, -⟩ := hQ143
      have N143 := Fr.app N133 Nq143
      have f147 := (Nat.le_trans f145 Kq143.1)
      have f148 := ((A134.keep ((Keep.refl _ []).ext E138)).keep Kq143)
      have f149 := ((F136.keep ((Keep.refl _ []).ext E138) nin0).keep Kq143 (ninS ne_b134_b138 nin0))
      have f150 := ((F137.keep ((Keep.refl _ []).ext E138) nin0).keep Kq143 (ninS ne_b134_b138 nin0))
      obtain ⟨_, _, ⟨T151, L151, kc151, nc151⟩, -, X151, ⟨Lc151, hQ151, l151, y151, z151⟩, st151⟩ := X143.specialBack hx (y := (⟨"com/example/fieldstone/fieldstone/store/Header", "<init>", "(Ljava/lang/String;I)V"⟩ : MethodName)) rfl hown (mvT hZ (hw _ (List.mem_of_getElem? (i := 37) rfl))) (mvT hZ (hw _ (List.mem_of_getElem? (i := 38) rfl))) (mvT hZ (hw _ (List.mem_of_getElem? (i := 39) rfl))) (by decide) (backOf (W := 1) (rm7 l Z a0 hw [] b134 b138 p2 T143.heap n0 f147 f148 f149 f150 ge_b134) hZ (hw _ (List.mem_of_getElem? (i := 39) rfl)) (hw _ (List.mem_of_getElem? (i := 7) rfl)) (by decide) (by decide)) (g := (mkF m 66 #[.val (.int p0), .val (.int p1), .val (.int p2), .val (.int v28), .val (.ref xf), .val (.ref b132), .unset, .unset, .unset] [(.int p2), (.ref b138), (.ref b134), (.ref b134)])) rfl (by rw [hml]; rfl) (Steps.refl _) (a := b134) (argsL := [(.ref b138), (.int p2)]) (rest := [(.ref b134)]) (lenOf pd_6 rfl) rfl (by show 2 * 0 + _ ≤ _; exact Nat.le_of_eq rfl) (hb hby at_66) (fun _ _ => ⟨rfl, rfl, (by decide : 4 + 0 ≤ _), (by decide : 8 + 0 ≤ _)⟩)
      dsimp only [Pt.U, Pt.locs, Pt.cells, Pt.slots] at X151 l151 y151 z151 st151 hQ151
      rw [l151, y151, z151] at X151
      replace X151 : Stand p l e room_1 s m #[(.int p0), (.int p1), (.int p2)] below meth c T151 _ 4 8 := X151
      obtain ⟨rfl, Nq151, oK151⟩ := hQ151
      have N151 := Fr.app N143 Nq151
      obtain ⟨T152, h152, X152, e152, E152, A152, D152, -, st152⟩ := newO X151 hx hZ hown (hw _ (List.mem_of_getElem? (i := 54) rfl)) (hw _ (List.mem_of_getElem? (i := 55) rfl)) (hw _ (List.mem_of_getElem? (i := 56) rfl)) rfl (g := (mkF m 71 #[.val (.int p0), .val (.int p1), .val (.int p2), .val (.int v28), .val (.ref xf), .val (.ref b132), .val (.ref b134), .unset, .unset] [])) rfl (hb hby at_71) (by decide) (by decide)
      obtain ⟨b152, g152⟩ : ∃ z, z = T151.heap.size := ⟨_, rfl⟩
      rw [← g152] at A152 D152 st152
      have f153 := ((f144.keep Kq143 (ninS ne_b132_b138 nin0)).keep oK151 (ninS ne_b132_b134 nin0))
      have ne_b132_b152 : b132 ≠ b152 := Nat.ne_of_lt (Nat.lt_of_lt_of_le (f153).lt (Nat.le_of_eq g152.symm))
      have f154 := (f148.keep oK151)
      have ne_b134_b152 : b134 ≠ b152 := Nat.ne_of_lt (Nat.lt_of_lt_of_le (f154).lt (Nat.le_of_eq g152.symm))
      have f155 := (gE143.keep oK151)
      have ne_b138_b152 : b138 ≠ b152 := Nat.ne_of_lt (Nat.lt_of_lt_of_le (f155).lt (Nat.le_of_eq g152.symm))
      have f156 := (Nat.le_trans f147 oK151.1)
      have ge_b152 : n0 ≤ b152 := Nat.le_trans f156 (Nat.le_of_eq g152.symm)
      have F157 : Fld Z h152 b152 "com/example/fieldstone/fieldstone/store/FileForm" "header" "Lcom/example/fieldstone/fieldstone/store/Header;" .null := D152 (Or.inr (hw _ (List.mem_of_getElem? (i := 63) rfl))) (ty := (.object "com/example/fieldstone/fieldstone/store/Header")) (by decide)
      have F158 : Fld Z h152 b152 "com/example/fieldstone/fieldstone/store/FileForm" "trailer" "Lcom/example/fieldstone/fieldstone/store/FileForm$Trailer;" .null := D152 (Or.inr (hw _ (List.mem_of_getElem? (i := 65) rfl))) (ty := (.object "com/example/fieldstone/fieldstone/store/FileForm$Trailer")) (by decide)
      have k159 : ∀ tg_, Steps p.tables e below (T152.setTop (mkF m 79 #[.val (.int p0), .val (.int p1), .val (.int p2), .val (.int v28), .val (.ref xf), .val (.ref b132), .val (.ref b134), .unset, .unset] [(.ref xf), (.ref b134), (.ref b152), (.ref b152)])) tg_ → Steps p.tables e below (s₁.setTop (entryFrame m #[(.int p0), (.int p1), (.int p2)] maxLocals)) tg_ := by
        intro tg_ kt
        refine k79 tg_ ?_
        refine XS.icmpYes X0.here hx rfl (pc0 := 21) (pc' := 32) rfl (hb hby at_21) rfl (feq hc21_80).2 (by decide) (by decide) ?_
        show Steps p.tables e below (s₁.setTop (mkF m 32 #[.val (.int p0), .val (.int p1), .val (.int p2), .val (.int v28), .unset, .unset, .unset, .unset, .unset] [])) _
        refine st131 _ ?_
        show Steps p.tables e below (T131.setTop (mkF m 35 #[.val (.int p0), .val (.int p1), .val (.int p2), .val (.int v28), .unset, .unset, .unset, .unset, .unset] [(.ref xf)])) _
        refine XS.astore X131.here hx rfl (hb hby at_35) rfl rfl (l' := #[.val (.int p0), .val (.int p1), .val (.int p2), .val (.int v28), .val (.ref xf), .unset, .unset, .unset, .unset]) rfl ?_
        show Steps p.tables e below (T131.setTop (mkF m 37 #[.val (.int p0), .val (.int p1), .val (.int p2), .val (.int v28), .val (.ref xf), .unset, .unset, .unset, .unset] [])) _
        refine XS.iconst X131.here hx rfl (hb hby at_37) ?_
        show Steps p.tables e below (T131.setTop (mkF m 38 #[.val (.int p0), .val (.int p1), .val (.int p2), .val (.int v28), .val (.ref xf), .unset, .unset, .unset, .unset] [(.int (1 : Int32))])) _
        refine st132 _ ?_
        show Steps p.tables e below (T132.setTop (mkF m 40 #[.val (.int p0), .val (.int p1), .val (.int p2), .val (.int v28), .val (.ref xf), .unset, .unset, .unset, .unset] [(.ref b132)])) _
        refine XS.astore X132.here hx rfl (hb hby at_40) rfl rfl (l' := #[.val (.int p0), .val (.int p1), .val (.int p2), .val (.int v28), .val (.ref xf), .val (.ref b132), .unset, .unset, .unset]) rfl ?_
        show Steps p.tables e below (T132.setTop (mkF m 42 #[.val (.int p0), .val (.int p1), .val (.int p2), .val (.int v28), .val (.ref xf), .val (.ref b132), .unset, .unset, .unset] [])) _
        refine XS.aload X132.here hx rfl (hb hby at_42) rfl rfl ?_
        show Steps p.tables e below (T132.setTop (mkF m 44 #[.val (.int p0), .val (.int p1), .val (.int p2), .val (.int v28), .val (.ref xf), .val (.ref b132), .unset, .unset, .unset] [(.ref b132)])) _
        refine XS.iconst X132.here hx rfl (hb hby at_44) ?_
        show Steps p.tables e below (T132.setTop (mkF m 45 #[.val (.int p0), .val (.int p1), .val (.int p2), .val (.int v28), .val (.ref xf), .val (.ref b132), .unset, .unset, .unset] [(.int (0 : Int32)), (.ref b132)])) _
        refine XS.iloadN X132.here hx rfl (hb hby at_45) rfl ?_
        show Steps p.tables e below (T132.setTop (mkF m 46 #[.val (.int p0), .val (.int p1), .val (.int p2), .val (.int v28), .val (.ref xf), .val (.ref b132), .unset, .unset, .unset] [(.int p1), (.int (0 : Int32)), (.ref b132)])) _
        refine XS.sipush X132.here hx rfl (hb hby at_46) ?_
        show Steps p.tables e below (T132.setTop (mkF m 49 #[.val (.int p0), .val (.int p1), .val (.int p2), .val (.int v28), .val (.ref xf), .val (.ref b132), .unset, .unset, .unset] [(.int (255 : Int32)), (.int p1), (.int (0 : Int32)), (.ref b132)])) _
        refine XS.iand X132.here hx rfl (hb hby at_49) rfl ?_
        show Steps p.tables e below (T132.setTop (mkF m 50 #[.val (.int p0), .val (.int p1), .val (.int p2), .val (.int v28), .val (.ref xf), .val (.ref b132), .unset, .unset, .unset] [(.int (p1 &&& (255 : Int32))), (.int (0 : Int32)), (.ref b132)])) _
        refine XS.i2c X132.here hx rfl (hb hby at_50) rfl ?_
        show Steps p.tables e below (T132.setTop (mkF m 51 #[.val (.int p0), .val (.int p1), .val (.int p2), .val (.int v28), .val (.ref xf), .val (.ref b132), .unset, .unset, .unset] [(.int ((p1 &&& (255 : Int32)).toUInt32.toUInt16.toUInt32.toInt32)), (.int (0 : Int32)), (.ref b132)])) _
        refine st133 _ ?_
        show Steps p.tables e below (T133.setTop (mkF m 52 #[.val (.int p0), .val (.int p1), .val (.int p2), .val (.int v28), .val (.ref xf), .val (.ref b132), .unset, .unset, .unset] [])) _
        refine st134 _ ?_
        show Steps p.tables e below (T134.setTop (mkF m 55 #[.val (.int p0), .val (.int p1), .val (.int p2), .val (.int v28), .val (.ref xf), .val (.ref b132), .unset, .unset, .unset] [(.ref b134)])) _
        refine XS.dup X134.here hx rfl (hb hby at_55) rfl rfl ?_
        show Steps p.tables e below (T134.setTop (mkF m 56 #[.val (.int p0), .val (.int p1), .val (.int p2), .val (.int v28), .val (.ref xf), .val (.ref b132), .unset, .unset, .unset] [(.ref b134), (.ref b134)])) _
        refine st138 _ ?_
        show Steps p.tables e below (T138.setTop (mkF m 59 #[.val (.int p0), .val (.int p1), .val (.int p2), .val (.int v28), .val (.ref xf), .val (.ref b132), .unset, .unset, .unset] [(.ref b138), (.ref b134), (.ref b134)])) _
        refine XS.dup X138.here hx rfl (hb hby at_59) rfl rfl ?_
        show Steps p.tables e below (T138.setTop (mkF m 60 #[.val (.int p0), .val (.int p1), .val (.int p2), .val (.int v28), .val (.ref xf), .val (.ref b132), .unset, .unset, .unset] [(.ref b138), (.ref b138), (.ref b134), (.ref b134)])) _
        refine XS.aload X138.here hx rfl (hb hby at_60) rfl rfl ?_
        show Steps p.tables e below (T138.setTop (mkF m 62 #[.val (.int p0), .val (.int p1), .val (.int p2), .val (.int v28), .val (.ref xf), .val (.ref b132), .unset, .unset, .unset] [(.ref b132), (.ref b138), (.ref b138), (.ref b134), (.ref b134)])) _
        refine st143.trans ?_
        show Steps p.tables e below (T143.setTop (mkF m 65 #[.val (.int p0), .val (.int p1), .val (.int p2), .val (.int v28), .val (.ref xf), .val (.ref b132), .unset, .unset, .unset] [(.ref b138), (.ref b134), (.ref b134)])) _
        refine XS.iloadN X143.here hx rfl (hb hby at_65) rfl ?_
        show Steps p.tables e below (T143.setTop (mkF m 66 #[.val (.int p0), .val (.int p1), .val (.int p2), .val (.int v28), .val (.ref xf), .val (.ref b132), .unset, .unset, .unset] [(.int p2), (.ref b138), (.ref b134), (.ref b134)])) _
        refine st151.trans ?_
        show Steps p.tables e below (T151.setTop (mkF m 69 #[.val (.int p0), .val (.int p1), .val (.int p2), .val (.int v28), .val (.ref xf), .val (.ref b132), .unset, .unset, .unset] [(.ref b134)])) _
        refine XS.astore X151.here hx rfl (hb hby at_69) rfl rfl (l' := #[.val (.int p0), .val (.int p1), .val (.int p2), .val (.int v28), .val (.ref xf), .val (.ref b132), .val (.ref b134), .unset, .unset]) rfl ?_
        show Steps p.tables e below (T151.setTop (mkF m 71 #[.val (.int p0), .val (.int p1), .val (.int p2), .val (.int v28), .val (.ref xf), .val (.ref b132), .val (.ref b134), .unset, .unset] [])) _
        refine st152 _ ?_
        show Steps p.tables e below (T152.setTop (mkF m 74 #[.val (.int p0), .val (.int p1), .val (.int p2), .val (.int v28), .val (.ref xf), .val (.ref b132), .val (.ref b134), .unset, .unset] [(.ref b152)])) _
        refine XS.dup X152.here hx rfl (hb hby at_74) rfl rfl ?_
        show Steps p.tables e below (T152.setTop (mkF m 75 #[.val (.int p0), .val (.int p1), .val (.int p2), .val (.int v28), .val (.ref xf), .val (.ref b132), .val (.ref b134), .unset, .unset] [(.ref b152), (.ref b152)])) _
        refine XS.aload X152.here hx rfl (hb hby at_75) rfl rfl ?_
        show Steps p.tables e below (T152.setTop (mkF m 77 #[.val (.int p0), .val (.int p1), .val (.int p2), .val (.int v28), .val (.ref xf), .val (.ref b132), .val (.ref b134), .unset, .unset] [(.ref b134), (.ref b152), (.ref b152)])) _
        refine XS.aload X152.here hx rfl (hb hby at_77) rfl rfl ?_
        show Steps p.tables e below (T152.setTop (mkF m 79 #[.val (.int p0), .val (.int p1), .val (.int p2), .val (.int v28), .val (.ref xf), .val (.ref b132), .val (.ref b134), .unset, .unset] [(.ref xf), (.ref b134), (.ref b152), (.ref b152)])) _
        exact kt
      have f160 := (Nat.le_trans f156 ((Keep.refl _ []).ext E152).1)
      obtain ⟨_, _, ⟨T161, L161, kc161, nc161⟩, -, X161, ⟨Lc161, hQ161, l161, y161, z161⟩, st161⟩ := X152.specialBack hx (y := (⟨"com/example/fieldstone/fieldstone/store/FileForm", "<init>", "(Lcom/example/fieldstone/fieldstone/store/Header;Lcom/example/fieldstone/fieldstone/store/FileForm$Trailer;)V"⟩ : MethodName)) rfl hown (mvT hZ (hw _ (List.mem_of_getElem? (i := 57) rfl))) (mvT hZ (hw _ (List.mem_of_getElem? (i := 58) rfl))) (mvT hZ (hw _ (List.mem_of_getElem? (i := 59) rfl))) (by decide) (backOf (W := 1) (rm10 l Z a0 hw [] b152 b134 xf h152 n0 f160 A152 F157 F158 ge_b152) hZ (hw _ (List.mem_of_getElem? (i := 59) rfl)) (hw _ (List.mem_of_getElem? (i := 56) rfl)) (by decide) (by decide)) (g := (mkF m 79 #[.val (.int p0), .val (.int p1), .val (.int p2), .val (.int v28), .val (.ref xf), .val (.ref b132), .val (.ref b134), .unset, .unset] [(.ref xf), (.ref b134), (.ref b152), (.ref b152)])) rfl (by rw [hml]; rfl) (Steps.refl _) (a := b152) (argsL := [(.ref b134), (.ref xf)]) (rest := [(.ref b152)]) (lenOf pd_8 rfl) rfl (by show 2 * 0 + _ ≤ _; exact Nat.le_of_eq rfl) (hb hby at_79) (fun _ _ => ⟨rfl, e152, (by decide : 5 + 0 ≤ _), (by decide : 10 + 0 ≤ _)⟩)
      dsimp only [Pt.U, Pt.locs, Pt.cells, Pt.slots] at X161 l161 y161 z161 st161 hQ161
      rw [l161, y161, z161] at X161
      replace X161 : Stand p l e room_1 s m #[(.int p0), (.int p1), (.int p2)] below meth c T161 _ 5 10 := X161
      obtain ⟨rfl, Nq161, oK161, oFatrailer161⟩ := hQ161
      have N161 := Fr.app N151 Nq161
      have hc86_176 : v28 = (2 : Int32) := (by
          have ar162 := rng32 v28
          have ar163 := rng32 p0
          have ar164 : (2147483647 : Int32).toInt = 2147483647 := by decide
          have ar165 := c_mask p0 (2147483647 : Int32) 31 (by decide) (by decide)
          simp only [show (2 ^ 31 : Nat) = 2147483648 from by decide, Int.cast_ofNat_Int] at ar165
          have ar166 := rng32 (p0 &&& (2147483647 : Int32))
          have ar167 : (3 : Int32).toInt = 3 := by decide
          first | have ar168 := (c_irem (p0 &&& (2147483647 : Int32)) (3 : Int32) 3 (by decide)).1 (by omega) | have ar168 := c_irem (p0 &&& (2147483647 : Int32)) (3 : Int32) 3 (by decide)
          have ar169 := rng32 ((p0 &&& (2147483647 : Int32)) % (3 : Int32))
          have ar170 := congrArg Int32.toInt hv28
          have ar171 : (0 : Int32).toInt = 0 := by decide
          have ar172 : ¬ (v28.toInt = (0 : Int32).toInt) := fun qq_ => hc8_30 (Int32.toInt_inj.mp qq_)
          have ar173 : (1 : Int32).toInt = 1 := by decide
          have ar174 : ¬ (v28.toInt = (1 : Int32).toInt) := fun qq_ => hc21_80 (Int32.toInt_inj.mp qq_)
          have ar175 : (2 : Int32).toInt = 2 := by decide
          exact Int32.toInt_inj.mp (by omega))
      have f177 := ((((f146.keep Kq143 (allS ge_b138 all0)).keep oK151 (allS ge_b134 all0)).keep ((Keep.refl _ []).ext E152) all0).keep oK161 (allS ge_b152 all0))
      have f179 := (A152.keep oK161)
      obtain ⟨cq178, kq178, q178a, q178b, q178c⟩ := isOf hZ rfl f179
      obtain ⟨_, _, ⟨T178, L178, kc178, nc178⟩, -, X178, ⟨Lc178, hQ178, l178, y178, z178⟩, st178⟩ := X161.virtualBack hx (y := (⟨"com/example/fieldstone/fieldstone/store/FileForm", "footer", "()Z"⟩ : MethodName)) (z := (⟨"com/example/fieldstone/fieldstone/store/FileForm", "footer", "()Z"⟩ : MethodName)) hown (mvT hZ (hw _ (List.mem_of_getElem? (i := 66) rfl))) (mvT hZ (hw _ (List.mem_of_getElem? (i := 67) rfl))) (notFace_of_selects (args := #[]) (mvT hZ (hw _ (List.mem_of_getElem? (i := 69) rfl)))) (mvT hZ (hw _ (List.mem_of_getElem? (i := 69) rfl))) (mvT hZ (hw _ (List.mem_of_getElem? (i := 68) rfl))) (by decide) (backOf (W := 0) (rmfoF l Z a0 hw [] b152 xf T161.heap n0 oFatrailer161 (S_xf.ext f177.2)) hZ (hw _ (List.mem_of_getElem? (i := 70) rfl)) (hw _ (List.mem_of_getElem? (i := 56) rfl)) (by decide) (by decide)) q178a q178c (g := (mkF m 98 #[.val (.int p0), .val (.int p1), .val (.int p2), .val (.int v28), .val (.ref xf), .val (.ref b132), .val (.ref b134), .val (.ref b152), .val (.int (1 : Int32))] [(.ref b152)])) rfl (by rw [hml]; rfl) (Steps.refl _) (argsL := []) (rest := []) (lenOf pd_9 rfl) rfl (by show 2 * 0 + _ ≤ _; exact Nat.le_of_eq rfl) (hb hby at_98) (fun _ _ => ⟨rfl, rfl, (by decide : 5 + 0 ≤ _), (by decide : 10 + 0 ≤ _)⟩)
      dsimp only [Pt.U, Pt.locs, Pt.cells, Pt.slots] at X178 l178 y178 z178 st178 hQ178
      rw [l178, y178, z178] at X178
      replace X178 : Stand p l e room_1 s m #[(.int p0), (.int p1), (.int p2)] below meth c T178 _ 5 10 := X178
      obtain ⟨rfl, Nq178, eq178⟩ := hQ178
      have N178 := Fr.app N161 Nq178
      have k180 : ∀ tg_, Steps p.tables e below (T178.setTop (mkF m 111 #[.val (.int p0), .val (.int p1), .val (.int p2), .val (.int v28), .val (.ref xf), .val (.ref b132), .val (.ref b134), .val (.ref b152), .val (.int (1 : Int32))] [(.int (1 : Int32))])) tg_ → Steps p.tables e below (s₁.setTop (entryFrame m #[(.int p0), (.int p1), (.int p2)] maxLocals)) tg_ := by
        intro tg_ kt
        refine k159 tg_ ?_
        refine st161.trans ?_
        show Steps p.tables e below (T161.setTop (mkF m 82 #[.val (.int p0), .val (.int p1), .val (.int p2), .val (.int v28), .val (.ref xf), .val (.ref b132), .val (.ref b134), .unset, .unset] [(.ref b152)])) _
        refine XS.astore X161.here hx rfl (hb hby at_82) rfl rfl (l' := #[.val (.int p0), .val (.int p1), .val (.int p2), .val (.int v28), .val (.ref xf), .val (.ref b132), .val (.ref b134), .val (.ref b152), .unset]) rfl ?_
        show Steps p.tables e below (T161.setTop (mkF m 84 #[.val (.int p0), .val (.int p1), .val (.int p2), .val (.int v28), .val (.ref xf), .val (.ref b132), .val (.ref b134), .val (.ref b152), .unset] [])) _
        refine XS.iloadN X161.here hx rfl (hb hby at_84) rfl ?_
        show Steps p.tables e below (T161.setTop (mkF m 85 #[.val (.int p0), .val (.int p1), .val (.int p2), .val (.int v28), .val (.ref xf), .val (.ref b132), .val (.ref b134), .val (.ref b152), .unset] [(.int v28)])) _
        refine XS.iconst X161.here hx rfl (hb hby at_85) ?_
        show Steps p.tables e below (T161.setTop (mkF m 86 #[.val (.int p0), .val (.int p1), .val (.int p2), .val (.int v28), .val (.ref xf), .val (.ref b132), .val (.ref b134), .val (.ref b152), .unset] [(.int (2 : Int32)), (.int v28)])) _
        refine XS.icmpNo X161.here hx rfl (hb hby at_86) rfl (teq hc86_176).2 ?_
        show Steps p.tables e below (T161.setTop (mkF m 89 #[.val (.int p0), .val (.int p1), .val (.int p2), .val (.int v28), .val (.ref xf), .val (.ref b132), .val (.ref b134), .val (.ref b152), .unset] [])) _
        refine XS.iconst X161.here hx rfl (hb hby at_89) ?_
        show Steps p.tables e below (T161.setTop (mkF m 90 #[.val (.int p0), .val (.int p1), .val (.int p2), .val (.int v28), .val (.ref xf), .val (.ref b132), .val (.ref b134), .val (.ref b152), .unset] [(.int (1 : Int32))])) _
        refine XS.goto X161.here hx rfl (pc0 := 90) (pc' := 94) rfl (hb hby at_90) (by decide) (by decide) ?_
        show Steps p.tables e below (T161.setTop (mkF m 94 #[.val (.int p0), .val (.int p1), .val (.int p2), .val (.int v28), .val (.ref xf), .val (.ref b132), .val (.ref b134), .val (.ref b152), .unset] [(.int (1 : Int32))])) _
        refine XS.istore X161.here hx rfl (hb hby at_94) rfl (l' := #[.val (.int p0), .val (.int p1), .val (.int p2), .val (.int v28), .val (.ref xf), .val (.ref b132), .val (.ref b134), .val (.ref b152), .val (.int (1 : Int32))]) rfl ?_
        show Steps p.tables e below (T161.setTop (mkF m 96 #[.val (.int p0), .val (.int p1), .val (.int p2), .val (.int v28), .val (.ref xf), .val (.ref b132), .val (.ref b134), .val (.ref b152), .val (.int (1 : Int32))] [])) _
        refine XS.aload X161.here hx rfl (hb hby at_96) rfl rfl ?_
        show Steps p.tables e below (T161.setTop (mkF m 98 #[.val (.int p0), .val (.int p1), .val (.int p2), .val (.int v28), .val (.ref xf), .val (.ref b132), .val (.ref b134), .val (.ref b152), .val (.int (1 : Int32))] [(.ref b152)])) _
        refine st178.trans ?_
        show Steps p.tables e below (T178.setTop (mkF m 101 #[.val (.int p0), .val (.int p1), .val (.int p2), .val (.int v28), .val (.ref xf), .val (.ref b132), .val (.ref b134), .val (.ref b152), .val (.int (1 : Int32))] [(.int (1 : Int32))])) _
        refine XS.iload X178.here hx rfl (hb hby at_101) rfl ?_
        show Steps p.tables e below (T178.setTop (mkF m 103 #[.val (.int p0), .val (.int p1), .val (.int p2), .val (.int v28), .val (.ref xf), .val (.ref b132), .val (.ref b134), .val (.ref b152), .val (.int (1 : Int32))] [(.int (1 : Int32)), (.int (1 : Int32))])) _
        refine XS.icmpNo X178.here hx rfl (hb hby at_103) rfl (teq (by decide : (1 : Int32) = (1 : Int32))).2 ?_
        show Steps p.tables e below (T178.setTop (mkF m 106 #[.val (.int p0), .val (.int p1), .val (.int p2), .val (.int v28), .val (.ref xf), .val (.ref b132), .val (.ref b134), .val (.ref b152), .val (.int (1 : Int32))] [])) _
        refine XS.iconst X178.here hx rfl (hb hby at_106) ?_
        show Steps p.tables e below (T178.setTop (mkF m 107 #[.val (.int p0), .val (.int p1), .val (.int p2), .val (.int v28), .val (.ref xf), .val (.ref b132), .val (.ref b134), .val (.ref b152), .val (.int (1 : Int32))] [(.int (1 : Int32))])) _
        refine XS.goto X178.here hx rfl (pc0 := 107) (pc' := 111) rfl (hb hby at_107) (by decide) (by decide) ?_
        show Steps p.tables e below (T178.setTop (mkF m 111 #[.val (.int p0), .val (.int p1), .val (.int p2), .val (.int v28), .val (.ref xf), .val (.ref b132), .val (.ref b134), .val (.ref b152), .val (.int (1 : Int32))] [(.int (1 : Int32))])) _
        exact kt
      obtain ⟨fs, hr, hrun, hended, hW, hsame⟩ := X178.leave (v := some (.int (1 : Int32))) (fun h => by rw [Bd.returns] at h; cases h)
      refine ⟨_, _, k180 _ (retN X178 hx (t := .boolean) Bd.returns (by simp) (hb hby at_111) hr), hrun, hended, _, _, rfl, ?_, ⟨_, rfl⟩, hW, hsame.mono (by decide) (by decide)⟩
      show Q0 Z p0 p1 p2 xn xf xc zc h0 n0 _ T178.heap _
      rw [eq178]
      exact ⟨rfl, N178⟩
set_option maxRecDepth 65536 in
set_option maxHeartbeats 40000000 in
theorem comes_1 {Post : Tables → Env → Array Value → State → Outcome → State → Prop} (hpost : ∀ tb e args s v u, (limb_1_1.after args s (.returned v) u = true ∧ limb_1_2.after args s (.returned v) u = true ∧ True) → FrameEnd s (.returned v) u (Jvm.fieldLocs frame_1_writes args s ++ Jvm.arrayLocs frame_1_arrays args s ++ Jvm.staticLocs frame_1_statics s) 24 128 → Post tb e args s (.returned v) u) :
    ArmFor flags0 classFile x code maxLocals ret World_1 tables_1 room_1 Calls_1 rest_1 Pre_1 Post := by
  intro l hfl _ _ p e ha hc hk s m args below hf hA hF happ hP
  obtain ⟨hcalls, hrest, hpre⟩ := hP
  obtain ⟨-, -, -, hnamed, -, -, -, hat⟩ := (Spec.applies_iff hf).mp happ
  obtain ⟨hg, hn⟩ := and_e (Cond.before_iff.mp (show (Jvm.Cond.and given_1 narrow_1).before args s = true from hpre))
  have hcount := (and_e hg).1
  have hgs0 := (and_e hg).2
  have hi0 := (and_e hgs0).1
  have hgs1 := (and_e hgs0).2
  have hi1 := (and_e hgs1).1
  have hgs2 := (and_e hgs1).2
  have hi2 := hgs2
  obtain ⟨w0, w1, w2, rfl⟩ : ∃ w0 w1 w2 : Value, args = #[w0, w1, w2] := by
    have hs : args.size = 3 := by simpa [Cond.value, given_1] using hcount
    obtain ⟨L⟩ := args
    match L, hs with
    | [w0, w1, w2], _ => exact ⟨w0, w1, w2, rfl⟩
  have hw := fun d (hd : d ∈ tables_1) => atoms_spec (ws := Jvm.Cond.code x code maxLocals ret :: tables_1) hat d (List.mem_cons_of_mem _ hd)
  have hfit : Fit s := fun {y c} hc i hi => by
    obtain ⟨ha, rfl⟩ := Array.getElem?_eq_some_iff.mp hc
    have q := List.all_eq_true.mp ((Array.all_eq_true_iff_forall_mem.mp hF) _ (Array.getElem_mem ha)) i (List.mem_range.mpr hi)
    simpa [Array.getElem?_eq_getElem hi] using q
  obtain ⟨hsets, hown0⟩ := atoms_of _ (rest_1_c_eq ▸ (show rest_1_c.before _ s = true from hrest))
  have hr0 := Cond.before_iff.mp hown0
  obtain ⟨i0, ei0⟩ := is_v hi0
  obtain rfl : w0 = (.int i0) := Option.some.inj ei0
  obtain ⟨i1, ei1⟩ := is_v hi1
  obtain rfl : w1 = (.int i1) := Option.some.inj ei1
  obtain ⟨i2, ei2⟩ := is_v hi2
  obtain rfl : w2 = (.int i2) := Option.some.inj ei2
  have n5 := not_v (Cond.before_iff.mp (hsets _ (List.mem_of_getElem? (i := 2) rfl)))
  obtain ⟨zc, ezc⟩ := is_v (Cond.before_iff.mp (hsets _ (List.mem_of_getElem? (i := 1) rfl)))
  have Scs := Sta.start ezc (Or.inl (hsets _ (List.mem_of_getElem? (i := 0) rfl)))
  have hzc : ¬ (zc = (0 : Int32)) := gotF (Cond.eq_ints ezc (Term.int_eval (0))) n5
  obtain ⟨a1, r1⟩ := and_e hn
  obtain ⟨a2, r2⟩ := and_e r1
  obtain ⟨a3, r3⟩ := and_e r2
  obtain ⟨a4, r4⟩ := and_e r3
  obtain ⟨a5, a6⟩ := and_e r4
  obtain ⟨xn, evn⟩ := exa_v a1
  obtain ⟨xf, evf⟩ := exa_v a2
  obtain ⟨xc, evc⟩ := exa_v a5
  have Gn := own_fldeq a3 evn
  have Gf := own_fldeq a4 evf
  have Gc := own_fldeq a6 evc
  have Bxn := Sta.start evn (Or.inr ⟨(hw _ (List.mem_of_getElem? (i := 2) rfl)), (hw _ (List.mem_of_getElem? (i := 3) rfl))⟩)
  have Bxf := Sta.start evf (Or.inr ⟨(hw _ (List.mem_of_getElem? (i := 2) rfl)), (hw _ (List.mem_of_getElem? (i := 72) rfl))⟩)
  have Bxc := Sta.start evc (Or.inr ⟨(hw _ (List.mem_of_getElem? (i := 2) rfl)), (hw _ (List.mem_of_getElem? (i := 74) rfl))⟩)
  obtain ⟨n, o, h1, h2, h3, _, L, rfl, ⟨rfl, N⟩, hq⟩ := rm0 l s _ hw tables_1 i0 i1 i2 xn xf xc zc s.heap s.heap.size (Nat.le_refl _) Bxn Bxf Bxc Scs hzc (Old.start s) (Fld.ne Gn Gf (by decide)) (Fld.ne Gc Gf (by decide)) p e ha hc hk s m _ below hf ((Spec.applies_iff_loose hf).mp happ).1 ⟨rfl, State.Warmed39.refl s, rfl⟩ trivial
  refine ⟨n, _, h1, h2, h3, hpost _ _ _ _ _ _ ⟨Cond.after_iff.mpr rfl, Cond.after_iff.mpr (eq_i res_at (Term.int_eval (1)) rfl), trivial⟩ ⟨hq.1, hq.2.1, (hq.2.2.sift fun y hy => Or.inr (N y hy)).mono (by decide) (by decide)⟩⟩
theorem main_1_1 : Claimed_1_1 := comes_1 fun _ _ _ _ _ _ h hF => ⟨h.1, hF⟩
theorem main_1_2 : Claimed_1_2 := comes_1 fun _ _ _ _ _ _ h hF => ⟨h.2.1, hF⟩
end Jvm.Pilot.@@N@@
namespace Jvm.Pilot.@@N@@
open Jvm Jvm.ClassFile Sem Op Lib Jvm.Free Jvm.Stand Jvm.Pilot.@@N@@.Jvm.D
/-! MADE BY PROGRAM (witnessworld.py) out of the Statement's table words and the real class files: 25 classes; the members and pool entries that the words name. The judged class is class 1, her method 1. -/
namespace start1
open Jvm.ClassFile
def u (s : String) : CpInfo := .utf8 (stringToUtf16 s)
/-- a pool by its gaps: so many unusable entries, then the entry; so many at the end -/
def gap : Nat → List CpInfo → List CpInfo
  | 0, r => r
  | n + 1, r => .unusable :: gap n r
def poolList (es : List (Nat × CpInfo)) (last : Nat) : List CpInfo := es.foldr (fun e r => gap e.1 (e.2 :: r)) (gap last [])
def pool (es : List (Nat × CpInfo)) (last : Nat) : Array CpInfo := ⟨poolList es last⟩
def fileOf (pool : Array CpInfo) (this : Nat) (attrs : Array Attribute := #[]) (ms : Array MethodInfo := #[]) (fl : Nat := 33) (sup : Nat := 0) (ifs : Array Nat := #[]) (fds : Array FieldInfo := #[]) : ClassFile where
  minorVersion := 0
  majorVersion := 65
  constantPool := pool
  accessFlags := fl
  thisClass := this
  superClass := sup
  interfaces := ifs
  fields := fds
  methods := ms
  attributes := attrs
def plain (name : String) (sup : Option ClassId) : Class where
  name := name
  kind := .ordinary
  loader := none
  accessFlags := 33
  super := sup
  interfaces := #[]
  cf := none
  fields := #[]
  methods := #[]
  instanceTypes := #[]
  staticTypes := #[]
  resolved := #[]
  callSites := []
  init := .initialized
  statics := none
  mirror := none

def pool0 : Array CpInfo := pool [(5, u "<init>"), (0, u "()V"), (1, .class_ 10), (1, u "java/lang/Object")] 113

def k0c0 : Code := { maxStack := 0, maxLocals := 1, code := object_method_1_code, exceptionTable := #[], attributes := #[] }
def k0m0 : Method := { name := "<init>", desc := "()V", sig := { parameters := [], returnType := none }, accessFlags := 1, code := some k0c0 }
/-- java/lang/Object -/
def k0 : Class := { plain "java/lang/Object" none with
  accessFlags := 33
  interfaces := #[]
  cf := some (fileOf pool0 8 #[] #[{ accessFlags := 1, nameIndex := 5, descriptorIndex := 6, attributes := #[] }] 33 0 #[] #[])
  fields := #[]
  methods := #[k0m0]
  instanceTypes := #[]
  staticTypes := #[]
  resolved := Array.replicate 124 none
  statics := none }

def pool1 : Array CpInfo := pool [(2, .class_ 4), (1, u "java/lang/Object"), (0, u "<init>"), (0, u "()V"), (0, .integer 2147483647), (0, .fieldref 9 10), (0, .class_ 11), (0, .nameAndType 12 13), (0, u "com/example/fieldstone/fieldstone/store/FileForm$Trailer"), (0, u "NONE"), (0, u "Lcom/example/fieldstone/fieldstone/store/FileForm$Trailer;"), (0, .fieldref 9 15), (0, .nameAndType 16 13), (0, u "CHECKSUM"), (0, .fieldref 9 18), (0, .nameAndType 19 13), (0, u "FOOTER"), (0, .class_ 21), (0, u "com/example/fieldstone/fieldstone/store/Header"), (0, .class_ 23), (0, u "java/lang/String"), (0, .methodref 22 25), (0, .nameAndType 5 26), (0, u "([C)V"), (0, .methodref 20 28), (0, .nameAndType 5 29), (0, u "(Ljava/lang/String;I)V"), (0, .class_ 31), (0, u "com/example/fieldstone/fieldstone/store/FileForm"), (0, .methodref 30 33), (0, .nameAndType 5 34), (0, u "(Lcom/example/fieldstone/fieldstone/store/Header;Lcom/example/fieldstone/fieldstone/store/FileForm$Trailer;)V"), (0, .methodref 30 36), (0, .nameAndType 37 38), (0, u "footer"), (0, u "()Z"), (0, .class_ 40), (0, u "com/example/fieldstone/fieldstone/store/FileFormFooterPinLaw"), (2, u "law"), (0, u "(III)Z")] 7

def k1m0 : Method := { name := "<init>", desc := "()V", sig := { parameters := [], returnType := none }, accessFlags := 1, code := none }
def k1c1 : Code := { maxStack := 5, maxLocals := 9, code := code, exceptionTable := #[], attributes := #[] }
def k1m1 : Method := { name := "law", desc := "(III)Z", sig := { parameters := [.int, .int, .int], returnType := some .boolean }, accessFlags := 9, code := some k1c1 }
/-- com/example/fieldstone/fieldstone/store/FileFormFooterPinLaw -/
def k1 : Class := { plain "com/example/fieldstone/fieldstone/store/FileFormFooterPinLaw" (some 0) with
  accessFlags := 49
  interfaces := #[]
  cf := some (fileOf pool1 39 #[] #[{ accessFlags := 1, nameIndex := 5, descriptorIndex := 6, attributes := #[] }, { accessFlags := 9, nameIndex := 43, descriptorIndex := 44, attributes := #[] }] 49 2 #[] #[])
  fields := #[]
  methods := #[k1m0, k1m1]
  instanceTypes := #[]
  staticTypes := #[]
  resolved := Array.replicate 52 none
  statics := none }

def pool2 : Array CpInfo := pool [(1, .class_ 2), (0, u "java/lang/constant/Constable"), (0, .class_ 4), (0, u "java/lang/Object")] 6

/-- java/lang/constant/Constable -/
def k2 : Class := { plain "java/lang/constant/Constable" (some 0) with
  accessFlags := 1537
  interfaces := #[]
  cf := some (fileOf pool2 1 #[] #[] 1537 3 #[] #[])
  fields := #[]
  methods := #[]
  instanceTypes := #[]
  staticTypes := #[]
  resolved := Array.replicate 11 none
  statics := none }

def pool3 : Array CpInfo := pool [(1, .class_ 2), (0, u "java/lang/Comparable"), (0, .class_ 4), (0, u "java/lang/Object")] 7

/-- java/lang/Comparable -/
def k3 : Class := { plain "java/lang/Comparable" (some 0) with
  accessFlags := 1537
  interfaces := #[]
  cf := some (fileOf pool3 1 #[] #[] 1537 3 #[] #[])
  fields := #[]
  methods := #[]
  instanceTypes := #[]
  staticTypes := #[]
  resolved := Array.replicate 12 none
  statics := none }

def pool4 : Array CpInfo := pool [(1, .class_ 2), (0, u "java/io/Serializable"), (0, .class_ 4), (0, u "java/lang/Object")] 2

/-- java/io/Serializable -/
def k4 : Class := { plain "java/io/Serializable" (some 0) with
  accessFlags := 1537
  interfaces := #[]
  cf := some (fileOf pool4 1 #[] #[] 1537 3 #[] #[])
  fields := #[]
  methods := #[]
  instanceTypes := #[]
  staticTypes := #[]
  resolved := Array.replicate 7 none
  statics := none }

def pool5 : Array CpInfo := pool [(2, .class_ 4), (1, u "java/lang/Enum"), (0, u "name"), (0, u "Ljava/lang/String;"), (2, u "ordinal"), (0, u "I"), (1, .class_ 14), (1, u "java/lang/Object"), (4, u "hash"), (86, .class_ 108), (1, u "java/lang/Enum$EnumDesc"), (2, .class_ 112), (0, u "java/lang/constant/Constable"), (0, .class_ 114), (0, u "java/lang/Comparable"), (0, .class_ 116), (0, u "java/io/Serializable")] 87

/-- java/lang/Enum -/
def k5 : Class := { plain "java/lang/Enum" (some 0) with
  accessFlags := 1057
  interfaces := #[2, 3, 4]
  cf := some (fileOf pool5 2 #[.nestMembers #[106]] #[] 1057 12 #[111, 113, 115] #[{ accessFlags := 18, nameIndex := 5, descriptorIndex := 6, attributes := #[] }, { accessFlags := 18, nameIndex := 9, descriptorIndex := 10, attributes := #[] }, { accessFlags := 2, nameIndex := 19, descriptorIndex := 10, attributes := #[] }])
  fields := #[{ name := "name", type := (.object "java/lang/String"), accessFlags := 18, slot := 0, constantValue := 0 }, { name := "ordinal", type := .int, accessFlags := 18, slot := 1, constantValue := 0 }, { name := "hash", type := .int, accessFlags := 2, slot := 2, constantValue := 0 }]
  methods := #[]
  instanceTypes := #[(.object "java/lang/String"), .int, .int]
  staticTypes := #[]
  resolved := Array.replicate 204 none
  statics := none }

def pool6 : Array CpInfo := pool [(1, .class_ 2), (0, u "com/example/fieldstone/fieldstone/store/FileForm$Trailer"), (2, u "NONE"), (0, u "Lcom/example/fieldstone/fieldstone/store/FileForm$Trailer;"), (2, u "CHECKSUM"), (2, u "FOOTER"), (2, u "$VALUES"), (0, u "[Lcom/example/fieldstone/fieldstone/store/FileForm$Trailer;"), (6, .class_ 25), (1, u "java/lang/Enum"), (26, .class_ 53), (0, u "com/example/fieldstone/fieldstone/store/FileForm")] 2

/-- com/example/fieldstone/fieldstone/store/FileForm$Trailer -/
def k6 : Class := { plain "com/example/fieldstone/fieldstone/store/FileForm$Trailer" (some 5) with
  accessFlags := 16433
  interfaces := #[]
  cf := some (fileOf pool6 1 #[.nestHost 52] #[] 16433 23 #[] #[{ accessFlags := 16409, nameIndex := 5, descriptorIndex := 6, attributes := #[] }, { accessFlags := 16409, nameIndex := 9, descriptorIndex := 6, attributes := #[] }, { accessFlags := 16409, nameIndex := 12, descriptorIndex := 6, attributes := #[] }, { accessFlags := 4122, nameIndex := 15, descriptorIndex := 16, attributes := #[] }])
  fields := #[{ name := "NONE", type := (.object "com/example/fieldstone/fieldstone/store/FileForm$Trailer"), accessFlags := 16409, slot := 0, constantValue := 0 }, { name := "CHECKSUM", type := (.object "com/example/fieldstone/fieldstone/store/FileForm$Trailer"), accessFlags := 16409, slot := 1, constantValue := 0 }, { name := "FOOTER", type := (.object "com/example/fieldstone/fieldstone/store/FileForm$Trailer"), accessFlags := 16409, slot := 2, constantValue := 0 }, { name := "$VALUES", type := (.array (.object "com/example/fieldstone/fieldstone/store/FileForm$Trailer")), accessFlags := 4122, slot := 3, constantValue := 0 }]
  methods := #[]
  instanceTypes := #[(.object "java/lang/String"), .int, .int]
  staticTypes := #[(.object "com/example/fieldstone/fieldstone/store/FileForm$Trailer"), (.object "com/example/fieldstone/fieldstone/store/FileForm$Trailer"), (.object "com/example/fieldstone/fieldstone/store/FileForm$Trailer"), (.array (.object "com/example/fieldstone/fieldstone/store/FileForm$Trailer"))]
  resolved := Array.replicate 56 none
  statics := some 0 }

def pool7 : Array CpInfo := pool [(1, .methodref 2 3), (0, .class_ 4), (0, .nameAndType 5 6), (0, u "java/lang/Object"), (0, u "<init>"), (0, u "()V"), (0, .class_ 8), (0, u "java/lang/Record")] 13

def k7c0 : Code := { maxStack := 1, maxLocals := 1, code := jdk_30_method_1_code, exceptionTable := #[], attributes := #[] }
def k7m0 : Method := { name := "<init>", desc := "()V", sig := { parameters := [], returnType := none }, accessFlags := 4, code := some k7c0 }
/-- java/lang/Record -/
def k7 : Class := { plain "java/lang/Record" (some 0) with
  accessFlags := 1057
  interfaces := #[]
  cf := some (fileOf pool7 7 #[] #[{ accessFlags := 4, nameIndex := 5, descriptorIndex := 6, attributes := #[] }] 1057 2 #[] #[])
  fields := #[]
  methods := #[k7m0]
  instanceTypes := #[]
  staticTypes := #[]
  resolved := Array.replicate 22 none
  statics := none }

def pool8 : Array CpInfo := pool [(1, .methodref 2 3), (0, .class_ 4), (0, .nameAndType 5 6), (0, u "java/lang/Record"), (0, u "<init>"), (0, u "()V"), (0, .methodref 8 9), (0, .class_ 10), (0, .nameAndType 11 12), (0, u "java/util/Objects"), (0, u "requireNonNull"), (0, u "(Ljava/lang/Object;)Ljava/lang/Object;"), (0, .fieldref 14 15), (0, .class_ 16), (0, .nameAndType 17 18), (0, u "com/example/fieldstone/fieldstone/store/Header"), (0, u "codec"), (0, u "Ljava/lang/String;"), (0, .fieldref 14 20), (0, .nameAndType 21 22), (0, u "version"), (0, u "I"), (12, u "(Ljava/lang/String;I)V")] 27

def k8c0 : Code := { maxStack := 2, maxLocals := 3, code := prog_66_method_1_code, exceptionTable := #[], attributes := #[] }
def k8m0 : Method := { name := "<init>", desc := "(Ljava/lang/String;I)V", sig := { parameters := [(.object "java/lang/String"), .int], returnType := none }, accessFlags := 1, code := some k8c0 }
/-- com/example/fieldstone/fieldstone/store/Header -/
def k8 : Class := { plain "com/example/fieldstone/fieldstone/store/Header" (some 7) with
  accessFlags := 49
  interfaces := #[]
  cf := some (fileOf pool8 14 #[] #[{ accessFlags := 1, nameIndex := 5, descriptorIndex := 35, attributes := #[] }] 49 2 #[] #[{ accessFlags := 18, nameIndex := 17, descriptorIndex := 18, attributes := #[] }, { accessFlags := 18, nameIndex := 21, descriptorIndex := 22, attributes := #[] }])
  fields := #[{ name := "codec", type := (.object "java/lang/String"), accessFlags := 18, slot := 0, constantValue := 0 }, { name := "version", type := .int, accessFlags := 18, slot := 1, constantValue := 0 }]
  methods := #[k8m0]
  instanceTypes := #[(.object "java/lang/String"), .int]
  staticTypes := #[]
  resolved := Array.replicate 63 none
  statics := none }

def pool9 : Array CpInfo := pool [(2, .class_ 4), (1, u "java/lang/CharSequence"), (42, .class_ 48), (0, u "java/lang/CharSequence$1CodePointIterator"), (10, .class_ 60), (0, u "java/lang/CharSequence$1CharIterator"), (5, .class_ 67), (0, u "java/lang/Object")] 63

/-- java/lang/CharSequence -/
def k9 : Class := { plain "java/lang/CharSequence" (some 0) with
  accessFlags := 1537
  interfaces := #[]
  cf := some (fileOf pool9 2 #[.nestMembers #[47, 59]] #[] 1537 66 #[] #[])
  fields := #[]
  methods := #[]
  instanceTypes := #[]
  staticTypes := #[]
  resolved := Array.replicate 131 none
  statics := none }

def pool10 : Array CpInfo := pool [(1, .class_ 2), (0, u "java/lang/constant/ConstantDesc"), (0, .class_ 4), (0, u "java/lang/Object")] 32

/-- java/lang/constant/ConstantDesc -/
def k10 : Class := { plain "java/lang/constant/ConstantDesc" (some 0) with
  accessFlags := 1537
  interfaces := #[]
  cf := some (fileOf pool10 1 #[] #[] 1537 3 #[] #[])
  fields := #[]
  methods := #[]
  instanceTypes := #[]
  staticTypes := #[]
  resolved := Array.replicate 37 none
  statics := none }

def pool11 : Array CpInfo := pool [(1, .methodref 2 3), (0, .class_ 4), (0, .nameAndType 5 6), (0, u "java/lang/Object"), (0, u "<init>"), (0, u "()V"), (2, .fieldref 10 11), (0, .class_ 12), (0, .nameAndType 13 14), (0, u "java/lang/String"), (0, u "value"), (0, u "[B"), (0, .fieldref 10 16), (0, .nameAndType 17 18), (0, u "coder"), (0, u "B"), (2, u "hash"), (0, u "I"), (2, u "hashIsZero"), (0, u "Z"), (0, .methodref 10 28), (0, .nameAndType 5 29), (0, u "([CIILjava/lang/Void;)V"), (8, .fieldref 10 39), (0, .nameAndType 40 26), (0, u "COMPACT_STRINGS"), (1, .class_ 44), (1, u "java/lang/StringUTF16"), (0, u "compress"), (1, .methodref 42 48), (0, .nameAndType 49 50), (0, u "coderFromArrayLen"), (0, u "([BI)B"), (126, .methodref 42 178), (0, .nameAndType 45 179), (0, u "([CII)[B"), (395, .class_ 576), (0, u "java/lang/CharSequence"), (22, u "CASE_INSENSITIVE_ORDER"), (0, u "Ljava/util/Comparator;"), (409, u "([C)V"), (90, u "serialPersistentFields"), (0, u "[Ljava/io/ObjectStreamField;"), (0, .class_ 1104), (0, u "java/lang/String$CaseInsensitiveComparator"), (1, .class_ 1107), (0, u "java/io/Serializable"), (0, .class_ 1109), (0, u "java/lang/Comparable"), (0, .class_ 1111), (0, u "java/lang/constant/Constable"), (0, .class_ 1113), (0, u "java/lang/constant/ConstantDesc"), (2, u "serialVersionUID"), (0, u "J"), (3, u "REPL"), (0, u "C"), (2, u "LATIN1"), (1, u "UTF16")] 323

def k11m0 : Method := { name := "<init>", desc := "()V", sig := { parameters := [], returnType := none }, accessFlags := 1, code := none }
def k11c1 : Code := { maxStack := 5, maxLocals := 2, code := jdk_42_method_3_code, exceptionTable := #[], attributes := #[] }
def k11m1 : Method := { name := "<init>", desc := "([C)V", sig := { parameters := [(.array .char)], returnType := none }, accessFlags := 1, code := some k11c1 }
def k11c2 : Code := { maxStack := 4, maxLocals := 6, code := jdk_42_method_149_code, exceptionTable := #[], attributes := #[] }
def k11m2 : Method := { name := "<init>", desc := "([CIILjava/lang/Void;)V", sig := { parameters := [(.array .char), .int, .int, (.object "java/lang/Void")], returnType := none }, accessFlags := 2, code := some k11c2 }
/-- java/lang/String -/
def k11 : Class := { plain "java/lang/String" (some 0) with
  accessFlags := 49
  interfaces := #[4, 3, 9, 2, 10]
  cf := some (fileOf pool11 10 #[.nestMembers #[1103]] #[{ accessFlags := 1, nameIndex := 5, descriptorIndex := 6, attributes := #[] }, { accessFlags := 1, nameIndex := 5, descriptorIndex := 1010, attributes := #[] }, { accessFlags := 2, nameIndex := 5, descriptorIndex := 29, attributes := #[] }] 49 2 #[1106, 1108, 575, 1110, 1112] #[{ accessFlags := 18, nameIndex := 13, descriptorIndex := 14, attributes := #[] }, { accessFlags := 18, nameIndex := 17, descriptorIndex := 18, attributes := #[] }, { accessFlags := 2, nameIndex := 21, descriptorIndex := 22, attributes := #[] }, { accessFlags := 2, nameIndex := 25, descriptorIndex := 26, attributes := #[] }, { accessFlags := 26, nameIndex := 1116, descriptorIndex := 1117, attributes := #[] }, { accessFlags := 24, nameIndex := 40, descriptorIndex := 26, attributes := #[] }, { accessFlags := 26, nameIndex := 1101, descriptorIndex := 1102, attributes := #[] }, { accessFlags := 26, nameIndex := 1121, descriptorIndex := 1122, attributes := #[] }, { accessFlags := 25, nameIndex := 599, descriptorIndex := 600, attributes := #[] }, { accessFlags := 24, nameIndex := 1125, descriptorIndex := 18, attributes := #[] }, { accessFlags := 24, nameIndex := 1127, descriptorIndex := 18, attributes := #[] }])
  fields := #[{ name := "value", type := (.array .byte), accessFlags := 18, slot := 0, constantValue := 0 }, { name := "coder", type := .byte, accessFlags := 18, slot := 1, constantValue := 0 }, { name := "hash", type := .int, accessFlags := 2, slot := 2, constantValue := 0 }, { name := "hashIsZero", type := .boolean, accessFlags := 2, slot := 3, constantValue := 0 }, { name := "serialVersionUID", type := .long, accessFlags := 26, slot := 0, constantValue := 0 }, { name := "COMPACT_STRINGS", type := .boolean, accessFlags := 24, slot := 1, constantValue := 0 }, { name := "serialPersistentFields", type := (.array (.object "java/io/ObjectStreamField")), accessFlags := 26, slot := 2, constantValue := 0 }, { name := "REPL", type := .char, accessFlags := 26, slot := 3, constantValue := 0 }, { name := "CASE_INSENSITIVE_ORDER", type := (.object "java/util/Comparator"), accessFlags := 25, slot := 4, constantValue := 0 }, { name := "LATIN1", type := .byte, accessFlags := 24, slot := 5, constantValue := 0 }, { name := "UTF16", type := .byte, accessFlags := 24, slot := 6, constantValue := 0 }]
  methods := #[k11m0, k11m1, k11m2]
  instanceTypes := #[(.array .byte), .byte, .int, .boolean]
  staticTypes := #[.long, .boolean, (.array (.object "java/io/ObjectStreamField")), .char, (.object "java/util/Comparator"), .byte, .byte]
  resolved := Array.replicate 1451 none
  statics := some 1 }

def pool12 : Array CpInfo := pool [(6, .class_ 8), (1, u "java/lang/Object"), (0, u "<init>"), (0, u "()V"), (1, .class_ 14), (1, u "java/lang/StringUTF16"), (31, u "$assertionsDisabled"), (0, u "Z"), (13, u "HI_BYTE_SHIFT"), (0, u "I"), (2, u "LO_BYTE_SHIFT"), (49, .methodref 12 116), (0, .nameAndType 117 118), (0, u "compress"), (0, u "([CI[BII)I"), (3, u "([CII)[B"), (138, u "coderFromArrayLen"), (0, u "([BI)B"), (106, .class_ 371), (1, u "java/lang/StringUTF16$LinesSpliterator"), (58, u "MAX_LENGTH"), (196, .class_ 628), (0, u "java/lang/StringUTF16$CodePointsSpliterator"), (0, .class_ 630), (0, u "java/lang/StringUTF16$CharsSpliterator")] 4

def k12m0 : Method := { name := "<init>", desc := "()V", sig := { parameters := [], returnType := none }, accessFlags := 0, code := none }
def k12c1 : Code := { maxStack := 2, maxLocals := 2, code := jdk_52_method_15_code, exceptionTable := #[], attributes := #[] }
def k12m1 : Method := { name := "coderFromArrayLen", desc := "([BI)B", sig := { parameters := [(.array .byte), .int], returnType := some .byte }, accessFlags := 8, code := some k12c1 }
def k12c2 : Code := { maxStack := 5, maxLocals := 6, code := jdk_52_method_16_code, exceptionTable := #[], attributes := #[] }
def k12m2 : Method := { name := "compress", desc := "([CII)[B", sig := { parameters := [(.array .char), .int, .int], returnType := some (.array .byte) }, accessFlags := 9, code := some k12c2 }
def k12c3 : Code := { maxStack := 3, maxLocals := 7, code := jdk_52_method_21_code, exceptionTable := #[], attributes := #[] }
def k12m3 : Method := { name := "compress", desc := "([CI[BII)I", sig := { parameters := [(.array .char), .int, (.array .byte), .int, .int], returnType := some .int }, accessFlags := 9, code := some k12c3 }
/-- java/lang/StringUTF16 -/
def k12 : Class := { plain "java/lang/StringUTF16" (some 0) with
  accessFlags := 48
  interfaces := #[]
  cf := some (fileOf pool12 12 #[.nestMembers #[627, 629, 369]] #[{ accessFlags := 0, nameIndex := 9, descriptorIndex := 10, attributes := #[] }, { accessFlags := 8, nameIndex := 261, descriptorIndex := 262, attributes := #[] }, { accessFlags := 9, nameIndex := 117, descriptorIndex := 122, attributes := #[] }, { accessFlags := 9, nameIndex := 117, descriptorIndex := 118, attributes := #[] }] 48 6 #[] #[{ accessFlags := 26, nameIndex := 61, descriptorIndex := 62, attributes := #[] }, { accessFlags := 26, nameIndex := 65, descriptorIndex := 62, attributes := #[] }, { accessFlags := 24, nameIndex := 430, descriptorIndex := 62, attributes := #[] }, { accessFlags := 4120, nameIndex := 46, descriptorIndex := 47, attributes := #[] }])
  fields := #[{ name := "HI_BYTE_SHIFT", type := .int, accessFlags := 26, slot := 0, constantValue := 0 }, { name := "LO_BYTE_SHIFT", type := .int, accessFlags := 26, slot := 1, constantValue := 0 }, { name := "MAX_LENGTH", type := .int, accessFlags := 24, slot := 2, constantValue := 0 }, { name := "$assertionsDisabled", type := .boolean, accessFlags := 4120, slot := 3, constantValue := 0 }]
  methods := #[k12m0, k12m1, k12m2, k12m3]
  instanceTypes := #[]
  staticTypes := #[.int, .int, .int, .boolean]
  resolved := Array.replicate 635 none
  statics := none }

def pool13 : Array CpInfo := pool [(2, .class_ 4), (1, u "java/lang/Object"), (0, u "<init>"), (0, u "()V"), (35, .class_ 44), (1, u "java/util/Objects"), (0, u "requireNonNull"), (0, u "(Ljava/lang/Object;)Ljava/lang/Object;")] 137

def k13m0 : Method := { name := "<init>", desc := "()V", sig := { parameters := [], returnType := none }, accessFlags := 2, code := none }
def k13c1 : Code := { maxStack := 2, maxLocals := 1, code := jdk_31_method_10_code, exceptionTable := #[], attributes := #[] }
def k13m1 : Method := { name := "requireNonNull", desc := "(Ljava/lang/Object;)Ljava/lang/Object;", sig := { parameters := [(.object "java/lang/Object")], returnType := some (.object "java/lang/Object") }, accessFlags := 9, code := some k13c1 }
/-- java/util/Objects -/
def k13 : Class := { plain "java/util/Objects" (some 0) with
  accessFlags := 49
  interfaces := #[]
  cf := some (fileOf pool13 42 #[] #[{ accessFlags := 2, nameIndex := 5, descriptorIndex := 6, attributes := #[] }, { accessFlags := 9, nameIndex := 45, descriptorIndex := 46, attributes := #[] }] 49 2 #[] #[])
  fields := #[]
  methods := #[k13m0, k13m1]
  instanceTypes := #[]
  staticTypes := #[]
  resolved := Array.replicate 184 none
  statics := none }

def pool14 : Array CpInfo := pool [(1, .methodref 2 3), (0, .class_ 4), (0, .nameAndType 5 6), (0, u "java/lang/Record"), (0, u "<init>"), (0, u "()V"), (0, .methodref 8 9), (0, .class_ 10), (0, .nameAndType 11 12), (0, u "java/util/Objects"), (0, u "requireNonNull"), (0, u "(Ljava/lang/Object;)Ljava/lang/Object;"), (0, .fieldref 14 15), (0, .class_ 16), (0, .nameAndType 17 18), (0, u "com/example/fieldstone/fieldstone/store/FileForm"), (0, u "header"), (0, u "Lcom/example/fieldstone/fieldstone/store/Header;"), (0, .fieldref 14 20), (0, .nameAndType 21 22), (0, u "trailer"), (0, u "Lcom/example/fieldstone/fieldstone/store/FileForm$Trailer;"), (0, .fieldref 24 25), (0, .class_ 26), (0, .nameAndType 27 22), (0, u "com/example/fieldstone/fieldstone/store/FileForm$Trailer"), (0, u "FOOTER"), (37, u "(Lcom/example/fieldstone/fieldstone/store/Header;Lcom/example/fieldstone/fieldstone/store/FileForm$Trailer;)V"), (3, u "footer"), (0, u "()Z")] 47

def k14c0 : Code := { maxStack := 2, maxLocals := 3, code := prog_62_method_1_code, exceptionTable := #[], attributes := #[] }
def k14m0 : Method := { name := "<init>", desc := "(Lcom/example/fieldstone/fieldstone/store/Header;Lcom/example/fieldstone/fieldstone/store/FileForm$Trailer;)V", sig := { parameters := [(.object "com/example/fieldstone/fieldstone/store/Header"), (.object "com/example/fieldstone/fieldstone/store/FileForm$Trailer")], returnType := none }, accessFlags := 1, code := some k14c0 }
def k14c1 : Code := { maxStack := 2, maxLocals := 1, code := prog_62_method_2_code, exceptionTable := #[], attributes := #[] }
def k14m1 : Method := { name := "footer", desc := "()Z", sig := { parameters := [], returnType := some .boolean }, accessFlags := 1, code := some k14c1 }
/-- com/example/fieldstone/fieldstone/store/FileForm -/
def k14 : Class := { plain "com/example/fieldstone/fieldstone/store/FileForm" (some 7) with
  accessFlags := 49
  interfaces := #[]
  cf := some (fileOf pool14 14 #[.nestMembers #[24]] #[{ accessFlags := 1, nameIndex := 5, descriptorIndex := 65, attributes := #[] }, { accessFlags := 1, nameIndex := 69, descriptorIndex := 70, attributes := #[] }] 49 2 #[] #[{ accessFlags := 18, nameIndex := 17, descriptorIndex := 18, attributes := #[] }, { accessFlags := 18, nameIndex := 21, descriptorIndex := 22, attributes := #[] }])
  fields := #[{ name := "header", type := (.object "com/example/fieldstone/fieldstone/store/Header"), accessFlags := 18, slot := 0, constantValue := 0 }, { name := "trailer", type := (.object "com/example/fieldstone/fieldstone/store/FileForm$Trailer"), accessFlags := 18, slot := 1, constantValue := 0 }]
  methods := #[k14m0, k14m1]
  instanceTypes := #[(.object "com/example/fieldstone/fieldstone/store/Header"), (.object "com/example/fieldstone/fieldstone/store/FileForm$Trailer")]
  staticTypes := #[]
  resolved := Array.replicate 118 none
  statics := none }

def pool15 : Array CpInfo := pool [(4, .class_ 6), (1, u "java/lang/Object"), (0, u "<init>"), (0, u "()V"), (5, .class_ 16), (1, u "java/lang/StringLatin1"), (104, u "$assertionsDisabled"), (0, u "Z"), (98, .class_ 223), (1, u "java/lang/StringLatin1$LinesSpliterator"), (166, .class_ 391), (0, u "java/lang/StringLatin1$CharsSpliterator")] 3

def k15m0 : Method := { name := "<init>", desc := "()V", sig := { parameters := [], returnType := none }, accessFlags := 0, code := none }
/-- java/lang/StringLatin1 -/
def k15 : Class := { plain "java/lang/StringLatin1" (some 0) with
  accessFlags := 48
  interfaces := #[]
  cf := some (fileOf pool15 14 #[.nestMembers #[390, 221]] #[{ accessFlags := 0, nameIndex := 7, descriptorIndex := 8, attributes := #[] }] 48 4 #[] #[{ accessFlags := 4120, nameIndex := 121, descriptorIndex := 122, attributes := #[] }])
  fields := #[{ name := "$assertionsDisabled", type := .boolean, accessFlags := 4120, slot := 0, constantValue := 0 }]
  methods := #[k15m0]
  instanceTypes := #[]
  staticTypes := #[.boolean]
  resolved := Array.replicate 395 none
  statics := none }

def pool16 : Array CpInfo := pool [(2, .class_ 4), (1, u "java/lang/Object"), (0, u "<init>"), (0, u "()V"), (17, .class_ 26), (1, u "jdk/internal/util/Preconditions"), (28, .class_ 56), (0, u "jdk/internal/util/Preconditions$4"), (57, .class_ 115), (0, u "jdk/internal/util/Preconditions$1"), (7, u "SIOOBE_FORMATTER"), (0, u "Ljava/util/function/BiFunction;"), (0, .class_ 126), (0, u "jdk/internal/util/Preconditions$2"), (3, u "AIOOBE_FORMATTER"), (0, .class_ 132), (0, u "jdk/internal/util/Preconditions$3"), (3, u "IOOBE_FORMATTER")] 57

def k16m0 : Method := { name := "<init>", desc := "()V", sig := { parameters := [], returnType := none }, accessFlags := 1, code := none }
/-- jdk/internal/util/Preconditions -/
def k16 : Class := { plain "jdk/internal/util/Preconditions" (some 0) with
  accessFlags := 33
  interfaces := #[]
  cf := some (fileOf pool16 24 #[.nestMembers #[55, 131, 125, 114]] #[{ accessFlags := 1, nameIndex := 5, descriptorIndex := 6, attributes := #[] }] 33 2 #[] #[{ accessFlags := 25, nameIndex := 123, descriptorIndex := 124, attributes := #[] }, { accessFlags := 25, nameIndex := 130, descriptorIndex := 124, attributes := #[] }, { accessFlags := 25, nameIndex := 136, descriptorIndex := 124, attributes := #[] }])
  fields := #[{ name := "SIOOBE_FORMATTER", type := (.object "java/util/function/BiFunction"), accessFlags := 25, slot := 0, constantValue := 0 }, { name := "AIOOBE_FORMATTER", type := (.object "java/util/function/BiFunction"), accessFlags := 25, slot := 1, constantValue := 0 }, { name := "IOOBE_FORMATTER", type := (.object "java/util/function/BiFunction"), accessFlags := 25, slot := 2, constantValue := 0 }]
  methods := #[k16m0]
  instanceTypes := #[]
  staticTypes := #[(.object "java/util/function/BiFunction"), (.object "java/util/function/BiFunction"), (.object "java/util/function/BiFunction")]
  resolved := Array.replicate 194 none
  statics := some 2 }

def pool17 : Array CpInfo := pool [(9, u "<init>"), (6, .class_ 18), (1, u "java/lang/Object"), (0, u "()V"), (1, .class_ 23), (1, u "jdk/internal/util/ArraysSupport"), (0, u "LOG2_ARRAY_LONG_INDEX_SCALE"), (0, u "I"), (2, u "U"), (0, u "Ljdk/internal/misc/Unsafe;"), (8, u "BIG_ENDIAN"), (0, u "Z"), (8, u "LOG2_BYTE_BIT_SIZE"), (4, u "LOG2_ARRAY_INT_INDEX_SCALE"), (54, u "JLA"), (0, u "Ljdk/internal/access/JavaLangAccess;"), (11, u "LOG2_ARRAY_BOOLEAN_INDEX_SCALE"), (9, u "LOG2_ARRAY_BYTE_INDEX_SCALE"), (5, u "LOG2_ARRAY_CHAR_INDEX_SCALE"), (5, u "LOG2_ARRAY_SHORT_INDEX_SCALE"), (18, u "LOG2_ARRAY_FLOAT_INDEX_SCALE"), (24, u "LOG2_ARRAY_DOUBLE_INDEX_SCALE"), (89, u "T_BOOLEAN"), (2, u "T_CHAR"), (1, u "T_FLOAT"), (1, u "T_DOUBLE"), (1, u "T_BYTE"), (1, u "T_SHORT"), (1, u "T_INT"), (1, u "T_LONG"), (1, u "SOFT_MAX_ARRAY_LENGTH")] 83

def k17m0 : Method := { name := "<init>", desc := "()V", sig := { parameters := [], returnType := none }, accessFlags := 2, code := none }
/-- jdk/internal/util/ArraysSupport -/
def k17 : Class := { plain "jdk/internal/util/ArraysSupport" (some 0) with
  accessFlags := 33
  interfaces := #[]
  cf := some (fileOf pool17 21 #[] #[{ accessFlags := 2, nameIndex := 9, descriptorIndex := 19, attributes := #[] }] 33 16 #[] #[{ accessFlags := 24, nameIndex := 28, descriptorIndex := 29, attributes := #[] }, { accessFlags := 26, nameIndex := 38, descriptorIndex := 39, attributes := #[] }, { accessFlags := 25, nameIndex := 121, descriptorIndex := 25, attributes := #[] }, { accessFlags := 25, nameIndex := 131, descriptorIndex := 25, attributes := #[] }, { accessFlags := 25, nameIndex := 137, descriptorIndex := 25, attributes := #[] }, { accessFlags := 25, nameIndex := 143, descriptorIndex := 25, attributes := #[] }, { accessFlags := 25, nameIndex := 53, descriptorIndex := 25, attributes := #[] }, { accessFlags := 25, nameIndex := 24, descriptorIndex := 25, attributes := #[] }, { accessFlags := 25, nameIndex := 162, descriptorIndex := 25, attributes := #[] }, { accessFlags := 25, nameIndex := 187, descriptorIndex := 25, attributes := #[] }, { accessFlags := 26, nameIndex := 48, descriptorIndex := 25, attributes := #[] }, { accessFlags := 25, nameIndex := 277, descriptorIndex := 25, attributes := #[] }, { accessFlags := 25, nameIndex := 280, descriptorIndex := 25, attributes := #[] }, { accessFlags := 25, nameIndex := 282, descriptorIndex := 25, attributes := #[] }, { accessFlags := 25, nameIndex := 284, descriptorIndex := 25, attributes := #[] }, { accessFlags := 25, nameIndex := 286, descriptorIndex := 25, attributes := #[] }, { accessFlags := 25, nameIndex := 288, descriptorIndex := 25, attributes := #[] }, { accessFlags := 25, nameIndex := 290, descriptorIndex := 25, attributes := #[] }, { accessFlags := 25, nameIndex := 292, descriptorIndex := 25, attributes := #[] }, { accessFlags := 26, nameIndex := 108, descriptorIndex := 109, attributes := #[] }, { accessFlags := 25, nameIndex := 294, descriptorIndex := 25, attributes := #[] }])
  fields := #[{ name := "U", type := (.object "jdk/internal/misc/Unsafe"), accessFlags := 24, slot := 0, constantValue := 0 }, { name := "BIG_ENDIAN", type := .boolean, accessFlags := 26, slot := 1, constantValue := 0 }, { name := "LOG2_ARRAY_BOOLEAN_INDEX_SCALE", type := .int, accessFlags := 25, slot := 2, constantValue := 0 }, { name := "LOG2_ARRAY_BYTE_INDEX_SCALE", type := .int, accessFlags := 25, slot := 3, constantValue := 0 }, { name := "LOG2_ARRAY_CHAR_INDEX_SCALE", type := .int, accessFlags := 25, slot := 4, constantValue := 0 }, { name := "LOG2_ARRAY_SHORT_INDEX_SCALE", type := .int, accessFlags := 25, slot := 5, constantValue := 0 }, { name := "LOG2_ARRAY_INT_INDEX_SCALE", type := .int, accessFlags := 25, slot := 6, constantValue := 0 }, { name := "LOG2_ARRAY_LONG_INDEX_SCALE", type := .int, accessFlags := 25, slot := 7, constantValue := 0 }, { name := "LOG2_ARRAY_FLOAT_INDEX_SCALE", type := .int, accessFlags := 25, slot := 8, constantValue := 0 }, { name := "LOG2_ARRAY_DOUBLE_INDEX_SCALE", type := .int, accessFlags := 25, slot := 9, constantValue := 0 }, { name := "LOG2_BYTE_BIT_SIZE", type := .int, accessFlags := 26, slot := 10, constantValue := 0 }, { name := "T_BOOLEAN", type := .int, accessFlags := 25, slot := 11, constantValue := 0 }, { name := "T_CHAR", type := .int, accessFlags := 25, slot := 12, constantValue := 0 }, { name := "T_FLOAT", type := .int, accessFlags := 25, slot := 13, constantValue := 0 }, { name := "T_DOUBLE", type := .int, accessFlags := 25, slot := 14, constantValue := 0 }, { name := "T_BYTE", type := .int, accessFlags := 25, slot := 15, constantValue := 0 }, { name := "T_SHORT", type := .int, accessFlags := 25, slot := 16, constantValue := 0 }, { name := "T_INT", type := .int, accessFlags := 25, slot := 17, constantValue := 0 }, { name := "T_LONG", type := .int, accessFlags := 25, slot := 18, constantValue := 0 }, { name := "JLA", type := (.object "jdk/internal/access/JavaLangAccess"), accessFlags := 26, slot := 19, constantValue := 0 }, { name := "SOFT_MAX_ARRAY_LENGTH", type := .int, accessFlags := 25, slot := 20, constantValue := 0 }]
  methods := #[k17m0]
  instanceTypes := #[]
  staticTypes := #[(.object "jdk/internal/misc/Unsafe"), .boolean, .int, .int, .int, .int, .int, .int, .int, .int, .int, .int, .int, .int, .int, .int, .int, .int, .int, (.object "jdk/internal/access/JavaLangAccess"), .int]
  resolved := Array.replicate 378 none
  statics := none }

def pool18 : Array CpInfo := pool [(1, u "java/lang/Cloneable"), (0, .class_ 1), (0, u "java/lang/Object"), (0, .class_ 3)] 3

/-- java/lang/Cloneable -/
def k18 : Class := { plain "java/lang/Cloneable" (some 0) with
  accessFlags := 1537
  interfaces := #[]
  cf := some (fileOf pool18 2 #[] #[] 1537 4 #[] #[])
  fields := #[]
  methods := #[]
  instanceTypes := #[]
  staticTypes := #[]
  resolved := Array.replicate 8 none
  statics := none }

/-- the primitive byte -/
def k19 : Class := { plain "byte" none with kind := .primitive 'B', accessFlags := 0x411 }
/-- [B -/
def k20 : Class := { plain "[B" (some 0) with kind := .array 19 .byte, interfaces := #[18, 4], accessFlags := 1041 }

/-- the primitive char -/
def k21 : Class := { plain "char" none with kind := .primitive 'C', accessFlags := 0x411 }
/-- [C -/
def k22 : Class := { plain "[C" (some 0) with kind := .array 21 .char, interfaces := #[18, 4], accessFlags := 1041 }

/-- the primitive int -/
def k23 : Class := { plain "int" none with kind := .primitive 'I', accessFlags := 0x411 }
/-- [I -/
def k24 : Class := { plain "[I" (some 0) with kind := .array 23 .int, interfaces := #[18, 4], accessFlags := 1041 }

def heap : Heap := #[{ cls := 6, slots := #[.ref 3, .ref 5, .ref 4, .null], vm := .statics 6 },
  { cls := 11, slots := #[.long 0, .int 1, .null, .int 0, .null, .int 0, .int 0], vm := .statics 11 },
  { cls := 16, slots := #[.null, .null, .null], vm := .statics 16 },
  { cls := 6, slots := #[.null, .int 0, .int 0], vm := .none },
  { cls := 6, slots := #[.null, .int 2, .int 0], vm := .none },
  { cls := 6, slots := #[.null, .int 1, .int 0], vm := .none }]
def classes : Array Class := #[k0, k1, k2, k3, k4, k5, k6, k7, k8, k9, k10, k11, k12, k13, k14, k15, k16, k17, k18, k19, k20, k21, k22, k23, k24]
def interned : List (Array UInt16 × Addr) := []
def slotsUsed : Nat := 23
def theMethod : MethodId := ⟨1, 1⟩
def args0 : Array Value := #[.int 5, .int 7, .int 1]
def aboutOver (below : List Frame) : State where
  vm := { classes := classes, interned := interned.toArray }
  heap := heap
  slotsUsed := slotsUsed
  threads := #[{ frames := .invoking theMethod args0 :: below }]
def below0 : List Frame := [.native { method := ⟨0, 0⟩, args := #[] }]
def about1 : State := aboutOver below0
def p0 : Program := .bare "" "" ""
def e0 : Env := launch0.env 0 0 0
theorem w_frames : about1.frames = Frame.invoking theMethod args0 :: below0 := rfl
set_option maxRecDepth 65536 in
theorem w_args : argsFit about1.vm theMethod args0 = true := by decide +kernel
set_option maxRecDepth 65536 in
theorem w_heap : heapFits about1 = true := by decide +kernel
set_option maxRecDepth 65536 in
theorem w_runnable : about1.curStatus? = some .runnable := by decide +kernel
set_option maxRecDepth 65536 in
theorem w_alone : about1.alone = true := by decide +kernel
set_option maxRecDepth 65536 in
theorem w_named : about1.methodNamed? x = some theMethod := by decide +kernel
set_option maxRecDepth 65536 in
theorem w_hears : about1.hears theMethod below0 = true := by decide +kernel
set_option maxRecDepth 65536 in
theorem w_ripe : about1.ripe theMethod args0 below0 = true := by decide +kernel
theorem w_running : about1.status = .running := rfl
set_option maxRecDepth 65536 in
theorem w_room : about1.hasRoom e0.platform room_1 = true :=
  launch0.hasRoom_least _ room_1 (by decide +kernel) (by decide +kernel) (by decide +kernel) (by decide +kernel) (by decide +kernel) (by decide +kernel)
theorem allAtoms_all (ts : List Jvm.Cond) (a : Array Jvm.Value) (st : Jvm.State) : (allAtoms ts).before a st = ts.all (fun c => c.before a st) := by
  induction ts with
  | nil => rfl
  | cons c t ih =>
    show (Jvm.Cond.and c (allAtoms t)).before a st = _
    rw [Jvm.Cond.before_and, ih, List.all_cons]
def words1 : List Jvm.Cond := Jvm.Cond.code x code maxLocals ret :: tables_1
/-- a 'code' word, met by the world's own term for the bytes: nothing is compared byte by byte -/
theorem code_word {y : MethodName} {bytes : ByteArray} {mx : Nat} {rt : Option FieldType} {a : Array Value} {s : State} {m : MethodId} {meth : Method} {c : Code} (h1 : s.methodNamed? y = some m) (h2 : s.vm.method? m = some meth) (h3 : meth.code = some c) (h4 : c.code = bytes)
    (h5 : (c.maxLocals == mx && c.exceptionTable.isEmpty && decide (c.maxStack ≤ mostOperands) && decide (meth.sig.returnType = rt) && !meth.locks && decide (parseMethodDescriptor y.desc = some meth.sig)) = true) : (Jvm.Cond.code y bytes mx rt).before a s = true := by
  simp only [Bool.and_eq_true, beq_iff_eq, Bool.not_eq_true', decide_eq_true_eq] at h5
  obtain ⟨⟨⟨⟨⟨g1, g2⟩, g3⟩, g4⟩, g5⟩, g6⟩ := h5
  simp [Cond.before, Cond.holds, Cond.value, h1, h2, h3, h4, g1, g2, g3, g4, g5, g6]
def isCode : Jvm.Cond → Bool
  | .code _ _ _ _ => true
  | _ => false
theorem all_split {L : List Jvm.Cond} {P : Jvm.Cond → Bool} (h1 : L.all (fun c => isCode c || P c) = true) (h2 : ∀ c ∈ L.filter isCode, P c = true) : L.all P = true := by
  refine List.all_eq_true.mpr fun c hc => ?_
  have h := List.all_eq_true.mp h1 c hc
  rcases Bool.eq_false_or_eq_true (isCode c) with hi | hi
  · exact h2 c (List.mem_filter.mpr ⟨hc, hi⟩)
  · simpa [hi] using h
set_option maxRecDepth 65536 in
theorem w_c0 : (Jvm.Cond.code x code maxLocals ret).before args0 about1 = true := code_word (m := ⟨1, 1⟩) (meth := k1m1) (c := k1c1) (by decide +kernel) rfl rfl rfl (by decide +kernel)
set_option maxRecDepth 65536 in
theorem w_c1 : (Jvm.Cond.code ({ cls := "java/lang/String", name := "<init>", desc := "([C)V" } : Jvm.MethodName) jdk_42_method_3_code (2 : Nat) (Option.none : Option Jvm.ClassFile.FieldType)).before args0 about1 = true := code_word (m := ⟨11, 1⟩) (meth := k11m1) (c := k11c1) (by decide +kernel) rfl rfl rfl (by decide +kernel)
set_option maxRecDepth 65536 in
theorem w_c2 : (Jvm.Cond.code ({ cls := "java/lang/String", name := "<init>", desc := "([CIILjava/lang/Void;)V" } : Jvm.MethodName) jdk_42_method_149_code (6 : Nat) (Option.none : Option Jvm.ClassFile.FieldType)).before args0 about1 = true := code_word (m := ⟨11, 2⟩) (meth := k11m2) (c := k11c2) (by decide +kernel) rfl rfl rfl (by decide +kernel)
set_option maxRecDepth 65536 in
theorem w_c3 : (Jvm.Cond.code ({ cls := "java/lang/Object", name := "<init>", desc := "()V" } : Jvm.MethodName) object_method_1_code (1 : Nat) (Option.none : Option Jvm.ClassFile.FieldType)).before args0 about1 = true := code_word (m := ⟨0, 0⟩) (meth := k0m0) (c := k0c0) (by decide +kernel) rfl rfl rfl (by decide +kernel)
set_option maxRecDepth 65536 in
theorem w_c4 : (Jvm.Cond.code ({ cls := "java/lang/StringUTF16", name := "compress", desc := "([CII)[B" } : Jvm.MethodName) jdk_52_method_16_code (6 : Nat) (Option.some (Jvm.ClassFile.FieldType.array Jvm.ClassFile.FieldType.byte))).before args0 about1 = true := code_word (m := ⟨12, 2⟩) (meth := k12m2) (c := k12c2) (by decide +kernel) rfl rfl rfl (by decide +kernel)
set_option maxRecDepth 65536 in
theorem w_c5 : (Jvm.Cond.code ({ cls := "java/lang/StringUTF16", name := "compress", desc := "([CI[BII)I" } : Jvm.MethodName) jdk_52_method_21_code (7 : Nat) (Option.some Jvm.ClassFile.FieldType.int)).before args0 about1 = true := code_word (m := ⟨12, 3⟩) (meth := k12m3) (c := k12c3) (by decide +kernel) rfl rfl rfl (by decide +kernel)
set_option maxRecDepth 65536 in
theorem w_c6 : (Jvm.Cond.code ({ cls := "java/lang/StringUTF16", name := "coderFromArrayLen", desc := "([BI)B" } : Jvm.MethodName) jdk_52_method_15_code (2 : Nat) (Option.some Jvm.ClassFile.FieldType.byte)).before args0 about1 = true := code_word (m := ⟨12, 1⟩) (meth := k12m1) (c := k12c1) (by decide +kernel) rfl rfl rfl (by decide +kernel)
set_option maxRecDepth 65536 in
theorem w_c7 : (Jvm.Cond.code ({ cls := "com/example/fieldstone/fieldstone/store/Header", name := "<init>", desc := "(Ljava/lang/String;I)V" } : Jvm.MethodName) prog_66_method_1_code (3 : Nat) (Option.none : Option Jvm.ClassFile.FieldType)).before args0 about1 = true := code_word (m := ⟨8, 0⟩) (meth := k8m0) (c := k8c0) (by decide +kernel) rfl rfl rfl (by decide +kernel)
set_option maxRecDepth 65536 in
theorem w_c8 : (Jvm.Cond.code ({ cls := "java/lang/Record", name := "<init>", desc := "()V" } : Jvm.MethodName) jdk_30_method_1_code (1 : Nat) (Option.none : Option Jvm.ClassFile.FieldType)).before args0 about1 = true := code_word (m := ⟨7, 0⟩) (meth := k7m0) (c := k7c0) (by decide +kernel) rfl rfl rfl (by decide +kernel)
set_option maxRecDepth 65536 in
theorem w_c9 : (Jvm.Cond.code ({ cls := "java/util/Objects", name := "requireNonNull", desc := "(Ljava/lang/Object;)Ljava/lang/Object;" } : Jvm.MethodName) jdk_31_method_10_code (1 : Nat) (Option.some (Jvm.ClassFile.FieldType.object "java/lang/Object"))).before args0 about1 = true := code_word (m := ⟨13, 1⟩) (meth := k13m1) (c := k13c1) (by decide +kernel) rfl rfl rfl (by decide +kernel)
set_option maxRecDepth 65536 in
theorem w_c10 : (Jvm.Cond.code ({ cls := "com/example/fieldstone/fieldstone/store/FileForm", name := "<init>", desc := "(Lcom/example/fieldstone/fieldstone/store/Header;Lcom/example/fieldstone/fieldstone/store/FileForm$Trailer;)V" } : Jvm.MethodName) prog_62_method_1_code (3 : Nat) (Option.none : Option Jvm.ClassFile.FieldType)).before args0 about1 = true := code_word (m := ⟨14, 0⟩) (meth := k14m0) (c := k14c0) (by decide +kernel) rfl rfl rfl (by decide +kernel)
set_option maxRecDepth 65536 in
theorem w_c11 : (Jvm.Cond.code ({ cls := "com/example/fieldstone/fieldstone/store/FileForm", name := "footer", desc := "()Z" } : Jvm.MethodName) prog_62_method_2_code (1 : Nat) (Option.some Jvm.ClassFile.FieldType.boolean)).before args0 about1 = true := code_word (m := ⟨14, 1⟩) (meth := k14m1) (c := k14c1) (by decide +kernel) rfl rfl rfl (by decide +kernel)
def codes1 : List Jvm.Cond := [Jvm.Cond.code x code maxLocals ret, Jvm.Cond.code ({ cls := "java/lang/String", name := "<init>", desc := "([C)V" } : Jvm.MethodName) jdk_42_method_3_code (2 : Nat) (Option.none : Option Jvm.ClassFile.FieldType), Jvm.Cond.code ({ cls := "java/lang/String", name := "<init>", desc := "([CIILjava/lang/Void;)V" } : Jvm.MethodName) jdk_42_method_149_code (6 : Nat) (Option.none : Option Jvm.ClassFile.FieldType), Jvm.Cond.code ({ cls := "java/lang/Object", name := "<init>", desc := "()V" } : Jvm.MethodName) object_method_1_code (1 : Nat) (Option.none : Option Jvm.ClassFile.FieldType), Jvm.Cond.code ({ cls := "java/lang/StringUTF16", name := "compress", desc := "([CII)[B" } : Jvm.MethodName) jdk_52_method_16_code (6 : Nat) (Option.some (Jvm.ClassFile.FieldType.array Jvm.ClassFile.FieldType.byte)), Jvm.Cond.code ({ cls := "java/lang/StringUTF16", name := "compress", desc := "([CI[BII)I" } : Jvm.MethodName) jdk_52_method_21_code (7 : Nat) (Option.some Jvm.ClassFile.FieldType.int), Jvm.Cond.code ({ cls := "java/lang/StringUTF16", name := "coderFromArrayLen", desc := "([BI)B" } : Jvm.MethodName) jdk_52_method_15_code (2 : Nat) (Option.some Jvm.ClassFile.FieldType.byte), Jvm.Cond.code ({ cls := "com/example/fieldstone/fieldstone/store/Header", name := "<init>", desc := "(Ljava/lang/String;I)V" } : Jvm.MethodName) prog_66_method_1_code (3 : Nat) (Option.none : Option Jvm.ClassFile.FieldType), Jvm.Cond.code ({ cls := "java/lang/Record", name := "<init>", desc := "()V" } : Jvm.MethodName) jdk_30_method_1_code (1 : Nat) (Option.none : Option Jvm.ClassFile.FieldType), Jvm.Cond.code ({ cls := "java/util/Objects", name := "requireNonNull", desc := "(Ljava/lang/Object;)Ljava/lang/Object;" } : Jvm.MethodName) jdk_31_method_10_code (1 : Nat) (Option.some (Jvm.ClassFile.FieldType.object "java/lang/Object")), Jvm.Cond.code ({ cls := "com/example/fieldstone/fieldstone/store/FileForm", name := "<init>", desc := "(Lcom/example/fieldstone/fieldstone/store/Header;Lcom/example/fieldstone/fieldstone/store/FileForm$Trailer;)V" } : Jvm.MethodName) prog_62_method_1_code (3 : Nat) (Option.none : Option Jvm.ClassFile.FieldType), Jvm.Cond.code ({ cls := "com/example/fieldstone/fieldstone/store/FileForm", name := "footer", desc := "()Z" } : Jvm.MethodName) prog_62_method_2_code (1 : Nat) (Option.some Jvm.ClassFile.FieldType.boolean)]
set_option maxRecDepth 65536 in
theorem codes_eq : words1.filter isCode = codes1 := rfl
theorem w_codes : ∀ c ∈ words1.filter isCode, c.before args0 about1 = true := by
  rw [codes_eq]
  intro c hc
  simp only [codes1, List.mem_cons, List.not_mem_nil, or_false] at hc
  rcases hc with rfl | rfl | rfl | rfl | rfl | rfl | rfl | rfl | rfl | rfl | rfl | rfl
  · exact w_c0
  · exact w_c1
  · exact w_c2
  · exact w_c3
  · exact w_c4
  · exact w_c5
  · exact w_c6
  · exact w_c7
  · exact w_c8
  · exact w_c9
  · exact w_c10
  · exact w_c11
set_option maxRecDepth 65536 in
theorem w_t1 : (words1.take 24).all (fun c => isCode c || c.before args0 about1) = true := by decide +kernel
set_option maxRecDepth 65536 in
theorem w_t2 : ((words1.drop 24).take 24).all (fun c => isCode c || c.before args0 about1) = true := by decide +kernel
set_option maxRecDepth 65536 in
theorem w_t3 : (((words1.drop 24).drop 24).take 24).all (fun c => isCode c || c.before args0 about1) = true := by decide +kernel
set_option maxRecDepth 65536 in
theorem w_t4 : (((words1.drop 24).drop 24).drop 24).all (fun c => isCode c || c.before args0 about1) = true := by decide +kernel
theorem w_tables : (allAtoms (Jvm.Cond.code x code maxLocals ret :: tables_1)).before args0 about1 = true := by
  rw [allAtoms_all]
  show words1.all (fun c => c.before args0 about1) = true
  refine all_split ?_ w_codes
  rw [← List.take_append_drop 24 words1, List.all_append, w_t1, ← List.take_append_drop 24 (words1.drop 24), List.all_append, w_t2, ← List.take_append_drop 24 ((words1.drop 24).drop 24), List.all_append, w_t3, w_t4]
  rfl
set_option maxRecDepth 65536 in
theorem w_rest : rest_1_c.before args0 about1 = true := by decide +kernel
set_option maxRecDepth 65536 in
theorem w_case : (Jvm.Cond.and given_1 narrow_1).before args0 about1 = true := by decide +kernel
theorem w_applies : (headSpec (Jvm.Cond.code x code maxLocals ret :: tables_1) room_1).applies x e0.platform about1 = true :=
  (Spec.applies_iff w_frames).mpr ⟨w_running, w_runnable, w_alone, w_named, w_hears, w_ripe, w_room, w_tables⟩
theorem atStart : AtStart classFile x code maxLocals ret World_1 tables_1 room_1 Calls_1 rest_1 Pre_1 launch0 p0 e0 about1 theMethod args0 below0 :=
  ⟨lists_1, trivial, launch0.admits_env _ _ _, launch0.least_env, fairChoices_fair.cas, fairChoices_fair.clock, w_frames, w_args, w_heap, w_applies, trivial, w_rest, w_case⟩
end start1
theorem witness_1 : WitnessClaimed_1 := ⟨start1.p0, start1.e0, start1.about1, start1.theMethod, start1.args0, start1.below0, start1.atStart⟩
end Jvm.Pilot.@@N@@
