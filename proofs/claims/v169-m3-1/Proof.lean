import JvmDerived
import JvmDerived.Pilot.@@N@@Statement
import JvmDerived.Pilot.@@N@@Code
set_option linter.unusedVariables false
set_option linter.unusedSimpArgs false
@@BLOCK:NumsL.lean.txt@@
@@BLOCK:Masks.lean.txt@@
namespace Jvm.RoadKit
open Sem ClassFile Op Lib Jvm.Stand Jvm.Free Jvm.LawKit
theorem retI {p : Program} {l : Launch} {e : Env} {R : Room} {s : State} {m : MethodId} {args : Array Value} {below : List Frame} {meth : Method} {c : Code} {T : State} {locs : List Loc} {cells slots : Nat} (X : Stand p l e R s m args below meth c T locs cells slots) (hx : p.tables.exec = Jvm.exec) {pc : Nat} {Ls : Array Slot} {z : Int32} {rest : List Value} (hret : meth.sig.returnType = some .int) (hd : decode c.code pc = .ok (.ireturn, 1)) {fs : List Frame}
    (hl : ∀ (f : JFrame) (acts : List Action), f.method = m → f.locked = none → f.entered = [] → (doReturn e (T.setTop f) acts (some (.int z))).1 = T.setFrames fs) : Steps p.tables e below (T.setTop (mkF m pc Ls (.int z :: rest))) (T.setFrames fs) :=
  retOut X hx hret rfl (Or.inl ⟨rfl, Or.inl rfl, z, rfl⟩) hd hl
end Jvm.RoadKit
/- laws to paste: Road.backV, Road.eqW, Road.lenW, Road.chN, Road.empW, Road.codOf (cut by pick.py; bodies as the Statement names them) -/
namespace Jvm.Pilot.@@N@@
namespace StrChars
open Jvm Sem ClassFile Op Lib Jvm.Stand Jvm.Free.XT Jvm.Free.ALB Jvm.Free.JM Jvm.Free
open Jvm.Lib.Cold (StaticIs)
/-- a char array whose places are chars -/
def Ch (a : Addr) (A : Cell) (U : State) : Prop := Arr .char a A U ∧ Typed .char A
theorem Ch.mv {a : Addr} {A : Cell} {U U' : State} (h : Ch a A U) (hal : U.vm.Alike U'.vm) (hh : U'.heap = U.heap) : Ch a A U' := ⟨h.1.mv hal hh, h.2⟩
theorem Ch.keep {a : Addr} {A : Cell} {U U' : State} (h : Ch a A U) (hal : U.vm.Alike U'.vm) (hk : U'.heap[a]? = some A) : Ch a A U' := ⟨h.1.keep hal hk, h.2⟩
/-- what place i of a char[]'s cell holds -/
def cv (A : Cell) (i : Nat) : Int32 := match A.slots[i]? with | some (.int x) => x | _ => 0
theorem Ch.get {a : Addr} {A : Cell} {U : State} (h : Ch a A U) {i : Nat} (hi : i < A.slots.size) : A.slots[i]? = some (.int (cv A i)) := by
  have e := Array.getElem?_eq_getElem hi
  have f := h.2 i _ e
  unfold cv; rw [e]
  generalize A.slots[i] = v at f
  cases v <;> simp [fits] at f ⊢
/-- the byte that i2b leaves of a char -/
def lo8 (x : Int32) : Int32 := x.toInt8.toInt32
theorem fits_lo8 (y : Int32) : fits .byte (.int (lo8 y)) = true := by
  have h1 := y.toInt8.le_toInt
  have h2 := y.toInt8.toInt_lt
  simp only [lo8, fits, Bool.and_eq_true, decide_eq_true_eq, Int32.le_iff_toInt_le, Int8.toInt_toInt32, show (-128 : Int32).toInt = -128 from by decide, show (127 : Int32).toInt = 127 from by decide]
  omega
/-- A' is A but that each place j of lo .. hi - 1 holds f j -/
def Laid (A A' : Cell) (lo hi : Nat) (f : Nat → Value) : Prop := A'.cls = A.cls ∧ A'.vm = A.vm ∧ A'.slots.size = A.slots.size ∧ ∀ i, A'.slots[i]? = if lo ≤ i ∧ i < hi then some (f i) else A.slots[i]?
theorem Laid.zero (A : Cell) (lo : Nat) (f : Nat → Value) : Laid A A lo (lo + 0) f := ⟨rfl, rfl, rfl, fun i => by rw [if_neg (by omega)]⟩
theorem Laid.step {A Ak : Cell} {lo k : Nat} {f : Nat → Value} {v : Value} (h : Laid A Ak lo k f) (hlo : lo ≤ k) (hk : k < Ak.slots.size) (hv : v = f k) : Laid A (Ak.setSlot k v) lo (k + 1) f := by
  refine ⟨h.1, h.2.1, by simpa [Cell.setSlot] using h.2.2.1, fun i => ?_⟩
  by_cases e : k = i
  · subst e; rw [Cell.slots_setSlot_self v hk, if_pos (by omega), hv]
  · rw [Cell.slots_setSlot_ne v e, h.2.2.2 i]
    by_cases q : lo ≤ i ∧ i < k
    · rw [if_pos q, if_pos (by omega)]
    · rw [if_neg q, if_neg (by omega)]
def U16 : String := "java/lang/StringUTF16"
namespace Cmp5
def yN : MethodName := ⟨"java/lang/StringUTF16", "compress", "([CI[BII)I"⟩
abbrev yB : ByteArray := jdk_52_method_21_code
theorem d0 : decode yB 0 = .ok (.iconst 0, 1) := by decide +kernel
theorem d1 : decode yB 1 = .ok (.istore 5, 2) := by decide +kernel
theorem d3 : decode yB 3 = .ok (.iload 5, 2) := by decide +kernel
theorem d5 : decode yB 5 = .ok (.iload 4, 2) := by decide +kernel
theorem d7 : decode yB 7 = .ok (.if_icmp (.ge) 37, 3) := by decide +kernel
theorem d10 : decode yB 10 = .ok (.aload_n 0, 1) := by decide +kernel
theorem d11 : decode yB 11 = .ok (.iload_n 1, 1) := by decide +kernel
theorem d12 : decode yB 12 = .ok (.caload, 1) := by decide +kernel
theorem d13 : decode yB 13 = .ok (.istore 6, 2) := by decide +kernel
theorem d15 : decode yB 15 = .ok (.iload 6, 2) := by decide +kernel
theorem d17 : decode yB 17 = .ok (.sipush 255, 3) := by decide +kernel
theorem d20 : decode yB 20 = .ok (.if_icmp (.le) 6, 3) := by decide +kernel
theorem d26 : decode yB 26 = .ok (.aload_n 2, 1) := by decide +kernel
theorem d27 : decode yB 27 = .ok (.iload_n 3, 1) := by decide +kernel
theorem d28 : decode yB 28 = .ok (.iload 6, 2) := by decide +kernel
theorem d30 : decode yB 30 = .ok (.i2b, 1) := by decide +kernel
theorem d31 : decode yB 31 = .ok (.bastore, 1) := by decide +kernel
theorem d32 : decode yB 32 = .ok (.iinc 1 1, 3) := by decide +kernel
theorem d35 : decode yB 35 = .ok (.iinc 3 1, 3) := by decide +kernel
theorem d38 : decode yB 38 = .ok (.iinc 5 1, 3) := by decide +kernel
theorem d41 : decode yB 41 = .ok (.goto (-38), 3) := by decide +kernel
theorem d44 : decode yB 44 = .ok (.iload 4, 2) := by decide +kernel
theorem d46 : decode yB 46 = .ok (.ireturn, 1) := by decide +kernel
def site : List Cond := []
def tab : Cond := tabOf yN yB 7 (some .int) site
def P (b : Addr) (A : Cell) (d : Addr) (B : Cell) (o q len : Nat) (args : Array Value) (s : State) : Prop := args = #[.ref b, .int (Int32.ofNat o), .ref d, .int (Int32.ofNat q), .int (Int32.ofNat len)] ∧ Ch b A s ∧ Arr .byte d B s ∧ b ≠ d ∧ o + len ≤ A.slots.size ∧ q + len ≤ B.slots.size ∧ ∀ i, i < len → ¬ 255 < cv A (o + i)
def E (b : Addr) (A : Cell) (d : Addr) (B : Cell) (o q len : Nat) (r : Option Value) (s u : State) : Prop := r = some (.int (Int32.ofNat len)) ∧ ∃ B', Put d B' s u ∧ Laid B B' q (q + len) (fun j => Value.int (lo8 (cv A (o + (j - q)))))
/-- no char of the range above 255: len; the places written hold each char's low byte -/
theorem law (l : Launch) (b : Addr) (A : Cell) (d : Addr) (B : Cell) (o q len : Nat) : Law l yN 5 5 0 0 yB 7 (some .int) site (P b A d B o q len) (E b A d B o q len) (copyLocs d q len) 0 0 := by
  refine Law.of_walk (plainFor_of_name (by decide +kernel)) (by decide +kernel) (by decide +kernel) (by decide) (fun _ _ h => by rw [h.1]; rfl) (fun _ U U' hal hh h => ⟨h.1, h.2.1.mv hal hh, h.2.2.1.mv hal hh, h.2.2.2⟩) (fun r U U' V V' h1 hal h2 h => ⟨h.1, h.2.elim fun B' q => ⟨B', q.1.mv h1 h2, q.2⟩⟩) ?_
  intro p e s m args below meth c s₁ X0 hexec hbytes hml hret hlk hnm hown hh0 W hP
  obtain ⟨rfl, hA, hB, hne, l1, l2, hp⟩ := hP
  have c1 : Steps p.tables e below (s₁.setTop (entryFrame m #[.ref b, .int (Int32.ofNat o), .ref d, .int (Int32.ofNat q), .int (Int32.ofNat len)] 7)) (s₁.setTop (mkF m 0 #[.val (.ref b), .val (.int (Int32.ofNat o)), .val (.ref d), .val (.int (Int32.ofNat q)), .val (.int (Int32.ofNat len)), .unset, .unset] [])) := entry rfl
  have hA0 := hA.1.mv X0.warmed.alike hh0
  have hB0 := hB.mv X0.warmed.alike hh0
  have a31 := hA.1.2.2.2
  have c2 : Steps p.tables e below (s₁.setTop (entryFrame m #[.ref b, .int (Int32.ofNat o), .ref d, .int (Int32.ofNat q), .int (Int32.ofNat len)] 7)) (s₁.setTop (mkF m 3 #[.val (.ref b), .val (.int (Int32.ofNat o)), .val (.ref d), .val (.int (Int32.ofNat q)), .val (.int (Int32.ofNat len)), .val (.int 0), .unset] [])) := c1.trans (by
    refine iconstV X0.here hexec rfl 0 (hb hbytes d0) (by decide) ?_
    refine XS.istore X0.here hexec rfl (hb hbytes d1) rfl rfl ?_
    exact Steps.refl _)
  have loop : ∀ (r i : Nat), i + r = len → ∀ (z : Slot), (z = .unset ∨ ∃ w, z = .val w ∧ w.category = 1) → ∀ (Tl : State) (Bk : Cell), Stand p l e { frames := 0, locals := 0, cells := 0, slots := 0 } s m #[.ref b, .int (Int32.ofNat o), .ref d, .int (Int32.ofNat q), .int (Int32.ofNat len)] below meth c Tl ([] ++ copyLocs d q i) 0 0 → Put d Bk s₁ Tl → Laid B Bk q (q + i) (fun j => Value.int (lo8 (cv A (o + (j - q))))) →
      Steps p.tables e below (s₁.setTop (entryFrame m #[.ref b, .int (Int32.ofNat o), .ref d, .int (Int32.ofNat q), .int (Int32.ofNat len)] 7)) (Tl.setTop (mkF m 3 #[.val (.ref b), .val (.int (Int32.ofNat (o + i))), .val (.ref d), .val (.int (Int32.ofNat (q + i))), .val (.int (Int32.ofNat len)), .val (.int (Int32.ofNat i)), z] [])) → ∃ (T' : State) (B' : Cell) (z' : Slot), Stand p l e { frames := 0, locals := 0, cells := 0, slots := 0 } s m #[.ref b, .int (Int32.ofNat o), .ref d, .int (Int32.ofNat q), .int (Int32.ofNat len)] below meth c T' ([] ++ copyLocs d q len) 0 0 ∧ Put d B' s₁ T' ∧ Laid B B' q (q + len) (fun j => Value.int (lo8 (cv A (o + (j - q))))) ∧
      Steps p.tables e below (s₁.setTop (entryFrame m #[.ref b, .int (Int32.ofNat o), .ref d, .int (Int32.ofNat q), .int (Int32.ofNat len)] 7)) (T'.setTop (mkF m 3 #[.val (.ref b), .val (.int (Int32.ofNat (o + len))), .val (.ref d), .val (.int (Int32.ofNat (q + len))), .val (.int (Int32.ofNat len)), .val (.int (Int32.ofNat len)), z'] [])) := by
    intro r
    induction r with
    | zero =>
      intro i hi z hz Tl Bk Xl pl fl cl
      have hil : i = len := by omega
      rw [hil] at Xl fl cl
      exact ⟨Tl, Bk, z, Xl, pl, fl, cl⟩
    | succ r ih =>
      intro i hi z hz Tl Bk Xl pl fl cl
      have all := X0.warmed.alike.symm.trans Xl.warmed.alike
      have hAl := hA0.keep all (pl.other hne hA0.1)
      have hBk := hB0.like all pl.1 fl.1 fl.2.1 fl.2.2.1
      have hlt : q + i < Bk.slots.size := by rw [fl.2.2.1]; omega
      have c3 : Steps p.tables e below (s₁.setTop (entryFrame m #[.ref b, .int (Int32.ofNat o), .ref d, .int (Int32.ofNat q), .int (Int32.ofNat len)] 7)) (Tl.setTop (mkF m 12 #[.val (.ref b), .val (.int (Int32.ofNat (o + i))), .val (.ref d), .val (.int (Int32.ofNat (q + i))), .val (.int (Int32.ofNat len)), .val (.int (Int32.ofNat i)), z] [.int (Int32.ofNat (o + i)), .ref b])) := cl.trans (by
        refine XS.iload Xl.here hexec rfl (hb hbytes d3) rfl ?_
        refine XS.iload Xl.here hexec rfl (hb hbytes d5) rfl ?_
        refine XS.icmpNo Xl.here hexec rfl (hb hbytes d7) rfl (ii_ge_f (lt32 (by omega) (by omega))) ?_
        refine XS.aloadN Xl.here hexec rfl (hb hbytes d10) rfl rfl ?_
        refine XS.iloadN Xl.here hexec rfl (hb hbytes d11) rfl ?_
        exact Steps.refl _)
      have c4 : Steps p.tables e below (s₁.setTop (entryFrame m #[.ref b, .int (Int32.ofNat o), .ref d, .int (Int32.ofNat q), .int (Int32.ofNat len)] 7)) (Tl.setTop (mkF m 13 #[.val (.ref b), .val (.int (Int32.ofNat (o + i))), .val (.ref d), .val (.int (Int32.ofNat (q + i))), .val (.int (Int32.ofNat len)), .val (.int (Int32.ofNat i)), z] [.int (cv A (o + i))])) := c3.trans (by
        refine Xl.aget hexec hAl rfl (hA.get (i := o + i) (by omega)) rfl rfl (hb hbytes d12) ?_
        exact Steps.refl _)
      have c5 : Steps p.tables e below (s₁.setTop (entryFrame m #[.ref b, .int (Int32.ofNat o), .ref d, .int (Int32.ofNat q), .int (Int32.ofNat len)] 7)) (Tl.setTop (mkF m 15 #[.val (.ref b), .val (.int (Int32.ofNat (o + i))), .val (.ref d), .val (.int (Int32.ofNat (q + i))), .val (.int (Int32.ofNat len)), .val (.int (Int32.ofNat i)), .val (.int (cv A (o + i)))] [])) := c4.trans (by
        refine XS.istoreS Xl.here hexec rfl (hb hbytes d13) rfl rfl hz ?_
        exact Steps.refl _)
      have c6 : Steps p.tables e below (s₁.setTop (entryFrame m #[.ref b, .int (Int32.ofNat o), .ref d, .int (Int32.ofNat q), .int (Int32.ofNat len)] 7)) (Tl.setTop (mkF m 31 #[.val (.ref b), .val (.int (Int32.ofNat (o + i))), .val (.ref d), .val (.int (Int32.ofNat (q + i))), .val (.int (Int32.ofNat len)), .val (.int (Int32.ofNat i)), .val (.int (cv A (o + i)))] [.int (lo8 (cv A (o + i))), .int (Int32.ofNat (q + i)), .ref d])) := c5.trans (by
        refine XS.iload Xl.here hexec rfl (hb hbytes d15) rfl ?_
        refine sipushV Xl.here hexec rfl 255 (hb hbytes d17) (by decide) ?_
        refine XS.icmpYes Xl.here hexec rfl (pc0 := 20) rfl (hb hbytes d20) rfl (ii_le_t (hp i (by omega))) (by decide) rfl ?_
        refine XS.aloadN Xl.here hexec rfl (hb hbytes d26) rfl rfl ?_
        refine XS.iloadN Xl.here hexec rfl (hb hbytes d27) rfl ?_
        refine XS.iload Xl.here hexec rfl (hb hbytes d28) rfl ?_
        refine i2b Xl.here hexec rfl (hb hbytes d30) rfl ?_
        exact Steps.refl _)
      obtain ⟨T7, X7, p7, st7⟩ := Xl.aput hexec hBk rfl hlt rfl (fits_lo8 (cv A (o + i))) (g := (mkF m 31 #[.val (.ref b), .val (.int (Int32.ofNat (o + i))), .val (.ref d), .val (.int (Int32.ofNat (q + i))), .val (.int (Int32.ofNat len)), .val (.int (Int32.ofNat i)), .val (.int (cv A (o + i)))] [.int (lo8 (cv A (o + i))), .int (Int32.ofNat (q + i)), .ref d])) rfl (rest := []) rfl (hb hbytes d31)
      have c8 : Steps p.tables e below (s₁.setTop (entryFrame m #[.ref b, .int (Int32.ofNat o), .ref d, .int (Int32.ofNat q), .int (Int32.ofNat len)] 7)) (T7.setTop (mkF m 32 #[.val (.ref b), .val (.int (Int32.ofNat (o + i))), .val (.ref d), .val (.int (Int32.ofNat (q + i))), .val (.int (Int32.ofNat len)), .val (.int (Int32.ofNat i)), .val (.int (cv A (o + i)))] [])) := c6.trans (st7 _ (Steps.refl _))
      have c9 : Steps p.tables e below (s₁.setTop (entryFrame m #[.ref b, .int (Int32.ofNat o), .ref d, .int (Int32.ofNat q), .int (Int32.ofNat len)] 7)) (T7.setTop (mkF m 3 #[.val (.ref b), .val (.int (Int32.ofNat (o + i) + 1)), .val (.ref d), .val (.int (Int32.ofNat (q + i) + 1)), .val (.int (Int32.ofNat len)), .val (.int (Int32.ofNat i + 1)), .val (.int (cv A (o + i)))] [])) := c8.trans (by
        refine iincV X7.here hexec rfl 1 (hb hbytes d32) (by decide) rfl rfl ?_
        refine iincV X7.here hexec rfl 1 (hb hbytes d35) (by decide) rfl rfl ?_
        refine iincV X7.here hexec rfl 1 (hb hbytes d38) (by decide) rfl rfl ?_
        refine XS.goto X7.here hexec rfl (pc0 := 41) rfl (hb hbytes d41) (by decide) rfl ?_
        exact Steps.refl _)
      have c10 : Steps p.tables e below (s₁.setTop (entryFrame m #[.ref b, .int (Int32.ofNat o), .ref d, .int (Int32.ofNat q), .int (Int32.ofNat len)] 7)) (T7.setTop (mkF m 3 #[.val (.ref b), .val (.int (Int32.ofNat (o + (i + 1)))), .val (.ref d), .val (.int (Int32.ofNat (q + (i + 1)))), .val (.int (Int32.ofNat len)), .val (.int (Int32.ofNat (i + 1))), .val (.int (cv A (o + i)))] [])) := by
        have := c9
        rw [succ32, succ32, succ32] at this
        exact this
      exact ih (i + 1) (by omega) _ (Or.inr ⟨_, rfl, rfl⟩) T7 _ (by rw [copyLocs_step, ← List.append_assoc]; exact X7) (pl.trans p7) (fl.step (by omega) hlt (by simp)) c10
  obtain ⟨T9, B9, z9, X9, p9, f9, g9⟩ := loop len 0 (by omega) .unset (Or.inl rfl) s₁ B (by simpa [copyLocs] using X0) ⟨hB0.1, fun _ _ => rfl, rfl⟩ (Laid.zero _ _ _) c2
  have c11 : Steps p.tables e below (s₁.setTop (entryFrame m #[.ref b, .int (Int32.ofNat o), .ref d, .int (Int32.ofNat q), .int (Int32.ofNat len)] 7)) (T9.setTop (mkF m 46 #[.val (.ref b), .val (.int (Int32.ofNat (o + len))), .val (.ref d), .val (.int (Int32.ofNat (q + len))), .val (.int (Int32.ofNat len)), .val (.int (Int32.ofNat len)), z9] [.int (Int32.ofNat len)])) := g9.trans (by
    refine XS.iload X9.here hexec rfl (hb hbytes d3) rfl ?_
    refine XS.iload X9.here hexec rfl (hb hbytes d5) rfl ?_
    refine XS.icmpYes X9.here hexec rfl (pc0 := 7) rfl (hb hbytes d7) rfl (ii_ge_t (nlt32 (by omega) (Nat.le_refl _))) (by decide) rfl ?_
    refine XS.iload X9.here hexec rfl (hb hbytes d44) rfl ?_
    exact Steps.refl _)
  exact ⟨T9, some (.int (Int32.ofNat len)), _, _, _, X9, by simp, rfl, rfl, (fun h => by cases h), ⟨rfl, B9, p9.from hh0, f9⟩, fun fs hl => c11.trans (X9.ireturnOut hexec hret rfl (Or.inl rfl) (hb hbytes d46) hl)⟩
end Cmp5
namespace Cmp3
def yN : MethodName := ⟨"java/lang/StringUTF16", "compress", "([CII)[B"⟩
abbrev yB : ByteArray := jdk_52_method_16_code
theorem d0 : decode yB 0 = .ok (.iload_n 2, 1) := by decide +kernel
theorem d1 : decode yB 1 = .ok (.newarray .byte, 2) := by decide +kernel
theorem d3 : decode yB 3 = .ok (.astore_n 3, 1) := by decide +kernel
theorem d4 : decode yB 4 = .ok (.aload_n 0, 1) := by decide +kernel
theorem d5 : decode yB 5 = .ok (.iload_n 1, 1) := by decide +kernel
theorem d6 : decode yB 6 = .ok (.aload_n 3, 1) := by decide +kernel
theorem d7 : decode yB 7 = .ok (.iconst 0, 1) := by decide +kernel
theorem d8 : decode yB 8 = .ok (.iload_n 2, 1) := by decide +kernel
theorem d9 : decode yB 9 = .ok (.invokestatic 115, 3) := by decide +kernel
theorem d12 : decode yB 12 = .ok (.istore 4, 2) := by decide +kernel
theorem d14 : decode yB 14 = .ok (.iload 4, 2) := by decide +kernel
theorem d16 : decode yB 16 = .ok (.iload_n 2, 1) := by decide +kernel
theorem d17 : decode yB 17 = .ok (.if_icmp (.eq) 40, 3) := by decide +kernel
theorem d57 : decode yB 57 = .ok (.aload_n 3, 1) := by decide +kernel
theorem d58 : decode yB 58 = .ok (.areturn, 1) := by decide +kernel
def site : List Cond := [.arrayClass .byte, Cmp5.tab] ++ staticW U16 115 Cmp5.yN
def tab : Cond := tabOf yN yB 6 (some (.array .byte)) site
def P (b : Addr) (A : Cell) (o len : Nat) (args : Array Value) (s : State) : Prop := args = #[.ref b, .int (Int32.ofNat o), .int (Int32.ofNat len)] ∧ Ch b A s ∧ o + len ≤ A.slots.size ∧ len ≤ 536870912 ∧ ∀ i, i < len → ¬ 255 < cv A (o + i)
def E (b : Addr) (A : Cell) (o len : Nat) (r : Option Value) (s u : State) : Prop := NewArr .byte "[B" len (fun j => .int (lo8 (cv A (o + j)))) r s u ∧ u.heap.size = s.heap.size + 1
/-- no char of the range above 255: a new byte[] of their low bytes -/
theorem law (l : Launch) (b : Addr) (A : Cell) (o len : Nat) : Law l yN 3 3 1 18 yB 6 (some (.array .byte)) site (P b A o len) (E b A o len) [] 1 len := by
  refine Law.of_walk (plainFor_of_name (by decide +kernel)) (by decide +kernel) (by decide +kernel) (by decide) (fun _ _ h => by rw [h.1]; rfl) (fun _ U U' hal hh h => ⟨h.1, h.2.1.mv hal hh, h.2.2⟩) (fun r U U' V V' h1 hal h2 h => ⟨NewArr.mv r U U' V V' h1 hal h2 h.1, by rw [h1, h2]; exact h.2⟩) ?_
  intro p e s m args below meth c s₁ X0 hexec hbytes hml hret hlk hnm hown hh0 W hP
  obtain ⟨rfl, hA, l1, l2, hp⟩ := hP
  have a31 := hA.1.2.2.2
  have c1 : Steps p.tables e below (s₁.setTop (entryFrame m #[.ref b, .int (Int32.ofNat o), .int (Int32.ofNat len)] 6)) (s₁.setTop (mkF m 0 #[.val (.ref b), .val (.int (Int32.ofNat o)), .val (.int (Int32.ofNat len)), .unset, .unset, .unset] [])) := entry rfl
  have c2 : Steps p.tables e below (s₁.setTop (entryFrame m #[.ref b, .int (Int32.ofNat o), .int (Int32.ofNat len)] 6)) (s₁.setTop (mkF m 1 #[.val (.ref b), .val (.int (Int32.ofNat o)), .val (.int (Int32.ofNat len)), .unset, .unset, .unset] [.int (Int32.ofNat len)])) := c1.trans (by
    refine XS.iloadN X0.here hexec rfl (hb hbytes d0) rfl ?_
    exact Steps.refl _)
  obtain ⟨T3, B3, X3, ba3, bs3, bv3, bh3, bf3, st3⟩ := X0.anew hexec (atype := .byte) (wk W (.arrayClass .byte)) rfl (by show len * 1 ≤ _; omega) (by omega) (g := (mkF m 1 #[.val (.ref b), .val (.int (Int32.ofNat o)), .val (.int (Int32.ofNat len)), .unset, .unset, .unset] [.int (Int32.ofNat len)])) rfl (hb hbytes d1) (rest := []) rfl (Nat.le_refl _) (by show 0 + len ≤ len; omega)
  rw [hh0] at ba3 st3
  have kp3 : XT.Kept s T3 := (XT.Kept.of_eq hh0).push bh3
  have hA3 := hA.keep X3.warmed.alike (kp3 _ _ hA.1.1)
  have hne : b ≠ s.heap.size := hA.1.ne
  have c4 : Steps p.tables e below (s₁.setTop (entryFrame m #[.ref b, .int (Int32.ofNat o), .int (Int32.ofNat len)] 6)) (T3.setTop (mkF m 3 #[.val (.ref b), .val (.int (Int32.ofNat o)), .val (.int (Int32.ofNat len)), .unset, .unset, .unset] [.ref s.heap.size])) := c2.trans (st3 _ (Steps.refl _))
  have c5 : Steps p.tables e below (s₁.setTop (entryFrame m #[.ref b, .int (Int32.ofNat o), .int (Int32.ofNat len)] 6)) (T3.setTop (mkF m 9 #[.val (.ref b), .val (.int (Int32.ofNat o)), .val (.int (Int32.ofNat len)), .val (.ref s.heap.size), .unset, .unset] [.int (Int32.ofNat len), .int 0, .ref s.heap.size, .int (Int32.ofNat o), .ref b])) := c4.trans (by
    refine XS.astoreN X3.here hexec rfl (hb hbytes d3) rfl rfl rfl ?_
    refine XS.aloadN X3.here hexec rfl (hb hbytes d4) rfl rfl ?_
    refine XS.iloadN X3.here hexec rfl (hb hbytes d5) rfl ?_
    refine XS.aloadN X3.here hexec rfl (hb hbytes d6) rfl rfl ?_
    refine iconstV X3.here hexec rfl 0 (hb hbytes d7) (by decide) ?_
    refine XS.iloadN X3.here hexec rfl (hb hbytes d8) rfl ?_
    exact Steps.refl _)
  obtain ⟨v6, T6, X6, E6, g6⟩ := X3.callS hexec (Cmp5.law l b A s.heap.size B3 o 0 len) hown (wks W (staticW U16 115 Cmp5.yN)) (wk W Cmp5.tab) (W := 0) (Nat.le_of_ble_eq_true rfl) (Nat.le_of_ble_eq_true rfl) (Nat.le_refl _) (by show 0 + len + 0 ≤ len; omega) (g := (mkF m 9 #[.val (.ref b), .val (.int (Int32.ofNat o)), .val (.int (Int32.ofNat len)), .val (.ref s.heap.size), .unset, .unset] [.int (Int32.ofNat len), .int (Int32.ofNat 0), .ref s.heap.size, .int (Int32.ofNat o), .ref b])) rfl (by rw [hml]; rfl) c5 (argsL := [.ref b, .int (Int32.ofNat o), .ref s.heap.size, .int (Int32.ofNat 0), .int (Int32.ofNat len)]) (rest := []) rfl rfl (by show 2 * 0 + 0 ≤ _; decide) (hb hbytes d9) (⟨rfl, hA3, ba3, hne, l1, by rw [bs3]; simp, hp⟩)
  obtain ⟨rfl, B6, p6, f6⟩ := E6
  have c7 : Steps p.tables e below (s₁.setTop (entryFrame m #[.ref b, .int (Int32.ofNat o), .int (Int32.ofNat len)] 6)) (T6.setTop (mkF m 12 #[.val (.ref b), .val (.int (Int32.ofNat o)), .val (.int (Int32.ofNat len)), .val (.ref s.heap.size), .unset, .unset] [.int (Int32.ofNat len)])) := g6
  have c8 : Steps p.tables e below (s₁.setTop (entryFrame m #[.ref b, .int (Int32.ofNat o), .int (Int32.ofNat len)] 6)) (T6.setTop (mkF m 58 #[.val (.ref b), .val (.int (Int32.ofNat o)), .val (.int (Int32.ofNat len)), .val (.ref s.heap.size), .val (.int (Int32.ofNat len)), .unset] [.ref s.heap.size])) := c7.trans (by
    refine XS.istore X6.here hexec rfl (hb hbytes d12) rfl rfl ?_
    refine XS.iload X6.here hexec rfl (hb hbytes d14) rfl ?_
    refine XS.iloadN X6.here hexec rfl (hb hbytes d16) rfl ?_
    refine XS.icmpYes X6.here hexec rfl (pc0 := 17) rfl (hb hbytes d17) rfl (ii_eq_t rfl) (by decide) rfl ?_
    refine XS.aloadN X6.here hexec rfl (hb hbytes d57) rfl rfl ?_
    exact Steps.refl _)
  have X8 := X6.wide (L' := []) (cells' := 1) (slots' := len) (fun x hx hlt => by
    simp only [List.nil_append, copyLocs, List.mem_map, List.mem_range] at hx
    obtain ⟨i, -, rfl⟩ := hx
    exact absurd hlt (Nat.lt_irrefl _)) (Nat.le_refl _) (by omega)
  exact ⟨T6, some (.ref s.heap.size), _, _, _, X8, rfl, rfl, rfl, (fun h => by cases h), ⟨⟨rfl, B6, ba3.like (X3.warmed.alike.symm.trans X6.warmed.alike) p6.1 f6.1 f6.2.1 f6.2.2.1, f6.2.1.trans bv3, by rw [X6.warmed.alike.findClass, f6.1]; exact bf3, by rw [f6.2.2.1, bs3]; simp, fun j hj => by rw [f6.2.2.2 j, if_pos (by omega)]; rfl, kp3.put p6 (Nat.le_refl _)⟩, by rw [p6.2.2, bh3, hh0]; simp⟩, fun fs hl => c8.trans (X8.areturnOut hexec rfl hret rfl (hb hbytes d58) hl)⟩
end Cmp3
namespace CodL
def yN : MethodName := ⟨"java/lang/StringUTF16", "coderFromArrayLen", "([BI)B"⟩
abbrev yB : ByteArray := jdk_52_method_15_code
theorem d0 : decode yB 0 = .ok (.iload_n 1, 1) := by decide +kernel
theorem d1 : decode yB 1 = .ok (.aload_n 0, 1) := by decide +kernel
theorem d2 : decode yB 2 = .ok (.arraylength, 1) := by decide +kernel
theorem d3 : decode yB 3 = .ok (.isub, 1) := by decide +kernel
theorem d4 : decode yB 4 = .ok (.bipush 31, 2) := by decide +kernel
theorem d6 : decode yB 6 = .ok (.iushr, 1) := by decide +kernel
theorem d7 : decode yB 7 = .ok (.i2b, 1) := by decide +kernel
theorem d8 : decode yB 8 = .ok (.ireturn, 1) := by decide +kernel
def site : List Cond := []
def tab : Cond := tabOf yN yB 2 (some .byte) site
def P (d : Addr) (B : Cell) (args : Array Value) (s : State) : Prop := args = #[.ref d, .int (Int32.ofNat B.slots.size)] ∧ Arr .byte d B s
def E (r : Option Value) (s u : State) : Prop := XT.PureE (some (.int 0)) r s u
/-- an array as long as the number of chars: LATIN1 -/
theorem law (l : Launch) (d : Addr) (B : Cell) : Law l yN 2 2 0 0 yB 2 (some .byte) site (P d B) E [] 0 0 := by
  refine Law.of_walk (plainFor_of_name (by decide +kernel)) (by decide +kernel) (by decide +kernel) (by decide) (fun _ _ h => by rw [h.1]; rfl) (fun _ U U' hal hh h => ⟨h.1, h.2.mv hal hh⟩) (fun r U U' V V' h1 hal h2 h => XT.PureE.mv r U U' V V' h1 hal h2 h) ?_
  intro p e s m args below meth c s₁ X0 hexec hbytes hml hret hlk hnm hown hh0 W hP
  obtain ⟨rfl, hB⟩ := hP
  have hB0 := hB.mv X0.warmed.alike hh0
  have c1 : Steps p.tables e below (s₁.setTop (entryFrame m #[.ref d, .int (Int32.ofNat B.slots.size)] 2)) (s₁.setTop (mkF m 0 #[.val (.ref d), .val (.int (Int32.ofNat B.slots.size))] [])) := entry rfl
  have c2 : Steps p.tables e below (s₁.setTop (entryFrame m #[.ref d, .int (Int32.ofNat B.slots.size)] 2)) (s₁.setTop (mkF m 2 #[.val (.ref d), .val (.int (Int32.ofNat B.slots.size))] [.ref d, .int (Int32.ofNat B.slots.size)])) := c1.trans (by
    refine XS.iloadN X0.here hexec rfl (hb hbytes d0) rfl ?_
    refine XS.aloadN X0.here hexec rfl (hb hbytes d1) rfl rfl ?_
    exact Steps.refl _)
  have c3 : Steps p.tables e below (s₁.setTop (entryFrame m #[.ref d, .int (Int32.ofNat B.slots.size)] 2)) (s₁.setTop (mkF m 8 #[.val (.ref d), .val (.int (Int32.ofNat B.slots.size))] [.int (lo8 (ushr (Int32.ofNat B.slots.size - Int32.ofNat B.slots.size) 31))])) := c2.trans (by
    refine X0.alen hexec hB0 rfl rfl (hb hbytes d2) ?_
    refine XS.isub X0.here hexec rfl (hb hbytes d3) rfl ?_
    refine bipushV X0.here hexec rfl 31 (hb hbytes d4) (by decide) ?_
    refine iushr X0.here hexec rfl (hb hbytes d6) rfl ?_
    refine i2b X0.here hexec rfl (hb hbytes d7) rfl ?_
    exact Steps.refl _)
  have e0 : lo8 (ushr (Int32.ofNat B.slots.size - Int32.ofNat B.slots.size) 31) = 0 := by rw [Int32.sub_self]; decide
  rw [e0] at c3
  exact ⟨s₁, some (.int 0), _, _, _, X0, rfl, rfl, rfl, (fun h => by cases h), ⟨rfl, hh0⟩, fun fs hl => c3.trans (X0.ireturnOut hexec hret rfl (Or.inr (Or.inr (Or.inl rfl))) (hb hbytes d8) hl)⟩
end CodL
/-- the String at a is Latin-1 over a new byte[] (the heap's one new cell): the low bytes of the len chars of A from o on; every cell but a is kept -/
def Got (a : Addr) (D : Cell) (fV fC : Field) (A : Cell) (o len : Nat) (r : Option Value) (s u : State) : Prop := r = none ∧ ∃ D' V : Cell, Blank "java/lang/String" a D' u ∧ Same D D' [fV.slot, fC.slot] ∧ D'.slots[fV.slot]? = some (.ref s.heap.size) ∧ D'.slots[fC.slot]? = some (.int 0) ∧ Arr .byte s.heap.size V u ∧ V.vm = .none ∧ u.vm.findClass "[B" = some V.cls ∧ V.slots.size = len ∧ (∀ j, j < len → V.slots[j]? = some (.int (lo8 (cv A (o + j))))) ∧ (∀ (y : Addr) (c : Cell), y ≠ a → s.heap[y]? = some c → u.heap[y]? = some c) ∧ u.heap.size = s.heap.size + 1
theorem Got.mv {a : Addr} {D A : Cell} {fV fC : Field} {o len : Nat} : ∀ r (U U' V V' : State), U'.heap = U.heap → V.vm.Alike V'.vm → V'.heap = V.heap → Got a D fV fC A o len r U V → Got a D fV fC A o len r U' V' :=
  fun r U U' V V' h1 hal h2 ⟨e0, D', X, a1, a2, a3, a4, a5, a6, a7, a8, a9, a10, a11⟩ => ⟨e0, D', X, a1.mv hal h2, a2, by rw [h1]; exact a3, a4, by rw [h1]; exact a5.mv hal h2, a6, by rw [hal.findClass]; exact a7, a8, a9, by rw [h1, h2]; exact a10, by rw [h1, h2]; exact a11⟩
namespace New4
def yN : MethodName := ⟨"java/lang/String", "<init>", "([CIILjava/lang/Void;)V"⟩
abbrev yB : ByteArray := jdk_42_method_149_code
theorem d0 : decode yB 0 = .ok (.aload_n 0, 1) := by decide +kernel
theorem d1 : decode yB 1 = .ok (.invokespecial 1, 3) := by decide +kernel
theorem d4 : decode yB 4 = .ok (.iload_n 3, 1) := by decide +kernel
theorem d5 : decode yB 5 = .ok (.ifCond (.ne) 22, 3) := by decide +kernel
theorem d27 : decode yB 27 = .ok (.getstatic 38, 3) := by decide +kernel
theorem d30 : decode yB 30 = .ok (.ifCond (.eq) 28, 3) := by decide +kernel
theorem d33 : decode yB 33 = .ok (.aload_n 1, 1) := by decide +kernel
theorem d34 : decode yB 34 = .ok (.iload_n 2, 1) := by decide +kernel
theorem d35 : decode yB 35 = .ok (.iload_n 3, 1) := by decide +kernel
theorem d36 : decode yB 36 = .ok (.invokestatic 177, 3) := by decide +kernel
theorem d39 : decode yB 39 = .ok (.astore 5, 2) := by decide +kernel
theorem d41 : decode yB 41 = .ok (.aload_n 0, 1) := by decide +kernel
theorem d42 : decode yB 42 = .ok (.aload 5, 2) := by decide +kernel
theorem d44 : decode yB 44 = .ok (.iload_n 3, 1) := by decide +kernel
theorem d45 : decode yB 45 = .ok (.invokestatic 47, 3) := by decide +kernel
theorem d48 : decode yB 48 = .ok (.putfield 15, 3) := by decide +kernel
theorem d51 : decode yB 51 = .ok (.aload_n 0, 1) := by decide +kernel
theorem d52 : decode yB 52 = .ok (.aload 5, 2) := by decide +kernel
theorem d54 : decode yB 54 = .ok (.putfield 9, 3) := by decide +kernel
theorem d57 : decode yB 57 = .ok (.return_, 1) := by decide +kernel
def site : List Cond := [.fieldLink "java/lang/String" 38 "java/lang/String" "COMPACT_STRINGS" "Z", Cmp3.tab, CodL.tab, .laysFinal "java/lang/String" "java/lang/String" "value" "[B", .fieldLink "java/lang/String" 9 "java/lang/String" "value" "[B", .laysFinal "java/lang/String" "java/lang/String" "coder" "B", .fieldLink "java/lang/String" 15 "java/lang/String" "coder" "B"] ++ objW "java/lang/String" 1 ++ staticW "java/lang/String" 177 Cmp3.yN ++ staticW "java/lang/String" 47 CodL.yN
def tab : Cond := tabOf yN yB 6 none site
def P (a : Addr) (D : Cell) (fV fC : Field) (b : Addr) (A : Cell) (z : Int32) (o len : Nat) (args : Array Value) (s : State) : Prop := args = #[.ref a, .ref b, .int (Int32.ofNat o), .int (Int32.ofNat len), .null] ∧ Blank "java/lang/String" a D s ∧ Found "java/lang/String" "value" "[B" fV s ∧ Found "java/lang/String" "coder" "B" fC s ∧ Ch b A s ∧ StaticIs s "java/lang/String" "COMPACT_STRINGS" "Z" (.int z) ∧ ¬ z = 0 ∧ 0 < len ∧ o + len ≤ A.slots.size ∧ len ≤ 536870912 ∧ ∀ i, i < len → ¬ 255 < cv A (o + i)
def E (a : Addr) (D : Cell) (fV fC : Field) (A : Cell) (o len : Nat) (r : Option Value) (s u : State) : Prop := Got a D fV fC A o len r s u
/-- len > 0, no char of the range above 255: a Latin-1 String of their low bytes -/
theorem law (l : Launch) (a : Addr) (D : Cell) (fV fC : Field) (b : Addr) (A : Cell) (z : Int32) (o len : Nat) : Law l yN 5 4 2 35 yB 6 none site (P a D fV fC b A z o len) (E a D fV fC A o len) [⟨a, fC.slot⟩, ⟨a, fV.slot⟩] 1 len := by
  refine Law.of_walk (plainFor_of_name (by decide +kernel)) (by decide +kernel) (by decide +kernel) (by decide) (fun _ _ h => by rw [h.1]; rfl) (fun _ U U' hal hh h => ⟨h.1, h.2.1.mv hal hh, h.2.2.1.al hal, h.2.2.2.1.al hal, h.2.2.2.2.1.mv hal hh, h.2.2.2.2.2.1.there hal hh, h.2.2.2.2.2.2⟩) (fun r U U' V V' h1 hal h2 h => Got.mv r U U' V V' h1 hal h2 h) ?_
  intro p e s m args below meth c s₁ X0 hexec hbytes hml hret hlk hnm hown hh0 W hP
  obtain ⟨rfl, hB, f1, f2, hA, s1, hz, l0, l1, l2, hp⟩ := hP
  have a31 := hA.1.2.2.2
  have c1 : Steps p.tables e below (s₁.setTop (entryFrame m #[.ref a, .ref b, .int (Int32.ofNat o), .int (Int32.ofNat len), .null] 6)) (s₁.setTop (mkF m 0 #[.val (.ref a), .val (.ref b), .val (.int (Int32.ofNat o)), .val (.int (Int32.ofNat len)), .val .null, .unset] [])) := entry rfl
  have c2 : Steps p.tables e below (s₁.setTop (entryFrame m #[.ref a, .ref b, .int (Int32.ofNat o), .int (Int32.ofNat len), .null] 6)) (s₁.setTop (mkF m 1 #[.val (.ref a), .val (.ref b), .val (.int (Int32.ofNat o)), .val (.int (Int32.ofNat len)), .val .null, .unset] [.ref a])) := c1.trans (by
    refine XS.aloadN X0.here hexec rfl (hb hbytes d0) rfl rfl ?_
    exact Steps.refl _)
  obtain ⟨T3, X3, q3, st3⟩ := X0.oinit hexec hown (wks W (objW "java/lang/String" 1)) (g := (mkF m 1 #[.val (.ref a), .val (.ref b), .val (.int (Int32.ofNat o)), .val (.int (Int32.ofNat len)), .val .null, .unset] [.ref a])) rfl (by rw [hml]; rfl) (rest := []) rfl (hb hbytes d1) (W := 0) (by show 2 * 0 + 0 ≤ _; decide) (Nat.le_of_ble_eq_true rfl) (Nat.le_of_ble_eq_true rfl)
  have hh3 := q3.trans hh0
  have c4 : Steps p.tables e below (s₁.setTop (entryFrame m #[.ref a, .ref b, .int (Int32.ofNat o), .int (Int32.ofNat len), .null] 6)) (T3.setTop (mkF m 27 #[.val (.ref a), .val (.ref b), .val (.int (Int32.ofNat o)), .val (.int (Int32.ofNat len)), .val .null, .unset] [])) := (c2.trans (st3 _ (Steps.refl _))).trans (by
    refine XS.iloadN X3.here hexec rfl (hb hbytes d4) rfl ?_
    refine XS.ifYes X3.here hexec rfl (pc0 := 5) rfl (hb hbytes d5) rfl (i0_ne_t (nz32 (by omega) l0)) (by decide) rfl ?_
    exact Steps.refl _)
  obtain ⟨T5, X5, q5, st5⟩ := X3.sget hexec hown (wk W (.fieldLink "java/lang/String" 38 "java/lang/String" "COMPACT_STRINGS" "Z")) s1 (fun _ _ h => by rw [hh3]; exact h) (g := (mkF m 27 #[.val (.ref a), .val (.ref b), .val (.int (Int32.ofNat o)), .val (.int (Int32.ofNat len)), .val .null, .unset] [])) rfl (hb hbytes d27)
  have hh5 := q5.trans hh3
  have c6 : Steps p.tables e below (s₁.setTop (entryFrame m #[.ref a, .ref b, .int (Int32.ofNat o), .int (Int32.ofNat len), .null] 6)) (T5.setTop (mkF m 30 #[.val (.ref a), .val (.ref b), .val (.int (Int32.ofNat o)), .val (.int (Int32.ofNat len)), .val .null, .unset] [.int z])) := c4.trans (st5 _ (Steps.refl _))
  have c7 : Steps p.tables e below (s₁.setTop (entryFrame m #[.ref a, .ref b, .int (Int32.ofNat o), .int (Int32.ofNat len), .null] 6)) (T5.setTop (mkF m 36 #[.val (.ref a), .val (.ref b), .val (.int (Int32.ofNat o)), .val (.int (Int32.ofNat len)), .val .null, .unset] [.int (Int32.ofNat len), .int (Int32.ofNat o), .ref b])) := c6.trans (by
    refine XS.ifNo X5.here hexec rfl (hb hbytes d30) rfl (i0_eq_f hz) ?_
    refine XS.aloadN X5.here hexec rfl (hb hbytes d33) rfl rfl ?_
    refine XS.iloadN X5.here hexec rfl (hb hbytes d34) rfl ?_
    refine XS.iloadN X5.here hexec rfl (hb hbytes d35) rfl ?_
    exact Steps.refl _)
  obtain ⟨v8, T8, X8, E8, g8⟩ := X5.callS hexec (Cmp3.law l b A o len) hown (wks W (staticW "java/lang/String" 177 Cmp3.yN)) (wk W Cmp3.tab) (W := 0) (Nat.le_of_ble_eq_true rfl) (Nat.le_of_ble_eq_true rfl) (Nat.le_refl _) (by show 0 + len ≤ len; omega) (g := (mkF m 36 #[.val (.ref a), .val (.ref b), .val (.int (Int32.ofNat o)), .val (.int (Int32.ofNat len)), .val .null, .unset] [.int (Int32.ofNat len), .int (Int32.ofNat o), .ref b])) rfl (by rw [hml]; rfl) c7 (argsL := [.ref b, .int (Int32.ofNat o), .int (Int32.ofNat len)]) (rest := []) rfl rfl (by show 2 * 0 + 0 ≤ _; decide) (hb hbytes d36) (⟨rfl, hA.mv X5.warmed.alike hh5, l1, l2, hp⟩)
  obtain ⟨e8, z8⟩ := E8
  obtain ⟨rfl, N, n1, n2, n3, n4, n5, n6⟩ := NewArr.mv _ T5 s _ _ hh5.symm (Vm.Alike.refl _) rfl e8
  rw [hh5] at z8
  have hB1 := hB.keep X8.warmed.alike (n6 _ _ hB.1)
  have hne : s.heap.size ≠ a := (Nat.ne_of_lt (Array.getElem?_eq_some_iff.mp hB.1).1).symm
  have c9 : Steps p.tables e below (s₁.setTop (entryFrame m #[.ref a, .ref b, .int (Int32.ofNat o), .int (Int32.ofNat len), .null] 6)) (T8.setTop (mkF m 39 #[.val (.ref a), .val (.ref b), .val (.int (Int32.ofNat o)), .val (.int (Int32.ofNat len)), .val .null, .unset] [.ref s.heap.size])) := g8
  have c10 : Steps p.tables e below (s₁.setTop (entryFrame m #[.ref a, .ref b, .int (Int32.ofNat o), .int (Int32.ofNat len), .null] 6)) (T8.setTop (mkF m 45 #[.val (.ref a), .val (.ref b), .val (.int (Int32.ofNat o)), .val (.int (Int32.ofNat len)), .val .null, .val (.ref s.heap.size)] [.int (Int32.ofNat N.slots.size), .ref s.heap.size, .ref a])) := by
    have hc : Steps p.tables e below (s₁.setTop (entryFrame m #[.ref a, .ref b, .int (Int32.ofNat o), .int (Int32.ofNat len), .null] 6)) (T8.setTop (mkF m 45 #[.val (.ref a), .val (.ref b), .val (.int (Int32.ofNat o)), .val (.int (Int32.ofNat len)), .val .null, .val (.ref s.heap.size)] [.int (Int32.ofNat len), .ref s.heap.size, .ref a])) := c9.trans (by
      refine XS.astore X8.here hexec rfl (hb hbytes d39) rfl rfl rfl ?_
      refine XS.aloadN X8.here hexec rfl (hb hbytes d41) rfl rfl ?_
      refine XS.aload X8.here hexec rfl (hb hbytes d42) rfl rfl ?_
      refine XS.iloadN X8.here hexec rfl (hb hbytes d44) rfl ?_
      exact Steps.refl _)
    rw [n4]; exact hc
  obtain ⟨v11, T11, X11, E11, g11⟩ := X8.callS hexec (CodL.law l s.heap.size N) hown (wks W (staticW "java/lang/String" 47 CodL.yN)) (wk W CodL.tab) (W := 1) (Nat.le_of_ble_eq_true rfl) (Nat.le_of_ble_eq_true rfl) (Nat.le_refl _) (by show 0 + len + 0 ≤ len; omega) (g := (mkF m 45 #[.val (.ref a), .val (.ref b), .val (.int (Int32.ofNat o)), .val (.int (Int32.ofNat len)), .val .null, .val (.ref s.heap.size)] [.int (Int32.ofNat N.slots.size), .ref s.heap.size, .ref a])) rfl (by rw [hml]; rfl) c10 (argsL := [.ref s.heap.size, .int (Int32.ofNat N.slots.size)]) (rest := [.ref a]) rfl rfl (by show 2 * 0 + (1 + 0) ≤ _; decide) (hb hbytes d45) (⟨rfl, n1⟩)
  obtain ⟨rfl, q11⟩ := E11
  have hB11 := hB1.mv (X8.warmed.alike.symm.trans X11.warmed.alike) q11
  have c12 : Steps p.tables e below (s₁.setTop (entryFrame m #[.ref a, .ref b, .int (Int32.ofNat o), .int (Int32.ofNat len), .null] 6)) (T11.setTop (mkF m 48 #[.val (.ref a), .val (.ref b), .val (.int (Int32.ofNat o)), .val (.int (Int32.ofNat len)), .val .null, .val (.ref s.heap.size)] [.int 0, .ref a])) := g11
  obtain ⟨T13, X13, p13, bl13, sl13, st13⟩ := X11.finit hexec hown (wk W (.fieldLink "java/lang/String" 15 "java/lang/String" "coder" "B")) (Or.inr ⟨_, (wk W (.laysFinal "java/lang/String" "java/lang/String" "coder" "B"))⟩) (Or.inl ⟨rfl, hnm⟩) f2 (Or.inl rfl) hB11 (t := .byte) (by decide +kernel) rfl (g := (mkF m 48 #[.val (.ref a), .val (.ref b), .val (.int (Int32.ofNat o)), .val (.int (Int32.ofNat len)), .val .null, .val (.ref s.heap.size)] [.int 0, .ref a])) rfl (rest := []) rfl (hb hbytes d48)
  have c14 : Steps p.tables e below (s₁.setTop (entryFrame m #[.ref a, .ref b, .int (Int32.ofNat o), .int (Int32.ofNat len), .null] 6)) (T13.setTop (mkF m 54 #[.val (.ref a), .val (.ref b), .val (.int (Int32.ofNat o)), .val (.int (Int32.ofNat len)), .val .null, .val (.ref s.heap.size)] [.ref s.heap.size, .ref a])) := (c12.trans (st13 _ (Steps.refl _))).trans (by
    refine XS.aloadN X13.here hexec rfl (hb hbytes d51) rfl rfl ?_
    refine XS.aload X13.here hexec rfl (hb hbytes d52) rfl rfl ?_
    exact Steps.refl _)
  obtain ⟨T15, X15, p15, bl15, sl15, st15⟩ := X13.finit hexec hown (wk W (.fieldLink "java/lang/String" 9 "java/lang/String" "value" "[B")) (Or.inr ⟨_, (wk W (.laysFinal "java/lang/String" "java/lang/String" "value" "[B"))⟩) (Or.inl ⟨rfl, hnm⟩) f1 (Or.inl rfl) bl13 (t := (.array .byte)) (by decide +kernel) rfl (g := (mkF m 54 #[.val (.ref a), .val (.ref b), .val (.int (Int32.ofNat o)), .val (.int (Int32.ofNat len)), .val .null, .val (.ref s.heap.size)] [.ref s.heap.size, .ref a])) rfl (rest := []) rfl (hb hbytes d54)
  have c16 : Steps p.tables e below (s₁.setTop (entryFrame m #[.ref a, .ref b, .int (Int32.ofNat o), .int (Int32.ofNat len), .null] 6)) (T15.setTop (mkF m 57 #[.val (.ref a), .val (.ref b), .val (.int (Int32.ofNat o)), .val (.int (Int32.ofNat len)), .val .null, .val (.ref s.heap.size)] [])) := c14.trans (st15 _ (Steps.refl _))
  have ap := apart (Or.inr ⟨_, (wk W (.laysFinal "java/lang/String" "java/lang/String" "value" "[B"))⟩) (Or.inr ⟨_, (wk W (.laysFinal "java/lang/String" "java/lang/String" "coder" "B"))⟩) f1 f2 (t₁ := .array .byte) (t₂ := .byte) (by decide +kernel) (by decide +kernel) (by decide)
  have al := X8.warmed.alike.symm.trans X15.warmed.alike
  have n7 : T11.heap[s.heap.size]? = some N := by rw [q11]; exact n1.1
  exact ⟨T15, none, _, _, _, X15, by simp, rfl, by omega, (fun _ => rfl), ⟨rfl, _, N, bl15, ((Same.refl D _).set _ (by simp)).set _ (by simp), sl15, (Cell.slots_setSlot_ne _ ap).trans sl13, n1.keep al (p15.other hne (p13.other hne n7)), n2, by rw [al.findClass]; exact n3, n4, n5, fun y c h1 h2 => p15.other h1 (p13.other h1 (by rw [q11]; exact n6 y c h2)), by rw [p15.2.2, p13.2.2, q11]; exact z8⟩, fun fs hl => c16.trans (X15.returnOut hexec hret (hb hbytes d57) hl)⟩
end New4
namespace New1
def yN : MethodName := ⟨"java/lang/String", "<init>", "([C)V"⟩
abbrev yB : ByteArray := jdk_42_method_3_code
theorem d0 : decode yB 0 = .ok (.aload_n 0, 1) := by decide +kernel
theorem d1 : decode yB 1 = .ok (.aload_n 1, 1) := by decide +kernel
theorem d2 : decode yB 2 = .ok (.iconst 0, 1) := by decide +kernel
theorem d3 : decode yB 3 = .ok (.aload_n 1, 1) := by decide +kernel
theorem d4 : decode yB 4 = .ok (.arraylength, 1) := by decide +kernel
theorem d5 : decode yB 5 = .ok (.aconst_null, 1) := by decide +kernel
theorem d6 : decode yB 6 = .ok (.invokespecial 27, 3) := by decide +kernel
theorem d9 : decode yB 9 = .ok (.return_, 1) := by decide +kernel
def site : List Cond := [New4.tab] ++ initW "java/lang/String" 27 New4.yN
def tab : Cond := tabOf yN yB 2 none site
def P (a : Addr) (D : Cell) (fV fC : Field) (b : Addr) (A : Cell) (z : Int32) (args : Array Value) (s : State) : Prop := args = #[.ref a, .ref b] ∧ Blank "java/lang/String" a D s ∧ Found "java/lang/String" "value" "[B" fV s ∧ Found "java/lang/String" "coder" "B" fC s ∧ Ch b A s ∧ StaticIs s "java/lang/String" "COMPACT_STRINGS" "Z" (.int z) ∧ ¬ z = 0 ∧ 0 < A.slots.size ∧ A.slots.size ≤ 536870912 ∧ ∀ i, i < A.slots.size → ¬ 255 < cv A i
def E (a : Addr) (D : Cell) (fV fC : Field) (A : Cell) (r : Option Value) (s u : State) : Prop := Got a D fV fC A 0 A.slots.size r s u
/-- new String(chars), not empty, no char above 255: a Latin-1 String of their low bytes -/
theorem law (l : Launch) (a : Addr) (D : Cell) (fV fC : Field) (b : Addr) (A : Cell) (z : Int32) : Law l yN 2 1 3 52 yB 2 none site (P a D fV fC b A z) (E a D fV fC A) [⟨a, fC.slot⟩, ⟨a, fV.slot⟩] 1 A.slots.size := by
  refine Law.of_walk (plainFor_of_name (by decide +kernel)) (by decide +kernel) (by decide +kernel) (by decide) (fun _ _ h => by rw [h.1]; rfl) (fun _ U U' hal hh h => ⟨h.1, h.2.1.mv hal hh, h.2.2.1.al hal, h.2.2.2.1.al hal, h.2.2.2.2.1.mv hal hh, h.2.2.2.2.2.1.there hal hh, h.2.2.2.2.2.2⟩) (fun r U U' V V' h1 hal h2 h => Got.mv r U U' V V' h1 hal h2 h) ?_
  intro p e s m args below meth c s₁ X0 hexec hbytes hml hret hlk hnm hown hh0 W hP
  obtain ⟨rfl, hB, f1, f2, hA, s1, hz, l0, l2, hp⟩ := hP
  have c1 : Steps p.tables e below (s₁.setTop (entryFrame m #[.ref a, .ref b] 2)) (s₁.setTop (mkF m 0 #[.val (.ref a), .val (.ref b)] [])) := entry rfl
  have c2 : Steps p.tables e below (s₁.setTop (entryFrame m #[.ref a, .ref b] 2)) (s₁.setTop (mkF m 6 #[.val (.ref a), .val (.ref b)] [.null, .int (Int32.ofNat A.slots.size), .int 0, .ref b, .ref a])) := c1.trans (by
    refine XS.aloadN X0.here hexec rfl (hb hbytes d0) rfl rfl ?_
    refine XS.aloadN X0.here hexec rfl (hb hbytes d1) rfl rfl ?_
    refine iconstV X0.here hexec rfl 0 (hb hbytes d2) (by decide) ?_
    refine XS.aloadN X0.here hexec rfl (hb hbytes d3) rfl rfl ?_
    refine X0.alen hexec (hA.1.mv X0.warmed.alike hh0) rfl rfl (hb hbytes d4) ?_
    refine XS.aconstNull X0.here hexec rfl (hb hbytes d5) ?_
    exact Steps.refl _)
  obtain ⟨v3, T3, X3, E3, g3⟩ := X0.callN hexec (New4.law l a D fV fC b A z 0 A.slots.size) rfl hown (wks W (initW "java/lang/String" 27 New4.yN)) (W New4.tab (by simp only [site, List.mem_cons, List.mem_append, true_or, or_true])) (W := 0) (Nat.le_of_ble_eq_true rfl) (Nat.le_of_ble_eq_true rfl) (Nat.le_refl _) (by show 0 + A.slots.size ≤ A.slots.size; omega) (g := (mkF m 6 #[.val (.ref a), .val (.ref b)] [.null, .int (Int32.ofNat A.slots.size), .int (Int32.ofNat 0), .ref b, .ref a])) rfl (by rw [hml]; rfl) c2 (argsL := [.ref b, .int (Int32.ofNat 0), .int (Int32.ofNat A.slots.size), .null]) (rest := []) rfl rfl (by show 2 * 0 + 0 ≤ _; decide) (hb hbytes d6) (⟨rfl, hB.mv X0.warmed.alike hh0, f1.al X0.warmed.alike, f2.al X0.warmed.alike, hA.mv X0.warmed.alike hh0, s1.there X0.warmed.alike hh0, hz, l0, by omega, l2, fun i hi => by rw [Nat.zero_add]; exact hp i hi⟩)
  have e0 := Got.mv _ s₁ s _ _ hh0.symm (Vm.Alike.refl _) rfl E3
  obtain rfl := e0.1
  have c4 : Steps p.tables e below (s₁.setTop (entryFrame m #[.ref a, .ref b] 2)) (T3.setTop (mkF m 9 #[.val (.ref a), .val (.ref b)] [])) := g3
  exact ⟨T3, none, _, _, _, X3, by simp, rfl, by omega, (fun _ => rfl), e0, fun fs hl => c4.trans (X3.returnOut hexec hret (hb hbytes d9) hl)⟩
theorem pays {l : Launch} {R : Room} {p : Program} {e : Env} {below : List Frame} {s : State} {sargs : Array Value} {len W : Nat} (a : Addr) (D : Cell) (fV fC : Field) (b : Addr) (A : Cell) (z : Int32) (htab : tab.before sargs s = true) (hfr : 4 ≤ R.frames) (hlo : W + 65 ≤ R.locals) :
    Back l R p e below s sargs yN len W (fun A₁ a₁ => A₁.cells + 1 ≤ R.cells ∧ A₁.slots + A.slots.size ≤ R.slots ∧ P a D fV fC b A z a₁ A₁.U) (fun A₁ _ v₁ B₁ => E a D fV fC A v₁ A₁.U B₁.U ∧ B₁.locs = A₁.locs ++ [⟨a, fC.slot⟩, ⟨a, fV.slot⟩] ∧ B₁.cells = A₁.cells + 1 ∧ B₁.slots = A₁.slots + A.slots.size) :=
  (law l a D fV fC b A z).pays htab hfr (by omega)
end New1
/-- the byte, read back as charAt reads it, is the char -/
theorem lo8_mask {x : Int32} (h0 : ¬ x < 0) (h1 : ¬ 255 < x) : lo8 x &&& 255 = x := by
  have t : ∀ k : Fin 256, lo8 (Int32.ofNat k.val) &&& 255 = Int32.ofNat k.val := by decide +kernel
  rw [Int32.lt_iff_toInt_lt] at h0 h1
  have e0 : (0 : Int32).toInt = 0 := rfl
  have e1 : (255 : Int32).toInt = 255 := rfl
  obtain ⟨k, hk⟩ : ∃ k : Nat, x.toInt = k := ⟨x.toInt.toNat, by omega⟩
  have hx : x = Int32.ofNat k := Int32.toInt_inj.mp (by rw [hk, Int32.toInt_ofNat_small (by omega)])
  rw [hx]
  exact t ⟨k, by omega⟩
end StrChars
namespace StrChars.Road
open Jvm Sem ClassFile Op Lib Jvm.Stand Jvm.Free Jvm.Free.XT
open Jvm.Lib.Cold (StaticIs)
abbrev ST : String := "java/lang/String"
/-- every table word that New1's law asks, flat -/
abbrev words : List Jvm.Cond := [.code New1.yN New1.yB 2 none, .initialized ST, .methodLink ST 27 New4.yN, .instanceMethod New4.yN,
  .code New4.yN New4.yB 6 none, .fieldLink ST 38 ST "COMPACT_STRINGS" "Z", .laysFinal ST ST "value" "[B", .fieldLink ST 9 ST "value" "[B", .laysFinal ST ST "coder" "B", .fieldLink ST 15 ST "coder" "B",
  .methodLink ST 1 Lib.objectInit, .instanceMethod Lib.objectInit, .code Lib.objectInit ⟨#[0xb1]⟩ 1 none, .methodLink ST 177 Cmp3.yN, .static Cmp3.yN, .methodLink ST 47 CodL.yN, .static CodL.yN,
  .code Cmp3.yN Cmp3.yB 6 (some (.array .byte)), .initialized U16, .arrayClass .byte, .methodLink U16 115 Cmp5.yN, .static Cmp5.yN, .code Cmp5.yN Cmp5.yB 7 (some .int), .code CodL.yN CodL.yB 2 (some .byte)]
theorem tab_of {a : Array Value} {s : State} (h : ∀ w ∈ words, w.before a s = true) : New1.tab.before a s = true := by
  have h5 : Cmp5.tab.before a s = true := unparts (wk h (.code Cmp5.yN Cmp5.yB 7 (some .int))) (wks h (.initialized Cmp5.yN.cls :: Cmp5.site))
  have hc : CodL.tab.before a s = true := unparts (wk h (.code CodL.yN CodL.yB 2 (some .byte))) (wks h (.initialized CodL.yN.cls :: CodL.site))
  have q5 : ∀ w ∈ Cmp5.tab :: words, w.before a s = true := fun w hw => (List.mem_cons.mp hw).elim (fun e => e ▸ h5) (h w)
  have h3 : Cmp3.tab.before a s = true := unparts (wk q5 (.code Cmp3.yN Cmp3.yB 6 (some (.array .byte)))) (wks q5 (.initialized Cmp3.yN.cls :: Cmp3.site))
  have q3 : ∀ w ∈ Cmp3.tab :: CodL.tab :: words, w.before a s = true := fun w hw => (List.mem_cons.mp hw).elim (fun e => e ▸ h3) fun hw => (List.mem_cons.mp hw).elim (fun e => e ▸ hc) (h w)
  have h4 : New4.tab.before a s = true := unparts (wk q3 (.code New4.yN New4.yB 6 none)) (wks q3 (.initialized New4.yN.cls :: New4.site))
  have q4 : ∀ w ∈ New4.tab :: words, w.before a s = true := fun w hw => (List.mem_cons.mp hw).elim (fun e => e ▸ h4) (h w)
  exact unparts (wk q4 (.code New1.yN New1.yB 2 none)) (wks q4 (.initialized New1.yN.cls :: New1.site))
/-- the words ride from the start Z to the walk's own state -/
theorem moved {Z s : State} {a0 args : Array Value} (hZ : Z.Warmed39 s.vm) (hw : ∀ d ∈ words, d.before a0 Z = true) : ∀ d ∈ words, d.before args s = true := fun d hd => by
  have q := hw d hd
  have t : ∀ d ∈ words, d = .arrayClass .byte ∨ (d.onTables && d.keepsFace) = true := by decide +kernel
  rcases t d hd with rfl | t
  · exact RoadKit.mvA hZ q
  · exact RoadKit.mv hZ q t
/-- WHAT COMES BACK, over the tables of the start Z: h the heap at the call, h' behind it -/
def Q (Z : State) (x : Addr) (A : Cell) (h : Heap) (v : Option Value) (h' : Heap) (L : List Loc) : Prop := v = none ∧ (∀ y ∈ L, y.base = x) ∧ RoadKit.Keep h h' [x] ∧ h'.size = h.size + 1 ∧ RoadKit.Exa Z h' x ST ∧ RoadKit.Fld Z h' x ST "value" "[B" (.ref h.size) ∧ RoadKit.Fld Z h' x ST "coder" "B" (.int 0) ∧
  (∃ V : Cell, RoadKit.Arr Z h' h.size V .byte ∧ V.vm = .none ∧ Z.vm.findClass "[B" = some V.cls ∧ V.slots.size = A.slots.size ∧ ∀ j, j < A.slots.size → V.slots[j]? = some (.int (lo8 (cv A j)))) ∧
  ∀ (O n d : String) (w : Value), RoadKit.Fld Z h x O n d w → RoadKit.slotOf Z O n d ≠ RoadKit.slotOf Z ST "value" "[B" → RoadKit.slotOf Z O n d ≠ RoadKit.slotOf Z ST "coder" "B" → RoadKit.Fld Z h' x O n d w
/-- **new String(chars) AT A CALL, IN THE ROAD'S FORM**: for specialBack behind newO: x the fresh String, b the char[] with the cell A -/
theorem back {p : Program} {l : Launch} {e : Env} {R : Room} {s : State} {args : Array Value} {below : List Frame} {len W : Nat} {Z : State} {a0 : Array Value} {h : Heap} (hZ : Z.Warmed39 s.vm) (hw : ∀ d ∈ words, d.before a0 Z = true) {kI : Nat} (wi : (Jvm.Cond.instantiable ST kI).before a0 Z = true)
    {x b : Addr} {A : Cell} {z : Int32} {v0 c0 : Value} (E : RoadKit.Exa Z h x ST) (V : RoadKit.Fld Z h x ST "value" "[B" v0) (C : RoadKit.Fld Z h x ST "coder" "B" c0) (K : RoadKit.Arr Z h b A .char) (hty : Typed .char A) (S : RoadKit.Sta Z h ST "COMPACT_STRINGS" "Z" (.int z)) (hz : ¬ z = 0)
    (l0 : 0 < A.slots.size) (l2 : A.slots.size ≤ 536870912) (hp : ∀ i, i < A.slots.size → ¬ 255 < cv A i) (hfr : 4 ≤ R.frames) (hlo : W + 65 ≤ R.locals) :
    Back l R p e below s args New1.yN len W (fun P a => a = #[.ref x, .ref b] ∧ P.U.heap = h ∧ P.cells + 1 ≤ R.cells ∧ P.slots + A.slots.size ≤ R.slots)
      (fun P _ v B => ∃ L, Q Z x A h v B.U.heap L ∧ B.locs = P.locs ++ L ∧ B.cells = P.cells + 1 ∧ B.slots = P.slots + A.slots.size) := by
  intro m meth c P g ig mk a X hg hsize hdg hW hn hp'
  obtain ⟨rfl, rfl, r1, r2⟩ := hp'
  have al : Z.vm.Alike P.U.vm := hZ.alike.trans X.warmed.alike
  obtain ⟨D, cfV, kV, iV, fV, hD, gV, stV, knV, obV, asV, slV⟩ := id V
  obtain ⟨D', cfC, kC, iC, fC, hD', gC, stC, -, -, asC, slC⟩ := id C
  cases hD.symm.trans hD'
  obtain ⟨D2, kD, e1, e2, e3, e4, e5⟩ := id E
  cases hD.symm.trans e1
  obtain ⟨c2, k2, i1, i2, i3, -⟩ := Cond.instantiable_spec wi
  cases e2.symm.trans i1
  cases e3.symm.trans i2
  obtain ⟨kU, u1, u2⟩ := al.2.2 _ _ e3
  have hB : Blank ST x D P.U := ⟨hD, ⟨knV, fun q hq => by rw [hq] at obV; cases obV⟩, by rw [al.findClass]; exact e2, kU, u1, by rw [u2]; exact i3, by rw [u2]; exact e5 i3⟩
  have F1 : Found ST "value" "[B" fV P.U := ⟨SBG.found_only al ⟨cfV, kV, iV, gV⟩, stV⟩
  have F2 : Found ST "coder" "B" fC P.U := ⟨SBG.found_only al ⟨cfC, kC, iC, gC⟩, stC⟩
  have hA : Ch b A P.U := ⟨⟨K.1, State.isArrayOf_alike al K.2.1, K.2.2, by omega⟩, hty⟩
  have hS : StaticIs P.U ST "COMPACT_STRINGS" "Z" (.int z) := by
    obtain ⟨cfS, iS, kS, fS, st, cS, t1, t2, t3, t4, t5, t6, t7⟩ := S
    exact StaticIs.there (s := { Z with heap := P.U.heap }) ⟨cfS, iS, kS, fS, st, cS, t1, t2, t3, t4, t5, (fun q => by rw [q] at t6; cases t6), t7⟩ al rfl
  obtain ⟨v, B, X', ⟨⟨hv, E', V', q1, q2, q3, q4, q5, q6, q7, q8, q9, q10, q11⟩, hl, hc, hs⟩, st⟩ := New1.pays x D fV fC b A z (tab_of (moved hZ hw)) hfr hlo m meth c P g ig mk _ X hg hsize hdg hW hn ⟨r1, r2, rfl, hB, F1, F2, hA, hS, hz, l0, l2, hp⟩
  have al' : Z.vm.Alike B.U.vm := hZ.alike.trans X'.warmed.alike
  have hsz : E'.slots.size = D.slots.size := by
    obtain ⟨-, -, -, kB, w1, w2, w3⟩ := q1
    obtain ⟨kB', y1, y2⟩ := al'.2.2 _ _ e3
    rw [q2.2.1] at w1
    cases w1.symm.trans y1
    rw [w3, e5 i3, y2]
  refine ⟨v, B, X', ⟨_, ⟨hv, ?_, ⟨by omega, fun y cy hy hn' => q10 y cy (by simpa using hn') hy, fun y cy hy => ?_⟩, q11, ⟨E', _, q1.1, by rw [q2.2.1]; exact e2, by rw [q2.2.1]; exact e3, by rw [q2.1]; exact obV, fun _ => by rw [hsz]; exact e5 i3⟩,
    ⟨E', cfV, kV, iV, fV, q1.1, gV, stV, by rw [q2.1]; exact knV, by rw [q2.1]; exact obV, by rw [q2.2.1]; exact asV, q3⟩, ⟨E', cfC, kC, iC, fC, q1.1, gC, stC, by rw [q2.1]; exact knV, by rw [q2.1]; exact obV, by rw [q2.2.1]; exact asC, q4⟩,
    ⟨V', ⟨q5.1, State.isArrayOf_alike al'.symm q5.2.1, q5.2.2.1⟩, q6, by rw [← al'.findClass]; exact q7, q8, fun j hj => by have := q9 j hj; rwa [Nat.zero_add] at this⟩, fun O n d w F n1 n2 => ?_⟩, hl, hc, hs⟩, st⟩
  · intro y hy
    simp only [List.mem_cons, List.not_mem_nil, or_false] at hy
    rcases hy with rfl | rfl <;> rfl
  · by_cases q : y = x
    · subst q
      cases hD.symm.trans hy
      exact ⟨E', q1.1, q2.2.1, q2.1, hsz⟩
    · exact ⟨cy, q10 y cy q hy, rfl, rfl, rfl⟩
  · obtain ⟨D3, cf, k, i, f, g1, g2, g3, g4, g5, g6, g7⟩ := F
    cases hD.symm.trans g1
    simp only [RoadKit.slotOf, g2, gV, gC, Option.map_some, Option.getD_some] at n1 n2
    exact ⟨E', cf, k, i, f, q1.1, g2, g3, by rw [q2.1]; exact g4, by rw [q2.1]; exact g5, by rw [q2.2.1]; exact g6, by rw [q2.2.2 f.slot (by simp [n1, n2])]; exact g7⟩
end StrChars.Road
namespace StrChars.Road
open Jvm Sem ClassFile Op Lib Jvm.Stand Jvm.Free Jvm.Free.XT
/-- WHAT COMES BACK, the byte[] as a list of values -/
def QA (Z : State) (x : Addr) (zn : Int32) (cs : List Int32) (h : Heap) (v : Option Value) (h' : Heap) (L : List Loc) : Prop := v = none ∧ (∀ y ∈ L, y.base = x) ∧ RoadKit.Keep h h' [x] ∧ h'.size = h.size + 1 ∧ RoadKit.Exa Z h' x ST ∧ RoadKit.Fld Z h' x ST "value" "[B" (.ref h.size) ∧ RoadKit.Fld Z h' x ST "coder" "B" (.int 0) ∧
  (∃ kb, Z.vm.findClass "[B" = some kb ∧ RoadKit.Arv Z h' h.size kb .byte zn (cs.map fun c => .int (lo8 c)) (.int 0)) ∧
  ∀ (O n d : String) (w : Value), RoadKit.Fld Z h x O n d w → RoadKit.slotOf Z O n d ≠ RoadKit.slotOf Z ST "value" "[B" → RoadKit.slotOf Z O n d ≠ RoadKit.slotOf Z ST "coder" "B" → RoadKit.Fld Z h' x O n d w
/-- **new String(chars) AT A CALL, THE ARRAYS AS LISTS**: the char[] at b holds cs, not empty, no char above 255 -/
theorem backArv {p : Program} {l : Launch} {e : Env} {R : Room} {s : State} {args : Array Value} {below : List Frame} {len W : Nat} {Z : State} {a0 : Array Value} {h : Heap} (hZ : Z.Warmed39 s.vm) (hw : ∀ d ∈ words, d.before a0 Z = true) {kI : Nat} (wi : (Jvm.Cond.instantiable ST kI).before a0 Z = true)
    {x b : Addr} {k : ClassId} {zn z : Int32} {cs : List Int32} {dv v0 c0 : Value} (E : RoadKit.Exa Z h x ST) (V : RoadKit.Fld Z h x ST "value" "[B" v0) (C : RoadKit.Fld Z h x ST "coder" "B" c0) (K : RoadKit.Arv Z h b k .char zn (cs.map Value.int) dv) (S : RoadKit.Sta Z h ST "COMPACT_STRINGS" "Z" (.int z)) (hz : ¬ z = 0)
    (hlen : zn.toNatClampNeg = cs.length) (h0 : 0 < cs.length) (hbig : cs.length ≤ 536870912) (hall : ∀ c ∈ cs, ¬ 255 < c) (hfr : 4 ≤ R.frames) (hlo : W + 65 ≤ R.locals) :
    Back l R p e below s args New1.yN len W (fun P a => a = #[.ref x, .ref b] ∧ P.U.heap = h ∧ P.cells + 1 ≤ R.cells ∧ P.slots + cs.length ≤ R.slots)
      (fun P _ v B => ∃ L, QA Z x zn cs h v B.U.heap L ∧ B.locs = P.locs ++ L ∧ B.cells = P.cells + 1 ∧ B.slots = P.slots + cs.length) := by
  obtain ⟨A, K1, K2, K3, K4, K5, K6⟩ := K
  have e : A.slots.size = cs.length := K3.trans hlen
  have hat : ∀ (i : Nat) (hi : i < cs.length), A.slots[i]? = some (.int cs[i]) := fun i hi => by rw [K5 i (by omega)]; simp [List.getD_eq_getElem?_getD, hi]
  have hcv : ∀ (i : Nat) (hi : i < cs.length), cv A i = cs[i] := fun i hi => by unfold cv; rw [hat i hi]
  have hty : Typed .char A := fun i v hv => by
    have hi : i < A.slots.size := (Array.getElem?_eq_some_iff.mp hv).1
    have q := K5 i hi
    rw [hv] at q
    rw [Option.some.inj q]
    exact K6 i hi
  refine Back.mono (back hZ hw wi E V C K1 hty S hz (by omega) (by omega) (fun i hi => by rw [hcv i (by omega)]; exact hall _ (List.getElem_mem _)) hfr hlo) (fun P a hp => ⟨hp.1, hp.2.1, hp.2.2.1, by rw [e]; exact hp.2.2.2⟩) (fun P a v B hp hq => ?_)
  obtain ⟨L, ⟨q1, q2, q3, q4, q5, q6, q7, ⟨V', v1, v2, v3, v4, v5⟩, q9⟩, hl, hc, hs⟩ := hq
  refine ⟨L, ⟨q1, q2, q3, q4, q5, q6, q7, ⟨V'.cls, v3, V', v1, rfl, by rw [v4, e, hlen], K4, fun i hi => ?_, fun i hi => ?_⟩, q9⟩, hl, hc, by rw [hs, e]⟩
  · have hi' : i < cs.length := by omega
    rw [v5 i (by omega), hcv i hi']; simp [List.getD_eq_getElem?_getD, hi']
  · have hi' : i < cs.length := by omega
    simp only [List.getD_eq_getElem?_getD, List.getElem?_map, List.getElem?_eq_getElem hi', Option.map_some, Option.getD_some]
    exact fits_lo8 _
end StrChars.Road
namespace StrChars.Road
open Jvm Sem ClassFile Op Lib Jvm.Stand Jvm.Free Jvm.Free.XT
/-- WHAT COMES BACK, in the writer's own shape -/
def QV (Z : State) (x : Addr) (N : Int32) (bs : List Int32) (h : Heap) (n0 : Nat) (v : Option Value) (h' : Heap) (L : List Loc) : Prop := v = none ∧ RoadKit.Fr n0 L ∧ RoadKit.Keep h h' [x] ∧ RoadKit.Exa Z h' x ST ∧ RoadKit.Fld Z h' x ST "coder" "B" (.int 0) ∧
  ∃ (t : Addr) (kb : ClassId), n0 ≤ t ∧ h.size ≤ t ∧ ¬ t = x ∧ RoadKit.Fld Z h' x ST "value" "[B" (.ref t) ∧ RoadKit.Arv Z h' t kb .byte N (bs.map Value.int) (.int 0)
/-- **new String(chars) AT A CALL, FOR THE WRITER**: a char[] of n known ints, each 0 to 255 -/
theorem backV {p : Program} {l : Launch} {e : Env} {R : Room} {s : State} {args : Array Value} {below : List Frame} {len W : Nat} {Z : State} {a0 : Array Value} {h : Heap} (hZ : Z.Warmed39 s.vm) (hw : ∀ d ∈ words, d.before a0 Z = true) {kI : Nat} (wi : (Jvm.Cond.instantiable ST kI).before a0 Z = true)
    {x b : Addr} {kC : ClassId} {cs bs : List Int32} {d v0 c0 : Value} {z N : Int32} {n n0 : Nat} (hx0 : n0 ≤ x) (hh0 : n0 ≤ h.size) (E : RoadKit.Exa Z h x ST) (V : RoadKit.Fld Z h x ST "value" "[B" v0) (C : RoadKit.Fld Z h x ST "coder" "B" c0) (K : RoadKit.Arv Z h b kC .char N (cs.map Value.int) d) (S : RoadKit.Sta Z h ST "COMPACT_STRINGS" "Z" (.int z)) (hz : ¬ z = 0)
    (hn : cs.length = n) (hN : N = Int32.ofNat n) (l0 : 0 < n) (l2 : n ≤ 4000) (hp : ∀ c ∈ cs, ¬ c < 0 ∧ ¬ (255 : Int32) < c) (hb : bs = cs.map (fun c => c.toInt8.toInt32)) (hfr : 4 ≤ R.frames) (hlo : W + 65 ≤ R.locals) :
    Back l R p e below s args (⟨"java/lang/String", "<init>", "([C)V"⟩ : MethodName) len W (fun P a => a = #[.ref x, .ref b] ∧ P.U.heap = h ∧ P.cells + 1 ≤ R.cells ∧ P.slots + n ≤ R.slots)
      (fun P _ v B => ∃ L, QV Z x N bs h n0 v B.U.heap L ∧ B.locs = P.locs ++ L ∧ B.cells = P.cells + 1 ∧ B.slots = P.slots + n) := by
  subst hn hN hb
  refine Back.mono (backArv hZ hw wi E V C K S hz (n32 (by omega)) l0 (by omega) (fun c hc => (hp c hc).2) hfr hlo) (fun P a hp => hp) (fun P a v B hp hq => ?_)
  obtain ⟨L, ⟨q1, q2, q3, q4, q5, q6, q7, ⟨kb, v1, v2⟩, q9⟩, hl, hc, hs⟩ := hq
  exact ⟨L, ⟨q1, fun y hy => by rw [q2 y hy]; exact hx0, q3, q5, q7, h.size, kb, hh0, Nat.le_refl _, Nat.ne_of_gt E.lt, q6, by rw [List.map_map]; exact v2⟩, hl, hc, hs⟩
end StrChars.Road
namespace StrChars
open Jvm Sem ClassFile Op Lib Jvm.Stand Jvm.Free.XT Jvm.Free.ALB Jvm.Free.JM Jvm.Free
open Jvm.Lib.Cold (StaticIs)
def hi8 (x : Int32) : Int32 := lo8 (x >>> ((8 : Int32) &&& 31))
/-- what StringUTF16.getChar makes of two bytes -/
def pairCh (u v : Int32) : Int32 := (((u &&& 255) <<< ((0 : Int32) &&& 31)) ||| ((v &&& 255) <<< ((8 : Int32) &&& 31))).toUInt32.toUInt16.toUInt32.toInt32
theorem shr0 (c : Int32) : c >>> ((0 : Int32) &&& 31) = c := by
  have e : ((0 : Int32) &&& 31) = 0 := by decide
  rw [e]
  apply Int32.toBitVec_inj.mp
  rw [Int32.toBitVec_shiftRight]
  have e1 : ((0 : Int32).toBitVec.smod 32) = 0#32 := by decide
  rw [e1, BitVec.sshiftRight_eq']
  exact BitVec.sshiftRight_zero
theorem lo8_and (x : Int32) : (lo8 x &&& 255).toBitVec.toNat = x.toBitVec.toNat % 256 := by
  have h : (lo8 x).toBitVec = (x.toBitVec.signExtend 8).signExtend 32 := by rw [lo8, Int8.toBitVec_toInt32, Int32.toBitVec_toInt8]
  rw [Int32.toBitVec_and, BitVec.toNat_and, h]
  have e : ((x.toBitVec.signExtend 8).signExtend 32).toNat % 256 = x.toBitVec.toNat % 256 := by
    rw [BitVec.toNat_signExtend]
    have hlt := x.toBitVec.isLt
    simp only [BitVec.toNat_setWidth, BitVec.toNat_signExtend]
    split <;> split <;> omega
  rw [← e]
  exact Nat.and_two_pow_sub_one_eq_mod _ 8
theorem pair_says {c : Int32} (h0 : ¬ c < 0) (h1 : ¬ 65535 < c) : pairCh (lo8 c) (hi8 c) = c := by
  rw [Int32.lt_iff_toInt_lt] at h0 h1
  have e0 : (0 : Int32).toInt = 0 := rfl
  have e1 : (65535 : Int32).toInt = 65535 := rfl
  have hc : c.toInt = c.toBitVec.toNat := by
    have := c.toBitVec.isLt
    have e : c.toInt = c.toBitVec.toInt := rfl
    rw [e] at h0 h1
    rw [e]
    rw [BitVec.toInt_eq_toNat_cond] at h0 h1 ⊢
    split at h0 <;> split <;> omega
  have hn : c.toBitVec.toNat < 65536 := by omega
  have a1 := lo8_and c
  have a2 : (hi8 c &&& 255).toBitVec.toNat = c.toBitVec.toNat / 256 := by
    rw [hi8, lo8_and]
    have e : ((8 : Int32) &&& 31) = 8 := by decide
    rw [e, Int32.toBitVec_shiftRight]
    have e2 : ((8 : Int32).toBitVec.smod 32) = 8#32 := by decide
    rw [e2, BitVec.sshiftRight_eq', BitVec.toNat_sshiftRight_of_msb_false (by rw [BitVec.msb_eq_false_iff_two_mul_lt]; omega)]
    show c.toBitVec.toNat >>> 8 % 256 = _
    rw [Nat.shiftRight_eq_div_pow]
    omega
  unfold pairCh
  apply Int32.toBitVec_inj.mp
  apply BitVec.eq_of_toNat_eq
  have f0 : ((0 : Int32) &&& 31) = 0 := by decide
  have f8 : ((8 : Int32) &&& 31) = 8 := by decide
  rw [f0, f8]
  have g : (((lo8 c &&& 255) <<< (0 : Int32)) ||| ((hi8 c &&& 255) <<< (8 : Int32))).toBitVec.toNat = c.toBitVec.toNat := by
    rw [Int32.toBitVec_or, Int32.toBitVec_shiftLeft, Int32.toBitVec_shiftLeft]
    have s0 : ((0 : Int32).toBitVec.smod 32) = 0#32 := by decide
    have s8 : ((8 : Int32).toBitVec.smod 32) = 8#32 := by decide
    rw [s0, s8, BitVec.toNat_or]
    simp only [BitVec.shiftLeft_eq', BitVec.toNat_shiftLeft, a1, a2]
    show (c.toBitVec.toNat % 256) <<< 0 % 2 ^ 32 ||| (c.toBitVec.toNat / 256) <<< 8 % 2 ^ 32 = _
    rw [Nat.shiftLeft_zero, Nat.mod_eq_of_lt (show c.toBitVec.toNat % 256 < 2 ^ 32 by omega), Nat.mod_eq_of_lt (show (c.toBitVec.toNat / 256) <<< 8 < 2 ^ 32 by rw [Nat.shiftLeft_eq]; omega), Nat.or_comm, ← Nat.shiftLeft_add_eq_or_of_lt (by omega), Nat.shiftLeft_eq]
    omega
  show BitVec.toNat (((((lo8 c &&& 255) <<< (0 : Int32)) ||| ((hi8 c &&& 255) <<< (8 : Int32))).toBitVec.setWidth 16).setWidth 32) = _
  rw [BitVec.toNat_setWidth, BitVec.toNat_setWidth, g]
  omega
end StrChars
namespace StrChars
open Jvm Sem ClassFile Op Lib Jvm.Stand Jvm.Free.XT Jvm.Free.ALB Jvm.Free.JM Jvm.Free
open Jvm.Lib.Cold (StaticIs)
theorem shr1 {n : Nat} (h : 2 * n < 2 ^ 31) : Int32.ofNat (2 * n) >>> ((1 : Int32) &&& 31) = Int32.ofNat n := by
  have e : ((1 : Int32) &&& 31) = 1 := by decide
  rw [e]
  apply Int32.toBitVec_inj.mp
  rw [Int32.toBitVec_shiftRight]
  have e1 : ((1 : Int32).toBitVec.smod 32) = 1#32 := by decide
  have hm : (BitVec.ofNat 32 (2 * n)).toNat = 2 * n := by rw [BitVec.toNat_ofNat, Nat.mod_eq_of_lt (by omega)]
  rw [e1, BitVec.sshiftRight_eq']
  apply BitVec.eq_of_toNat_eq
  show ((BitVec.ofNat 32 (2 * n)).sshiftRight 1).toNat = (BitVec.ofNat 32 n).toNat
  rw [BitVec.toNat_sshiftRight_of_msb_false (by rw [BitVec.msb_eq_false_iff_two_mul_lt, hm]; omega), hm, BitVec.toNat_ofNat, Nat.shiftRight_eq_div_pow]
  omega
/-- charAt's cast of a byte read back -/
def chr8 (u : Int32) : Int32 := (u &&& 255).toUInt32.toUInt16.toUInt32.toInt32
theorem chr8_lo8 {c : Int32} (h0 : ¬ c < 0) (h1 : ¬ 255 < c) : chr8 (lo8 c) = c := by
  have t : ∀ k : Fin 256, (Int32.ofNat k.val).toUInt32.toUInt16.toUInt32.toInt32 = Int32.ofNat k.val := by decide +kernel
  unfold chr8
  rw [lo8_mask h0 h1]
  rw [Int32.lt_iff_toInt_lt] at h0 h1
  have e0 : (0 : Int32).toInt = 0 := rfl
  have e1 : (255 : Int32).toInt = 255 := rfl
  obtain ⟨k, hk⟩ : ∃ k : Nat, c.toInt = k := ⟨c.toInt.toNat, by omega⟩
  have hx : c = Int32.ofNat k := Int32.toInt_inj.mp (by rw [hk, Int32.toInt_ofNat_small (by omega)])
  rw [hx]
  exact t ⟨k, by omega⟩
theorem narrow_ch {c : Int32} (h0 : ¬ c < 0) (h1 : ¬ 65535 < c) : narrow .char (.int c) = .int c := by
  have q : narrow .char (.int (pairCh (lo8 c) (hi8 c))) = .int (pairCh (lo8 c) (hi8 c)) := narrow_c _
  rwa [pair_says h0 h1] at q
/-- the array's cell V codes the n chars f 0 .. f (n - 1) by the coder cd, as the JDK does: coder 1 just where some char is above 255 -/
def Cod (cd : Int32) (n : Nat) (f : Nat → Int32) (V : Cell) : Prop := (cd = 0 ∧ V.slots.size = n ∧ ∀ j, j < n → V.slots[j]? = some (.int (lo8 (f j))) ∧ ¬ 255 < f j) ∨ (cd = 1 ∧ V.slots.size = 2 * n ∧ (∀ j, j < n → V.slots[2 * j]? = some (.int (lo8 (f j))) ∧ V.slots[2 * j + 1]? = some (.int (hi8 (f j)))) ∧ ∃ j, j < n ∧ 255 < f j)
theorem Cod.cd {cd : Int32} {n : Nat} {f : Nat → Int32} {V : Cell} (h : Cod cd n f V) : cd = 0 ∨ cd = 1 := h.imp (fun q => q.1) fun q => q.1
theorem Cod.len {cd : Int32} {n : Nat} {f : Nat → Int32} {V : Cell} (h : Cod cd n f V) (hs : V.slots.size < 2 ^ 31) : Int32.ofNat V.slots.size >>> (cd &&& 31) = Int32.ofNat n := by
  rcases h with ⟨rfl, h, -⟩ | ⟨rfl, h, -⟩
  · rw [shr0, h]
  · rw [h, shr1 (by omega)]
/-- **x is a String of the n chars f 0 .. f (n - 1)**, Latin-1 or UTF-16; its array at t has the cell V -/
def Txt (x t : Addr) (V : Cell) (cd : Int32) (n : Nat) (f : Nat → Int32) (U : State) : Prop := Exact "java/lang/String" x U ∧ Has x "java/lang/String" "value" "[B" (.ref t) U ∧ Has x "java/lang/String" "coder" "B" (.int cd) U ∧ XT.Arr .byte t V U ∧ Cod cd n f V ∧ ∀ j, j < n → ¬ f j < 0 ∧ ¬ 65535 < f j
theorem Txt.mv {x t : Addr} {V : Cell} {cd : Int32} {n : Nat} {f : Nat → Int32} {U U' : State} (h : Txt x t V cd n f U) (hal : U.vm.Alike U'.vm) (hh : U'.heap = U.heap) : Txt x t V cd n f U' := ⟨h.1.mv hal hh, h.2.1.mv hal hh, h.2.2.1.mv hal hh, h.2.2.2.1.mv hal hh, h.2.2.2.2⟩
namespace Cdr
def yN : MethodName := ⟨"java/lang/String", "coder", "()B"⟩
abbrev yB : ByteArray := jdk_42_method_152_code
theorem d0 : decode yB 0 = .ok (.getstatic 38, 3) := by decide +kernel
theorem d3 : decode yB 3 = .ok (.ifCond (.eq) 10, 3) := by decide +kernel
theorem d6 : decode yB 6 = .ok (.aload_n 0, 1) := by decide +kernel
theorem d7 : decode yB 7 = .ok (.getfield 15, 3) := by decide +kernel
theorem d10 : decode yB 10 = .ok (.goto 4, 3) := by decide +kernel
theorem d14 : decode yB 14 = .ok (.ireturn, 1) := by decide +kernel
def site : List Cond := [.fieldLink "java/lang/String" 38 "java/lang/String" "COMPACT_STRINGS" "Z", .fieldLink "java/lang/String" 15 "java/lang/String" "coder" "B"]
def tab : Cond := tabOf yN yB 1 (some .byte) site
def P (x : Addr) (cd z : Int32) (args : Array Value) (s : State) : Prop := args = #[.ref x] ∧ Has x "java/lang/String" "coder" "B" (.int cd) s ∧ (cd = 0 ∨ cd = 1) ∧ StaticIs s "java/lang/String" "COMPACT_STRINGS" "Z" (.int z) ∧ ¬ z = 0
def E (cd : Int32) (r : Option Value) (s u : State) : Prop := XT.PureE (some (.int cd)) r s u
theorem law (l : Launch) (x : Addr) (cd z : Int32) : Law l yN 1 0 0 0 yB 1 (some .byte) site (P x cd z) (E cd) [] 0 0 := by
  refine Law.of_walk (plainFor_of_name (by decide +kernel)) (by decide +kernel) (by decide +kernel) (by decide) (fun _ _ h => by rw [h.1]; rfl) (fun _ U U' hal hh h => ⟨h.1, h.2.1.mv hal hh, h.2.2.1, h.2.2.2.1.there hal hh, h.2.2.2.2⟩) (fun r U U' V V' h1 hal h2 h => XT.PureE.mv r U U' V V' h1 hal h2 h) ?_
  intro p e s m args below meth c s₁ X0 hexec hbytes hml hret hlk hnm hown hh0 W hP
  obtain ⟨rfl, hx, hc, s1, hz⟩ := hP
  have c1 : Steps p.tables e below (s₁.setTop (entryFrame m #[.ref x] 1)) (s₁.setTop (mkF m 0 #[.val (.ref x)] [])) := entry rfl
  obtain ⟨T2, X2, q2, st2⟩ := X0.sget hexec hown (wk W (.fieldLink "java/lang/String" 38 "java/lang/String" "COMPACT_STRINGS" "Z")) s1 (fun _ _ h => by rw [hh0]; exact h) (g := (mkF m 0 #[.val (.ref x)] [])) rfl (hb hbytes d0)
  have hh2 := q2.trans hh0
  have c3 : Steps p.tables e below (s₁.setTop (entryFrame m #[.ref x] 1)) (T2.setTop (mkF m 7 #[.val (.ref x)] [.ref x])) := (c1.trans (st2 _ (Steps.refl _))).trans (by
    refine XS.ifNo X2.here hexec rfl (hb hbytes d3) rfl (i0_eq_f hz) ?_
    refine XS.aloadN X2.here hexec rfl (hb hbytes d6) rfl rfl ?_
    exact Steps.refl _)
  obtain ⟨T4, X4, q4, st4⟩ := X2.hget hexec hown (wk W (.fieldLink "java/lang/String" 15 "java/lang/String" "coder" "B")) (hx.mv X2.warmed.alike hh2) (g := (mkF m 7 #[.val (.ref x)] [.ref x])) rfl (rest := []) rfl (hb hbytes d7)
  have c5 : Steps p.tables e below (s₁.setTop (entryFrame m #[.ref x] 1)) (T4.setTop (mkF m 14 #[.val (.ref x)] [.int cd])) := (c3.trans (st4 _ (Steps.refl _))).trans (by
    refine XS.goto X4.here hexec rfl (pc0 := 10) rfl (hb hbytes d10) (by decide) rfl ?_
    exact Steps.refl _)
  exact ⟨T4, some (.int cd), _, _, _, X4, rfl, rfl, rfl, (fun h => by cases h), ⟨rfl, q4.trans hh2⟩, fun fs hl => c5.trans (X4.ireturnOut hexec hret (by rcases hc with rfl | rfl <;> rfl) (Or.inr (Or.inr (Or.inl rfl))) (hb hbytes d14) hl)⟩
end Cdr
namespace Len
def yN : MethodName := ⟨"java/lang/String", "length", "()I"⟩
abbrev yB : ByteArray := jdk_42_method_54_code
theorem d0 : decode yB 0 = .ok (.aload_n 0, 1) := by decide +kernel
theorem d1 : decode yB 1 = .ok (.getfield 9, 3) := by decide +kernel
theorem d4 : decode yB 4 = .ok (.arraylength, 1) := by decide +kernel
theorem d5 : decode yB 5 = .ok (.aload_n 0, 1) := by decide +kernel
theorem d6 : decode yB 6 = .ok (.invokevirtual 335, 3) := by decide +kernel
theorem d9 : decode yB 9 = .ok (.ishr, 1) := by decide +kernel
theorem d10 : decode yB 10 = .ok (.ireturn, 1) := by decide +kernel
def site : List Cond := [.fieldLink "java/lang/String" 9 "java/lang/String" "value" "[B", Cdr.tab] ++ virtW "java/lang/String" 335 "java/lang/String" Cdr.yN Cdr.yN
def tab : Cond := tabOf yN yB 1 (some .int) site
def P (x t : Addr) (V : Cell) (cd : Int32) (n : Nat) (f : Nat → Int32) (z : Int32) (args : Array Value) (s : State) : Prop := args = #[.ref x] ∧ Txt x t V cd n f s ∧ StaticIs s "java/lang/String" "COMPACT_STRINGS" "Z" (.int z) ∧ ¬ z = 0
def E (n : Nat) (r : Option Value) (s u : State) : Prop := XT.PureE (some (.int (Int32.ofNat n))) r s u
/-- length() of a String of n chars, in either coding -/
theorem law (l : Launch) (x t : Addr) (V : Cell) (cd : Int32) (n : Nat) (f : Nat → Int32) (z : Int32) : Law l yN 1 0 1 13 yB 1 (some .int) site (P x t V cd n f z) (E n) [] 0 0 := by
  refine Law.of_walk (plainFor_of_name (by decide +kernel)) (by decide +kernel) (by decide +kernel) (by decide) (fun _ _ h => by rw [h.1]; rfl) (fun _ U U' hal hh h => ⟨h.1, h.2.1.mv hal hh, h.2.2.1.there hal hh, h.2.2.2⟩) (fun r U U' V V' h1 hal h2 h => XT.PureE.mv r U U' V V' h1 hal h2 h) ?_
  intro p e s m args below meth c s₁ X0 hexec hbytes hml hret hlk hnm hown hh0 W hP
  obtain ⟨rfl, hx, s1, hz⟩ := hP
  have v31 := hx.2.2.2.1.2.2.2
  have c1 : Steps p.tables e below (s₁.setTop (entryFrame m #[.ref x] 1)) (s₁.setTop (mkF m 1 #[.val (.ref x)] [.ref x])) := Steps.trans (entry rfl) (by
    show Steps p.tables e below (s₁.setTop (mkF m 0 #[.val (.ref x)] [])) _
    refine XS.aloadN X0.here hexec rfl (hb hbytes d0) rfl rfl ?_
    exact Steps.refl _)
  obtain ⟨T2, X2, q2, st2⟩ := X0.hget hexec hown (wk W (.fieldLink "java/lang/String" 9 "java/lang/String" "value" "[B")) (hx.mv X0.warmed.alike hh0).2.1 (g := (mkF m 1 #[.val (.ref x)] [.ref x])) rfl (rest := []) rfl (hb hbytes d1)
  have hh2 := q2.trans hh0
  have hx2 := hx.mv X2.warmed.alike hh2
  have c3 : Steps p.tables e below (s₁.setTop (entryFrame m #[.ref x] 1)) (T2.setTop (mkF m 6 #[.val (.ref x)] [.ref x, .int (Int32.ofNat V.slots.size)])) := (c1.trans (st2 _ (Steps.refl _))).trans (by
    refine X2.alen hexec hx2.2.2.2.1 rfl rfl (hb hbytes d4) ?_
    refine XS.aloadN X2.here hexec rfl (hb hbytes d5) rfl rfl ?_
    exact Steps.refl _)
  obtain ⟨v4, T4, X4, E4, g4⟩ := X2.callV hexec (Cdr.law l x cd z) hown (wks W (virtW "java/lang/String" 335 "java/lang/String" Cdr.yN Cdr.yN)) rfl (by decide) (wk W Cdr.tab) (W := 1) (Nat.le_of_ble_eq_true rfl) (Nat.le_of_ble_eq_true rfl) (Nat.le_refl _) (Nat.le_refl _) (hx2.1.fc X2.warmed.alike) hx2.1.is (g := (mkF m 6 #[.val (.ref x)] [.ref x, .int (Int32.ofNat V.slots.size)])) rfl (by rw [hml]; rfl) c3 (argsL := []) (rest := [.int (Int32.ofNat V.slots.size)]) rfl rfl (by show 2 * 0 + (1 + 0) ≤ _; decide) (hb hbytes d6) (⟨rfl, hx2.2.2.1, hx.2.2.2.2.1.cd, s1.there X2.warmed.alike hh2, hz⟩)
  obtain ⟨rfl, q4⟩ := E4
  have c5 : Steps p.tables e below (s₁.setTop (entryFrame m #[.ref x] 1)) (T4.setTop (mkF m 10 #[.val (.ref x)] [.int (Int32.ofNat V.slots.size >>> (cd &&& 31))])) := Steps.trans g4 (by
    refine ishr X4.here hexec rfl (hb hbytes d9) rfl ?_
    exact Steps.refl _)
  rw [hx.2.2.2.2.1.len v31] at c5
  exact ⟨T4, some (.int (Int32.ofNat n)), _, _, _, X4, rfl, rfl, rfl, (fun h => by cases h), ⟨rfl, q4.trans hh2⟩, fun fs hl => c5.trans (X4.ireturnOut hexec hret rfl (Or.inl rfl) (hb hbytes d10) hl)⟩
theorem pays {l : Launch} {R : Room} {p : Program} {e : Env} {below : List Frame} {s : State} {sargs : Array Value} {len W : Nat} (x t : Addr) (V : Cell) (cd : Int32) (n : Nat) (f : Nat → Int32) (z : Int32) (htab : tab.before sargs s = true) (hfr : 2 ≤ R.frames) (hlo : W + 25 ≤ R.locals) :
    Back l R p e below s sargs yN len W (fun A₁ a₁ => A₁.cells + 0 ≤ R.cells ∧ A₁.slots + 0 ≤ R.slots ∧ P x t V cd n f z a₁ A₁.U) (fun A₁ _ v₁ B₁ => E n v₁ A₁.U B₁.U ∧ B₁.locs = A₁.locs ++ [] ∧ B₁.cells = A₁.cells + 0 ∧ B₁.slots = A₁.slots + 0) :=
  (law l x t V cd n f z).pays htab hfr (by omega)
end Len
namespace IsL
def yN : MethodName := ⟨"java/lang/String", "isLatin1", "()Z"⟩
abbrev yB : ByteArray := jdk_42_method_154_code
theorem d0 : decode yB 0 = .ok (.getstatic 38, 3) := by decide +kernel
theorem d3 : decode yB 3 = .ok (.ifCond (.eq) 14, 3) := by decide +kernel
theorem d6 : decode yB 6 = .ok (.aload_n 0, 1) := by decide +kernel
theorem d7 : decode yB 7 = .ok (.getfield 15, 3) := by decide +kernel
theorem d10 : decode yB 10 = .ok (.ifCond (.ne) 7, 3) := by decide +kernel
theorem d13 : decode yB 13 = .ok (.iconst 1, 1) := by decide +kernel
theorem d14 : decode yB 14 = .ok (.goto 4, 3) := by decide +kernel
theorem d17 : decode yB 17 = .ok (.iconst 0, 1) := by decide +kernel
theorem d18 : decode yB 18 = .ok (.ireturn, 1) := by decide +kernel
def site : List Cond := [.fieldLink "java/lang/String" 38 "java/lang/String" "COMPACT_STRINGS" "Z", .fieldLink "java/lang/String" 15 "java/lang/String" "coder" "B"]
def tab : Cond := tabOf yN yB 1 (some .boolean) site
def P (x : Addr) (cd z : Int32) (args : Array Value) (s : State) : Prop := args = #[.ref x] ∧ Has x "java/lang/String" "coder" "B" (.int cd) s ∧ (cd = 0 ∨ cd = 1) ∧ StaticIs s "java/lang/String" "COMPACT_STRINGS" "Z" (.int z) ∧ ¬ z = 0
def E (cd : Int32) (r : Option Value) (s u : State) : Prop := XT.PureE (some (.int (1 - cd))) r s u
theorem law (l : Launch) (x : Addr) (cd z : Int32) : Law l yN 1 0 0 0 yB 1 (some .boolean) site (P x cd z) (E cd) [] 0 0 := by
  refine Law.of_walk (plainFor_of_name (by decide +kernel)) (by decide +kernel) (by decide +kernel) (by decide) (fun _ _ h => by rw [h.1]; rfl) (fun _ U U' hal hh h => ⟨h.1, h.2.1.mv hal hh, h.2.2.1, h.2.2.2.1.there hal hh, h.2.2.2.2⟩) (fun r U U' V V' h1 hal h2 h => XT.PureE.mv r U U' V V' h1 hal h2 h) ?_
  intro p e s m args below meth c s₁ X0 hexec hbytes hml hret hlk hnm hown hh0 W hP
  obtain ⟨rfl, hx, hc, s1, hz⟩ := hP
  have c1 : Steps p.tables e below (s₁.setTop (entryFrame m #[.ref x] 1)) (s₁.setTop (mkF m 0 #[.val (.ref x)] [])) := entry rfl
  obtain ⟨T2, X2, q2, st2⟩ := X0.sget hexec hown (wk W (.fieldLink "java/lang/String" 38 "java/lang/String" "COMPACT_STRINGS" "Z")) s1 (fun _ _ h => by rw [hh0]; exact h) (g := (mkF m 0 #[.val (.ref x)] [])) rfl (hb hbytes d0)
  have hh2 := q2.trans hh0
  have c3 : Steps p.tables e below (s₁.setTop (entryFrame m #[.ref x] 1)) (T2.setTop (mkF m 7 #[.val (.ref x)] [.ref x])) := (c1.trans (st2 _ (Steps.refl _))).trans (by
    refine XS.ifNo X2.here hexec rfl (hb hbytes d3) rfl (i0_eq_f hz) ?_
    refine XS.aloadN X2.here hexec rfl (hb hbytes d6) rfl rfl ?_
    exact Steps.refl _)
  obtain ⟨T4, X4, q4, st4⟩ := X2.hget hexec hown (wk W (.fieldLink "java/lang/String" 15 "java/lang/String" "coder" "B")) (hx.mv X2.warmed.alike hh2) (g := (mkF m 7 #[.val (.ref x)] [.ref x])) rfl (rest := []) rfl (hb hbytes d7)
  have c5 : Steps p.tables e below (s₁.setTop (entryFrame m #[.ref x] 1)) (T4.setTop (mkF m 10 #[.val (.ref x)] [.int cd])) := c3.trans (st4 _ (Steps.refl _))
  have c6 : Steps p.tables e below (s₁.setTop (entryFrame m #[.ref x] 1)) (T4.setTop (mkF m 18 #[.val (.ref x)] [.int (1 - cd)])) := by
    rcases hc with rfl | rfl
    · exact c5.trans (by
        refine XS.ifNo X4.here hexec rfl (hb hbytes d10) rfl (i0_ne_f rfl) ?_
        refine iconstV X4.here hexec rfl 1 (hb hbytes d13) (by decide) ?_
        refine XS.goto X4.here hexec rfl (pc0 := 14) rfl (hb hbytes d14) (by decide) rfl ?_
        exact Steps.refl _)
    · exact c5.trans (by
        refine XS.ifYes X4.here hexec rfl (pc0 := 10) rfl (hb hbytes d10) rfl (i0_ne_t (by decide)) (by decide) rfl ?_
        refine iconstV X4.here hexec rfl 0 (hb hbytes d17) (by decide) ?_
        exact Steps.refl _)
  exact ⟨T4, some (.int (1 - cd)), _, _, _, X4, rfl, rfl, rfl, (fun h => by cases h), ⟨rfl, q4.trans hh2⟩, fun fs hl => c6.trans (X4.ireturnOut hexec hret (by rcases hc with rfl | rfl <;> rfl) (Or.inr (Or.inl rfl)) (hb hbytes d18) hl)⟩
end IsL
namespace LChA
def yN : MethodName := ⟨"java/lang/StringLatin1", "charAt", "([BI)C"⟩
abbrev yB : ByteArray := jdk_43_method_2_code
theorem d0 : decode yB 0 = .ok (.iload_n 1, 1) := by decide +kernel
theorem d1 : decode yB 1 = .ok (.aload_n 0, 1) := by decide +kernel
theorem d2 : decode yB 2 = .ok (.arraylength, 1) := by decide +kernel
theorem d3 : decode yB 3 = .ok (.invokestatic 9, 3) := by decide +kernel
theorem d6 : decode yB 6 = .ok (.aload_n 0, 1) := by decide +kernel
theorem d7 : decode yB 7 = .ok (.iload_n 1, 1) := by decide +kernel
theorem d8 : decode yB 8 = .ok (.baload, 1) := by decide +kernel
theorem d9 : decode yB 9 = .ok (.sipush 255, 3) := by decide +kernel
theorem d12 : decode yB 12 = .ok (.iand, 1) := by decide +kernel
theorem d13 : decode yB 13 = .ok (.i2c, 1) := by decide +kernel
theorem d14 : decode yB 14 = .ok (.ireturn, 1) := by decide +kernel
def site : List Cond := [JO.Str_checkIndex.tab] ++ staticW "java/lang/StringLatin1" 9 JO.Str_checkIndex.yN
def tab : Cond := tabOf yN yB 2 (some .char) site
def P (t : Addr) (V : Cell) (i : Nat) (u : Int32) (fm : Value) (args : Array Value) (s : State) : Prop := args = #[.ref t, .int (Int32.ofNat i)] ∧ XT.Arr .byte t V s ∧ V.slots[i]? = some (.int u) ∧ (StaticIs s "jdk/internal/util/Preconditions" "SIOOBE_FORMATTER" "Ljava/util/function/BiFunction;" fm ∧ fm.isRef = true)
def E (u : Int32) (r : Option Value) (s w : State) : Prop := XT.PureE (some (.int (chr8 u))) r s w
theorem law (l : Launch) (t : Addr) (V : Cell) (i : Nat) (u : Int32) (fm : Value) : Law l yN 2 2 2 27 yB 2 (some .char) site (P t V i u fm) (E u) [] 0 0 := by
  refine Law.of_walk (plainFor_of_name (by decide +kernel)) (by decide +kernel) (by decide +kernel) (by decide) (fun _ _ h => by rw [h.1]; rfl) (fun _ U U' hal hh h => ⟨h.1, h.2.1.mv hal hh, h.2.2.1, h.2.2.2.1.there hal hh, h.2.2.2.2⟩) (fun r U U' V V' h1 hal h2 h => XT.PureE.mv r U U' V V' h1 hal h2 h) ?_
  intro p e s m args below meth c s₁ X0 hexec hbytes hml hret hlk hnm hown hh0 W hP
  obtain ⟨rfl, hV, hu, s1, rf⟩ := hP
  have v31 := hV.2.2.2
  have hi : i < V.slots.size := (Array.getElem?_eq_some_iff.mp hu).1
  have c1 : Steps p.tables e below (s₁.setTop (entryFrame m #[.ref t, .int (Int32.ofNat i)] 2)) (s₁.setTop (mkF m 0 #[.val (.ref t), .val (.int (Int32.ofNat i))] [])) := entry rfl
  have c2 : Steps p.tables e below (s₁.setTop (entryFrame m #[.ref t, .int (Int32.ofNat i)] 2)) (s₁.setTop (mkF m 3 #[.val (.ref t), .val (.int (Int32.ofNat i))] [.int (Int32.ofNat V.slots.size), .int (Int32.ofNat i)])) := c1.trans (by
    refine XS.iloadN X0.here hexec rfl (hb hbytes d0) rfl ?_
    refine XS.aloadN X0.here hexec rfl (hb hbytes d1) rfl rfl ?_
    refine X0.alen hexec (hV.mv X0.warmed.alike hh0) rfl rfl (hb hbytes d2) ?_
    exact Steps.refl _)
  obtain ⟨v3, T3, X3, E3, g3⟩ := X0.callS hexec (JO.Str_checkIndex.law l (Int32.ofNat i) (Int32.ofNat V.slots.size) fm) hown (wks W (staticW "java/lang/StringLatin1" 9 JO.Str_checkIndex.yN)) (wk W JO.Str_checkIndex.tab) (W := 0) (Nat.le_of_ble_eq_true rfl) (Nat.le_of_ble_eq_true rfl) (Nat.le_refl _) (Nat.le_refl _) (g := (mkF m 3 #[.val (.ref t), .val (.int (Int32.ofNat i))] [.int (Int32.ofNat V.slots.size), .int (Int32.ofNat i)])) rfl (by rw [hml]; rfl) c2 (argsL := [.int (Int32.ofNat i), .int (Int32.ofNat V.slots.size)]) (rest := []) rfl rfl (by show 2 * 0 + 0 ≤ _; decide) (hb hbytes d3) (⟨rfl, rf, s1.there X0.warmed.alike hh0, Int32.ofNat_not_neg (by omega), lt32 v31 hi⟩)
  obtain ⟨rfl, q3⟩ := E3
  have hh3 := q3.trans hh0
  have c4 : Steps p.tables e below (s₁.setTop (entryFrame m #[.ref t, .int (Int32.ofNat i)] 2)) (T3.setTop (mkF m 14 #[.val (.ref t), .val (.int (Int32.ofNat i))] [.int (chr8 u)])) := Steps.trans g3 (by
    refine XS.aloadN X3.here hexec rfl (hb hbytes d6) rfl rfl ?_
    refine XS.iloadN X3.here hexec rfl (hb hbytes d7) rfl ?_
    refine X3.aget hexec (hV.mv X3.warmed.alike hh3) rfl hu rfl rfl (hb hbytes d8) ?_
    refine sipushV X3.here hexec rfl 255 (hb hbytes d9) (by decide) ?_
    refine XS.iand X3.here hexec rfl (hb hbytes d12) rfl ?_
    refine i2c X3.here hexec rfl (hb hbytes d13) rfl ?_
    exact Steps.refl _)
  exact ⟨T3, some (.int (chr8 u)), _, _, _, X3, rfl, rfl, rfl, (fun h => by cases h), ⟨rfl, hh3⟩, fun fs hl => c4.trans (X3.ireturnOut hexec hret (narrow_c _) (Or.inr (Or.inr (Or.inr (Or.inl rfl)))) (hb hbytes d14) hl)⟩
end LChA
end StrChars
namespace StrChars.Road
open Jvm Sem ClassFile Op Lib Jvm.Stand Jvm.Free Jvm.Free.XT
open Jvm.Lib.Cold (StaticIs)
theorem consq {a : Array Value} {s : State} {c : Jvm.Cond} {L : List Jvm.Cond} (h0 : c.before a s = true) (h : ∀ w ∈ L, w.before a s = true) : ∀ w ∈ c :: L, w.before a s = true := fun w hw => (List.mem_cons.mp hw).elim (fun e => e ▸ h0) (h w)
/-- the words of String.length(), either coding -/
abbrev wordsLen : List Jvm.Cond := [.code Len.yN Len.yB 1 (some .int), .initialized ST, .fieldLink ST 9 ST "value" "[B", .fieldLink ST 38 ST "COMPACT_STRINGS" "Z", .fieldLink ST 15 ST "coder" "B", .code Cdr.yN Cdr.yB 1 (some .byte), .methodLink ST 335 Cdr.yN, .declares Cdr.yN, .selects ST Cdr.yN Cdr.yN, .instanceMethod Cdr.yN]
theorem tabLen_of {a : Array Value} {s : State} (h : ∀ w ∈ wordsLen, w.before a s = true) : Len.tab.before a s = true := by
  have hc : Cdr.tab.before a s = true := unparts (wk h (.code Cdr.yN Cdr.yB 1 (some .byte))) (wks h (.initialized Cdr.yN.cls :: Cdr.site))
  have q := consq hc h
  exact unparts (wk q (.code Len.yN Len.yB 1 (some .int))) (wks q (.initialized Len.yN.cls :: Len.site))
theorem movedLen {Z s : State} {a0 args : Array Value} (hZ : Z.Warmed39 s.vm) (hw : ∀ d ∈ wordsLen, d.before a0 Z = true) : ∀ d ∈ wordsLen, d.before args s = true := fun d hd => by
  have q := hw d hd
  have t : ∀ d ∈ wordsLen, d = .arrayClass .byte ∨ (d.onTables && d.keepsFace) = true := by decide +kernel
  rcases t d hd with rfl | t
  · exact RoadKit.mvA hZ q
  · exact RoadKit.mv hZ q t
/-- the bytes of the chars cs, low before high -/
def wideBytes : List Int32 → List Value
  | [] => []
  | c :: cs => .int (lo8 c) :: .int (hi8 c) :: wideBytes cs
theorem wide_lo (d : Value) : ∀ (cs : List Int32) (j : Nat), j < cs.length → (wideBytes cs).getD (2 * j) d = .int (lo8 (cs.getD j 0))
  | [], j, h => absurd h (Nat.not_lt_zero j)
  | c :: cs, 0, _ => rfl
  | c :: cs, j + 1, h => by
    have q := wide_lo d cs j (by simpa using h)
    rw [show 2 * (j + 1) = 2 * j + 1 + 1 from by omega]
    simpa [wideBytes] using q
theorem wide_hi (d : Value) : ∀ (cs : List Int32) (j : Nat), j < cs.length → (wideBytes cs).getD (2 * j + 1) d = .int (hi8 (cs.getD j 0))
  | [], j, h => absurd h (Nat.not_lt_zero j)
  | c :: cs, 0, _ => rfl
  | c :: cs, j + 1, h => by
    have q := wide_hi d cs j (by simpa using h)
    rw [show 2 * (j + 1) + 1 = 2 * j + 1 + 1 + 1 from by omega]
    simpa [wideBytes] using q
theorem low_at (d : Value) (cs : List Int32) (j : Nat) (h : j < cs.length) : (cs.map fun c => Value.int (lo8 c)).getD j d = .int (lo8 (cs.getD j 0)) := by
  simp [List.getD_eq_getElem?_getD, h]
/-- an array of N2 bytes vs codes the chars cs by the coder cd -/
def CodA (cs : List Int32) (cd N2 : Int32) (vs : List Value) : Prop := (cd = 0 ∧ N2 = Int32.ofNat cs.length ∧ vs = (cs.map fun c => Value.int (lo8 c)) ∧ ∀ c ∈ cs, ¬ 255 < c) ∨ (cd = 1 ∧ N2 = Int32.ofNat (2 * cs.length) ∧ vs = wideBytes cs ∧ ∃ c ∈ cs, 255 < c)
theorem CodA.cod {cs : List Int32} {cd N2 : Int32} {vs : List Value} {V : Cell} (h : CodA cs cd N2 vs) (hn : 2 * cs.length < 2 ^ 31) (hs : V.slots.size = N2.toNatClampNeg) (hv : RoadKit.Has V vs (.int 0)) : Cod cd cs.length (fun j => cs.getD j 0) V := by
  rcases h with ⟨rfl, rfl, rfl, h⟩ | ⟨rfl, rfl, rfl, c, hc, hw⟩
  · rw [n32 (by omega)] at hs
    exact Or.inl ⟨rfl, hs, fun j hj => ⟨by rw [hv j (by omega), low_at _ _ _ hj], by
      have e : cs.getD j 0 = cs[j] := by simp [List.getD_eq_getElem?_getD, hj]
      show ¬ 255 < cs.getD j 0
      rw [e]; exact h _ (List.getElem_mem _)⟩⟩
  · rw [n32 (by omega)] at hs
    obtain ⟨j, hj, rfl⟩ := List.getElem_of_mem hc
    exact Or.inr ⟨rfl, hs, fun j hj => ⟨by rw [hv _ (by omega), wide_lo _ _ _ hj], by rw [hv _ (by omega), wide_hi _ _ _ hj]⟩, j, hj, by
      have e : cs.getD j 0 = cs[j] := by simp [List.getD_eq_getElem?_getD, hj]
      show 255 < cs.getD j 0
      rw [e]; exact hw⟩
/-- an object of exactly java/lang/String, its two fields found: as the laws ask it -/
theorem strObj {Z U : State} {a0 : Array Value} {kI : Nat} (wi : (Jvm.Cond.instantiable ST kI).before a0 Z = true) (al : Z.vm.Alike U.vm) {x : Addr} {v0 c0 : Value} (E : RoadKit.Exa Z U.heap x ST) (V : RoadKit.Fld Z U.heap x ST "value" "[B" v0) (C : RoadKit.Fld Z U.heap x ST "coder" "B" c0) :
    ∃ (D : Cell) (fV fC : Field), Blank ST x D U ∧ Found ST "value" "[B" fV U ∧ Found ST "coder" "B" fC U ∧ D.slots[fV.slot]? = some v0 ∧ D.slots[fC.slot]? = some c0 ∧ RoadKit.slotOf Z ST "value" "[B" = fV.slot ∧ RoadKit.slotOf Z ST "coder" "B" = fC.slot := by
  obtain ⟨D, cfV, kV, iV, fV, hD, gV, stV, knV, obV, asV, slV⟩ := V
  obtain ⟨D', cfC, kC, iC, fC, hD', gC, stC, -, -, asC, slC⟩ := C
  cases hD.symm.trans hD'
  obtain ⟨D2, kD, e1, e2, e3, e4, e5⟩ := E
  cases hD.symm.trans e1
  obtain ⟨c2, k2, i1, i2, i3, -⟩ := Cond.instantiable_spec wi
  cases e2.symm.trans i1
  cases e3.symm.trans i2
  obtain ⟨kU, u1, u2⟩ := al.2.2 _ _ e3
  exact ⟨D, fV, fC, ⟨hD, ⟨knV, fun q hq => by rw [hq] at obV; cases obV⟩, by rw [al.findClass]; exact e2, kU, u1, by rw [u2]; exact i3, by rw [u2]; exact e5 i3⟩, ⟨SBG.found_only al ⟨cfV, kV, iV, gV⟩, stV⟩, ⟨SBG.found_only al ⟨cfC, kC, iC, gC⟩, stC⟩, slV, slC, by simp [RoadKit.slotOf, gV], by simp [RoadKit.slotOf, gC]⟩
theorem sta_is {Z U : State} (al : Z.vm.Alike U.vm) {C n d : String} {v : Value} (S : RoadKit.Sta Z U.heap C n d v) : StaticIs U C n d v := by
  obtain ⟨cfS, iS, kS, fS, st, cS, t1, t2, t3, t4, t5, t6, t7⟩ := S
  exact StaticIs.there (s := { Z with heap := U.heap }) ⟨cfS, iS, kS, fS, st, cS, t1, t2, t3, t4, t5, (fun q => by rw [q] at t6; cases t6), t7⟩ al rfl
/-- **length() OF SUCH A STRING** -/
theorem lenW {p : Program} {l : Launch} {e : Env} {R : Room} {s : State} {args : Array Value} {below : List Frame} {len W : Nat} {Z : State} {a0 : Array Value} {h : Heap} (hZ : Z.Warmed39 s.vm) (hw : ∀ d ∈ wordsLen, d.before a0 Z = true) {kI : Nat} (wi : (Jvm.Cond.instantiable ST kI).before a0 Z = true)
    {x t : Addr} {kb : ClassId} {cs : List Int32} {cd N2 z : Int32} {vs : List Value} (E : RoadKit.Exa Z h x ST) (V : RoadKit.Fld Z h x ST "value" "[B" (.ref t)) (C : RoadKit.Fld Z h x ST "coder" "B" (.int cd)) (K : RoadKit.Arv Z h t kb .byte N2 vs (.int 0)) (hc : CodA cs cd N2 vs) (hb : ∀ c ∈ cs, ¬ c < 0 ∧ ¬ (65535 : Int32) < c)
    (S : RoadKit.Sta Z h ST "COMPACT_STRINGS" "Z" (.int z)) (hz : ¬ z = 0) (l2 : cs.length ≤ 4000) (hfr : 2 ≤ R.frames) (hlo : W + 25 ≤ R.locals) :
    Back l R p e below s args (⟨"java/lang/String", "length", "()I"⟩ : MethodName) len W (fun P a => a = #[.ref x] ∧ P.U.heap = h ∧ P.cells + 0 ≤ R.cells ∧ P.slots + 0 ≤ R.slots)
      (fun P _ v B => ∃ L, (v = some (.int (Int32.ofNat cs.length)) ∧ L = [] ∧ B.U.heap = h) ∧ B.locs = P.locs ++ L ∧ B.cells = P.cells + 0 ∧ B.slots = P.slots + 0) := by
  obtain ⟨A, K1, K2, K3, K4, K5, K6⟩ := K
  have hcod := hc.cod (by omega) K3 K5
  intro m meth c P g ig mk a X hg hsize hdg hW hn hp'
  obtain ⟨rfl, rfl, r1, r2⟩ := hp'
  have al : Z.vm.Alike P.U.vm := hZ.alike.trans X.warmed.alike
  obtain ⟨D, fV, fC, hB, F1, F2, g1, g2, -, -⟩ := strObj wi al E V C
  have hx : Txt x t A cd cs.length (fun j => cs.getD j 0) P.U := ⟨⟨_, hB.2.2.1, D, hB.1, rfl, by cases q : D.vm <;> first | rfl | exact absurd q (hB.2.1.2 _)⟩, Has.of hB F1 g1, Has.of hB F2 g2, ⟨K1.1, State.isArrayOf_alike al K1.2.1, K1.2.2, by rcases hcod with ⟨-, q, -⟩ | ⟨-, q, -⟩ <;> omega⟩, hcod, fun j hj => by
    have e : cs.getD j 0 = cs[j] := by simp [List.getD_eq_getElem?_getD, hj]
    show ¬ cs.getD j 0 < 0 ∧ ¬ 65535 < cs.getD j 0
    rw [e]; exact hb _ (List.getElem_mem _)⟩
  obtain ⟨v, B, X', ⟨⟨hv, hh⟩, hl, hk, hs⟩, st⟩ := Len.pays x t A cd cs.length (fun j => cs.getD j 0) z (tabLen_of (movedLen hZ hw)) hfr hlo m meth c P g ig mk _ X hg hsize hdg hW hn ⟨r1, r2, rfl, hx, sta_is al S, hz⟩
  exact ⟨v, B, X', ⟨[], ⟨hv, rfl, hh⟩, hl, hk, hs⟩, st⟩
end StrChars.Road
namespace StrChars
open Jvm Sem ClassFile Op Lib Jvm.Stand Jvm.Free.XT Jvm.Free.ALB Jvm.Free.JM Jvm.Free
open Jvm.Lib.Cold (StaticIs)
namespace Emp
def yN : MethodName := ⟨"java/lang/String", "isEmpty", "()Z"⟩
abbrev yB : ByteArray := jdk_42_method_55_code
theorem d0 : decode yB 0 = .ok (.aload_n 0, 1) := by decide +kernel
theorem d1 : decode yB 1 = .ok (.getfield 9, 3) := by decide +kernel
theorem d4 : decode yB 4 = .ok (.arraylength, 1) := by decide +kernel
theorem d5 : decode yB 5 = .ok (.ifCond (.ne) 7, 3) := by decide +kernel
theorem d8 : decode yB 8 = .ok (.iconst 1, 1) := by decide +kernel
theorem d9 : decode yB 9 = .ok (.goto 4, 3) := by decide +kernel
theorem d12 : decode yB 12 = .ok (.iconst 0, 1) := by decide +kernel
theorem d13 : decode yB 13 = .ok (.ireturn, 1) := by decide +kernel
def site : List Cond := [.fieldLink "java/lang/String" 9 "java/lang/String" "value" "[B"]
def tab : Cond := tabOf yN yB 1 (some .boolean) site
def P (x t : Addr) (V : Cell) (cd : Int32) (n : Nat) (f : Nat → Int32) (args : Array Value) (s : State) : Prop := args = #[.ref x] ∧ Txt x t V cd n f s
def E (n : Nat) (r : Option Value) (s u : State) : Prop := XT.PureE (some (.int (if n = 0 then 1 else 0))) r s u
/-- isEmpty() of a String of n chars -/
theorem law (l : Launch) (x t : Addr) (V : Cell) (cd : Int32) (n : Nat) (f : Nat → Int32) : Law l yN 1 0 0 0 yB 1 (some .boolean) site (P x t V cd n f) (E n) [] 0 0 := by
  refine Law.of_walk (plainFor_of_name (by decide +kernel)) (by decide +kernel) (by decide +kernel) (by decide) (fun _ _ h => by rw [h.1]; rfl) (fun _ U U' hal hh h => ⟨h.1, h.2.mv hal hh⟩) (fun r U U' V V' h1 hal h2 h => XT.PureE.mv r U U' V V' h1 hal h2 h) ?_
  intro p e s m args below meth c s₁ X0 hexec hbytes hml hret hlk hnm hown hh0 W hP
  obtain ⟨rfl, hx⟩ := hP
  have v31 := hx.2.2.2.1.2.2.2
  have c1 : Steps p.tables e below (s₁.setTop (entryFrame m #[.ref x] 1)) (s₁.setTop (mkF m 1 #[.val (.ref x)] [.ref x])) := Steps.trans (entry rfl) (by
    show Steps p.tables e below (s₁.setTop (mkF m 0 #[.val (.ref x)] [])) _
    refine XS.aloadN X0.here hexec rfl (hb hbytes d0) rfl rfl ?_
    exact Steps.refl _)
  obtain ⟨T2, X2, q2, st2⟩ := X0.hget hexec hown (wk W (.fieldLink "java/lang/String" 9 "java/lang/String" "value" "[B")) (hx.mv X0.warmed.alike hh0).2.1 (g := (mkF m 1 #[.val (.ref x)] [.ref x])) rfl (rest := []) rfl (hb hbytes d1)
  have hh2 := q2.trans hh0
  have hx2 := hx.mv X2.warmed.alike hh2
  have c3 : Steps p.tables e below (s₁.setTop (entryFrame m #[.ref x] 1)) (T2.setTop (mkF m 5 #[.val (.ref x)] [.int (Int32.ofNat V.slots.size)])) := (c1.trans (st2 _ (Steps.refl _))).trans (by
    refine X2.alen hexec hx2.2.2.2.1 rfl rfl (hb hbytes d4) ?_
    exact Steps.refl _)
  have hz : V.slots.size = 0 ↔ n = 0 := by
    rcases hx.2.2.2.2.1 with ⟨-, q, -⟩ | ⟨-, q, -⟩ <;> omega
  by_cases h0 : n = 0
  · have c4 : Steps p.tables e below (s₁.setTop (entryFrame m #[.ref x] 1)) (T2.setTop (mkF m 13 #[.val (.ref x)] [.int 1])) := c3.trans (by
      refine XS.ifNo X2.here hexec rfl (hb hbytes d5) rfl (i0_ne_f (by rw [hz.mpr h0]; rfl)) ?_
      refine iconstV X2.here hexec rfl 1 (hb hbytes d8) (by decide) ?_
      refine XS.goto X2.here hexec rfl (pc0 := 9) rfl (hb hbytes d9) (by decide) rfl ?_
      exact Steps.refl _)
    exact ⟨T2, some (.int 1), _, _, _, X2, rfl, rfl, rfl, (fun h => by cases h), ⟨by rw [if_pos h0], hh2⟩, fun fs hl => c4.trans (X2.ireturnOut hexec hret rfl (Or.inr (Or.inl rfl)) (hb hbytes d13) hl)⟩
  · have c4 : Steps p.tables e below (s₁.setTop (entryFrame m #[.ref x] 1)) (T2.setTop (mkF m 13 #[.val (.ref x)] [.int 0])) := c3.trans (by
      refine XS.ifYes X2.here hexec rfl (pc0 := 5) rfl (hb hbytes d5) rfl (i0_ne_t (nz32 v31 (by omega))) (by decide) rfl ?_
      refine iconstV X2.here hexec rfl 0 (hb hbytes d12) (by decide) ?_
      exact Steps.refl _)
    exact ⟨T2, some (.int 0), _, _, _, X2, rfl, rfl, rfl, (fun h => by cases h), ⟨by rw [if_neg h0], hh2⟩, fun fs hl => c4.trans (X2.ireturnOut hexec hret rfl (Or.inr (Or.inl rfl)) (hb hbytes d13) hl)⟩
theorem pays {l : Launch} {R : Room} {p : Program} {e : Env} {below : List Frame} {s : State} {sargs : Array Value} {len W : Nat} (x t : Addr) (V : Cell) (cd : Int32) (n : Nat) (f : Nat → Int32) (htab : tab.before sargs s = true) (hfr : 1 ≤ R.frames) (hlo : W + 12 ≤ R.locals) :
    Back l R p e below s sargs yN len W (fun A₁ a₁ => A₁.cells + 0 ≤ R.cells ∧ A₁.slots + 0 ≤ R.slots ∧ P x t V cd n f a₁ A₁.U) (fun A₁ _ v₁ B₁ => E n v₁ A₁.U B₁.U ∧ B₁.locs = A₁.locs ++ [] ∧ B₁.cells = A₁.cells + 0 ∧ B₁.slots = A₁.slots + 0) :=
  (law l x t V cd n f).pays htab hfr (by omega)
end Emp
/-- what place i of a byte[]'s cell holds -/
def yv (A : Cell) (i : Nat) : Int32 := match A.slots[i]? with | some (.int x) => x | _ => 0
theorem yv_get {a : Addr} {A : Cell} {U : State} (h : XT.Arr .byte a A U) (ht : Typed .byte A) {i : Nat} (hi : i < A.slots.size) : A.slots[i]? = some (.int (yv A i)) := by
  have e := Array.getElem?_eq_getElem hi
  have f := ht i _ e
  unfold yv; rw [e]
  generalize A.slots[i] = v at f
  cases v <;> simp [fits] at f ⊢
/-- the two arrays are equal, place for place -/
def EqC (A B : Cell) : Prop := A.slots.size = B.slots.size ∧ ∀ i, i < A.slots.size → yv A i = yv B i
/-- a boolean that says whether p -/
def Says01 (q : Prop) (r : Option Value) (s u : State) : Prop := ∃ v : Int32, r = some (.int v) ∧ u.heap = s.heap ∧ ((v = 1 ∧ q) ∨ (v = 0 ∧ ¬ q))
theorem Says01.mv {q : Prop} : ∀ r (U U' V V' : State), U'.heap = U.heap → V.vm.Alike V'.vm → V'.heap = V.heap → Says01 q r U V → Says01 q r U' V' :=
  fun r U U' V V' h1 _ h2 ⟨v, a, b, c⟩ => ⟨v, a, by rw [h1, h2]; exact b, c⟩
namespace LEq
def yN : MethodName := ⟨"java/lang/StringLatin1", "equals", "([B[B)Z"⟩
abbrev yB : ByteArray := jdk_43_method_13_code
theorem d0 : decode yB 0 = .ok (.aload_n 0, 1) := by decide +kernel
theorem d1 : decode yB 1 = .ok (.arraylength, 1) := by decide +kernel
theorem d2 : decode yB 2 = .ok (.aload_n 1, 1) := by decide +kernel
theorem d3 : decode yB 3 = .ok (.arraylength, 1) := by decide +kernel
theorem d4 : decode yB 4 = .ok (.if_icmp (.ne) 30, 3) := by decide +kernel
theorem d7 : decode yB 7 = .ok (.iconst 0, 1) := by decide +kernel
theorem d8 : decode yB 8 = .ok (.istore_n 2, 1) := by decide +kernel
theorem d9 : decode yB 9 = .ok (.iload_n 2, 1) := by decide +kernel
theorem d10 : decode yB 10 = .ok (.aload_n 0, 1) := by decide +kernel
theorem d11 : decode yB 11 = .ok (.arraylength, 1) := by decide +kernel
theorem d12 : decode yB 12 = .ok (.if_icmp (.ge) 20, 3) := by decide +kernel
theorem d15 : decode yB 15 = .ok (.aload_n 0, 1) := by decide +kernel
theorem d16 : decode yB 16 = .ok (.iload_n 2, 1) := by decide +kernel
theorem d17 : decode yB 17 = .ok (.baload, 1) := by decide +kernel
theorem d18 : decode yB 18 = .ok (.aload_n 1, 1) := by decide +kernel
theorem d19 : decode yB 19 = .ok (.iload_n 2, 1) := by decide +kernel
theorem d20 : decode yB 20 = .ok (.baload, 1) := by decide +kernel
theorem d21 : decode yB 21 = .ok (.if_icmp (.eq) 5, 3) := by decide +kernel
theorem d24 : decode yB 24 = .ok (.iconst 0, 1) := by decide +kernel
theorem d25 : decode yB 25 = .ok (.ireturn, 1) := by decide +kernel
theorem d26 : decode yB 26 = .ok (.iinc 2 1, 3) := by decide +kernel
theorem d29 : decode yB 29 = .ok (.goto (-20), 3) := by decide +kernel
theorem d32 : decode yB 32 = .ok (.iconst 1, 1) := by decide +kernel
theorem d33 : decode yB 33 = .ok (.ireturn, 1) := by decide +kernel
theorem d34 : decode yB 34 = .ok (.iconst 0, 1) := by decide +kernel
theorem d35 : decode yB 35 = .ok (.ireturn, 1) := by decide +kernel
def site : List Cond := []
def tab : Cond := tabOf yN yB 3 (some .boolean) site
def P (a : Addr) (A : Cell) (b : Addr) (B : Cell) (args : Array Value) (s : State) : Prop := args = #[.ref a, .ref b] ∧ XT.Arr .byte a A s ∧ Typed .byte A ∧ XT.Arr .byte b B s ∧ Typed .byte B
/-- whether two byte[] are equal, place for place -/
theorem law (l : Launch) (a : Addr) (A : Cell) (b : Addr) (B : Cell) : Law l yN 2 2 0 0 yB 3 (some .boolean) site (P a A b B) (Says01 (EqC A B)) [] 0 0 := by
  refine Law.of_walk (plainFor_of_name (by decide +kernel)) (by decide +kernel) (by decide +kernel) (by decide) (fun _ _ h => by rw [h.1]; rfl) (fun _ U U' hal hh h => ⟨h.1, h.2.1.mv hal hh, h.2.2.1, h.2.2.2.1.mv hal hh, h.2.2.2.2⟩) (fun r U U' V V' h1 hal h2 h => Says01.mv r U U' V V' h1 hal h2 h) ?_
  intro p e s m args below meth c s₁ X0 hexec hbytes hml hret hlk hnm hown hh0 W hP
  obtain ⟨rfl, hA, tA, hB, tB⟩ := hP
  have a31 := hA.2.2.2
  have b31 := hB.2.2.2
  have hA0 := hA.mv X0.warmed.alike hh0
  have hB0 := hB.mv X0.warmed.alike hh0
  have c1 : Steps p.tables e below (s₁.setTop (entryFrame m #[.ref a, .ref b] 3)) (s₁.setTop (mkF m 0 #[.val (.ref a), .val (.ref b), .unset] [])) := entry rfl
  have c2 : Steps p.tables e below (s₁.setTop (entryFrame m #[.ref a, .ref b] 3)) (s₁.setTop (mkF m 4 #[.val (.ref a), .val (.ref b), .unset] [.int (Int32.ofNat B.slots.size), .int (Int32.ofNat A.slots.size)])) := c1.trans (by
    refine XS.aloadN X0.here hexec rfl (hb hbytes d0) rfl rfl ?_
    refine X0.alen hexec hA0 rfl rfl (hb hbytes d1) ?_
    refine XS.aloadN X0.here hexec rfl (hb hbytes d2) rfl rfl ?_
    refine X0.alen hexec hB0 rfl rfl (hb hbytes d3) ?_
    exact Steps.refl _)
  by_cases hs : A.slots.size = B.slots.size
  · have c3 : Steps p.tables e below (s₁.setTop (entryFrame m #[.ref a, .ref b] 3)) (s₁.setTop (mkF m 9 #[.val (.ref a), .val (.ref b), .val (.int 0)] [])) := c2.trans (by
      refine XS.icmpNo X0.here hexec rfl (hb hbytes d4) rfl (ii_ne_f (by rw [hs])) ?_
      refine iconstV X0.here hexec rfl 0 (hb hbytes d7) (by decide) ?_
      refine XS.istoreN X0.here hexec rfl (hb hbytes d8) rfl rfl ?_
      exact Steps.refl _)
    have loop : ∀ (r i : Nat), i + r = A.slots.size → (∀ j, j < i → yv A j = yv B j) → Steps p.tables e below (s₁.setTop (entryFrame m #[.ref a, .ref b] 3)) (s₁.setTop (mkF m 9 #[.val (.ref a), .val (.ref b), .val (.int (Int32.ofNat i))] [])) → ∃ (pc : Nat) (Ls : Array Slot) (v : Int32), (pc = 25 ∨ pc = 33) ∧ ((v = 1 ∧ EqC A B) ∨ (v = 0 ∧ ¬ EqC A B)) ∧ Steps p.tables e below (s₁.setTop (entryFrame m #[.ref a, .ref b] 3)) (s₁.setTop (mkF m pc Ls [.int v])) := by
      intro r
      induction r with
      | zero =>
        intro i hi he cl
        exact ⟨33, _, 1, Or.inr rfl, Or.inl ⟨rfl, hs, fun j hj => he j (by omega)⟩, cl.trans (by
          refine XS.iloadN X0.here hexec rfl (hb hbytes d9) rfl ?_
          refine XS.aloadN X0.here hexec rfl (hb hbytes d10) rfl rfl ?_
          refine X0.alen hexec hA0 rfl rfl (hb hbytes d11) ?_
          refine XS.icmpYes X0.here hexec rfl (pc0 := 12) rfl (hb hbytes d12) rfl (ii_ge_t (nlt32 (by omega) (by omega))) (by decide) rfl ?_
          refine iconstV X0.here hexec rfl 1 (hb hbytes d32) (by decide) ?_
          exact Steps.refl _)⟩
      | succ r ih =>
        intro i hi he cl
        have c4 : Steps p.tables e below (s₁.setTop (entryFrame m #[.ref a, .ref b] 3)) (s₁.setTop (mkF m 21 #[.val (.ref a), .val (.ref b), .val (.int (Int32.ofNat i))] [.int (yv B i), .int (yv A i)])) := cl.trans (by
          refine XS.iloadN X0.here hexec rfl (hb hbytes d9) rfl ?_
          refine XS.aloadN X0.here hexec rfl (hb hbytes d10) rfl rfl ?_
          refine X0.alen hexec hA0 rfl rfl (hb hbytes d11) ?_
          refine XS.icmpNo X0.here hexec rfl (hb hbytes d12) rfl (ii_ge_f (lt32 (by omega) (by omega))) ?_
          refine XS.aloadN X0.here hexec rfl (hb hbytes d15) rfl rfl ?_
          refine XS.iloadN X0.here hexec rfl (hb hbytes d16) rfl ?_
          refine X0.aget hexec hA0 rfl (yv_get hA tA (i := i) (by omega)) rfl rfl (hb hbytes d17) ?_
          refine XS.aloadN X0.here hexec rfl (hb hbytes d18) rfl rfl ?_
          refine XS.iloadN X0.here hexec rfl (hb hbytes d19) rfl ?_
          refine X0.aget hexec hB0 rfl (yv_get hB tB (i := i) (by omega)) rfl rfl (hb hbytes d20) ?_
          exact Steps.refl _)
        by_cases hv : yv A i = yv B i
        · have c5 : Steps p.tables e below (s₁.setTop (entryFrame m #[.ref a, .ref b] 3)) (s₁.setTop (mkF m 9 #[.val (.ref a), .val (.ref b), .val (.int (Int32.ofNat i + 1))] [])) := c4.trans (by
            refine XS.icmpYes X0.here hexec rfl (pc0 := 21) rfl (hb hbytes d21) rfl (ii_eq_t hv) (by decide) rfl ?_
            refine iincV X0.here hexec rfl 1 (hb hbytes d26) (by decide) rfl rfl ?_
            refine XS.goto X0.here hexec rfl (pc0 := 29) rfl (hb hbytes d29) (by decide) rfl ?_
            exact Steps.refl _)
          rw [succ32] at c5
          exact ih (i + 1) (by omega) (fun j hj => by
            by_cases e : j = i
            · rw [e]; exact hv
            · exact he j (by omega)) c5
        · exact ⟨25, _, 0, Or.inl rfl, Or.inr ⟨rfl, fun q => hv (q.2 i (by omega))⟩, c4.trans (by
            refine XS.icmpNo X0.here hexec rfl (hb hbytes d21) rfl (ii_eq_f hv) ?_
            refine iconstV X0.here hexec rfl 0 (hb hbytes d24) (by decide) ?_
            exact Steps.refl _)⟩
    obtain ⟨pc, Ls, v, hpc, hv, cz⟩ := loop A.slots.size 0 (by omega) (fun j hj => absurd hj (Nat.not_lt_zero j)) c3
    have nv : narrow .boolean (.int v) = .int v := by rcases hv with ⟨rfl, -⟩ | ⟨rfl, -⟩ <;> rfl
    rcases hpc with rfl | rfl
    · exact ⟨s₁, some (.int v), _, _, _, X0, rfl, rfl, rfl, (fun h => by cases h), ⟨v, rfl, hh0, hv⟩, fun fs hl => cz.trans (X0.ireturnOut hexec hret nv (Or.inr (Or.inl rfl)) (hb hbytes d25) hl)⟩
    · exact ⟨s₁, some (.int v), _, _, _, X0, rfl, rfl, rfl, (fun h => by cases h), ⟨v, rfl, hh0, hv⟩, fun fs hl => cz.trans (X0.ireturnOut hexec hret nv (Or.inr (Or.inl rfl)) (hb hbytes d33) hl)⟩
  · have c3 : Steps p.tables e below (s₁.setTop (entryFrame m #[.ref a, .ref b] 3)) (s₁.setTop (mkF m 35 #[.val (.ref a), .val (.ref b), .unset] [.int 0])) := c2.trans (by
      refine XS.icmpYes X0.here hexec rfl (pc0 := 4) rfl (hb hbytes d4) rfl (ii_ne_t (ne32 a31 b31 hs)) (by decide) rfl ?_
      refine iconstV X0.here hexec rfl 0 (hb hbytes d34) (by decide) ?_
      exact Steps.refl _)
    exact ⟨s₁, some (.int 0), _, _, _, X0, rfl, rfl, rfl, (fun h => by cases h), ⟨0, rfl, hh0, Or.inr ⟨rfl, fun q => hs q.1⟩⟩, fun fs hl => c3.trans (X0.ireturnOut hexec hret rfl (Or.inr (Or.inl rfl)) (hb hbytes d35) hl)⟩
end LEq
theorem Cod.ty {cd : Int32} {n : Nat} {f : Nat → Int32} {V : Cell} (h : Cod cd n f V) : Typed .byte V := fun i v hv => by
  have hi : i < V.slots.size := (Array.getElem?_eq_some_iff.mp hv).1
  rcases h with ⟨-, k1, k2⟩ | ⟨-, k1, k2, -⟩
  · rw [(k2 i (by omega)).1] at hv; cases hv; exact fits_lo8 _
  · rcases Nat.mod_two_eq_zero_or_one i with e | e
    · obtain ⟨j, rfl⟩ : ∃ j, i = 2 * j := ⟨i / 2, by omega⟩
      rw [(k2 j (by omega)).1] at hv; cases hv; exact fits_lo8 _
    · obtain ⟨j, rfl⟩ : ∃ j, i = 2 * j + 1 := ⟨i / 2, by omega⟩
      rw [(k2 j (by omega)).2] at hv; cases hv; exact fits_lo8 _
/-- the same text -/
def SameT (n : Nat) (f : Nat → Int32) (k : Nat) (g : Nat → Int32) : Prop := n = k ∧ ∀ j, j < n → f j = g j
theorem lo8_inj {x y : Int32} (h0 : ¬ x < 0) (h1 : ¬ 255 < x) (k0 : ¬ y < 0) (k1 : ¬ 255 < y) (h : lo8 x = lo8 y) : x = y := by
  rw [← lo8_mask h0 h1, ← lo8_mask k0 k1, h]
/-- arrays coded by one coder are equal just where the texts are -/
theorem Cod.eqv {cd : Int32} {n k : Nat} {f g : Nat → Int32} {V V' : Cell} (h : Cod cd n f V) (h' : Cod cd k g V') (hf : ∀ j, j < n → ¬ f j < 0 ∧ ¬ 65535 < f j) (hg : ∀ j, j < k → ¬ g j < 0 ∧ ¬ 65535 < g j) : EqC V V' ↔ SameT n f k g := by
  have yvv : ∀ {W : Cell} {i : Nat} {x : Int32}, W.slots[i]? = some (.int x) → yv W i = x := fun q => by unfold yv; rw [q]
  rcases h with ⟨rfl, k1, k2⟩ | ⟨rfl, k1, k2, -⟩
  · rcases h' with ⟨-, m1, m2⟩ | ⟨e, -⟩
    · constructor
      · rintro ⟨e1, e2⟩
        refine ⟨by omega, fun j hj => ?_⟩
        have q := e2 j (by omega)
        rw [yvv (k2 j hj).1, yvv (m2 j (by omega)).1] at q
        exact lo8_inj (hf j hj).1 (k2 j hj).2 (hg j (by omega)).1 (m2 j (by omega)).2 q
      · rintro ⟨rfl, e2⟩
        refine ⟨by omega, fun j hj => ?_⟩
        rw [yvv (k2 j (by omega)).1, yvv (m2 j (by omega)).1, e2 j (by omega)]
    · exact absurd e (by decide)
  · rcases h' with ⟨e, -⟩ | ⟨-, m1, m2, -⟩
    · exact absurd e (by decide)
    · constructor
      · rintro ⟨e1, e2⟩
        refine ⟨by omega, fun j hj => ?_⟩
        have q1 := e2 (2 * j) (by omega)
        have q2 := e2 (2 * j + 1) (by omega)
        rw [yvv (k2 j hj).1, yvv (m2 j (by omega)).1] at q1
        rw [yvv (k2 j hj).2, yvv (m2 j (by omega)).2] at q2
        rw [← pair_says (hf j hj).1 (hf j hj).2, ← pair_says (hg j (by omega)).1 (hg j (by omega)).2, q1, q2]
      · rintro ⟨rfl, e2⟩
        refine ⟨by omega, fun i hi => ?_⟩
        rcases Nat.mod_two_eq_zero_or_one i with e | e
        · obtain ⟨j, rfl⟩ : ∃ j, i = 2 * j := ⟨i / 2, by omega⟩
          rw [yvv (k2 j (by omega)).1, yvv (m2 j (by omega)).1, e2 j (by omega)]
        · obtain ⟨j, rfl⟩ : ∃ j, i = 2 * j + 1 := ⟨i / 2, by omega⟩
          rw [yvv (k2 j (by omega)).2, yvv (m2 j (by omega)).2, e2 j (by omega)]
/-- two codings differ: so do the texts -/
theorem Cod.dif {cd cd' : Int32} {n k : Nat} {f g : Nat → Int32} {V V' : Cell} (h : Cod cd n f V) (h' : Cod cd' k g V') (hne : ¬ cd = cd') : ¬ SameT n f k g := by
  rintro ⟨rfl, e⟩
  rcases h with ⟨rfl, -, k2⟩ | ⟨rfl, -, -, j, hj, hw⟩
  · rcases h' with ⟨rfl, -⟩ | ⟨-, -, -, j, hj, hw⟩
    · exact hne rfl
    · exact (k2 j hj).2 (by rw [e j hj]; exact hw)
  · rcases h' with ⟨-, -, m2⟩ | ⟨rfl, -⟩
    · exact (m2 j hj).2 (by rw [← e j hj]; exact hw)
    · exact hne rfl
/-- an object of exactly C is an instance of C -/
theorem cinst {p : Program} {l : Launch} {e : Env} {R : Room} {s : State} {m : MethodId} {args : Array Value} {below : List Frame} {meth : Method} {c : Code} {T : State} {locs : List Loc} {cells slots : Nat} (X : Stand p l e R s m args below meth c T locs cells slots) (hexec : p.tables.exec = Jvm.exec) {own C : String} {index : Nat} (hown : s.vm.findClass own = some m.cls) (hlink : (Cond.classLink own index C).before args s = true) {a : Addr} (hE : Exact C a T)
    {g : JFrame} (hg : g.method = m) {rest : List Value} (hstack : g.stack = .ref a :: rest) (hdg : decode c.code g.pc = .ok (.instanceof index, 3)) :
    ∃ T', Stand p l e R s m args below meth c T' locs cells slots ∧ T'.heap = T.heap ∧ ∀ target, Steps p.tables e below (T'.setTop { g with pc := g.pc + 3, stack := .int 1 :: rest }) target → Steps p.tables e below (T.setTop g) target := by
  obtain ⟨cB, h1, D, h2, h3, h4⟩ := hE
  have h1' : s.vm.findClass C = some cB := by rw [← X.warmed.alike.findClass]; exact h1
  obtain ⟨vm', X', st⟩ := X.instanceofYes hexec hown hlink h2 h4 h1' (by rw [h3]; exact Jvm.Free.SB.assignable_self _ _) hg hstack hdg
  exact ⟨_, X', rfl, st⟩
theorem cself {p : Program} {l : Launch} {e : Env} {R : Room} {s : State} {m : MethodId} {args : Array Value} {below : List Frame} {meth : Method} {c : Code} {T : State} {locs : List Loc} {cells slots : Nat} (X : Stand p l e R s m args below meth c T locs cells slots) (hexec : p.tables.exec = Jvm.exec) {own C : String} {index : Nat} (hown : s.vm.findClass own = some m.cls) (hlink : (Cond.classLink own index C).before args s = true) {a : Addr} (hE : Exact C a T)
    {g : JFrame} (hg : g.method = m) {rest : List Value} (hstack : g.stack = .ref a :: rest) (hdg : decode c.code g.pc = .ok (.checkcast index, 3)) :
    ∃ T', Stand p l e R s m args below meth c T' locs cells slots ∧ T'.heap = T.heap ∧ ∀ target, Steps p.tables e below (T'.setTop { g with pc := g.pc + 3, stack := .ref a :: rest }) target → Steps p.tables e below (T.setTop g) target := by
  obtain ⟨cB, h1, D, h2, h3, h4⟩ := hE
  have h1' : s.vm.findClass C = some cB := by rw [← X.warmed.alike.findClass]; exact h1
  obtain ⟨vm', X', st⟩ := X.checkcastYes hexec hown hlink h2 h4 h1' (by rw [h3]; exact Jvm.Free.SB.assignable_self _ _) hg hstack hdg
  exact ⟨_, X', rfl, fun t h => st t (by rw [← hstack] at h; exact h)⟩
namespace SEq
def yN : MethodName := ⟨"java/lang/String", "equals", "(Ljava/lang/Object;)Z"⟩
abbrev yB : ByteArray := jdk_42_method_66_code
theorem d0 : decode yB 0 = .ok (.aload_n 0, 1) := by decide +kernel
theorem d1 : decode yB 1 = .ok (.aload_n 1, 1) := by decide +kernel
theorem d2 : decode yB 2 = .ok (.if_acmp (.ne) 5, 3) := by decide +kernel
theorem d5 : decode yB 5 = .ok (.iconst 1, 1) := by decide +kernel
theorem d6 : decode yB 6 = .ok (.ireturn, 1) := by decide +kernel
theorem d7 : decode yB 7 = .ok (.aload_n 1, 1) := by decide +kernel
theorem d8 : decode yB 8 = .ok (.instanceof 10, 3) := by decide +kernel
theorem d11 : decode yB 11 = .ok (.ifCond (.eq) 43, 3) := by decide +kernel
theorem d14 : decode yB 14 = .ok (.aload_n 1, 1) := by decide +kernel
theorem d15 : decode yB 15 = .ok (.checkcast 10, 3) := by decide +kernel
theorem d18 : decode yB 18 = .ok (.astore_n 2, 1) := by decide +kernel
theorem d19 : decode yB 19 = .ok (.getstatic 38, 3) := by decide +kernel
theorem d22 : decode yB 22 = .ok (.ifCond (.eq) 14, 3) := by decide +kernel
theorem d25 : decode yB 25 = .ok (.aload_n 0, 1) := by decide +kernel
theorem d26 : decode yB 26 = .ok (.getfield 15, 3) := by decide +kernel
theorem d29 : decode yB 29 = .ok (.aload_n 2, 1) := by decide +kernel
theorem d30 : decode yB 30 = .ok (.getfield 15, 3) := by decide +kernel
theorem d33 : decode yB 33 = .ok (.if_icmp (.ne) 21, 3) := by decide +kernel
theorem d36 : decode yB 36 = .ok (.aload_n 0, 1) := by decide +kernel
theorem d37 : decode yB 37 = .ok (.getfield 9, 3) := by decide +kernel
theorem d40 : decode yB 40 = .ok (.aload_n 2, 1) := by decide +kernel
theorem d41 : decode yB 41 = .ok (.getfield 9, 3) := by decide +kernel
theorem d44 : decode yB 44 = .ok (.invokestatic 541, 3) := by decide +kernel
theorem d47 : decode yB 47 = .ok (.ifCond (.eq) 7, 3) := by decide +kernel
theorem d50 : decode yB 50 = .ok (.iconst 1, 1) := by decide +kernel
theorem d51 : decode yB 51 = .ok (.goto 4, 3) := by decide +kernel
theorem d54 : decode yB 54 = .ok (.iconst 0, 1) := by decide +kernel
theorem d55 : decode yB 55 = .ok (.ireturn, 1) := by decide +kernel
def site : List Cond := [.classLink "java/lang/String" 10 "java/lang/String", .fieldLink "java/lang/String" 38 "java/lang/String" "COMPACT_STRINGS" "Z", .fieldLink "java/lang/String" 15 "java/lang/String" "coder" "B", .fieldLink "java/lang/String" 9 "java/lang/String" "value" "[B", LEq.tab] ++ staticW "java/lang/String" 541 LEq.yN
def tab : Cond := tabOf yN yB 3 (some .boolean) site
def P (x t : Addr) (V : Cell) (cd : Int32) (n : Nat) (f : Nat → Int32) (y t' : Addr) (V' : Cell) (cd' : Int32) (k : Nat) (g : Nat → Int32) (z : Int32) (args : Array Value) (s : State) : Prop := args = #[.ref x, .ref y] ∧ Txt x t V cd n f s ∧ Txt y t' V' cd' k g s ∧ StaticIs s "java/lang/String" "COMPACT_STRINGS" "Z" (.int z) ∧ ¬ z = 0
/-- equals(Object) of two Strings: whether the texts are the same -/
theorem law (l : Launch) (x t : Addr) (V : Cell) (cd : Int32) (n : Nat) (f : Nat → Int32) (y t' : Addr) (V' : Cell) (cd' : Int32) (k : Nat) (g : Nat → Int32) (z : Int32) : Law l yN 2 1 1 14 yB 3 (some .boolean) site (P x t V cd n f y t' V' cd' k g z) (Says01 (SameT n f k g)) [] 0 0 := by
  refine Law.of_walk (plainFor_of_name (by decide +kernel)) (by decide +kernel) (by decide +kernel) (by decide) (fun _ _ h => by rw [h.1]; rfl) (fun _ U U' hal hh h => ⟨h.1, h.2.1.mv hal hh, h.2.2.1.mv hal hh, h.2.2.2.1.there hal hh, h.2.2.2.2⟩) (fun r U U' V V' h1 hal h2 h => Says01.mv r U U' V V' h1 hal h2 h) ?_
  intro p e s m args below meth c s₁ X0 hexec hbytes hml hret hlk hnm hown hh0 W hP
  obtain ⟨rfl, hx, hy, s1, hz⟩ := hP
  have c1 : Steps p.tables e below (s₁.setTop (entryFrame m #[.ref x, .ref y] 3)) (s₁.setTop (mkF m 2 #[.val (.ref x), .val (.ref y), .unset] [.ref y, .ref x])) := Steps.trans (entry rfl) (by
    show Steps p.tables e below (s₁.setTop (mkF m 0 #[.val (.ref x), .val (.ref y), .unset] [])) _
    refine XS.aloadN X0.here hexec rfl (hb hbytes d0) rfl rfl ?_
    refine XS.aloadN X0.here hexec rfl (hb hbytes d1) rfl rfl ?_
    exact Steps.refl _)
  by_cases hxy : x = y
  · have c2 : Steps p.tables e below (s₁.setTop (entryFrame m #[.ref x, .ref y] 3)) (s₁.setTop (mkF m 6 #[.val (.ref x), .val (.ref y), .unset] [.int 1])) := c1.trans (by
      refine acmpNo X0.here hexec rfl (hb hbytes d2) rfl rfl rfl (by simp [acmp, hxy]) ?_
      refine iconstV X0.here hexec rfl 1 (hb hbytes d5) (by decide) ?_
      exact Steps.refl _)
    subst hxy
    have ec : cd = cd' := by
      obtain ⟨D, fd, a1, a2, a3⟩ := hx.2.2.1
      obtain ⟨D', fd', b1, b2, b3⟩ := hy.2.2.1
      cases a1.symm.trans b1
      obtain ⟨q1, q2, q3, q4⟩ := a2.1
      obtain ⟨r1, r2, r3, r4⟩ := b2.1
      cases q4.symm.trans r4
      cases a3.symm.trans b3; rfl
    have et : t = t' := by
      obtain ⟨D, fd, a1, a2, a3⟩ := hx.2.1
      obtain ⟨D', fd', b1, b2, b3⟩ := hy.2.1
      cases a1.symm.trans b1
      obtain ⟨q1, q2, q3, q4⟩ := a2.1
      obtain ⟨r1, r2, r3, r4⟩ := b2.1
      cases q4.symm.trans r4
      cases a3.symm.trans b3; rfl
    subst ec et
    have ev : V = V' := by cases hx.2.2.2.1.1.symm.trans hy.2.2.2.1.1; rfl
    subst ev
    have hs : SameT n f k g := (Cod.eqv hx.2.2.2.2.1 hy.2.2.2.2.1 hx.2.2.2.2.2 hy.2.2.2.2.2).mp ⟨rfl, fun _ _ => rfl⟩
    exact ⟨s₁, some (.int 1), _, _, _, X0, rfl, rfl, rfl, (fun h => by cases h), ⟨1, rfl, hh0, Or.inl ⟨rfl, hs⟩⟩, fun fs hl => c2.trans (X0.ireturnOut hexec hret rfl (Or.inr (Or.inl rfl)) (hb hbytes d6) hl)⟩
  · have c2 : Steps p.tables e below (s₁.setTop (entryFrame m #[.ref x, .ref y] 3)) (s₁.setTop (mkF m 8 #[.val (.ref x), .val (.ref y), .unset] [.ref y])) := c1.trans (by
      refine acmpYes X0.here hexec rfl (pc0 := 2) rfl (hb hbytes d2) rfl rfl rfl (by simp [acmp, hxy]) (by decide) rfl ?_
      refine XS.aloadN X0.here hexec rfl (hb hbytes d7) rfl rfl ?_
      exact Steps.refl _)
    obtain ⟨T3, X3, q3, st3⟩ := cinst X0 hexec hown (wk W (.classLink "java/lang/String" 10 "java/lang/String")) (hy.mv X0.warmed.alike hh0).1 (g := (mkF m 8 #[.val (.ref x), .val (.ref y), .unset] [.ref y])) rfl (rest := []) rfl (hb hbytes d8)
    have hh3 := q3.trans hh0
    have c4 : Steps p.tables e below (s₁.setTop (entryFrame m #[.ref x, .ref y] 3)) (T3.setTop (mkF m 15 #[.val (.ref x), .val (.ref y), .unset] [.ref y])) := (c2.trans (st3 _ (Steps.refl _))).trans (by
      refine XS.ifNo X3.here hexec rfl (hb hbytes d11) rfl (i0_eq_f (by decide)) ?_
      refine XS.aloadN X3.here hexec rfl (hb hbytes d14) rfl rfl ?_
      exact Steps.refl _)
    obtain ⟨T5, X5, q5, st5⟩ := cself X3 hexec hown (wk W (.classLink "java/lang/String" 10 "java/lang/String")) (hy.mv X3.warmed.alike hh3).1 (g := (mkF m 15 #[.val (.ref x), .val (.ref y), .unset] [.ref y])) rfl (rest := []) rfl (hb hbytes d15)
    have hh5 := q5.trans hh3
    have c6 : Steps p.tables e below (s₁.setTop (entryFrame m #[.ref x, .ref y] 3)) (T5.setTop (mkF m 19 #[.val (.ref x), .val (.ref y), .val (.ref y)] [])) := (c4.trans (st5 _ (Steps.refl _))).trans (by
      refine XS.astoreN X5.here hexec rfl (hb hbytes d18) rfl rfl rfl ?_
      exact Steps.refl _)
    obtain ⟨T7, X7, q7, st7⟩ := X5.sget hexec hown (wk W (.fieldLink "java/lang/String" 38 "java/lang/String" "COMPACT_STRINGS" "Z")) s1 (fun _ _ h => by rw [hh5]; exact h) (g := (mkF m 19 #[.val (.ref x), .val (.ref y), .val (.ref y)] [])) rfl (hb hbytes d19)
    have hh7 := q7.trans hh5
    have c8 : Steps p.tables e below (s₁.setTop (entryFrame m #[.ref x, .ref y] 3)) (T7.setTop (mkF m 26 #[.val (.ref x), .val (.ref y), .val (.ref y)] [.ref x])) := (c6.trans (st7 _ (Steps.refl _))).trans (by
      refine XS.ifNo X7.here hexec rfl (hb hbytes d22) rfl (i0_eq_f hz) ?_
      refine XS.aloadN X7.here hexec rfl (hb hbytes d25) rfl rfl ?_
      exact Steps.refl _)
    obtain ⟨T9, X9, q9, st9⟩ := X7.hget hexec hown (wk W (.fieldLink "java/lang/String" 15 "java/lang/String" "coder" "B")) (hx.mv X7.warmed.alike hh7).2.2.1 (g := (mkF m 26 #[.val (.ref x), .val (.ref y), .val (.ref y)] [.ref x])) rfl (rest := []) rfl (hb hbytes d26)
    have hh9 := q9.trans hh7
    have c10 : Steps p.tables e below (s₁.setTop (entryFrame m #[.ref x, .ref y] 3)) (T9.setTop (mkF m 30 #[.val (.ref x), .val (.ref y), .val (.ref y)] [.ref y, .int cd])) := (c8.trans (st9 _ (Steps.refl _))).trans (by
      refine XS.aloadN X9.here hexec rfl (hb hbytes d29) rfl rfl ?_
      exact Steps.refl _)
    obtain ⟨T11, X11, q11, st11⟩ := X9.hget hexec hown (wk W (.fieldLink "java/lang/String" 15 "java/lang/String" "coder" "B")) (hy.mv X9.warmed.alike hh9).2.2.1 (g := (mkF m 30 #[.val (.ref x), .val (.ref y), .val (.ref y)] [.ref y, .int cd])) rfl (rest := [.int cd]) rfl (hb hbytes d30)
    have hh11 := q11.trans hh9
    have c12 : Steps p.tables e below (s₁.setTop (entryFrame m #[.ref x, .ref y] 3)) (T11.setTop (mkF m 33 #[.val (.ref x), .val (.ref y), .val (.ref y)] [.int cd', .int cd])) := c10.trans (st11 _ (Steps.refl _))
    by_cases hcd : cd = cd'
    · subst hcd
      have c13 : Steps p.tables e below (s₁.setTop (entryFrame m #[.ref x, .ref y] 3)) (T11.setTop (mkF m 37 #[.val (.ref x), .val (.ref y), .val (.ref y)] [.ref x])) := c12.trans (by
        refine XS.icmpNo X11.here hexec rfl (hb hbytes d33) rfl (ii_ne_f rfl) ?_
        refine XS.aloadN X11.here hexec rfl (hb hbytes d36) rfl rfl ?_
        exact Steps.refl _)
      obtain ⟨T14, X14, q14, st14⟩ := X11.hget hexec hown (wk W (.fieldLink "java/lang/String" 9 "java/lang/String" "value" "[B")) (hx.mv X11.warmed.alike hh11).2.1 (g := (mkF m 37 #[.val (.ref x), .val (.ref y), .val (.ref y)] [.ref x])) rfl (rest := []) rfl (hb hbytes d37)
      have hh14 := q14.trans hh11
      have c15 : Steps p.tables e below (s₁.setTop (entryFrame m #[.ref x, .ref y] 3)) (T14.setTop (mkF m 41 #[.val (.ref x), .val (.ref y), .val (.ref y)] [.ref y, .ref t])) := (c13.trans (st14 _ (Steps.refl _))).trans (by
        refine XS.aloadN X14.here hexec rfl (hb hbytes d40) rfl rfl ?_
        exact Steps.refl _)
      obtain ⟨T16, X16, q16, st16⟩ := X14.hget hexec hown (wk W (.fieldLink "java/lang/String" 9 "java/lang/String" "value" "[B")) (hy.mv X14.warmed.alike hh14).2.1 (g := (mkF m 41 #[.val (.ref x), .val (.ref y), .val (.ref y)] [.ref y, .ref t])) rfl (rest := [.ref t]) rfl (hb hbytes d41)
      have hh16 := q16.trans hh14
      have c17 : Steps p.tables e below (s₁.setTop (entryFrame m #[.ref x, .ref y] 3)) (T16.setTop (mkF m 44 #[.val (.ref x), .val (.ref y), .val (.ref y)] [.ref t', .ref t])) := c15.trans (st16 _ (Steps.refl _))
      obtain ⟨v18, T18, X18, E18, g18⟩ := X16.callS hexec (LEq.law l t V t' V') hown (wks W (staticW "java/lang/String" 541 LEq.yN)) (wk W LEq.tab) (W := 0) (Nat.le_of_ble_eq_true rfl) (Nat.le_of_ble_eq_true rfl) (Nat.le_refl _) (Nat.le_refl _) (g := (mkF m 44 #[.val (.ref x), .val (.ref y), .val (.ref y)] [.ref t', .ref t])) rfl (by rw [hml]; rfl) c17 (argsL := [.ref t, .ref t']) (rest := []) rfl rfl (by show 2 * 0 + 0 ≤ _; decide) (hb hbytes d44) (⟨rfl, hx.2.2.2.1.mv X16.warmed.alike hh16, hx.2.2.2.2.1.ty, hy.2.2.2.1.mv X16.warmed.alike hh16, hy.2.2.2.2.1.ty⟩)
      obtain ⟨v, rfl, q18, hv⟩ := E18
      have iff := Cod.eqv hx.2.2.2.2.1 hy.2.2.2.2.1 hx.2.2.2.2.2 hy.2.2.2.2.2
      rcases hv with ⟨rfl, he⟩ | ⟨rfl, he⟩
      · have c19 : Steps p.tables e below (s₁.setTop (entryFrame m #[.ref x, .ref y] 3)) (T18.setTop (mkF m 55 #[.val (.ref x), .val (.ref y), .val (.ref y)] [.int 1])) := Steps.trans g18 (by
          refine XS.ifNo X18.here hexec rfl (hb hbytes d47) rfl (i0_eq_f (by decide)) ?_
          refine iconstV X18.here hexec rfl 1 (hb hbytes d50) (by decide) ?_
          refine XS.goto X18.here hexec rfl (pc0 := 51) rfl (hb hbytes d51) (by decide) rfl ?_
          exact Steps.refl _)
        exact ⟨T18, some (.int 1), _, _, _, X18, rfl, rfl, rfl, (fun h => by cases h), ⟨1, rfl, q18.trans hh16, Or.inl ⟨rfl, iff.mp he⟩⟩, fun fs hl => c19.trans (X18.ireturnOut hexec hret rfl (Or.inr (Or.inl rfl)) (hb hbytes d55) hl)⟩
      · have c19 : Steps p.tables e below (s₁.setTop (entryFrame m #[.ref x, .ref y] 3)) (T18.setTop (mkF m 55 #[.val (.ref x), .val (.ref y), .val (.ref y)] [.int 0])) := Steps.trans g18 (by
          refine XS.ifYes X18.here hexec rfl (pc0 := 47) rfl (hb hbytes d47) rfl (i0_eq_t rfl) (by decide) rfl ?_
          refine iconstV X18.here hexec rfl 0 (hb hbytes d54) (by decide) ?_
          exact Steps.refl _)
        exact ⟨T18, some (.int 0), _, _, _, X18, rfl, rfl, rfl, (fun h => by cases h), ⟨0, rfl, q18.trans hh16, Or.inr ⟨rfl, fun q => he (iff.mpr q)⟩⟩, fun fs hl => c19.trans (X18.ireturnOut hexec hret rfl (Or.inr (Or.inl rfl)) (hb hbytes d55) hl)⟩
    · have c13 : Steps p.tables e below (s₁.setTop (entryFrame m #[.ref x, .ref y] 3)) (T11.setTop (mkF m 55 #[.val (.ref x), .val (.ref y), .val (.ref y)] [.int 0])) := c12.trans (by
        refine XS.icmpYes X11.here hexec rfl (pc0 := 33) rfl (hb hbytes d33) rfl (ii_ne_t hcd) (by decide) rfl ?_
        refine iconstV X11.here hexec rfl 0 (hb hbytes d54) (by decide) ?_
        exact Steps.refl _)
      exact ⟨T11, some (.int 0), _, _, _, X11, rfl, rfl, rfl, (fun h => by cases h), ⟨0, rfl, hh11, Or.inr ⟨rfl, Cod.dif hx.2.2.2.2.1 hy.2.2.2.2.1 hcd⟩⟩, fun fs hl => c13.trans (X11.ireturnOut hexec hret rfl (Or.inr (Or.inl rfl)) (hb hbytes d55) hl)⟩
theorem pays {l : Launch} {R : Room} {p : Program} {e : Env} {below : List Frame} {s : State} {sargs : Array Value} {len W : Nat} (x t : Addr) (V : Cell) (cd : Int32) (n : Nat) (f : Nat → Int32) (y t' : Addr) (V' : Cell) (cd' : Int32) (k : Nat) (g : Nat → Int32) (z : Int32) (htab : tab.before sargs s = true) (hfr : 2 ≤ R.frames) (hlo : W + 28 ≤ R.locals) :
    Back l R p e below s sargs yN len W (fun A₁ a₁ => A₁.cells + 0 ≤ R.cells ∧ A₁.slots + 0 ≤ R.slots ∧ P x t V cd n f y t' V' cd' k g z a₁ A₁.U) (fun A₁ _ v₁ B₁ => Says01 (SameT n f k g) v₁ A₁.U B₁.U ∧ B₁.locs = A₁.locs ++ [] ∧ B₁.cells = A₁.cells + 0 ∧ B₁.slots = A₁.slots + 0) :=
  (law l x t V cd n f y t' V' cd' k g z).pays htab hfr (by omega)
end SEq
end StrChars
namespace StrChars.Road
open Jvm Sem ClassFile Op Lib Jvm.Stand Jvm.Free Jvm.Free.XT
open Jvm.Lib.Cold (StaticIs)
/-- the words of String.isEmpty() -/
abbrev wordsEmp : List Jvm.Cond := [.code Emp.yN Emp.yB 1 (some .boolean), .initialized ST, .fieldLink ST 9 ST "value" "[B"]
theorem tabEmp_of {a : Array Value} {s : State} (h : ∀ w ∈ wordsEmp, w.before a s = true) : Emp.tab.before a s = true := unparts (wk h (.code Emp.yN Emp.yB 1 (some .boolean))) (wks h (.initialized Emp.yN.cls :: Emp.site))
theorem movedEmp {Z s : State} {a0 args : Array Value} (hZ : Z.Warmed39 s.vm) (hw : ∀ d ∈ wordsEmp, d.before a0 Z = true) : ∀ d ∈ wordsEmp, d.before args s = true := fun d hd => by
  have t : ∀ d ∈ wordsEmp, (d.onTables && d.keepsFace) = true := by decide +kernel
  exact RoadKit.mv hZ (hw d hd) (t d hd)
/-- the words of String.equals(Object) -/
abbrev wordsEq : List Jvm.Cond := [.code SEq.yN SEq.yB 3 (some .boolean), .initialized ST, .classLink ST 10 ST, .fieldLink ST 38 ST "COMPACT_STRINGS" "Z", .fieldLink ST 15 ST "coder" "B", .fieldLink ST 9 ST "value" "[B", .methodLink ST 541 LEq.yN, .static LEq.yN, .code LEq.yN LEq.yB 3 (some .boolean), .initialized "java/lang/StringLatin1"]
theorem tabEq_of {a : Array Value} {s : State} (h : ∀ w ∈ wordsEq, w.before a s = true) : SEq.tab.before a s = true := by
  have hl : LEq.tab.before a s = true := unparts (wk h (.code LEq.yN LEq.yB 3 (some .boolean))) (wks h (.initialized LEq.yN.cls :: LEq.site))
  have q := consq hl h
  exact unparts (wk q (.code SEq.yN SEq.yB 3 (some .boolean))) (wks q (.initialized SEq.yN.cls :: SEq.site))
theorem movedEq {Z s : State} {a0 args : Array Value} (hZ : Z.Warmed39 s.vm) (hw : ∀ d ∈ wordsEq, d.before a0 Z = true) : ∀ d ∈ wordsEq, d.before args s = true := fun d hd => by
  have t : ∀ d ∈ wordsEq, (d.onTables && d.keepsFace) = true := by decide +kernel
  exact RoadKit.mv hZ (hw d hd) (t d hd)
/-- the road's facts of a String, as the laws ask it -/
theorem txt_of {Z U : State} {a0 : Array Value} {kI : Nat} (wi : (Jvm.Cond.instantiable ST kI).before a0 Z = true) (al : Z.vm.Alike U.vm) {x t : Addr} {kb : ClassId} {cs : List Int32} {cd N2 : Int32} {vs : List Value} (E : RoadKit.Exa Z U.heap x ST) (V : RoadKit.Fld Z U.heap x ST "value" "[B" (.ref t)) (C : RoadKit.Fld Z U.heap x ST "coder" "B" (.int cd)) (K : RoadKit.Arv Z U.heap t kb .byte N2 vs (.int 0)) (hc : CodA cs cd N2 vs) (hb : ∀ c ∈ cs, ¬ c < 0 ∧ ¬ (65535 : Int32) < c) (l2 : cs.length ≤ 4000) :
    ∃ A, Txt x t A cd cs.length (fun j => cs.getD j 0) U := by
  obtain ⟨A, K1, K2, K3, K4, K5, K6⟩ := K
  have hcod := hc.cod (by omega) K3 K5
  obtain ⟨D, fV, fC, hB, F1, F2, g1, g2, -, -⟩ := strObj wi al E V C
  exact ⟨A, ⟨_, hB.2.2.1, D, hB.1, rfl, by cases q : D.vm <;> first | rfl | exact absurd q (hB.2.1.2 _)⟩, Has.of hB F1 g1, Has.of hB F2 g2, ⟨K1.1, State.isArrayOf_alike al K1.2.1, K1.2.2, by rcases hcod with ⟨-, q, -⟩ | ⟨-, q, -⟩ <;> omega⟩, hcod, fun j hj => by
    have e : cs.getD j 0 = cs[j] := by simp [List.getD_eq_getElem?_getD, hj]
    show ¬ cs.getD j 0 < 0 ∧ ¬ 65535 < cs.getD j 0
    rw [e]; exact hb _ (List.getElem_mem _)⟩
theorem same_list (cs ds : List Int32) : SameT cs.length (fun j => cs.getD j 0) ds.length (fun j => ds.getD j 0) ↔ cs = ds := by
  constructor
  · rintro ⟨e, q⟩
    refine List.ext_getElem e fun j h1 h2 => ?_
    have := q j h1
    simpa [List.getD_eq_getElem?_getD, h1, h2] using this
  · rintro rfl
    exact ⟨rfl, fun _ _ => rfl⟩
/-- **isEmpty() OF SUCH A STRING** -/
theorem empW {p : Program} {l : Launch} {e : Env} {R : Room} {s : State} {args : Array Value} {below : List Frame} {len W : Nat} {Z : State} {a0 : Array Value} {h : Heap} (hZ : Z.Warmed39 s.vm) (hw : ∀ d ∈ wordsEmp, d.before a0 Z = true) {kI : Nat} (wi : (Jvm.Cond.instantiable ST kI).before a0 Z = true)
    {x t : Addr} {kb : ClassId} {cs : List Int32} {cd N2 : Int32} {vs : List Value} (E : RoadKit.Exa Z h x ST) (V : RoadKit.Fld Z h x ST "value" "[B" (.ref t)) (C : RoadKit.Fld Z h x ST "coder" "B" (.int cd)) (K : RoadKit.Arv Z h t kb .byte N2 vs (.int 0)) (hc : CodA cs cd N2 vs) (hb : ∀ c ∈ cs, ¬ c < 0 ∧ ¬ (65535 : Int32) < c) (l2 : cs.length ≤ 4000) (hfr : 1 ≤ R.frames) (hlo : W + 12 ≤ R.locals) :
    Back l R p e below s args (⟨"java/lang/String", "isEmpty", "()Z"⟩ : MethodName) len W (fun P a => a = #[.ref x] ∧ P.U.heap = h ∧ P.cells + 0 ≤ R.cells ∧ P.slots + 0 ≤ R.slots)
      (fun P _ v B => ∃ L, (v = some (.int (if cs.length = 0 then 1 else 0)) ∧ L = [] ∧ B.U.heap = h) ∧ B.locs = P.locs ++ L ∧ B.cells = P.cells + 0 ∧ B.slots = P.slots + 0) := by
  intro m meth c P g ig mk a X hg hsize hdg hW hn hp'
  obtain ⟨rfl, rfl, r1, r2⟩ := hp'
  have al : Z.vm.Alike P.U.vm := hZ.alike.trans X.warmed.alike
  obtain ⟨A, hx⟩ := txt_of wi al E V C K hc hb l2
  obtain ⟨v, B, X', ⟨⟨hv, hh⟩, hl, hk, hs⟩, st⟩ := Emp.pays x t A cd cs.length (fun j => cs.getD j 0) (tabEmp_of (movedEmp hZ hw)) hfr hlo m meth c P g ig mk _ X hg hsize hdg hW hn ⟨r1, r2, rfl, hx⟩
  exact ⟨v, B, X', ⟨[], ⟨hv, rfl, hh⟩, hl, hk, hs⟩, st⟩
/-- **equals(Object) OF TWO SUCH STRINGS**: 1 just where the chars are the same -/
theorem eqW {p : Program} {l : Launch} {e : Env} {R : Room} {s : State} {args : Array Value} {below : List Frame} {len W : Nat} {Z : State} {a0 : Array Value} {h : Heap} (hZ : Z.Warmed39 s.vm) (hw : ∀ d ∈ wordsEq, d.before a0 Z = true) {kI : Nat} (wi : (Jvm.Cond.instantiable ST kI).before a0 Z = true)
    {x t : Addr} {kb : ClassId} {cs : List Int32} {cd N2 : Int32} {vs : List Value} (E : RoadKit.Exa Z h x ST) (V : RoadKit.Fld Z h x ST "value" "[B" (.ref t)) (C : RoadKit.Fld Z h x ST "coder" "B" (.int cd)) (K : RoadKit.Arv Z h t kb .byte N2 vs (.int 0)) (hc : CodA cs cd N2 vs) (hb : ∀ c ∈ cs, ¬ c < 0 ∧ ¬ (65535 : Int32) < c) (l2 : cs.length ≤ 4000)
    {y t' : Addr} {kb' : ClassId} {ds : List Int32} {cd' N2' : Int32} {vs' : List Value} (E' : RoadKit.Exa Z h y ST) (V' : RoadKit.Fld Z h y ST "value" "[B" (.ref t')) (C' : RoadKit.Fld Z h y ST "coder" "B" (.int cd')) (K' : RoadKit.Arv Z h t' kb' .byte N2' vs' (.int 0)) (hc' : CodA ds cd' N2' vs') (hb' : ∀ c ∈ ds, ¬ c < 0 ∧ ¬ (65535 : Int32) < c) (l2' : ds.length ≤ 4000)
    {z : Int32} (S : RoadKit.Sta Z h ST "COMPACT_STRINGS" "Z" (.int z)) (hz : ¬ z = 0) (hfr : 2 ≤ R.frames) (hlo : W + 28 ≤ R.locals) :
    Back l R p e below s args (⟨"java/lang/String", "equals", "(Ljava/lang/Object;)Z"⟩ : MethodName) len W (fun P a => a = #[.ref x, .ref y] ∧ P.U.heap = h ∧ P.cells + 0 ≤ R.cells ∧ P.slots + 0 ≤ R.slots)
      (fun P _ v B => ∃ L, (((v = some (.int 1) ∧ cs = ds) ∨ (v = some (.int 0) ∧ ¬ cs = ds)) ∧ L = [] ∧ B.U.heap = h) ∧ B.locs = P.locs ++ L ∧ B.cells = P.cells + 0 ∧ B.slots = P.slots + 0) := by
  intro m meth c P g ig mk a X hg hsize hdg hW hn hp'
  obtain ⟨rfl, rfl, r1, r2⟩ := hp'
  have al : Z.vm.Alike P.U.vm := hZ.alike.trans X.warmed.alike
  obtain ⟨A, hx⟩ := txt_of wi al E V C K hc hb l2
  obtain ⟨A', hy⟩ := txt_of wi al E' V' C' K' hc' hb' l2'
  obtain ⟨v, B, X', ⟨⟨w, hv, hh, hq⟩, hl, hk, hs⟩, st⟩ := SEq.pays x t A cd cs.length (fun j => cs.getD j 0) y t' A' cd' ds.length (fun j => ds.getD j 0) z (tabEq_of (movedEq hZ hw)) hfr hlo m meth c P g ig mk _ X hg hsize hdg hW hn ⟨r1, r2, rfl, hx, hy, sta_is al S, hz⟩
  refine ⟨v, B, X', ⟨[], ⟨?_, rfl, hh⟩, hl, hk, hs⟩, st⟩
  rcases hq with ⟨rfl, q⟩ | ⟨rfl, q⟩
  · exact Or.inl ⟨hv, (same_list cs ds).mp q⟩
  · exact Or.inr ⟨hv, fun e => q ((same_list cs ds).mpr e)⟩
end StrChars.Road
namespace StrChars
open Jvm Sem ClassFile Op Lib Jvm.Stand Jvm.Free.XT Jvm.Free.ALB Jvm.Free.JM Jvm.Free
open Jvm.Lib.Cold (StaticIs)
namespace ChN
def yN : MethodName := ⟨"java/lang/String", "charAt", "(I)C"⟩
abbrev yB : ByteArray := jdk_42_method_56_code
theorem d0 : decode yB 0 = .ok (.aload_n 0, 1) := by decide +kernel
theorem d1 : decode yB 1 = .ok (.invokevirtual 492, 3) := by decide +kernel
theorem d4 : decode yB 4 = .ok (.ifCond (.eq) 12, 3) := by decide +kernel
theorem d7 : decode yB 7 = .ok (.aload_n 0, 1) := by decide +kernel
theorem d8 : decode yB 8 = .ok (.getfield 9, 3) := by decide +kernel
theorem d11 : decode yB 11 = .ok (.iload_n 1, 1) := by decide +kernel
theorem d12 : decode yB 12 = .ok (.invokestatic 495, 3) := by decide +kernel
theorem d15 : decode yB 15 = .ok (.ireturn, 1) := by decide +kernel
def site : List Cond := [.fieldLink "java/lang/String" 9 "java/lang/String" "value" "[B", IsL.tab, LChA.tab] ++ virtW "java/lang/String" 492 "java/lang/String" IsL.yN IsL.yN ++ staticW "java/lang/String" 495 LChA.yN
def tab : Cond := tabOf yN yB 2 (some .char) site
def P (x t : Addr) (V : Cell) (n : Nat) (f : Nat → Int32) (z : Int32) (fm : Value) (i : Nat) (args : Array Value) (s : State) : Prop := args = #[.ref x, .int (Int32.ofNat i)] ∧ Txt x t V 0 n f s ∧ i < n ∧ StaticIs s "java/lang/String" "COMPACT_STRINGS" "Z" (.int z) ∧ ¬ z = 0 ∧ StaticIs s "jdk/internal/util/Preconditions" "SIOOBE_FORMATTER" "Ljava/util/function/BiFunction;" fm ∧ fm.isRef = true
def E (f : Nat → Int32) (i : Nat) (r : Option Value) (s u : State) : Prop := XT.PureE (some (.int (f i))) r s u
/-- charAt(i) of a Latin-1 String of n chars, i < n: f i -/
theorem law (l : Launch) (x t : Addr) (V : Cell) (n : Nat) (f : Nat → Int32) (z : Int32) (fm : Value) (i : Nat) : Law l yN 2 1 3 40 yB 2 (some .char) site (P x t V n f z fm i) (E f i) [] 0 0 := by
  refine Law.of_walk (plainFor_of_name (by decide +kernel)) (by decide +kernel) (by decide +kernel) (by decide) (fun _ _ h => by rw [h.1]; rfl) (fun _ U U' hal hh h => ⟨h.1, h.2.1.mv hal hh, h.2.2.1, h.2.2.2.1.there hal hh, h.2.2.2.2.1, h.2.2.2.2.2.1.there hal hh, h.2.2.2.2.2.2⟩) (fun r U U' V V' h1 hal h2 h => XT.PureE.mv r U U' V V' h1 hal h2 h) ?_
  intro p e s m args below meth c s₁ X0 hexec hbytes hml hret hlk hnm hown hh0 W hP
  obtain ⟨rfl, hx, hi, s1, hz, s3, rf⟩ := hP
  have v31 := hx.2.2.2.1.2.2.2
  have hr := hx.2.2.2.2.2 i hi
  have hx0 := hx.mv X0.warmed.alike hh0
  have c1 : Steps p.tables e below (s₁.setTop (entryFrame m #[.ref x, .int (Int32.ofNat i)] 2)) (s₁.setTop (mkF m 1 #[.val (.ref x), .val (.int (Int32.ofNat i))] [.ref x])) := Steps.trans (entry rfl) (by
    show Steps p.tables e below (s₁.setTop (mkF m 0 #[.val (.ref x), .val (.int (Int32.ofNat i))] [])) _
    refine XS.aloadN X0.here hexec rfl (hb hbytes d0) rfl rfl ?_
    exact Steps.refl _)
  obtain ⟨v2, T2, X2, E2, g2⟩ := X0.callV hexec (IsL.law l x 0 z) hown (wks W (virtW "java/lang/String" 492 "java/lang/String" IsL.yN IsL.yN)) rfl (by decide) (wk W IsL.tab) (W := 0) (Nat.le_of_ble_eq_true rfl) (Nat.le_of_ble_eq_true rfl) (Nat.le_refl _) (Nat.le_refl _) (hx0.1.fc X0.warmed.alike) hx0.1.is (g := (mkF m 1 #[.val (.ref x), .val (.int (Int32.ofNat i))] [.ref x])) rfl (by rw [hml]; rfl) c1 (argsL := []) (rest := []) rfl rfl (by show 2 * 0 + 0 ≤ _; decide) (hb hbytes d1) (⟨rfl, hx0.2.2.1, hx.2.2.2.2.1.cd, s1.there X0.warmed.alike hh0, hz⟩)
  obtain ⟨rfl, q2⟩ := E2
  have hh2 := q2.trans hh0
  have hx2 := hx.mv X2.warmed.alike hh2
  obtain ⟨-, k1, k2⟩ | ⟨k0, -⟩ := hx.2.2.2.2.1
  · have c3 : Steps p.tables e below (s₁.setTop (entryFrame m #[.ref x, .int (Int32.ofNat i)] 2)) (T2.setTop (mkF m 8 #[.val (.ref x), .val (.int (Int32.ofNat i))] [.ref x])) := Steps.trans g2 (by
      refine XS.ifNo X2.here hexec rfl (hb hbytes d4) rfl (i0_eq_f (by decide)) ?_
      refine XS.aloadN X2.here hexec rfl (hb hbytes d7) rfl rfl ?_
      exact Steps.refl _)
    obtain ⟨T4, X4, q4, st4⟩ := X2.hget hexec hown (wk W (.fieldLink "java/lang/String" 9 "java/lang/String" "value" "[B")) hx2.2.1 (g := (mkF m 8 #[.val (.ref x), .val (.int (Int32.ofNat i))] [.ref x])) rfl (rest := []) rfl (hb hbytes d8)
    have hh4 := q4.trans hh2
    have c5 : Steps p.tables e below (s₁.setTop (entryFrame m #[.ref x, .int (Int32.ofNat i)] 2)) (T4.setTop (mkF m 12 #[.val (.ref x), .val (.int (Int32.ofNat i))] [.int (Int32.ofNat i), .ref t])) := (c3.trans (st4 _ (Steps.refl _))).trans (by
      refine XS.iloadN X4.here hexec rfl (hb hbytes d11) rfl ?_
      exact Steps.refl _)
    obtain ⟨v6, T6, X6, E6, g6⟩ := X4.callS hexec (LChA.law l t V i (lo8 (f i)) fm) hown (wks W (staticW "java/lang/String" 495 LChA.yN)) (wk W LChA.tab) (W := 0) (Nat.le_of_ble_eq_true rfl) (Nat.le_of_ble_eq_true rfl) (Nat.le_refl _) (Nat.le_refl _) (g := (mkF m 12 #[.val (.ref x), .val (.int (Int32.ofNat i))] [.int (Int32.ofNat i), .ref t])) rfl (by rw [hml]; rfl) c5 (argsL := [.ref t, .int (Int32.ofNat i)]) (rest := []) rfl rfl (by show 2 * 0 + 0 ≤ _; decide) (hb hbytes d12) (⟨rfl, hx.2.2.2.1.mv X4.warmed.alike hh4, (k2 i hi).1, s3.there X4.warmed.alike hh4, rf⟩)
    obtain ⟨rfl, q6⟩ := E6
    rw [chr8_lo8 hr.1 (k2 i hi).2] at g6
    exact ⟨T6, some (.int (f i)), _, _, _, X6, rfl, rfl, rfl, (fun h => by cases h), ⟨rfl, q6.trans hh4⟩, fun fs hl => Steps.trans g6 (X6.ireturnOut hexec hret (narrow_ch hr.1 hr.2) (Or.inr (Or.inr (Or.inr (Or.inl rfl)))) (hb hbytes d15) hl)⟩
  · exact absurd k0 (by decide)
theorem pays {l : Launch} {R : Room} {p : Program} {e : Env} {below : List Frame} {s : State} {sargs : Array Value} {len W : Nat} (x t : Addr) (V : Cell) (n : Nat) (f : Nat → Int32) (z : Int32) (fm : Value) (i : Nat) (htab : tab.before sargs s = true) (hfr : 4 ≤ R.frames) (hlo : W + 53 ≤ R.locals) :
    Back l R p e below s sargs yN len W (fun A₁ a₁ => A₁.cells + 0 ≤ R.cells ∧ A₁.slots + 0 ≤ R.slots ∧ P x t V n f z fm i a₁ A₁.U) (fun A₁ _ v₁ B₁ => E f i v₁ A₁.U B₁.U ∧ B₁.locs = A₁.locs ++ [] ∧ B₁.cells = A₁.cells + 0 ∧ B₁.slots = A₁.slots + 0) :=
  (law l x t V n f z fm i).pays htab hfr (by omega)
end ChN
end StrChars
namespace StrChars.Road
open Jvm Sem ClassFile Op Lib Jvm.Stand Jvm.Free Jvm.Free.XT
open Jvm.Lib.Cold (StaticIs)
/-- the words of String.charAt(int), the Latin-1 road alone -/
abbrev wordsChN : List Jvm.Cond := [.code ChN.yN ChN.yB 2 (some .char), .initialized ST, .fieldLink ST 9 ST "value" "[B", .fieldLink ST 38 ST "COMPACT_STRINGS" "Z", .fieldLink ST 15 ST "coder" "B", .code IsL.yN IsL.yB 1 (some .boolean), .methodLink ST 492 IsL.yN, .declares IsL.yN, .selects ST IsL.yN IsL.yN, .instanceMethod IsL.yN,
  .methodLink ST 495 LChA.yN, .static LChA.yN, .code LChA.yN LChA.yB 2 (some .char), .initialized "java/lang/StringLatin1", .methodLink "java/lang/StringLatin1" 9 JO.Str_checkIndex.yN, .static JO.Str_checkIndex.yN, .code JO.Str_checkIndex.yN JO.Str_checkIndex.yB 2 none,
  .fieldLink ST 1053 "jdk/internal/util/Preconditions" "SIOOBE_FORMATTER" "Ljava/util/function/BiFunction;", .methodLink ST 1059 JC.PreCheck.yN, .static JC.PreCheck.yN, .code JC.PreCheck.yN JC.PreCheck.yB 3 (some .int), .initialized "jdk/internal/util/Preconditions"]
theorem tabChN_of {a : Array Value} {s : State} (h : ∀ w ∈ wordsChN, w.before a s = true) : ChN.tab.before a s = true := by
  have hp : JC.PreCheck.tab.before a s = true := unparts (wk h (.code JC.PreCheck.yN JC.PreCheck.yB 3 (some .int))) (wks h (.initialized JC.PreCheck.yN.cls :: JC.PreCheck.site))
  have qk := consq hp h
  have hk : JO.Str_checkIndex.tab.before a s = true := unparts (wk qk (.code JO.Str_checkIndex.yN JO.Str_checkIndex.yB 2 none)) (wks qk (.initialized JO.Str_checkIndex.yN.cls :: JO.Str_checkIndex.site))
  have ql := consq hk h
  have hl : LChA.tab.before a s = true := unparts (wk ql (.code LChA.yN LChA.yB 2 (some .char))) (wks ql (.initialized LChA.yN.cls :: LChA.site))
  have hi : IsL.tab.before a s = true := unparts (wk h (.code IsL.yN IsL.yB 1 (some .boolean))) (wks h (.initialized IsL.yN.cls :: IsL.site))
  have q := consq hi (consq hl h)
  exact unparts (wk q (.code ChN.yN ChN.yB 2 (some .char))) (wks q (.initialized ChN.yN.cls :: ChN.site))
theorem movedChN {Z s : State} {a0 args : Array Value} (hZ : Z.Warmed39 s.vm) (hw : ∀ d ∈ wordsChN, d.before a0 Z = true) : ∀ d ∈ wordsChN, d.before args s = true := fun d hd => by
  have t : ∀ d ∈ wordsChN, (d.onTables && d.keepsFace) = true := by decide +kernel
  exact RoadKit.mv hZ (hw d hd) (t d hd)
/-- **charAt(i) OF A LATIN-1 STRING**, i < n: the char -/
theorem chN {p : Program} {l : Launch} {e : Env} {R : Room} {s : State} {args : Array Value} {below : List Frame} {len W : Nat} {Z : State} {a0 : Array Value} {h : Heap} (hZ : Z.Warmed39 s.vm) (hw : ∀ d ∈ wordsChN, d.before a0 Z = true) {kI : Nat} (wi : (Jvm.Cond.instantiable ST kI).before a0 Z = true)
    {x t : Addr} {kb : ClassId} {cs : List Int32} {N2 z : Int32} {vs : List Value} {fm : Value} {i : Nat} {j : Int32} (E : RoadKit.Exa Z h x ST) (V : RoadKit.Fld Z h x ST "value" "[B" (.ref t)) (C : RoadKit.Fld Z h x ST "coder" "B" (.int 0)) (K : RoadKit.Arv Z h t kb .byte N2 vs (.int 0)) (hc : CodA cs 0 N2 vs) (hb : ∀ c ∈ cs, ¬ c < 0 ∧ ¬ (65535 : Int32) < c)
    (S : RoadKit.Sta Z h ST "COMPACT_STRINGS" "Z" (.int z)) (hz : ¬ z = 0) (F : RoadKit.Sta Z h "jdk/internal/util/Preconditions" "SIOOBE_FORMATTER" "Ljava/util/function/BiFunction;" fm) (rf : fm.isRef = true) (l2 : cs.length ≤ 4000) (hi : i < cs.length) (hj : j = Int32.ofNat i) (hfr : 4 ≤ R.frames) (hlo : W + 53 ≤ R.locals) :
    Back l R p e below s args (⟨"java/lang/String", "charAt", "(I)C"⟩ : MethodName) len W (fun P a => a = #[.ref x, .int j] ∧ P.U.heap = h ∧ P.cells + 0 ≤ R.cells ∧ P.slots + 0 ≤ R.slots)
      (fun P _ v B => ∃ L, (v = some (.int (cs.getD i 0)) ∧ L = [] ∧ B.U.heap = h) ∧ B.locs = P.locs ++ L ∧ B.cells = P.cells + 0 ∧ B.slots = P.slots + 0) := by
  subst hj
  intro m meth c P g ig mk a X hg hsize hdg hW hn hp'
  obtain ⟨rfl, rfl, r1, r2⟩ := hp'
  have al : Z.vm.Alike P.U.vm := hZ.alike.trans X.warmed.alike
  obtain ⟨A, hx⟩ := txt_of wi al E V C K hc hb l2
  obtain ⟨v, B, X', ⟨⟨hv, hh⟩, hl, hk, hs⟩, st⟩ := ChN.pays x t A cs.length (fun j => cs.getD j 0) z fm i (tabChN_of (movedChN hZ hw)) hfr hlo m meth c P g ig mk _ X hg hsize hdg hW hn ⟨r1, r2, rfl, hx, hi, sta_is al S, hz, sta_is al F, rf⟩
  exact ⟨v, B, X', ⟨[], ⟨hv, rfl, hh⟩, hl, hk, hs⟩, st⟩
/-- what backV says of its String, as the contracts of this text ask it: cs's low bytes, coder 0 -/
theorem codOf {cs : List Int32} {n : Nat} (hn : cs.length = n) (hb : ∀ c ∈ cs, ¬ 255 < c) : CodA cs 0 (Int32.ofNat n) ((cs.map lo8).map Value.int) := Or.inl ⟨rfl, by rw [hn], by simp [List.map_map, Function.comp_def], hb⟩
end StrChars.Road
end Jvm.Pilot.@@N@@

namespace Jvm.Pilot.@@N@@
open Jvm Jvm.ClassFile Sem Op Lib Jvm.Free Jvm.Stand Jvm.LawKit Jvm.RoadKit Bundle Jvm.Pilot.@@N@@.Jvm.D
theorem d1_0 : decode method_2_code 0 = .ok (.bipush 33, 2) := by decide +kernel
theorem d1_2 : decode method_2_code 2 = .ok (.iload_n 0, 1) := by decide +kernel
theorem d1_3 : decode method_2_code 3 = .ok (.bipush 94, 2) := by decide +kernel
theorem d1_5 : decode method_2_code 5 = .ok (.irem, 1) := by decide +kernel
theorem d1_6 : decode method_2_code 6 = .ok (.iadd, 1) := by decide +kernel
theorem d1_7 : decode method_2_code 7 = .ok (.i2c, 1) := by decide +kernel
theorem d1_8 : decode method_2_code 8 = .ok (.ireturn, 1) := by decide +kernel
theorem d2_0 : decode jdk_42_method_139_code 0 = .ok (.getstatic 38, 3) := by decide +kernel
theorem d2_3 : decode jdk_42_method_139_code 3 = .ok (.ifCond .eq 23, 3) := by decide +kernel
theorem d2_6 : decode jdk_42_method_139_code 6 = .ok (.iload_n 0, 1) := by decide +kernel
theorem d2_7 : decode jdk_42_method_139_code 7 = .ok (.invokestatic 1015, 3) := by decide +kernel
theorem d2_10 : decode jdk_42_method_139_code 10 = .ok (.ifCond .eq 16, 3) := by decide +kernel
theorem d2_13 : decode jdk_42_method_139_code 13 = .ok (.new 10, 3) := by decide +kernel
theorem d2_16 : decode jdk_42_method_139_code 16 = .ok (.dup, 1) := by decide +kernel
theorem d2_17 : decode jdk_42_method_139_code 17 = .ok (.iload_n 0, 1) := by decide +kernel
theorem d2_18 : decode jdk_42_method_139_code 18 = .ok (.invokestatic 1018, 3) := by decide +kernel
theorem d2_21 : decode jdk_42_method_139_code 21 = .ok (.iconst 0, 1) := by decide +kernel
theorem d2_22 : decode jdk_42_method_139_code 22 = .ok (.invokespecial 209, 3) := by decide +kernel
theorem d2_25 : decode jdk_42_method_139_code 25 = .ok (.areturn, 1) := by decide +kernel
theorem d3_0 : decode jdk_43_method_3_code 0 = .ok (.iload_n 0, 1) := by decide +kernel
theorem d3_1 : decode jdk_43_method_3_code 1 = .ok (.sipush 255, 3) := by decide +kernel
theorem d3_4 : decode jdk_43_method_3_code 4 = .ok (.if_icmp .gt 7, 3) := by decide +kernel
theorem d3_7 : decode jdk_43_method_3_code 7 = .ok (.iconst 1, 1) := by decide +kernel
theorem d3_8 : decode jdk_43_method_3_code 8 = .ok (.goto 4, 3) := by decide +kernel
theorem d3_12 : decode jdk_43_method_3_code 12 = .ok (.ireturn, 1) := by decide +kernel
theorem d4_0 : decode jdk_43_method_46_code 0 = .ok (.iconst 1, 1) := by decide +kernel
theorem d4_1 : decode jdk_43_method_46_code 1 = .ok (.newarray .byte, 2) := by decide +kernel
theorem d4_3 : decode jdk_43_method_46_code 3 = .ok (.dup, 1) := by decide +kernel
theorem d4_4 : decode jdk_43_method_46_code 4 = .ok (.iconst 0, 1) := by decide +kernel
theorem d4_5 : decode jdk_43_method_46_code 5 = .ok (.iload_n 0, 1) := by decide +kernel
theorem d4_6 : decode jdk_43_method_46_code 6 = .ok (.i2b, 1) := by decide +kernel
theorem d4_7 : decode jdk_43_method_46_code 7 = .ok (.bastore, 1) := by decide +kernel
theorem d4_8 : decode jdk_43_method_46_code 8 = .ok (.areturn, 1) := by decide +kernel
theorem d5_0 : decode jdk_42_method_151_code 0 = .ok (.aload_n 0, 1) := by decide +kernel
theorem d5_1 : decode jdk_42_method_151_code 1 = .ok (.invokespecial 1, 3) := by decide +kernel
theorem d5_4 : decode jdk_42_method_151_code 4 = .ok (.aload_n 0, 1) := by decide +kernel
theorem d5_5 : decode jdk_42_method_151_code 5 = .ok (.aload_n 1, 1) := by decide +kernel
theorem d5_6 : decode jdk_42_method_151_code 6 = .ok (.putfield 9, 3) := by decide +kernel
theorem d5_9 : decode jdk_42_method_151_code 9 = .ok (.aload_n 0, 1) := by decide +kernel
theorem d5_10 : decode jdk_42_method_151_code 10 = .ok (.iload_n 2, 1) := by decide +kernel
theorem d5_11 : decode jdk_42_method_151_code 11 = .ok (.putfield 15, 3) := by decide +kernel
theorem d5_14 : decode jdk_42_method_151_code 14 = .ok (.return_, 1) := by decide +kernel
theorem d12_0 : decode method_3_code 0 = .ok (.iload_n 1, 1) := by decide +kernel
theorem d12_1 : decode method_3_code 1 = .ok (.iconst 1, 1) := by decide +kernel
theorem d12_2 : decode method_3_code 2 = .ok (.if_icmp .ne 15, 3) := by decide +kernel
theorem d12_5 : decode method_3_code 5 = .ok (.new 7, 3) := by decide +kernel
theorem d12_8 : decode method_3_code 8 = .ok (.dup, 1) := by decide +kernel
theorem d12_9 : decode method_3_code 9 = .ok (.aload_n 0, 1) := by decide +kernel
theorem d12_10 : decode method_3_code 10 = .ok (.getstatic 9, 3) := by decide +kernel
theorem d12_13 : decode method_3_code 13 = .ok (.invokespecial 15, 3) := by decide +kernel
theorem d12_16 : decode method_3_code 16 = .ok (.areturn, 1) := by decide +kernel
theorem d12_17 : decode method_3_code 17 = .ok (.iload_n 1, 1) := by decide +kernel
theorem d12_18 : decode method_3_code 18 = .ok (.iconst 2, 1) := by decide +kernel
theorem d12_19 : decode method_3_code 19 = .ok (.if_icmp .ne 15, 3) := by decide +kernel
theorem d12_22 : decode method_3_code 22 = .ok (.new 7, 3) := by decide +kernel
theorem d12_25 : decode method_3_code 25 = .ok (.dup, 1) := by decide +kernel
theorem d12_26 : decode method_3_code 26 = .ok (.aload_n 0, 1) := by decide +kernel
theorem d12_27 : decode method_3_code 27 = .ok (.getstatic 18, 3) := by decide +kernel
theorem d12_30 : decode method_3_code 30 = .ok (.invokespecial 15, 3) := by decide +kernel
theorem d12_33 : decode method_3_code 33 = .ok (.areturn, 1) := by decide +kernel
theorem d12_34 : decode method_3_code 34 = .ok (.iload_n 1, 1) := by decide +kernel
theorem d12_35 : decode method_3_code 35 = .ok (.iconst 3, 1) := by decide +kernel
theorem d12_36 : decode method_3_code 36 = .ok (.if_icmp .ne 15, 3) := by decide +kernel
theorem d12_39 : decode method_3_code 39 = .ok (.new 7, 3) := by decide +kernel
theorem d12_42 : decode method_3_code 42 = .ok (.dup, 1) := by decide +kernel
theorem d12_43 : decode method_3_code 43 = .ok (.aload_n 0, 1) := by decide +kernel
theorem d12_44 : decode method_3_code 44 = .ok (.getstatic 21, 3) := by decide +kernel
theorem d12_47 : decode method_3_code 47 = .ok (.invokespecial 15, 3) := by decide +kernel
theorem d12_50 : decode method_3_code 50 = .ok (.areturn, 1) := by decide +kernel
theorem d12_51 : decode method_3_code 51 = .ok (.new 7, 3) := by decide +kernel
theorem d12_54 : decode method_3_code 54 = .ok (.dup, 1) := by decide +kernel
theorem d12_55 : decode method_3_code 55 = .ok (.aload_n 0, 1) := by decide +kernel
theorem d12_56 : decode method_3_code 56 = .ok (.invokespecial 24, 3) := by decide +kernel
theorem d12_59 : decode method_3_code 59 = .ok (.areturn, 1) := by decide +kernel
theorem d13_0 : decode prog_58_method_2_code 0 = .ok (.aload_n 0, 1) := by decide +kernel
theorem d13_1 : decode prog_58_method_2_code 1 = .ok (.invokespecial 1, 3) := by decide +kernel
theorem d13_4 : decode prog_58_method_2_code 4 = .ok (.aload_n 0, 1) := by decide +kernel
theorem d13_5 : decode prog_58_method_2_code 5 = .ok (.aload_n 1, 1) := by decide +kernel
theorem d13_6 : decode prog_58_method_2_code 6 = .ok (.aconst_null, 1) := by decide +kernel
theorem d13_7 : decode prog_58_method_2_code 7 = .ok (.invokestatic 17, 3) := by decide +kernel
theorem d13_10 : decode prog_58_method_2_code 10 = .ok (.putfield 23, 3) := by decide +kernel
theorem d13_13 : decode prog_58_method_2_code 13 = .ok (.aload_n 0, 1) := by decide +kernel
theorem d13_14 : decode prog_58_method_2_code 14 = .ok (.aconst_null, 1) := by decide +kernel
theorem d13_15 : decode prog_58_method_2_code 15 = .ok (.putfield 27, 3) := by decide +kernel
theorem d13_18 : decode prog_58_method_2_code 18 = .ok (.return_, 1) := by decide +kernel
theorem d14_0 : decode prog_58_method_3_code 0 = .ok (.aload_n 0, 1) := by decide +kernel
theorem d14_1 : decode prog_58_method_3_code 1 = .ok (.ldc 30, 2) := by decide +kernel
theorem d14_3 : decode prog_58_method_3_code 3 = .ok (.invokestatic 9, 3) := by decide +kernel
theorem d14_6 : decode prog_58_method_3_code 6 = .ok (.pop, 1) := by decide +kernel
theorem d14_7 : decode prog_58_method_3_code 7 = .ok (.aload_n 0, 1) := by decide +kernel
theorem d14_8 : decode prog_58_method_3_code 8 = .ok (.invokevirtual 31, 3) := by decide +kernel
theorem d14_11 : decode prog_58_method_3_code 11 = .ok (.ifCond .ne 10, 3) := by decide +kernel
theorem d14_14 : decode prog_58_method_3_code 14 = .ok (.aload_n 0, 1) := by decide +kernel
theorem d14_15 : decode prog_58_method_3_code 15 = .ok (.invokestatic 37, 3) := by decide +kernel
theorem d14_18 : decode prog_58_method_3_code 18 = .ok (.ifCond .eq 20, 3) := by decide +kernel
theorem d14_38 : decode prog_58_method_3_code 38 = .ok (.aload_n 0, 1) := by decide +kernel
theorem d14_39 : decode prog_58_method_3_code 39 = .ok (.ldc 53, 2) := by decide +kernel
theorem d14_41 : decode prog_58_method_3_code 41 = .ok (.invokevirtual 55, 3) := by decide +kernel
theorem d14_44 : decode prog_58_method_3_code 44 = .ok (.ifCond .eq 37, 3) := by decide +kernel
theorem d14_81 : decode prog_58_method_3_code 81 = .ok (.aload_n 0, 1) := by decide +kernel
theorem d14_82 : decode prog_58_method_3_code 82 = .ok (.areturn, 1) := by decide +kernel
theorem d15_0 : decode jdk_31_method_11_code 0 = .ok (.aload_n 0, 1) := by decide +kernel
theorem d15_1 : decode jdk_31_method_11_code 1 = .ok (.ifnonnull 12, 3) := by decide +kernel
theorem d15_13 : decode jdk_31_method_11_code 13 = .ok (.aload_n 0, 1) := by decide +kernel
theorem d15_14 : decode jdk_31_method_11_code 14 = .ok (.areturn, 1) := by decide +kernel
theorem d17_0 : decode prog_58_method_9_code 0 = .ok (.iconst 0, 1) := by decide +kernel
theorem d17_1 : decode prog_58_method_9_code 1 = .ok (.istore_n 1, 1) := by decide +kernel
theorem d17_2 : decode prog_58_method_9_code 2 = .ok (.iload_n 1, 1) := by decide +kernel
theorem d17_3 : decode prog_58_method_9_code 3 = .ok (.aload_n 0, 1) := by decide +kernel
theorem d17_4 : decode prog_58_method_9_code 4 = .ok (.invokevirtual 86, 3) := by decide +kernel
theorem d17_7 : decode prog_58_method_9_code 7 = .ok (.if_icmp .ge 52, 3) := by decide +kernel
theorem d17_10 : decode prog_58_method_9_code 10 = .ok (.aload_n 0, 1) := by decide +kernel
theorem d17_11 : decode prog_58_method_9_code 11 = .ok (.iload_n 1, 1) := by decide +kernel
theorem d17_12 : decode prog_58_method_9_code 12 = .ok (.invokevirtual 90, 3) := by decide +kernel
theorem d17_15 : decode prog_58_method_9_code 15 = .ok (.istore_n 2, 1) := by decide +kernel
theorem d17_16 : decode prog_58_method_9_code 16 = .ok (.iload_n 2, 1) := by decide +kernel
theorem d17_17 : decode prog_58_method_9_code 17 = .ok (.bipush 32, 2) := by decide +kernel
theorem d17_19 : decode prog_58_method_9_code 19 = .ok (.if_icmp .le 15, 3) := by decide +kernel
theorem d17_22 : decode prog_58_method_9_code 22 = .ok (.iload_n 2, 1) := by decide +kernel
theorem d17_23 : decode prog_58_method_9_code 23 = .ok (.bipush 127, 2) := by decide +kernel
theorem d17_25 : decode prog_58_method_9_code 25 = .ok (.if_icmp .ge 9, 3) := by decide +kernel
theorem d17_28 : decode prog_58_method_9_code 28 = .ok (.iinc 1 1, 3) := by decide +kernel
theorem d17_31 : decode prog_58_method_9_code 31 = .ok (.goto (-29), 3) := by decide +kernel
theorem d17_59 : decode prog_58_method_9_code 59 = .ok (.iconst 0, 1) := by decide +kernel
theorem d17_60 : decode prog_58_method_9_code 60 = .ok (.ireturn, 1) := by decide +kernel
theorem d25_0 : decode jdk_42_method_76_code 0 = .ok (.aload_n 0, 1) := by decide +kernel
theorem d25_1 : decode jdk_42_method_76_code 1 = .ok (.aload_n 1, 1) := by decide +kernel
theorem d25_2 : decode jdk_42_method_76_code 2 = .ok (.iconst 0, 1) := by decide +kernel
theorem d25_3 : decode jdk_42_method_76_code 3 = .ok (.invokevirtual 624, 3) := by decide +kernel
theorem d25_6 : decode jdk_42_method_76_code 6 = .ok (.ireturn, 1) := by decide +kernel
theorem d26_0 : decode jdk_42_method_75_code 0 = .ok (.iload_n 2, 1) := by decide +kernel
theorem d26_1 : decode jdk_42_method_75_code 1 = .ok (.ifCond .lt 16, 3) := by decide +kernel
theorem d26_4 : decode jdk_42_method_75_code 4 = .ok (.iload_n 2, 1) := by decide +kernel
theorem d26_5 : decode jdk_42_method_75_code 5 = .ok (.aload_n 0, 1) := by decide +kernel
theorem d26_6 : decode jdk_42_method_75_code 6 = .ok (.invokevirtual 505, 3) := by decide +kernel
theorem d26_9 : decode jdk_42_method_75_code 9 = .ok (.aload_n 1, 1) := by decide +kernel
theorem d26_10 : decode jdk_42_method_75_code 10 = .ok (.invokevirtual 505, 3) := by decide +kernel
theorem d26_13 : decode jdk_42_method_75_code 13 = .ok (.isub, 1) := by decide +kernel
theorem d26_14 : decode jdk_42_method_75_code 14 = .ok (.if_icmp .le 5, 3) := by decide +kernel
theorem d26_17 : decode jdk_42_method_75_code 17 = .ok (.iconst 0, 1) := by decide +kernel
theorem d26_18 : decode jdk_42_method_75_code 18 = .ok (.ireturn, 1) := by decide +kernel
theorem d27_0 : decode prog_58_method_14_code 0 = .ok (.aload_n 1, 1) := by decide +kernel
theorem d27_1 : decode prog_58_method_14_code 1 = .ok (.instanceof 18, 3) := by decide +kernel
theorem d27_4 : decode prog_58_method_14_code 4 = .ok (.ifCond .eq 37, 3) := by decide +kernel
theorem d27_7 : decode prog_58_method_14_code 7 = .ok (.aload_n 1, 1) := by decide +kernel
theorem d27_8 : decode prog_58_method_14_code 8 = .ok (.checkcast 18, 3) := by decide +kernel
theorem d27_11 : decode prog_58_method_14_code 11 = .ok (.astore_n 2, 1) := by decide +kernel
theorem d27_12 : decode prog_58_method_14_code 12 = .ok (.aload_n 0, 1) := by decide +kernel
theorem d27_13 : decode prog_58_method_14_code 13 = .ok (.getfield 23, 3) := by decide +kernel
theorem d27_16 : decode prog_58_method_14_code 16 = .ok (.aload_n 2, 1) := by decide +kernel
theorem d27_17 : decode prog_58_method_14_code 17 = .ok (.getfield 23, 3) := by decide +kernel
theorem d27_20 : decode prog_58_method_14_code 20 = .ok (.invokevirtual 147, 3) := by decide +kernel
theorem d27_23 : decode prog_58_method_14_code 23 = .ok (.ifCond .eq 18, 3) := by decide +kernel
theorem d27_26 : decode prog_58_method_14_code 26 = .ok (.aload_n 0, 1) := by decide +kernel
theorem d27_27 : decode prog_58_method_14_code 27 = .ok (.getfield 27, 3) := by decide +kernel
theorem d27_30 : decode prog_58_method_14_code 30 = .ok (.aload_n 2, 1) := by decide +kernel
theorem d27_31 : decode prog_58_method_14_code 31 = .ok (.getfield 27, 3) := by decide +kernel
theorem d27_34 : decode prog_58_method_14_code 34 = .ok (.if_acmp .ne 7, 3) := by decide +kernel
theorem d27_37 : decode prog_58_method_14_code 37 = .ok (.iconst 1, 1) := by decide +kernel
theorem d27_38 : decode prog_58_method_14_code 38 = .ok (.goto 4, 3) := by decide +kernel
theorem d27_41 : decode prog_58_method_14_code 41 = .ok (.iconst 0, 1) := by decide +kernel
theorem d27_42 : decode prog_58_method_14_code 42 = .ok (.ireturn, 1) := by decide +kernel
theorem d30_0 : decode prog_58_method_1_code 0 = .ok (.aload_n 0, 1) := by decide +kernel
theorem d30_1 : decode prog_58_method_1_code 1 = .ok (.invokespecial 1, 3) := by decide +kernel
theorem d30_4 : decode prog_58_method_1_code 4 = .ok (.aload_n 0, 1) := by decide +kernel
theorem d30_5 : decode prog_58_method_1_code 5 = .ok (.aload_n 1, 1) := by decide +kernel
theorem d30_6 : decode prog_58_method_1_code 6 = .ok (.aload_n 2, 1) := by decide +kernel
theorem d30_7 : decode prog_58_method_1_code 7 = .ok (.ldc 7, 2) := by decide +kernel
theorem d30_9 : decode prog_58_method_1_code 9 = .ok (.invokestatic 9, 3) := by decide +kernel
theorem d30_12 : decode prog_58_method_1_code 12 = .ok (.checkcast 15, 3) := by decide +kernel
theorem d30_15 : decode prog_58_method_1_code 15 = .ok (.invokestatic 17, 3) := by decide +kernel
theorem d30_18 : decode prog_58_method_1_code 18 = .ok (.putfield 23, 3) := by decide +kernel
theorem d30_21 : decode prog_58_method_1_code 21 = .ok (.aload_n 0, 1) := by decide +kernel
theorem d30_22 : decode prog_58_method_1_code 22 = .ok (.aload_n 2, 1) := by decide +kernel
theorem d30_23 : decode prog_58_method_1_code 23 = .ok (.putfield 27, 3) := by decide +kernel
theorem d30_26 : decode prog_58_method_1_code 26 = .ok (.return_, 1) := by decide +kernel
theorem pn_0 : plainName "java/util/Objects" = true := by first | (simp [plainName, overriddenIn]; done) | decide +kernel
theorem pn_1 : plainName "com/example/muninn/muninn/store/Node" = true := by first | (simp [plainName, overriddenIn]; done) | decide +kernel
theorem pn_2 : plainName "java/lang/String" = true := by first | (simp [plainName, overriddenIn]; done) | decide +kernel
theorem pn_3 : plainName "java/lang/StringLatin1" = true := by first | (simp [plainName, overriddenIn]; done) | decide +kernel
theorem pn_4 : plainName "com/example/muninn/muninn/store/NodeEqualsPinLaw" = true := by first | (simp [plainName, overriddenIn]; done) | decide +kernel
theorem pd_0 : parseMethodDescriptor "()I" = some ⟨[], some .int⟩ := by decide +kernel
theorem pd_1 : parseMethodDescriptor "(I)C" = some ⟨[.int], some .char⟩ := by decide +kernel
theorem pd_2 : parseMethodDescriptor "(Ljava/lang/String;I)Z" = some ⟨[(.object "java/lang/String"), .int], some .boolean⟩ := by decide +kernel
theorem pd_3 : parseMethodDescriptor "(Ljava/lang/Object;Ljava/lang/String;)Ljava/lang/Object;" = some ⟨[(.object "java/lang/Object"), (.object "java/lang/String")], some (.object "java/lang/Object")⟩ := by decide +kernel
theorem pd_4 : parseMethodDescriptor "()Z" = some ⟨[], some .boolean⟩ := by decide +kernel
theorem pd_5 : parseMethodDescriptor "(Ljava/lang/String;)Z" = some ⟨[(.object "java/lang/String")], some .boolean⟩ := by decide +kernel
theorem pd_6 : parseMethodDescriptor "(Ljava/lang/String;Lcom/example/muninn/muninn/store/NodeKind;)Ljava/lang/String;" = some ⟨[(.object "java/lang/String"), (.object "com/example/muninn/muninn/store/NodeKind")], some (.object "java/lang/String")⟩ := by decide +kernel
theorem pd_7 : parseMethodDescriptor "(C)Z" = some ⟨[.char], some .boolean⟩ := by decide +kernel
theorem pd_8 : parseMethodDescriptor "(C)[B" = some ⟨[.char], some (.array .byte)⟩ := by decide +kernel
theorem pd_9 : parseMethodDescriptor "([BB)V" = some ⟨[(.array .byte), .byte], none⟩ := by decide +kernel
theorem pd_10 : parseMethodDescriptor "(Ljava/lang/String;Lcom/example/muninn/muninn/store/NodeKind;)V" = some ⟨[(.object "java/lang/String"), (.object "com/example/muninn/muninn/store/NodeKind")], none⟩ := by decide +kernel
theorem pd_11 : parseMethodDescriptor "(Ljava/lang/String;)V" = some ⟨[(.object "java/lang/String")], none⟩ := by decide +kernel
theorem pd_12 : parseMethodDescriptor "(Ljava/lang/Object;)Z" = some ⟨[(.object "java/lang/Object")], some .boolean⟩ := by decide +kernel
theorem pd_13 : parseMethodDescriptor "(C)Ljava/lang/String;" = some ⟨[.char], some (.object "java/lang/String")⟩ := by decide +kernel
theorem pd_14 : parseMethodDescriptor "([C)V" = some ⟨[(.array .char)], none⟩ := by decide +kernel
theorem pd_15 : parseMethodDescriptor "(Ljava/lang/String;I)Lcom/example/muninn/muninn/store/Node;" = some ⟨[(.object "java/lang/String"), .int], some (.object "com/example/muninn/muninn/store/Node")⟩ := by decide +kernel
theorem own_osz {Z : State} {n0 : Nat} {h : Heap} (O : Old Z n0 h) : n0 ≤ h.size := O.1 ▸ O.2.1
theorem own_fo {s : State} {args : Array Value} {C f d : String} {a : Addr} {k : Int32} (ev : (Term.static C f d).eval args s none [] s = some (.ref a)) (h : (Cond.eq (Term.field (Term.static C f d) "java/lang/Enum" "ordinal" "I") (Term.int k)).value args s none s [] = some true) : s.fieldOf? a "java/lang/Enum" "ordinal" "I" = some (.int k) := by
  obtain ⟨x, y, h1, h2, h3, h4⟩ := cmp_v (Or.inl h)
  rw [fld_at ev] at h1
  have hy : y = .int k := by simpa [Term.eval] using h2.symm
  subst hy
  obtain ⟨z, rfl⟩ := h4
  have : (Cond.eq (Term.field (Term.static C f d) "java/lang/Enum" "ordinal" "I") (Term.int k)).value args s none s [] = some (decide (z = k)) := by simp [Cond.value, fld_at ev, h1, Term.int_eval]
  rw [h1, gotT this h]
theorem own_ne {s : State} {a b : Addr} {k j : Int32} (h1 : s.fieldOf? a "java/lang/Enum" "ordinal" "I" = some (.int k)) (h2 : s.fieldOf? b "java/lang/Enum" "ordinal" "I" = some (.int j)) (hn : k ≠ j) : a ≠ b := fun e => by
  subst e; rw [h1] at h2; exact hn (Value.int.inj (Option.some.inj h2))

def Lat (cs : List Int32) : Prop := (∀ c ∈ cs, ¬ c < 0 ∧ ¬ (255 : Int32) < c) ∧ cs.length ≤ 4000
theorem own_up {cs : List Int32} (h : Lat cs) : ∀ c ∈ cs, ¬ c < 0 ∧ ¬ (65535 : Int32) < c := fun c hc => ⟨(h.1 c hc).1, fun q => (h.1 c hc).2 (by rw [Int32.lt_iff_toInt_lt] at q ⊢; have e1 : (65535 : Int32).toInt = 65535 := rfl; have e2 : (255 : Int32).toInt = 255 := rfl; omega)⟩
theorem own_cod {cs : List Int32} (h : Lat cs) : StrChars.Road.CodA cs 0 (Int32.ofNat cs.length) ((cs.map StrChars.lo8).map Value.int) := StrChars.Road.codOf rfl (fun c hc => (h.1 c hc).2)
abbrev strV (cs : List Int32) : List Value := (cs.map StrChars.lo8).map Value.int
theorem own_lat0 : Lat [] := ⟨fun c hc => (nomatch hc), by decide⟩
theorem own_latC {c : Int32} {cs : List Int32} (h1 : ¬ c < 0 ∧ ¬ (255 : Int32) < c) (h : Lat cs) (hl : cs.length < 4000) : Lat (c :: cs) := ⟨fun d hd => by
  rcases List.mem_cons.mp hd with rfl | q
  · exact h1
  · exact h.1 d q, by simp only [List.length_cons]; omega⟩
theorem own_range {x : Int32} (h1 : 0 ≤ x.toInt) (h2 : x.toInt ≤ 255) : ¬ x < 0 ∧ ¬ (255 : Int32) < x := by
  have e0 : (0 : Int32).toInt = 0 := rfl
  have e2 : (255 : Int32).toInt = 255 := rfl
  constructor <;> rw [Int32.lt_iff_toInt_lt] <;> omega


theorem own_safe0 {Z : State} {vm : Vm} {h : Heap} {x : Addr} : Safe Z [] vm h x := fun B => by obtain ⟨p, hp, -⟩ := B; cases hp
theorem own_safearr {Z : State} {EL : List (String × Nat)} {vm : Vm} {h : Heap} {a : Addr} {k : ClassId} {ty : FieldType} {z : Int32} {vs : List Value} {d : Value} (hal : Z.vm.Alike vm) (V : Arv Z h a k ty z vs d) (ht : ty ≠ .byte) : Safe Z EL vm h a := by
  obtain ⟨c, A, -⟩ := V
  exact Safe.arr hal A ht


theorem own_lo8i (x : Int32) : (x.toInt8.toInt32).toInt8.toInt32 = StrChars.lo8 x := by
  show (x.toInt8.toInt32).toInt8.toInt32 = x.toInt8.toInt32
  rw [Int8.toInt8_toInt32]

def own_EL : List (String × Nat) := [("com/example/muninn/muninn/store/Node", 53)]
theorem own_EW {Z : State} {a0 : Array Value} (hw : ∀ d ∈ tables_1, d.before a0 Z = true) : EW Z a0 own_EL := (EW.cons (hw _ (List.mem_of_getElem? (i := 108) rfl)) (by decide) EW.nil)
theorem own_SA {Z : State} {a0 : Array Value} (hw : ∀ d ∈ tables_1, d.before a0 Z = true) : ∀ a ∈ Bundle.stringAtoms, a.before a0 Z = true := fun d hd => hw d ((by decide +kernel : ∀ d ∈ Bundle.stringAtoms, d ∈ tables_1) d hd)
theorem own_mem {p : String × Nat} (h : p ∈ own_EL) : p ∈ own_EL := h
theorem own_wn {Z : State} {a0 : Array Value} (hw : ∀ d ∈ tables_1, d.before a0 Z = true) : ∀ d ∈ StrChars.Road.words, d.before a0 Z = true := fun d hd => hw d ((by decide +kernel : ∀ d ∈ StrChars.Road.words, d ∈ tables_1) d hd)
theorem own_we {Z : State} {a0 : Array Value} (hw : ∀ d ∈ tables_1, d.before a0 Z = true) : ∀ d ∈ StrChars.Road.wordsEq, d.before a0 Z = true := fun d hd => hw d ((by decide +kernel : ∀ d ∈ StrChars.Road.wordsEq, d ∈ tables_1) d hd)
theorem own_wl {Z : State} {a0 : Array Value} (hw : ∀ d ∈ tables_1, d.before a0 Z = true) : ∀ d ∈ StrChars.Road.wordsLen, d.before a0 Z = true := fun d hd => hw d ((by decide +kernel : ∀ d ∈ StrChars.Road.wordsLen, d ∈ tables_1) d hd)
theorem own_wm {Z : State} {a0 : Array Value} (hw : ∀ d ∈ tables_1, d.before a0 Z = true) : ∀ d ∈ StrChars.Road.wordsEmp, d.before a0 Z = true := fun d hd => hw d ((by decide +kernel : ∀ d ∈ StrChars.Road.wordsEmp, d ∈ tables_1) d hd)
theorem own_wc {Z : State} {a0 : Array Value} (hw : ∀ d ∈ tables_1, d.before a0 Z = true) : ∀ d ∈ StrChars.Road.wordsChN, d.before a0 Z = true := fun d hd => hw d ((by decide +kernel : ∀ d ∈ StrChars.Road.wordsChN, d ∈ tables_1) d hd)

def own_ok (x : Int32) : Prop := (32 : Int32) < x ∧ x < (127 : Int32)
def own_Vis (cs : List Int32) : Prop := (∃ a, cs = [a] ∧ own_ok a) ∨ (∃ a b, cs = [a, b] ∧ own_ok a ∧ own_ok b) ∨ (∃ a b c, cs = [a, b, c] ∧ own_ok a ∧ own_ok b ∧ own_ok c)
theorem own_okr {x : Int32} (h : own_ok x) : ¬ x < 0 ∧ ¬ (255 : Int32) < x := by
  have h1 := h.1; have h2 := h.2
  have e0 : (0 : Int32).toInt = 0 := rfl
  have e1 : (32 : Int32).toInt = 32 := rfl
  have e2 : (255 : Int32).toInt = 255 := rfl
  have e3 : (127 : Int32).toInt = 127 := rfl
  rw [Int32.lt_iff_toInt_lt] at h1 h2
  constructor <;> rw [Int32.lt_iff_toInt_lt] <;> omega
theorem own_vlat {cs : List Int32} (h : own_Vis cs) : Lat cs := by
  rcases h with ⟨a, rfl, ha⟩ | ⟨a, b, rfl, ha, hb⟩ | ⟨a, b, c, rfl, ha, hb, hc⟩
  · exact own_latC (own_okr ha) own_lat0 (by simp)
  · exact own_latC (own_okr ha) (own_latC (own_okr hb) own_lat0 (by simp)) (by simp)
  · exact own_latC (own_okr ha) (own_latC (own_okr hb) (own_latC (own_okr hc) own_lat0 (by simp)) (by simp)) (by simp)
theorem own_vne {cs : List Int32} (h : own_Vis cs) : (if (cs).length = 0 then (1 : Int32) else (0 : Int32)) = 0 := by
  rcases h with ⟨a, rfl, ha⟩ | ⟨a, b, rfl, ha, hb⟩ | ⟨a, b, c, rfl, ha, hb, hc⟩ <;> rfl
theorem own_vsw {cs : List Int32} (h : own_Vis cs) : ((Int32.ofNat (cs).length) - (7 : Int32)) < (0 : Int32) := by
  rcases h with ⟨a, rfl, ha⟩ | ⟨a, b, rfl, ha, hb⟩ | ⟨a, b, c, rfl, ha, hb, hc⟩
  · show (Int32.ofNat 1 - 7 : Int32) < 0; decide
  · show (Int32.ofNat 2 - 7 : Int32) < 0; decide
  · show (Int32.ofNat 3 - 7 : Int32) < 0; decide


theorem own_latSHA : Lat ([115, 104, 97, 50, 53, 54, 58] : List Int32) := by
  constructor
  · decide
  · decide
theorem own_nar16 (x : Int32) : nar .char (x.toUInt32.toUInt16.toUInt32.toInt32) = x.toUInt32.toUInt16.toUInt32.toInt32 := by
  have h : ∀ u : UInt16, (u.toUInt32.toInt32).toUInt32.toUInt16 = u := fun u => by simp
  show (x.toUInt32.toUInt16.toUInt32.toInt32).toUInt32.toUInt16.toUInt32.toInt32 = _
  rw [h]
theorem own_narC {x : Int32} (h : ¬ x < 0 ∧ ¬ (255 : Int32) < x) : nar .char x = x := by
  have t : ∀ k : Fin 256, nar .char (Int32.ofNat k.val) = Int32.ofNat k.val := by decide +kernel
  have e0 : (0 : Int32).toInt = 0 := rfl
  have e2 : (255 : Int32).toInt = 255 := rfl
  have h1 := h.1; have h2 := h.2
  rw [Int32.lt_iff_toInt_lt] at h1 h2
  have e : x = Int32.ofNat x.toInt.toNat := by
    apply Int32.toInt_inj.mp
    rw [Int32.toInt_ofNat_small (by omega)]; omega
  rw [e]
  exact t ⟨x.toInt.toNat, by omega⟩
theorem own_okI {x : Int32} (h1 : 33 ≤ x.toInt) (h2 : x.toInt ≤ 126) : own_ok (x.toUInt32.toUInt16.toUInt32.toInt32) := by
  have t : ∀ k : Fin 256, 33 ≤ k.val → k.val ≤ 126 → own_ok ((Int32.ofNat k.val).toUInt32.toUInt16.toUInt32.toInt32) := by unfold own_ok; decide +kernel
  have e : x = Int32.ofNat x.toInt.toNat := by
    apply Int32.toInt_inj.mp
    rw [Int32.toInt_ofNat_small (by omega)]; omega
  rw [e]
  exact t ⟨x.toInt.toNat, by omega⟩ (by show 33 ≤ x.toInt.toNat; omega) (by show x.toInt.toNat ≤ 126; omega)
theorem own_chok {v r : Int32} (h0 : 0 ≤ v.toInt) (hr : r = (((33 : Int32) + (v % (94 : Int32))).toUInt32.toUInt16.toUInt32.toInt32)) : own_ok r := by
  have e9 : (94 : Int32).toInt = 94 := rfl
  have e3 : (33 : Int32).toInt = 33 := rfl
  have m : (v % (94 : Int32)).toInt = v.toInt % 94 := by rw [Jvm.Kit.i32_rem_nonneg h0, e9]
  have q : ((33 : Int32) + (v % (94 : Int32))).toInt = 33 + v.toInt % 94 := by rw [Jvm.Kit.i32_add (by rw [m, e3]; omega) (by rw [m, e3]; omega), m, e3]
  rw [hr]; exact own_okI (by omega) (by omega)
theorem own_chokA {x r : Int32} (hr : r = (((33 : Int32) + ((x &&& (65535 : Int32)) % (94 : Int32))).toUInt32.toUInt16.toUInt32.toInt32)) : own_ok r := by
  have m : (x &&& (65535 : Int32)).toInt = x.toInt % 2 ^ 16 := Jvm.Kit.i32_mask _ _ (by decide) (by decide)
  exact own_chok (by omega) hr
theorem own_chokB {x r : Int32} (hr : r = (((33 : Int32) + (((x.toUInt32 >>> ((16 : Int32) &&& 31).toUInt32).toInt32) % (94 : Int32))).toUInt32.toUInt16.toUInt32.toInt32)) : own_ok r := by
  have m : 0 ≤ (x.toUInt32 >>> ((16 : Int32) &&& 31).toUInt32).toInt32 := Jvm.Kit.i32_iushr_nonneg x (k := 16) (by decide) (by decide) (by decide)
  exact own_chok (Jvm.Kit.i32_nonneg.mp m) hr
def own_cs2 (l x y : Int32) : List Int32 := if l = 1 then [x] else [x, y]
theorem own_cs2a {l x y : Int32} (h : l = 1) : own_cs2 l x y = [x] := if_pos h
theorem own_cs2b {l x y : Int32} (h : ¬ l = 1) (hx : ¬ x < 0 ∧ ¬ (255 : Int32) < x) (hy : ¬ y < 0 ∧ ¬ (255 : Int32) < y) : own_cs2 l x y = [nar .char x, nar .char y] := by rw [own_narC hx, own_narC hy]; exact if_neg h
theorem own_cs2vis {l x y : Int32} (hx : own_ok x) (hy : own_ok y) : own_Vis (own_cs2 l x y) := by
  unfold own_cs2; split
  · exact Or.inl ⟨_, rfl, hx⟩
  · exact Or.inr (Or.inl ⟨_, _, rfl, hx, hy⟩)
def own_kv (k : Int32) (wE wA wG : Addr) : Value := if k = 1 then .ref wE else if k = 2 then .ref wA else if k = 3 then .ref wG else .null
theorem own_kv1 {k : Int32} {wE wA wG : Addr} (h : k = 1) : own_kv k wE wA wG = .ref wE := if_pos h
theorem own_kv2 {k : Int32} {wE wA wG : Addr} (h : ¬ k = 1) (h2 : k = 2) : own_kv k wE wA wG = .ref wA := by unfold own_kv; rw [if_neg h, if_pos h2]
theorem own_kv3 {k : Int32} {wE wA wG : Addr} (h : ¬ k = 1) (h2 : ¬ k = 2) (h3 : k = 3) : own_kv k wE wA wG = .ref wG := by unfold own_kv; rw [if_neg h, if_neg h2, if_pos h3]
theorem own_kv4 {k : Int32} {wE wA wG : Addr} (h : ¬ k = 1) (h2 : ¬ k = 2) (h3 : ¬ k = 3) : own_kv k wE wA wG = .null := by unfold own_kv; rw [if_neg h, if_neg h2, if_neg h3]
theorem own_kvr {k : Int32} {wE wA wG : Addr} : (own_kv k wE wA wG).isRef = true := by
  unfold own_kv; split
  · rfl
  · split
    · rfl
    · split <;> rfl
theorem own_e0 {r : Int32} {ds cs : List Int32} (hr : r = (if cs = ds then (1 : Int32) else (0 : Int32))) (h : r = 0) : ¬ cs = ds := fun e => by rw [if_pos e, h] at hr; exact absurd hr (by decide)
theorem own_e1 {r : Int32} {ds cs : List Int32} (hr : r = (if cs = ds then (1 : Int32) else (0 : Int32))) (h : ¬ r = 0) : cs = ds := Classical.byContradiction fun e => by rw [if_neg e] at hr; exact h hr
theorem own_noinst {Z : State} {a0 : Array Value} (hw : ∀ d ∈ tables_1, d.before a0 Z = true) : ∃ c t, Z.vm.findClass "java/lang/String" = some c ∧ Z.vm.findClass "com/example/muninn/muninn/store/Node" = some t ∧ Z.vm.assignable c t = false := by
  obtain ⟨co, ko, o1, o2, o3, -, -⟩ := Cond.noSuperclass_spec (hw _ (List.mem_of_getElem? (i := 153) rfl))
  obtain ⟨c, h0⟩ := found_sup (hw _ (List.mem_of_getElem? (i := 152) rfl))
  obtain ⟨p, k, kp, h1, h2, h3, h4, h5, -, h7⟩ := Cond.superclass_spec h0 (hw _ (List.mem_of_getElem? (i := 152) rfl))
  cases h1.symm.trans o1
  obtain ⟨t, kt, g1, g2, g3, g4⟩ := Cond.instantiable_spec (hw _ (List.mem_of_getElem? (i := 53) rfl))
  have n1 := ids_ne h0 g1 (by decide)
  have n2 := ids_ne o1 g1 (by decide)
  refine ⟨c, t, h0, g1, ?_⟩
  have q : ∀ fuel, Z.vm.isSubclassAux fuel c t = false := fun fuel => by
    cases fuel with
    | zero => rfl
    | succ f =>
      cases f with
      | zero => simp [Vm.isSubclassAux, n1, h2, h4]
      | succ f => simp [Vm.isSubclassAux, n1, n2, h2, h4, o2, o3]
  have g5 : kt.isInterface = false := by simpa using (Bool.or_eq_false_iff.mp g4.1).1
  show Z.vm.assignableAux (255 + 1) c t = false
  simp [Vm.assignableAux, n1, h2, g2, h5, g3, g5, Vm.isSubclass, q]
theorem own_m4 {x k : Int32} (h : k = (x &&& (3 : Int32))) : k = 0 ∨ k = 1 ∨ k = 2 ∨ k = 3 := by
  have m : (x &&& (3 : Int32)).toInt = x.toInt % 2 ^ 2 := Jvm.Kit.i32_mask _ _ (by decide) (by decide)
  rw [← h] at m
  have e0 : (0 : Int32).toInt = 0 := rfl
  have e1 : (1 : Int32).toInt = 1 := rfl
  have e2 : (2 : Int32).toInt = 2 := rfl
  have e3 : (3 : Int32).toInt = 3 := rfl
  rw [← Int32.toInt_inj, ← Int32.toInt_inj, ← Int32.toInt_inj, ← Int32.toInt_inj, e0, e1, e2, e3]; omega
theorem own_l12 {x l : Int32} (h : l = ((1 : Int32) + (x &&& (1 : Int32)))) : l = 1 ∨ l = 2 := by
  have m : (x &&& (1 : Int32)).toInt = x.toInt % 2 ^ 1 := Jvm.Kit.i32_mask _ _ (by decide) (by decide)
  have e1 : (1 : Int32).toInt = 1 := rfl
  have e2 : (2 : Int32).toInt = 2 := rfl
  have q : l.toInt = 1 + x.toInt % 2 ^ 1 := by rw [h, Jvm.Kit.i32_add (by rw [m, e1]; omega) (by rw [m, e1]; omega), m, e1]
  rw [← Int32.toInt_inj, ← Int32.toInt_inj, e1, e2]; omega
theorem own_kveq {k j : Int32} {wE wA wG : Addr} (hk : k = 0 ∨ k = 1 ∨ k = 2 ∨ k = 3) (hj : j = 0 ∨ j = 1 ∨ j = 2 ∨ j = 3) (hEA : wE ≠ wA) (hEG : wE ≠ wG) (hAG : wA ≠ wG) : (own_kv k wE wA wG = own_kv j wE wA wG) ↔ k = j := by
  unfold own_kv
  rcases hk with rfl | rfl | rfl | rfl <;> rcases hj with rfl | rfl | rfl | rfl <;> simp [hEA, hEG, hAG, Ne.symm hEA, Ne.symm hEG, Ne.symm hAG]
theorem own_cseq {l k a b c d : Int32} (hl : l = 1 ∨ l = 2) (hk : k = 1 ∨ k = 2) : (own_cs2 l a b = own_cs2 k c d) ↔ (l = k ∧ a = c ∧ (l = 1 ∨ b = d)) := by
  unfold own_cs2
  rcases hl with rfl | rfl <;> rcases hk with rfl | rfl <;> simp
theorem own_tree (P A R B : Prop) [Decidable P] [Decidable A] [Decidable R] [Decidable B] : (if P then (if A then (if R then (1 : Int32) else (if B then (1 : Int32) else (0 : Int32))) else (0 : Int32)) else (0 : Int32)) = (if P ∧ A ∧ (R ∨ B) then (1 : Int32) else (0 : Int32)) := by
  by_cases h1 : P <;> by_cases h3 : A <;> by_cases h4 : R <;> by_cases h5 : B <;> simp [h1, h3, h4, h5]
theorem own_plain {x1 x2 x3 x4 l1 l2 k1 k2 a b c d same e q v : Int32} {wE wA wG : Addr} (h1 : l1 = ((1 : Int32) + (x1 &&& (1 : Int32)))) (h2 : l2 = ((1 : Int32) + (x2 &&& (1 : Int32)))) (h3 : k1 = (x3 &&& (3 : Int32))) (h4 : k2 = (x4 &&& (3 : Int32))) (hEA : wE ≠ wA) (hEG : wE ≠ wG) (hAG : wA ≠ wG)
    (oa : own_ok a) (ob : own_ok b) (oc : own_ok c) (od : own_ok d) (hs : same = (if l1 = l2 then (if a = c then (if l1 = (1 : Int32) then (1 : Int32) else (if b = d then (1 : Int32) else (0 : Int32))) else (0 : Int32)) else (0 : Int32))) (he : e = (if same = (0 : Int32) then (0 : Int32) else (if k1 = k2 then (1 : Int32) else (0 : Int32)))) (hq : q = (if own_cs2 l1 a b = own_cs2 l2 c d then (if own_kv k1 wE wA wG = own_kv k2 wE wA wG then (1 : Int32) else (0 : Int32)) else (0 : Int32))) (hv : v = (if q = e then (1 : Int32) else (0 : Int32))) : v = 1 := by
  have m1 := own_l12 h1
  have m2 := own_l12 h2
  have hs' : same = (if own_cs2 l1 a b = own_cs2 l2 c d then (1 : Int32) else (0 : Int32)) := by
    rw [hs, own_tree]; simp only [own_cseq m1 m2]
  have e1 : q = e := by
    rw [hq, he, hs']; simp only [own_kveq (own_m4 h3) (own_m4 h4) hEA hEG hAG]
    by_cases u : own_cs2 l1 a b = own_cs2 l2 c d <;> by_cases w : k1 = k2 <;> simp [u, w]
  rw [hv, if_pos e1]

def Q15 (Z : State) (a1 : Addr) (a2 : Addr) (h0 : Heap) (n0 : Nat) (v : Option Value) (h : Heap) (L : List Loc) : Prop := v = some (.ref a1) ∧ Fr n0 L ∧ h = h0
theorem ef_15 (m : MethodId) (x0 : Addr) (x1 : Addr) : entryFrame m #[(.ref x0), (.ref x1)] 2 = mkF m 0 #[.val (.ref x0), .val (.ref x1)] [] := by first | (simp [entryFrame, mkF, argsToLocals, Value.category]; done) | rfl
set_option maxRecDepth 65536 in
set_option maxHeartbeats 40000000 in
theorem rm15 (l : Launch) (Z : State) (a0 : Array Value) (hw : ∀ d ∈ tables_1, d.before a0 Z = true) (ws : List Jvm.Cond) (a1 : Addr) (a2 : Addr) (h0 : Heap) (n0 : Nat) (O0 : Old Z n0 h0) :
    MetFree l (⟨"java/util/Objects", "requireNonNull", "(Ljava/lang/Object;Ljava/lang/String;)Ljava/lang/Object;"⟩ : MethodName) (head1 (Jvm.Cond.code (⟨"java/util/Objects", "requireNonNull", "(Ljava/lang/Object;Ljava/lang/String;)Ljava/lang/Object;"⟩ : MethodName) jdk_31_method_11_code 2 (some (.object "java/lang/Object")) :: ws) ({ frames := 0, cells := 0, slots := 0, locals := 0 } : Room)) (fun a U => a = #[(.ref a1), (.ref a2)] ∧ Z.Warmed39 U.vm ∧ U.heap = h0) (fun _ _ _ _ _ => True) (fun _ U o U' => ∃ v L, o = .returned v ∧ Q15 Z a1 a2 h0 n0 v U'.heap L ∧ FrameEnd U o U' L ({ frames := 0, cells := 0, slots := 0, locals := 0 } : Room).cells ({ frames := 0, cells := 0, slots := 0, locals := 0 } : Room).slots) := by
  refine MetFree.of_bodySF (plainFor_of_name pn_0) hisR ?_
  intro p e s m args below meth c s₁ Bd hml0 hP hK
  obtain ⟨rfl, hZ, hh⟩ := hP
  have hx := Bd.exec
  have hby := Bd.bytes
  have hml : c.maxLocals = 2 := hml0
  have hown : s.vm.findClass "java/util/Objects" = some m.cls := findClass_of_methodNamed Bd.named
  have hnm := (name_of_methodNamed Bd.named Bd.method).1
  have X0 : Stand p l e ({ frames := 0, cells := 0, slots := 0, locals := 0 } : Room) s m #[(.ref a1), (.ref a2)] below meth c s₁ [] 0 0 := Stand.of_body Bd
  have e0 : s₁.heap = h0 := by rw [← hh, Bd.state]; rfl
  have N0 := Fr.nil n0
  have pre0 : ∀ t, Steps p.tables e below (s₁.setTop (mkF m 0 #[.val (.ref a1), .val (.ref a2)] [])) t → Steps p.tables e below (s₁.setTop (entryFrame m #[(.ref a1), (.ref a2)] 2)) t := fun t k => castTop (ef_15 m a1 a2) k
  have sg1 : ∀ target, Steps p.tables e below (s₁.setTop (mkF m 14 #[.val (.ref a1), .val (.ref a2)] [(.ref a1)])) target → Steps p.tables e below (s₁.setTop (mkF m 0 #[.val (.ref a1), .val (.ref a2)] [])) target := by
    intro target kt
    show Steps p.tables e below (s₁.setTop (mkF m 0 #[.val (.ref a1), .val (.ref a2)] [])) _
    refine XS.aloadN X0.here hx rfl (hb hby d15_0) rfl rfl ?_
    show Steps p.tables e below (s₁.setTop (mkF m 1 #[.val (.ref a1), .val (.ref a2)] [(.ref a1)])) _
    refine XS.ifnonnullYes X0.here hx rfl (pc0 := 1) (pc' := 13) rfl (hb hby d15_1) rfl (by decide) (by decide) ?_
    show Steps p.tables e below (s₁.setTop (mkF m 13 #[.val (.ref a1), .val (.ref a2)] [])) _
    refine XS.aloadN X0.here hx rfl (hb hby d15_13) rfl rfl ?_
    exact kt
  obtain ⟨fs, hr, hrun, hended, hW, hsame⟩ := X0.leave (v := some (.ref a1)) (fun h => by rw [Bd.returns] at h; cases h)
  refine ⟨_, _, pre0 _ (sg1 _ (?_)), hrun, hended, _, _, rfl, ?_, ⟨_, rfl⟩, hW, hsame.mono (by decide) (by decide)⟩
  · show Steps p.tables e below (s₁.setTop (mkF m 14 #[.val (.ref a1), .val (.ref a2)] [(.ref a1)])) _
    jvm_step X0.here [X0.here.top, hx, (hb hby d15_14), X0.method', Bd.returns, Value.isRef, FieldType.isReference]
    first | (intro acts; rw [hr _ acts rfl rfl rfl]) | rw [hr _ _ rfl rfl rfl]
    exact Steps.refl _
  · show Q15 Z a1 a2 h0 n0 _ s₁.heap _
    rw [e0]
    exact ⟨rfl, N0, rfl⟩
def Q17_1 (Z : State) (a1 : Addr) (c0 : Int32) (zC : Int32) (vFM : Value) (t1 : Addr) (kb1 : ClassId) (h0 : Heap) (n0 : Nat) (v : Option Value) (h : Heap) (L : List Loc) : Prop := v = some (.int (0 : Int32)) ∧ Fr n0 L ∧ h = h0
theorem ef_17_1 (m : MethodId) (x0 : Addr) : entryFrame m #[(.ref x0)] 4 = mkF m 0 #[.val (.ref x0), .unset, .unset, .unset] [] := by first | (simp [entryFrame, mkF, argsToLocals, Value.category]; done) | rfl
set_option maxRecDepth 65536 in
set_option maxHeartbeats 40000000 in
theorem rm17_1 (l : Launch) (Z : State) (a0 : Array Value) (hw : ∀ d ∈ tables_1, d.before a0 Z = true) (ws : List Jvm.Cond) (a1 : Addr) (c0 : Int32) (zC : Int32) (vFM : Value) (t1 : Addr) (kb1 : ClassId) (h0 : Heap) (n0 : Nat) (O0 : Old Z n0 h0) (S_COMPACT_STRINGS : Sta Z Z.heap "java/lang/String" "COMPACT_STRINGS" "Z" (.int zC)) (S_SIOOBE_FORMATTER : Sta Z Z.heap "jdk/internal/util/Preconditions" "SIOOBE_FORMATTER" "Ljava/util/function/BiFunction;" vFM) (hCS : ¬ zC = 0) (hFM : vFM.isRef = true) (E_a1 : Exa Z h0 a1 "java/lang/String") (Fc_a1 : Fld Z h0 a1 "java/lang/String" "coder" "B" (.int (0 : Int32))) (Fv_a1 : Fld Z h0 a1 "java/lang/String" "value" "[B" (.ref t1)) (V_a1 : Arv Z h0 t1 kb1 .byte (Int32.ofNat (([c0] : List Int32)).length) (strV ([c0] : List Int32)) (.int 0)) (lat1 : Lat ([c0] : List Int32)) (ok_c0 : own_ok c0) :
    MetFree l (⟨"com/example/muninn/muninn/store/Node", "holdsBlankOrControl", "(Ljava/lang/String;)Z"⟩ : MethodName) (head1 (Jvm.Cond.code (⟨"com/example/muninn/muninn/store/Node", "holdsBlankOrControl", "(Ljava/lang/String;)Z"⟩ : MethodName) prog_58_method_9_code 4 (some .boolean) :: ws) ({ frames := 4, cells := 0, slots := 0, locals := 53 } : Room)) (fun a U => a = #[(.ref a1)] ∧ Z.Warmed39 U.vm ∧ U.heap = h0) (fun _ _ _ _ _ => True) (fun _ U o U' => ∃ v L, o = .returned v ∧ Q17_1 Z a1 c0 zC vFM t1 kb1 h0 n0 v U'.heap L ∧ FrameEnd U o U' L ({ frames := 4, cells := 0, slots := 0, locals := 53 } : Room).cells ({ frames := 4, cells := 0, slots := 0, locals := 53 } : Room).slots) := by
  refine MetFree.of_bodySF (plainFor_of_name pn_1) hisR ?_
  intro p e s m args below meth c s₁ Bd hml0 hP hK
  obtain ⟨rfl, hZ, hh⟩ := hP
  have hx := Bd.exec
  have hby := Bd.bytes
  have hml : c.maxLocals = 4 := hml0
  have hown : s.vm.findClass "com/example/muninn/muninn/store/Node" = some m.cls := findClass_of_methodNamed Bd.named
  have hnm := (name_of_methodNamed Bd.named Bd.method).1
  have X0 : Stand p l e ({ frames := 4, cells := 0, slots := 0, locals := 53 } : Room) s m #[(.ref a1)] below meth c s₁ [] 0 0 := Stand.of_body Bd
  have e0 : s₁.heap = h0 := by rw [← hh, Bd.state]; rfl
  have N0 := Fr.nil n0
  have pre0 : ∀ t, Steps p.tables e below (s₁.setTop (mkF m 0 #[.val (.ref a1), .unset, .unset, .unset] [])) t → Steps p.tables e below (s₁.setTop (entryFrame m #[(.ref a1)] 4)) t := fun t k => castTop (ef_17_1 m a1) k
  obtain ⟨cq1, kq1, q1a, q1b, q1c⟩ := isOf hZ e0 E_a1
  obtain ⟨vv1, _, ⟨T1, L1, k1, n1⟩, -, X1, ⟨Lc1, hQ1, l1, y1, z1⟩, st1⟩ := X0.virtualBack hx (y := (⟨"java/lang/String", "length", "()I"⟩ : MethodName)) (z := (⟨"java/lang/String", "length", "()I"⟩ : MethodName)) hown (mvT hZ (hw _ (List.mem_of_getElem? (i := 77) rfl))) (mvT hZ (hw _ (List.mem_of_getElem? (i := 78) rfl))) (notFace_of_selects (args := #[]) (mvT hZ (hw _ (List.mem_of_getElem? (i := 80) rfl)))) (mvT hZ (hw _ (List.mem_of_getElem? (i := 80) rfl))) (mvT hZ (hw _ (List.mem_of_getElem? (i := 79) rfl))) (by decide) (StrChars.Road.lenW (W := 1) hZ (own_wl hw) (kI := 4) (hw _ (List.mem_of_getElem? (i := 15) rfl)) E_a1 Fv_a1 Fc_a1 V_a1 (own_cod lat1) (own_up lat1) (S_COMPACT_STRINGS.ext O0.2) hCS lat1.2 (by decide) (by decide)) q1a q1c (g := (mkF m 4 #[.val (.ref a1), .val (.int (0 : Int32)), .unset, .unset] [(.ref a1), (.int (0 : Int32))])) rfl (by rw [hml]; rfl) (Steps.refl _) (argsL := []) (rest := [(.int (0 : Int32))]) (lenOf pd_0 rfl) rfl (by show 2 * 0 + _ ≤ _; exact Nat.le_of_eq rfl) (hb hby d17_4) (fun _ _ => ⟨rfl, e0, (by decide : 0 + 0 ≤ _), (by decide : 0 + 0 ≤ _)⟩)
  dsimp only [Pt.U, Pt.locs, Pt.cells, Pt.slots] at X1 l1 y1 z1 st1 hQ1
  subst l1 y1 z1
  obtain ⟨rfl, rfl, e1⟩ := hQ1
  have N1 := Fr.app N0 (Fr.nil n0)
  obtain ⟨cq2, kq2, q2a, q2b, q2c⟩ := isOf hZ e1 E_a1
  obtain ⟨vv2, _, ⟨T2, L2, k2, n2⟩, -, X2, ⟨Lc2, hQ2, l2, y2, z2⟩, st2⟩ := X1.virtualBack hx (y := (⟨"java/lang/String", "charAt", "(I)C"⟩ : MethodName)) (z := (⟨"java/lang/String", "charAt", "(I)C"⟩ : MethodName)) hown (mvT hZ (hw _ (List.mem_of_getElem? (i := 87) rfl))) (mvT hZ (hw _ (List.mem_of_getElem? (i := 88) rfl))) (notFace_of_selects (args := #[]) (mvT hZ (hw _ (List.mem_of_getElem? (i := 90) rfl)))) (mvT hZ (hw _ (List.mem_of_getElem? (i := 90) rfl))) (mvT hZ (hw _ (List.mem_of_getElem? (i := 89) rfl))) (by decide) (StrChars.Road.chN (W := 0) hZ (own_wc hw) (kI := 4) (hw _ (List.mem_of_getElem? (i := 15) rfl)) E_a1 Fv_a1 Fc_a1 V_a1 (own_cod lat1) (own_up lat1) (S_COMPACT_STRINGS.ext O0.2) hCS (S_SIOOBE_FORMATTER.ext O0.2) hFM lat1.2 (i := 0) (Nat.le_of_ble_eq_true rfl) (j := (0 : Int32)) (by decide) (by decide) (by decide)) q2a q2c (g := (mkF m 12 #[.val (.ref a1), .val (.int (0 : Int32)), .unset, .unset] [(.int (0 : Int32)), (.ref a1)])) rfl (by rw [hml]; rfl) (Steps.refl _) (argsL := [(.int (0 : Int32))]) (rest := []) (lenOf pd_1 rfl) rfl (by show 2 * 0 + _ ≤ _; exact Nat.le_of_eq rfl) (hb hby d17_12) (fun _ _ => ⟨rfl, e1, (by decide : 0 + 0 ≤ _), (by decide : 0 + 0 ≤ _)⟩)
  dsimp only [Pt.U, Pt.locs, Pt.cells, Pt.slots] at X2 l2 y2 z2 st2 hQ2
  subst l2 y2 z2
  obtain ⟨rfl, rfl, e2⟩ := hQ2
  have N2 := Fr.app N1 (Fr.nil n0)
  obtain ⟨cq3, kq3, q3a, q3b, q3c⟩ := isOf hZ e2 E_a1
  obtain ⟨vv3, _, ⟨T3, L3, k3, n3⟩, -, X3, ⟨Lc3, hQ3, l3, y3, z3⟩, st3⟩ := X2.virtualBack hx (y := (⟨"java/lang/String", "length", "()I"⟩ : MethodName)) (z := (⟨"java/lang/String", "length", "()I"⟩ : MethodName)) hown (mvT hZ (hw _ (List.mem_of_getElem? (i := 77) rfl))) (mvT hZ (hw _ (List.mem_of_getElem? (i := 78) rfl))) (notFace_of_selects (args := #[]) (mvT hZ (hw _ (List.mem_of_getElem? (i := 80) rfl)))) (mvT hZ (hw _ (List.mem_of_getElem? (i := 80) rfl))) (mvT hZ (hw _ (List.mem_of_getElem? (i := 79) rfl))) (by decide) (StrChars.Road.lenW (W := 1) hZ (own_wl hw) (kI := 4) (hw _ (List.mem_of_getElem? (i := 15) rfl)) E_a1 Fv_a1 Fc_a1 V_a1 (own_cod lat1) (own_up lat1) (S_COMPACT_STRINGS.ext O0.2) hCS lat1.2 (by decide) (by decide)) q3a q3c (g := (mkF m 4 #[.val (.ref a1), .val (.int ((0 : Int32) + (1 : Int32))), .val (.int c0), .unset] [(.ref a1), (.int ((0 : Int32) + (1 : Int32)))])) rfl (by rw [hml]; rfl) (Steps.refl _) (argsL := []) (rest := [(.int ((0 : Int32) + (1 : Int32)))]) (lenOf pd_0 rfl) rfl (by show 2 * 0 + _ ≤ _; exact Nat.le_of_eq rfl) (hb hby d17_4) (fun _ _ => ⟨rfl, e2, (by decide : 0 + 0 ≤ _), (by decide : 0 + 0 ≤ _)⟩)
  dsimp only [Pt.U, Pt.locs, Pt.cells, Pt.slots] at X3 l3 y3 z3 st3 hQ3
  subst l3 y3 z3
  obtain ⟨rfl, rfl, e3⟩ := hQ3
  have N3 := Fr.app N2 (Fr.nil n0)
  have sg4 : ∀ target, Steps p.tables e below (T3.setTop (mkF m 60 #[.val (.ref a1), .val (.int ((0 : Int32) + (1 : Int32))), .val (.int c0), .unset] [(.int (0 : Int32))])) target → Steps p.tables e below (s₁.setTop (mkF m 0 #[.val (.ref a1), .unset, .unset, .unset] [])) target := by
    intro target kt
    show Steps p.tables e below (s₁.setTop (mkF m 0 #[.val (.ref a1), .unset, .unset, .unset] [])) _
    refine XS.iconst X0.here hx rfl (hb hby d17_0) ?_
    show Steps p.tables e below (s₁.setTop (mkF m 1 #[.val (.ref a1), .unset, .unset, .unset] [(.int (0 : Int32))])) _
    refine XS.istoreN X0.here hx rfl (hb hby d17_1) rfl (l' := #[.val (.ref a1), .val (.int (0 : Int32)), .unset, .unset]) rfl ?_
    show Steps p.tables e below (s₁.setTop (mkF m 2 #[.val (.ref a1), .val (.int (0 : Int32)), .unset, .unset] [])) _
    refine XS.iloadN X0.here hx rfl (hb hby d17_2) rfl ?_
    show Steps p.tables e below (s₁.setTop (mkF m 3 #[.val (.ref a1), .val (.int (0 : Int32)), .unset, .unset] [(.int (0 : Int32))])) _
    refine XS.aloadN X0.here hx rfl (hb hby d17_3) rfl rfl ?_
    show Steps p.tables e below (s₁.setTop (mkF m 4 #[.val (.ref a1), .val (.int (0 : Int32)), .unset, .unset] [(.ref a1), (.int (0 : Int32))])) _
    refine st1.trans ?_
    show Steps p.tables e below (T1.setTop (mkF m 7 #[.val (.ref a1), .val (.int (0 : Int32)), .unset, .unset] [(.int (1 : Int32)), (.int (0 : Int32))])) _
    refine XS.icmpNo X1.here hx rfl (hb hby d17_7) rfl (tlt (by decide : (0 : Int32) < (1 : Int32))).2.1 ?_
    show Steps p.tables e below (T1.setTop (mkF m 10 #[.val (.ref a1), .val (.int (0 : Int32)), .unset, .unset] [])) _
    refine XS.aloadN X1.here hx rfl (hb hby d17_10) rfl rfl ?_
    show Steps p.tables e below (T1.setTop (mkF m 11 #[.val (.ref a1), .val (.int (0 : Int32)), .unset, .unset] [(.ref a1)])) _
    refine XS.iloadN X1.here hx rfl (hb hby d17_11) rfl ?_
    show Steps p.tables e below (T1.setTop (mkF m 12 #[.val (.ref a1), .val (.int (0 : Int32)), .unset, .unset] [(.int (0 : Int32)), (.ref a1)])) _
    refine st2.trans ?_
    show Steps p.tables e below (T2.setTop (mkF m 15 #[.val (.ref a1), .val (.int (0 : Int32)), .unset, .unset] [(.int c0)])) _
    refine XS.istoreN X2.here hx rfl (hb hby d17_15) rfl (l' := #[.val (.ref a1), .val (.int (0 : Int32)), .val (.int c0), .unset]) rfl ?_
    show Steps p.tables e below (T2.setTop (mkF m 16 #[.val (.ref a1), .val (.int (0 : Int32)), .val (.int c0), .unset] [])) _
    refine XS.iloadN X2.here hx rfl (hb hby d17_16) rfl ?_
    show Steps p.tables e below (T2.setTop (mkF m 17 #[.val (.ref a1), .val (.int (0 : Int32)), .val (.int c0), .unset] [(.int c0)])) _
    refine XS.bipush X2.here hx rfl (hb hby d17_17) ?_
    show Steps p.tables e below (T2.setTop (mkF m 19 #[.val (.ref a1), .val (.int (0 : Int32)), .val (.int c0), .unset] [(.int (32 : Int32)), (.int c0)])) _
    refine XS.icmpNo X2.here hx rfl (hb hby d17_19) rfl (tlt ok_c0.1).2.2.2 ?_
    show Steps p.tables e below (T2.setTop (mkF m 22 #[.val (.ref a1), .val (.int (0 : Int32)), .val (.int c0), .unset] [])) _
    refine XS.iloadN X2.here hx rfl (hb hby d17_22) rfl ?_
    show Steps p.tables e below (T2.setTop (mkF m 23 #[.val (.ref a1), .val (.int (0 : Int32)), .val (.int c0), .unset] [(.int c0)])) _
    refine XS.bipush X2.here hx rfl (hb hby d17_23) ?_
    show Steps p.tables e below (T2.setTop (mkF m 25 #[.val (.ref a1), .val (.int (0 : Int32)), .val (.int c0), .unset] [(.int (127 : Int32)), (.int c0)])) _
    refine XS.icmpNo X2.here hx rfl (hb hby d17_25) rfl (tlt ok_c0.2).2.1 ?_
    show Steps p.tables e below (T2.setTop (mkF m 28 #[.val (.ref a1), .val (.int (0 : Int32)), .val (.int c0), .unset] [])) _
    refine XS.iinc X2.here hx rfl (hb hby d17_28) rfl (l' := #[.val (.ref a1), .val (.int ((0 : Int32) + (1 : Int32))), .val (.int c0), .unset]) rfl ?_
    show Steps p.tables e below (T2.setTop (mkF m 31 #[.val (.ref a1), .val (.int ((0 : Int32) + (1 : Int32))), .val (.int c0), .unset] [])) _
    refine XS.goto X2.here hx rfl (pc0 := 31) (pc' := 2) rfl (hb hby d17_31) (by decide) (by decide) ?_
    show Steps p.tables e below (T2.setTop (mkF m 2 #[.val (.ref a1), .val (.int ((0 : Int32) + (1 : Int32))), .val (.int c0), .unset] [])) _
    refine XS.iloadN X2.here hx rfl (hb hby d17_2) rfl ?_
    show Steps p.tables e below (T2.setTop (mkF m 3 #[.val (.ref a1), .val (.int ((0 : Int32) + (1 : Int32))), .val (.int c0), .unset] [(.int ((0 : Int32) + (1 : Int32)))])) _
    refine XS.aloadN X2.here hx rfl (hb hby d17_3) rfl rfl ?_
    show Steps p.tables e below (T2.setTop (mkF m 4 #[.val (.ref a1), .val (.int ((0 : Int32) + (1 : Int32))), .val (.int c0), .unset] [(.ref a1), (.int ((0 : Int32) + (1 : Int32)))])) _
    refine st3.trans ?_
    show Steps p.tables e below (T3.setTop (mkF m 7 #[.val (.ref a1), .val (.int ((0 : Int32) + (1 : Int32))), .val (.int c0), .unset] [(.int (1 : Int32)), (.int ((0 : Int32) + (1 : Int32)))])) _
    refine XS.icmpYes X3.here hx rfl (pc0 := 7) (pc' := 59) rfl (hb hby d17_7) rfl (flt (by decide : ¬ (((0 : Int32) + (1 : Int32)) < (1 : Int32)))).2.1 (by decide) (by decide) ?_
    show Steps p.tables e below (T3.setTop (mkF m 59 #[.val (.ref a1), .val (.int ((0 : Int32) + (1 : Int32))), .val (.int c0), .unset] [])) _
    refine XS.iconst X3.here hx rfl (hb hby d17_59) ?_
    exact kt
  obtain ⟨fs, hr, hrun, hended, hW, hsame⟩ := X3.leave (v := some (.int (0 : Int32))) (fun h => by rw [Bd.returns] at h; cases h)
  refine ⟨_, _, pre0 _ (sg4 _ (?_)), hrun, hended, _, _, rfl, ?_, ⟨_, rfl⟩, hW, hsame.mono (by decide) (by decide)⟩
  · show Steps p.tables e below (T3.setTop (mkF m 60 #[.val (.ref a1), .val (.int ((0 : Int32) + (1 : Int32))), .val (.int c0), .unset] [(.int (0 : Int32))])) _
    exact retN X3 hx (t := .boolean) Bd.returns (by simp) (hb hby d17_60) hr
  · show Q17_1 Z a1 c0 zC vFM t1 kb1 h0 n0 _ T3.heap _
    rw [e3]
    exact ⟨rfl, N3, rfl⟩
def Q17_2 (Z : State) (a1 : Addr) (c0 : Int32) (c1 : Int32) (zC : Int32) (vFM : Value) (t1 : Addr) (kb1 : ClassId) (h0 : Heap) (n0 : Nat) (v : Option Value) (h : Heap) (L : List Loc) : Prop := v = some (.int (0 : Int32)) ∧ Fr n0 L ∧ h = h0
theorem ef_17_2 (m : MethodId) (x0 : Addr) : entryFrame m #[(.ref x0)] 4 = mkF m 0 #[.val (.ref x0), .unset, .unset, .unset] [] := by first | (simp [entryFrame, mkF, argsToLocals, Value.category]; done) | rfl
set_option maxRecDepth 65536 in
set_option maxHeartbeats 40000000 in
theorem rm17_2 (l : Launch) (Z : State) (a0 : Array Value) (hw : ∀ d ∈ tables_1, d.before a0 Z = true) (ws : List Jvm.Cond) (a1 : Addr) (c0 : Int32) (c1 : Int32) (zC : Int32) (vFM : Value) (t1 : Addr) (kb1 : ClassId) (h0 : Heap) (n0 : Nat) (O0 : Old Z n0 h0) (S_COMPACT_STRINGS : Sta Z Z.heap "java/lang/String" "COMPACT_STRINGS" "Z" (.int zC)) (S_SIOOBE_FORMATTER : Sta Z Z.heap "jdk/internal/util/Preconditions" "SIOOBE_FORMATTER" "Ljava/util/function/BiFunction;" vFM) (hCS : ¬ zC = 0) (hFM : vFM.isRef = true) (E_a1 : Exa Z h0 a1 "java/lang/String") (Fc_a1 : Fld Z h0 a1 "java/lang/String" "coder" "B" (.int (0 : Int32))) (Fv_a1 : Fld Z h0 a1 "java/lang/String" "value" "[B" (.ref t1)) (V_a1 : Arv Z h0 t1 kb1 .byte (Int32.ofNat (([c0, c1] : List Int32)).length) (strV ([c0, c1] : List Int32)) (.int 0)) (lat1 : Lat ([c0, c1] : List Int32)) (ok_c0 : own_ok c0) (ok_c1 : own_ok c1) :
    MetFree l (⟨"com/example/muninn/muninn/store/Node", "holdsBlankOrControl", "(Ljava/lang/String;)Z"⟩ : MethodName) (head1 (Jvm.Cond.code (⟨"com/example/muninn/muninn/store/Node", "holdsBlankOrControl", "(Ljava/lang/String;)Z"⟩ : MethodName) prog_58_method_9_code 4 (some .boolean) :: ws) ({ frames := 4, cells := 0, slots := 0, locals := 53 } : Room)) (fun a U => a = #[(.ref a1)] ∧ Z.Warmed39 U.vm ∧ U.heap = h0) (fun _ _ _ _ _ => True) (fun _ U o U' => ∃ v L, o = .returned v ∧ Q17_2 Z a1 c0 c1 zC vFM t1 kb1 h0 n0 v U'.heap L ∧ FrameEnd U o U' L ({ frames := 4, cells := 0, slots := 0, locals := 53 } : Room).cells ({ frames := 4, cells := 0, slots := 0, locals := 53 } : Room).slots) := by
  refine MetFree.of_bodySF (plainFor_of_name pn_1) hisR ?_
  intro p e s m args below meth c s₁ Bd hml0 hP hK
  obtain ⟨rfl, hZ, hh⟩ := hP
  have hx := Bd.exec
  have hby := Bd.bytes
  have hml : c.maxLocals = 4 := hml0
  have hown : s.vm.findClass "com/example/muninn/muninn/store/Node" = some m.cls := findClass_of_methodNamed Bd.named
  have hnm := (name_of_methodNamed Bd.named Bd.method).1
  have X0 : Stand p l e ({ frames := 4, cells := 0, slots := 0, locals := 53 } : Room) s m #[(.ref a1)] below meth c s₁ [] 0 0 := Stand.of_body Bd
  have e0 : s₁.heap = h0 := by rw [← hh, Bd.state]; rfl
  have N0 := Fr.nil n0
  have pre0 : ∀ t, Steps p.tables e below (s₁.setTop (mkF m 0 #[.val (.ref a1), .unset, .unset, .unset] [])) t → Steps p.tables e below (s₁.setTop (entryFrame m #[(.ref a1)] 4)) t := fun t k => castTop (ef_17_2 m a1) k
  obtain ⟨cq1, kq1, q1a, q1b, q1c⟩ := isOf hZ e0 E_a1
  obtain ⟨vv1, _, ⟨T1, L1, k1, n1⟩, -, X1, ⟨Lc1, hQ1, l1, y1, z1⟩, st1⟩ := X0.virtualBack hx (y := (⟨"java/lang/String", "length", "()I"⟩ : MethodName)) (z := (⟨"java/lang/String", "length", "()I"⟩ : MethodName)) hown (mvT hZ (hw _ (List.mem_of_getElem? (i := 77) rfl))) (mvT hZ (hw _ (List.mem_of_getElem? (i := 78) rfl))) (notFace_of_selects (args := #[]) (mvT hZ (hw _ (List.mem_of_getElem? (i := 80) rfl)))) (mvT hZ (hw _ (List.mem_of_getElem? (i := 80) rfl))) (mvT hZ (hw _ (List.mem_of_getElem? (i := 79) rfl))) (by decide) (StrChars.Road.lenW (W := 1) hZ (own_wl hw) (kI := 4) (hw _ (List.mem_of_getElem? (i := 15) rfl)) E_a1 Fv_a1 Fc_a1 V_a1 (own_cod lat1) (own_up lat1) (S_COMPACT_STRINGS.ext O0.2) hCS lat1.2 (by decide) (by decide)) q1a q1c (g := (mkF m 4 #[.val (.ref a1), .val (.int (0 : Int32)), .unset, .unset] [(.ref a1), (.int (0 : Int32))])) rfl (by rw [hml]; rfl) (Steps.refl _) (argsL := []) (rest := [(.int (0 : Int32))]) (lenOf pd_0 rfl) rfl (by show 2 * 0 + _ ≤ _; exact Nat.le_of_eq rfl) (hb hby d17_4) (fun _ _ => ⟨rfl, e0, (by decide : 0 + 0 ≤ _), (by decide : 0 + 0 ≤ _)⟩)
  dsimp only [Pt.U, Pt.locs, Pt.cells, Pt.slots] at X1 l1 y1 z1 st1 hQ1
  subst l1 y1 z1
  obtain ⟨rfl, rfl, e1⟩ := hQ1
  have N1 := Fr.app N0 (Fr.nil n0)
  obtain ⟨cq2, kq2, q2a, q2b, q2c⟩ := isOf hZ e1 E_a1
  obtain ⟨vv2, _, ⟨T2, L2, k2, n2⟩, -, X2, ⟨Lc2, hQ2, l2, y2, z2⟩, st2⟩ := X1.virtualBack hx (y := (⟨"java/lang/String", "charAt", "(I)C"⟩ : MethodName)) (z := (⟨"java/lang/String", "charAt", "(I)C"⟩ : MethodName)) hown (mvT hZ (hw _ (List.mem_of_getElem? (i := 87) rfl))) (mvT hZ (hw _ (List.mem_of_getElem? (i := 88) rfl))) (notFace_of_selects (args := #[]) (mvT hZ (hw _ (List.mem_of_getElem? (i := 90) rfl)))) (mvT hZ (hw _ (List.mem_of_getElem? (i := 90) rfl))) (mvT hZ (hw _ (List.mem_of_getElem? (i := 89) rfl))) (by decide) (StrChars.Road.chN (W := 0) hZ (own_wc hw) (kI := 4) (hw _ (List.mem_of_getElem? (i := 15) rfl)) E_a1 Fv_a1 Fc_a1 V_a1 (own_cod lat1) (own_up lat1) (S_COMPACT_STRINGS.ext O0.2) hCS (S_SIOOBE_FORMATTER.ext O0.2) hFM lat1.2 (i := 0) (Nat.le_of_ble_eq_true rfl) (j := (0 : Int32)) (by decide) (by decide) (by decide)) q2a q2c (g := (mkF m 12 #[.val (.ref a1), .val (.int (0 : Int32)), .unset, .unset] [(.int (0 : Int32)), (.ref a1)])) rfl (by rw [hml]; rfl) (Steps.refl _) (argsL := [(.int (0 : Int32))]) (rest := []) (lenOf pd_1 rfl) rfl (by show 2 * 0 + _ ≤ _; exact Nat.le_of_eq rfl) (hb hby d17_12) (fun _ _ => ⟨rfl, e1, (by decide : 0 + 0 ≤ _), (by decide : 0 + 0 ≤ _)⟩)
  dsimp only [Pt.U, Pt.locs, Pt.cells, Pt.slots] at X2 l2 y2 z2 st2 hQ2
  subst l2 y2 z2
  obtain ⟨rfl, rfl, e2⟩ := hQ2
  have N2 := Fr.app N1 (Fr.nil n0)
  obtain ⟨cq3, kq3, q3a, q3b, q3c⟩ := isOf hZ e2 E_a1
  obtain ⟨vv3, _, ⟨T3, L3, k3, n3⟩, -, X3, ⟨Lc3, hQ3, l3, y3, z3⟩, st3⟩ := X2.virtualBack hx (y := (⟨"java/lang/String", "length", "()I"⟩ : MethodName)) (z := (⟨"java/lang/String", "length", "()I"⟩ : MethodName)) hown (mvT hZ (hw _ (List.mem_of_getElem? (i := 77) rfl))) (mvT hZ (hw _ (List.mem_of_getElem? (i := 78) rfl))) (notFace_of_selects (args := #[]) (mvT hZ (hw _ (List.mem_of_getElem? (i := 80) rfl)))) (mvT hZ (hw _ (List.mem_of_getElem? (i := 80) rfl))) (mvT hZ (hw _ (List.mem_of_getElem? (i := 79) rfl))) (by decide) (StrChars.Road.lenW (W := 1) hZ (own_wl hw) (kI := 4) (hw _ (List.mem_of_getElem? (i := 15) rfl)) E_a1 Fv_a1 Fc_a1 V_a1 (own_cod lat1) (own_up lat1) (S_COMPACT_STRINGS.ext O0.2) hCS lat1.2 (by decide) (by decide)) q3a q3c (g := (mkF m 4 #[.val (.ref a1), .val (.int ((0 : Int32) + (1 : Int32))), .val (.int c0), .unset] [(.ref a1), (.int ((0 : Int32) + (1 : Int32)))])) rfl (by rw [hml]; rfl) (Steps.refl _) (argsL := []) (rest := [(.int ((0 : Int32) + (1 : Int32)))]) (lenOf pd_0 rfl) rfl (by show 2 * 0 + _ ≤ _; exact Nat.le_of_eq rfl) (hb hby d17_4) (fun _ _ => ⟨rfl, e2, (by decide : 0 + 0 ≤ _), (by decide : 0 + 0 ≤ _)⟩)
  dsimp only [Pt.U, Pt.locs, Pt.cells, Pt.slots] at X3 l3 y3 z3 st3 hQ3
  subst l3 y3 z3
  obtain ⟨rfl, rfl, e3⟩ := hQ3
  have N3 := Fr.app N2 (Fr.nil n0)
  obtain ⟨cq4, kq4, q4a, q4b, q4c⟩ := isOf hZ e3 E_a1
  obtain ⟨vv4, _, ⟨T4, L4, k4, n4⟩, -, X4, ⟨Lc4, hQ4, l4, y4, z4⟩, st4⟩ := X3.virtualBack hx (y := (⟨"java/lang/String", "charAt", "(I)C"⟩ : MethodName)) (z := (⟨"java/lang/String", "charAt", "(I)C"⟩ : MethodName)) hown (mvT hZ (hw _ (List.mem_of_getElem? (i := 87) rfl))) (mvT hZ (hw _ (List.mem_of_getElem? (i := 88) rfl))) (notFace_of_selects (args := #[]) (mvT hZ (hw _ (List.mem_of_getElem? (i := 90) rfl)))) (mvT hZ (hw _ (List.mem_of_getElem? (i := 90) rfl))) (mvT hZ (hw _ (List.mem_of_getElem? (i := 89) rfl))) (by decide) (StrChars.Road.chN (W := 0) hZ (own_wc hw) (kI := 4) (hw _ (List.mem_of_getElem? (i := 15) rfl)) E_a1 Fv_a1 Fc_a1 V_a1 (own_cod lat1) (own_up lat1) (S_COMPACT_STRINGS.ext O0.2) hCS (S_SIOOBE_FORMATTER.ext O0.2) hFM lat1.2 (i := 1) (Nat.le_of_ble_eq_true rfl) (j := ((0 : Int32) + (1 : Int32))) (by decide) (by decide) (by decide)) q4a q4c (g := (mkF m 12 #[.val (.ref a1), .val (.int ((0 : Int32) + (1 : Int32))), .val (.int c0), .unset] [(.int ((0 : Int32) + (1 : Int32))), (.ref a1)])) rfl (by rw [hml]; rfl) (Steps.refl _) (argsL := [(.int ((0 : Int32) + (1 : Int32)))]) (rest := []) (lenOf pd_1 rfl) rfl (by show 2 * 0 + _ ≤ _; exact Nat.le_of_eq rfl) (hb hby d17_12) (fun _ _ => ⟨rfl, e3, (by decide : 0 + 0 ≤ _), (by decide : 0 + 0 ≤ _)⟩)
  dsimp only [Pt.U, Pt.locs, Pt.cells, Pt.slots] at X4 l4 y4 z4 st4 hQ4
  subst l4 y4 z4
  obtain ⟨rfl, rfl, e4⟩ := hQ4
  have N4 := Fr.app N3 (Fr.nil n0)
  obtain ⟨cq5, kq5, q5a, q5b, q5c⟩ := isOf hZ e4 E_a1
  obtain ⟨vv5, _, ⟨T5, L5, k5, n5⟩, -, X5, ⟨Lc5, hQ5, l5, y5, z5⟩, st5⟩ := X4.virtualBack hx (y := (⟨"java/lang/String", "length", "()I"⟩ : MethodName)) (z := (⟨"java/lang/String", "length", "()I"⟩ : MethodName)) hown (mvT hZ (hw _ (List.mem_of_getElem? (i := 77) rfl))) (mvT hZ (hw _ (List.mem_of_getElem? (i := 78) rfl))) (notFace_of_selects (args := #[]) (mvT hZ (hw _ (List.mem_of_getElem? (i := 80) rfl)))) (mvT hZ (hw _ (List.mem_of_getElem? (i := 80) rfl))) (mvT hZ (hw _ (List.mem_of_getElem? (i := 79) rfl))) (by decide) (StrChars.Road.lenW (W := 1) hZ (own_wl hw) (kI := 4) (hw _ (List.mem_of_getElem? (i := 15) rfl)) E_a1 Fv_a1 Fc_a1 V_a1 (own_cod lat1) (own_up lat1) (S_COMPACT_STRINGS.ext O0.2) hCS lat1.2 (by decide) (by decide)) q5a q5c (g := (mkF m 4 #[.val (.ref a1), .val (.int (((0 : Int32) + (1 : Int32)) + (1 : Int32))), .val (.int c1), .unset] [(.ref a1), (.int (((0 : Int32) + (1 : Int32)) + (1 : Int32)))])) rfl (by rw [hml]; rfl) (Steps.refl _) (argsL := []) (rest := [(.int (((0 : Int32) + (1 : Int32)) + (1 : Int32)))]) (lenOf pd_0 rfl) rfl (by show 2 * 0 + _ ≤ _; exact Nat.le_of_eq rfl) (hb hby d17_4) (fun _ _ => ⟨rfl, e4, (by decide : 0 + 0 ≤ _), (by decide : 0 + 0 ≤ _)⟩)
  dsimp only [Pt.U, Pt.locs, Pt.cells, Pt.slots] at X5 l5 y5 z5 st5 hQ5
  subst l5 y5 z5
  obtain ⟨rfl, rfl, e5⟩ := hQ5
  have N5 := Fr.app N4 (Fr.nil n0)
  have sg6 : ∀ target, Steps p.tables e below (T5.setTop (mkF m 60 #[.val (.ref a1), .val (.int (((0 : Int32) + (1 : Int32)) + (1 : Int32))), .val (.int c1), .unset] [(.int (0 : Int32))])) target → Steps p.tables e below (s₁.setTop (mkF m 0 #[.val (.ref a1), .unset, .unset, .unset] [])) target := by
    intro target kt
    show Steps p.tables e below (s₁.setTop (mkF m 0 #[.val (.ref a1), .unset, .unset, .unset] [])) _
    refine XS.iconst X0.here hx rfl (hb hby d17_0) ?_
    show Steps p.tables e below (s₁.setTop (mkF m 1 #[.val (.ref a1), .unset, .unset, .unset] [(.int (0 : Int32))])) _
    refine XS.istoreN X0.here hx rfl (hb hby d17_1) rfl (l' := #[.val (.ref a1), .val (.int (0 : Int32)), .unset, .unset]) rfl ?_
    show Steps p.tables e below (s₁.setTop (mkF m 2 #[.val (.ref a1), .val (.int (0 : Int32)), .unset, .unset] [])) _
    refine XS.iloadN X0.here hx rfl (hb hby d17_2) rfl ?_
    show Steps p.tables e below (s₁.setTop (mkF m 3 #[.val (.ref a1), .val (.int (0 : Int32)), .unset, .unset] [(.int (0 : Int32))])) _
    refine XS.aloadN X0.here hx rfl (hb hby d17_3) rfl rfl ?_
    show Steps p.tables e below (s₁.setTop (mkF m 4 #[.val (.ref a1), .val (.int (0 : Int32)), .unset, .unset] [(.ref a1), (.int (0 : Int32))])) _
    refine st1.trans ?_
    show Steps p.tables e below (T1.setTop (mkF m 7 #[.val (.ref a1), .val (.int (0 : Int32)), .unset, .unset] [(.int (2 : Int32)), (.int (0 : Int32))])) _
    refine XS.icmpNo X1.here hx rfl (hb hby d17_7) rfl (tlt (by decide : (0 : Int32) < (2 : Int32))).2.1 ?_
    show Steps p.tables e below (T1.setTop (mkF m 10 #[.val (.ref a1), .val (.int (0 : Int32)), .unset, .unset] [])) _
    refine XS.aloadN X1.here hx rfl (hb hby d17_10) rfl rfl ?_
    show Steps p.tables e below (T1.setTop (mkF m 11 #[.val (.ref a1), .val (.int (0 : Int32)), .unset, .unset] [(.ref a1)])) _
    refine XS.iloadN X1.here hx rfl (hb hby d17_11) rfl ?_
    show Steps p.tables e below (T1.setTop (mkF m 12 #[.val (.ref a1), .val (.int (0 : Int32)), .unset, .unset] [(.int (0 : Int32)), (.ref a1)])) _
    refine st2.trans ?_
    show Steps p.tables e below (T2.setTop (mkF m 15 #[.val (.ref a1), .val (.int (0 : Int32)), .unset, .unset] [(.int c0)])) _
    refine XS.istoreN X2.here hx rfl (hb hby d17_15) rfl (l' := #[.val (.ref a1), .val (.int (0 : Int32)), .val (.int c0), .unset]) rfl ?_
    show Steps p.tables e below (T2.setTop (mkF m 16 #[.val (.ref a1), .val (.int (0 : Int32)), .val (.int c0), .unset] [])) _
    refine XS.iloadN X2.here hx rfl (hb hby d17_16) rfl ?_
    show Steps p.tables e below (T2.setTop (mkF m 17 #[.val (.ref a1), .val (.int (0 : Int32)), .val (.int c0), .unset] [(.int c0)])) _
    refine XS.bipush X2.here hx rfl (hb hby d17_17) ?_
    show Steps p.tables e below (T2.setTop (mkF m 19 #[.val (.ref a1), .val (.int (0 : Int32)), .val (.int c0), .unset] [(.int (32 : Int32)), (.int c0)])) _
    refine XS.icmpNo X2.here hx rfl (hb hby d17_19) rfl (tlt ok_c0.1).2.2.2 ?_
    show Steps p.tables e below (T2.setTop (mkF m 22 #[.val (.ref a1), .val (.int (0 : Int32)), .val (.int c0), .unset] [])) _
    refine XS.iloadN X2.here hx rfl (hb hby d17_22) rfl ?_
    show Steps p.tables e below (T2.setTop (mkF m 23 #[.val (.ref a1), .val (.int (0 : Int32)), .val (.int c0), .unset] [(.int c0)])) _
    refine XS.bipush X2.here hx rfl (hb hby d17_23) ?_
    show Steps p.tables e below (T2.setTop (mkF m 25 #[.val (.ref a1), .val (.int (0 : Int32)), .val (.int c0), .unset] [(.int (127 : Int32)), (.int c0)])) _
    refine XS.icmpNo X2.here hx rfl (hb hby d17_25) rfl (tlt ok_c0.2).2.1 ?_
    show Steps p.tables e below (T2.setTop (mkF m 28 #[.val (.ref a1), .val (.int (0 : Int32)), .val (.int c0), .unset] [])) _
    refine XS.iinc X2.here hx rfl (hb hby d17_28) rfl (l' := #[.val (.ref a1), .val (.int ((0 : Int32) + (1 : Int32))), .val (.int c0), .unset]) rfl ?_
    show Steps p.tables e below (T2.setTop (mkF m 31 #[.val (.ref a1), .val (.int ((0 : Int32) + (1 : Int32))), .val (.int c0), .unset] [])) _
    refine XS.goto X2.here hx rfl (pc0 := 31) (pc' := 2) rfl (hb hby d17_31) (by decide) (by decide) ?_
    show Steps p.tables e below (T2.setTop (mkF m 2 #[.val (.ref a1), .val (.int ((0 : Int32) + (1 : Int32))), .val (.int c0), .unset] [])) _
    refine XS.iloadN X2.here hx rfl (hb hby d17_2) rfl ?_
    show Steps p.tables e below (T2.setTop (mkF m 3 #[.val (.ref a1), .val (.int ((0 : Int32) + (1 : Int32))), .val (.int c0), .unset] [(.int ((0 : Int32) + (1 : Int32)))])) _
    refine XS.aloadN X2.here hx rfl (hb hby d17_3) rfl rfl ?_
    show Steps p.tables e below (T2.setTop (mkF m 4 #[.val (.ref a1), .val (.int ((0 : Int32) + (1 : Int32))), .val (.int c0), .unset] [(.ref a1), (.int ((0 : Int32) + (1 : Int32)))])) _
    refine st3.trans ?_
    show Steps p.tables e below (T3.setTop (mkF m 7 #[.val (.ref a1), .val (.int ((0 : Int32) + (1 : Int32))), .val (.int c0), .unset] [(.int (2 : Int32)), (.int ((0 : Int32) + (1 : Int32)))])) _
    refine XS.icmpNo X3.here hx rfl (hb hby d17_7) rfl (tlt (by decide : ((0 : Int32) + (1 : Int32)) < (2 : Int32))).2.1 ?_
    show Steps p.tables e below (T3.setTop (mkF m 10 #[.val (.ref a1), .val (.int ((0 : Int32) + (1 : Int32))), .val (.int c0), .unset] [])) _
    refine XS.aloadN X3.here hx rfl (hb hby d17_10) rfl rfl ?_
    show Steps p.tables e below (T3.setTop (mkF m 11 #[.val (.ref a1), .val (.int ((0 : Int32) + (1 : Int32))), .val (.int c0), .unset] [(.ref a1)])) _
    refine XS.iloadN X3.here hx rfl (hb hby d17_11) rfl ?_
    show Steps p.tables e below (T3.setTop (mkF m 12 #[.val (.ref a1), .val (.int ((0 : Int32) + (1 : Int32))), .val (.int c0), .unset] [(.int ((0 : Int32) + (1 : Int32))), (.ref a1)])) _
    refine st4.trans ?_
    show Steps p.tables e below (T4.setTop (mkF m 15 #[.val (.ref a1), .val (.int ((0 : Int32) + (1 : Int32))), .val (.int c0), .unset] [(.int c1)])) _
    refine XS.istoreN X4.here hx rfl (hb hby d17_15) rfl (l' := #[.val (.ref a1), .val (.int ((0 : Int32) + (1 : Int32))), .val (.int c1), .unset]) rfl ?_
    show Steps p.tables e below (T4.setTop (mkF m 16 #[.val (.ref a1), .val (.int ((0 : Int32) + (1 : Int32))), .val (.int c1), .unset] [])) _
    refine XS.iloadN X4.here hx rfl (hb hby d17_16) rfl ?_
    show Steps p.tables e below (T4.setTop (mkF m 17 #[.val (.ref a1), .val (.int ((0 : Int32) + (1 : Int32))), .val (.int c1), .unset] [(.int c1)])) _
    refine XS.bipush X4.here hx rfl (hb hby d17_17) ?_
    show Steps p.tables e below (T4.setTop (mkF m 19 #[.val (.ref a1), .val (.int ((0 : Int32) + (1 : Int32))), .val (.int c1), .unset] [(.int (32 : Int32)), (.int c1)])) _
    refine XS.icmpNo X4.here hx rfl (hb hby d17_19) rfl (tlt ok_c1.1).2.2.2 ?_
    show Steps p.tables e below (T4.setTop (mkF m 22 #[.val (.ref a1), .val (.int ((0 : Int32) + (1 : Int32))), .val (.int c1), .unset] [])) _
    refine XS.iloadN X4.here hx rfl (hb hby d17_22) rfl ?_
    show Steps p.tables e below (T4.setTop (mkF m 23 #[.val (.ref a1), .val (.int ((0 : Int32) + (1 : Int32))), .val (.int c1), .unset] [(.int c1)])) _
    refine XS.bipush X4.here hx rfl (hb hby d17_23) ?_
    show Steps p.tables e below (T4.setTop (mkF m 25 #[.val (.ref a1), .val (.int ((0 : Int32) + (1 : Int32))), .val (.int c1), .unset] [(.int (127 : Int32)), (.int c1)])) _
    refine XS.icmpNo X4.here hx rfl (hb hby d17_25) rfl (tlt ok_c1.2).2.1 ?_
    show Steps p.tables e below (T4.setTop (mkF m 28 #[.val (.ref a1), .val (.int ((0 : Int32) + (1 : Int32))), .val (.int c1), .unset] [])) _
    refine XS.iinc X4.here hx rfl (hb hby d17_28) rfl (l' := #[.val (.ref a1), .val (.int (((0 : Int32) + (1 : Int32)) + (1 : Int32))), .val (.int c1), .unset]) rfl ?_
    show Steps p.tables e below (T4.setTop (mkF m 31 #[.val (.ref a1), .val (.int (((0 : Int32) + (1 : Int32)) + (1 : Int32))), .val (.int c1), .unset] [])) _
    refine XS.goto X4.here hx rfl (pc0 := 31) (pc' := 2) rfl (hb hby d17_31) (by decide) (by decide) ?_
    show Steps p.tables e below (T4.setTop (mkF m 2 #[.val (.ref a1), .val (.int (((0 : Int32) + (1 : Int32)) + (1 : Int32))), .val (.int c1), .unset] [])) _
    refine XS.iloadN X4.here hx rfl (hb hby d17_2) rfl ?_
    show Steps p.tables e below (T4.setTop (mkF m 3 #[.val (.ref a1), .val (.int (((0 : Int32) + (1 : Int32)) + (1 : Int32))), .val (.int c1), .unset] [(.int (((0 : Int32) + (1 : Int32)) + (1 : Int32)))])) _
    refine XS.aloadN X4.here hx rfl (hb hby d17_3) rfl rfl ?_
    show Steps p.tables e below (T4.setTop (mkF m 4 #[.val (.ref a1), .val (.int (((0 : Int32) + (1 : Int32)) + (1 : Int32))), .val (.int c1), .unset] [(.ref a1), (.int (((0 : Int32) + (1 : Int32)) + (1 : Int32)))])) _
    refine st5.trans ?_
    show Steps p.tables e below (T5.setTop (mkF m 7 #[.val (.ref a1), .val (.int (((0 : Int32) + (1 : Int32)) + (1 : Int32))), .val (.int c1), .unset] [(.int (2 : Int32)), (.int (((0 : Int32) + (1 : Int32)) + (1 : Int32)))])) _
    refine XS.icmpYes X5.here hx rfl (pc0 := 7) (pc' := 59) rfl (hb hby d17_7) rfl (flt (by decide : ¬ ((((0 : Int32) + (1 : Int32)) + (1 : Int32)) < (2 : Int32)))).2.1 (by decide) (by decide) ?_
    show Steps p.tables e below (T5.setTop (mkF m 59 #[.val (.ref a1), .val (.int (((0 : Int32) + (1 : Int32)) + (1 : Int32))), .val (.int c1), .unset] [])) _
    refine XS.iconst X5.here hx rfl (hb hby d17_59) ?_
    exact kt
  obtain ⟨fs, hr, hrun, hended, hW, hsame⟩ := X5.leave (v := some (.int (0 : Int32))) (fun h => by rw [Bd.returns] at h; cases h)
  refine ⟨_, _, pre0 _ (sg6 _ (?_)), hrun, hended, _, _, rfl, ?_, ⟨_, rfl⟩, hW, hsame.mono (by decide) (by decide)⟩
  · show Steps p.tables e below (T5.setTop (mkF m 60 #[.val (.ref a1), .val (.int (((0 : Int32) + (1 : Int32)) + (1 : Int32))), .val (.int c1), .unset] [(.int (0 : Int32))])) _
    exact retN X5 hx (t := .boolean) Bd.returns (by simp) (hb hby d17_60) hr
  · show Q17_2 Z a1 c0 c1 zC vFM t1 kb1 h0 n0 _ T5.heap _
    rw [e5]
    exact ⟨rfl, N5, rfl⟩
def Q17_3 (Z : State) (a1 : Addr) (c0 : Int32) (c1 : Int32) (c2 : Int32) (zC : Int32) (vFM : Value) (t1 : Addr) (kb1 : ClassId) (h0 : Heap) (n0 : Nat) (v : Option Value) (h : Heap) (L : List Loc) : Prop := v = some (.int (0 : Int32)) ∧ Fr n0 L ∧ h = h0
theorem ef_17_3 (m : MethodId) (x0 : Addr) : entryFrame m #[(.ref x0)] 4 = mkF m 0 #[.val (.ref x0), .unset, .unset, .unset] [] := by first | (simp [entryFrame, mkF, argsToLocals, Value.category]; done) | rfl
set_option maxRecDepth 65536 in
set_option maxHeartbeats 40000000 in
theorem rm17_3 (l : Launch) (Z : State) (a0 : Array Value) (hw : ∀ d ∈ tables_1, d.before a0 Z = true) (ws : List Jvm.Cond) (a1 : Addr) (c0 : Int32) (c1 : Int32) (c2 : Int32) (zC : Int32) (vFM : Value) (t1 : Addr) (kb1 : ClassId) (h0 : Heap) (n0 : Nat) (O0 : Old Z n0 h0) (S_COMPACT_STRINGS : Sta Z Z.heap "java/lang/String" "COMPACT_STRINGS" "Z" (.int zC)) (S_SIOOBE_FORMATTER : Sta Z Z.heap "jdk/internal/util/Preconditions" "SIOOBE_FORMATTER" "Ljava/util/function/BiFunction;" vFM) (hCS : ¬ zC = 0) (hFM : vFM.isRef = true) (E_a1 : Exa Z h0 a1 "java/lang/String") (Fc_a1 : Fld Z h0 a1 "java/lang/String" "coder" "B" (.int (0 : Int32))) (Fv_a1 : Fld Z h0 a1 "java/lang/String" "value" "[B" (.ref t1)) (V_a1 : Arv Z h0 t1 kb1 .byte (Int32.ofNat (([c0, c1, c2] : List Int32)).length) (strV ([c0, c1, c2] : List Int32)) (.int 0)) (lat1 : Lat ([c0, c1, c2] : List Int32)) (ok_c0 : own_ok c0) (ok_c1 : own_ok c1) (ok_c2 : own_ok c2) :
    MetFree l (⟨"com/example/muninn/muninn/store/Node", "holdsBlankOrControl", "(Ljava/lang/String;)Z"⟩ : MethodName) (head1 (Jvm.Cond.code (⟨"com/example/muninn/muninn/store/Node", "holdsBlankOrControl", "(Ljava/lang/String;)Z"⟩ : MethodName) prog_58_method_9_code 4 (some .boolean) :: ws) ({ frames := 4, cells := 0, slots := 0, locals := 53 } : Room)) (fun a U => a = #[(.ref a1)] ∧ Z.Warmed39 U.vm ∧ U.heap = h0) (fun _ _ _ _ _ => True) (fun _ U o U' => ∃ v L, o = .returned v ∧ Q17_3 Z a1 c0 c1 c2 zC vFM t1 kb1 h0 n0 v U'.heap L ∧ FrameEnd U o U' L ({ frames := 4, cells := 0, slots := 0, locals := 53 } : Room).cells ({ frames := 4, cells := 0, slots := 0, locals := 53 } : Room).slots) := by
  refine MetFree.of_bodySF (plainFor_of_name pn_1) hisR ?_
  intro p e s m args below meth c s₁ Bd hml0 hP hK
  obtain ⟨rfl, hZ, hh⟩ := hP
  have hx := Bd.exec
  have hby := Bd.bytes
  have hml : c.maxLocals = 4 := hml0
  have hown : s.vm.findClass "com/example/muninn/muninn/store/Node" = some m.cls := findClass_of_methodNamed Bd.named
  have hnm := (name_of_methodNamed Bd.named Bd.method).1
  have X0 : Stand p l e ({ frames := 4, cells := 0, slots := 0, locals := 53 } : Room) s m #[(.ref a1)] below meth c s₁ [] 0 0 := Stand.of_body Bd
  have e0 : s₁.heap = h0 := by rw [← hh, Bd.state]; rfl
  have N0 := Fr.nil n0
  have pre0 : ∀ t, Steps p.tables e below (s₁.setTop (mkF m 0 #[.val (.ref a1), .unset, .unset, .unset] [])) t → Steps p.tables e below (s₁.setTop (entryFrame m #[(.ref a1)] 4)) t := fun t k => castTop (ef_17_3 m a1) k
  obtain ⟨cq1, kq1, q1a, q1b, q1c⟩ := isOf hZ e0 E_a1
  obtain ⟨vv1, _, ⟨T1, L1, k1, n1⟩, -, X1, ⟨Lc1, hQ1, l1, y1, z1⟩, st1⟩ := X0.virtualBack hx (y := (⟨"java/lang/String", "length", "()I"⟩ : MethodName)) (z := (⟨"java/lang/String", "length", "()I"⟩ : MethodName)) hown (mvT hZ (hw _ (List.mem_of_getElem? (i := 77) rfl))) (mvT hZ (hw _ (List.mem_of_getElem? (i := 78) rfl))) (notFace_of_selects (args := #[]) (mvT hZ (hw _ (List.mem_of_getElem? (i := 80) rfl)))) (mvT hZ (hw _ (List.mem_of_getElem? (i := 80) rfl))) (mvT hZ (hw _ (List.mem_of_getElem? (i := 79) rfl))) (by decide) (StrChars.Road.lenW (W := 1) hZ (own_wl hw) (kI := 4) (hw _ (List.mem_of_getElem? (i := 15) rfl)) E_a1 Fv_a1 Fc_a1 V_a1 (own_cod lat1) (own_up lat1) (S_COMPACT_STRINGS.ext O0.2) hCS lat1.2 (by decide) (by decide)) q1a q1c (g := (mkF m 4 #[.val (.ref a1), .val (.int (0 : Int32)), .unset, .unset] [(.ref a1), (.int (0 : Int32))])) rfl (by rw [hml]; rfl) (Steps.refl _) (argsL := []) (rest := [(.int (0 : Int32))]) (lenOf pd_0 rfl) rfl (by show 2 * 0 + _ ≤ _; exact Nat.le_of_eq rfl) (hb hby d17_4) (fun _ _ => ⟨rfl, e0, (by decide : 0 + 0 ≤ _), (by decide : 0 + 0 ≤ _)⟩)
  dsimp only [Pt.U, Pt.locs, Pt.cells, Pt.slots] at X1 l1 y1 z1 st1 hQ1
  subst l1 y1 z1
  obtain ⟨rfl, rfl, e1⟩ := hQ1
  have N1 := Fr.app N0 (Fr.nil n0)
  obtain ⟨cq2, kq2, q2a, q2b, q2c⟩ := isOf hZ e1 E_a1
  obtain ⟨vv2, _, ⟨T2, L2, k2, n2⟩, -, X2, ⟨Lc2, hQ2, l2, y2, z2⟩, st2⟩ := X1.virtualBack hx (y := (⟨"java/lang/String", "charAt", "(I)C"⟩ : MethodName)) (z := (⟨"java/lang/String", "charAt", "(I)C"⟩ : MethodName)) hown (mvT hZ (hw _ (List.mem_of_getElem? (i := 87) rfl))) (mvT hZ (hw _ (List.mem_of_getElem? (i := 88) rfl))) (notFace_of_selects (args := #[]) (mvT hZ (hw _ (List.mem_of_getElem? (i := 90) rfl)))) (mvT hZ (hw _ (List.mem_of_getElem? (i := 90) rfl))) (mvT hZ (hw _ (List.mem_of_getElem? (i := 89) rfl))) (by decide) (StrChars.Road.chN (W := 0) hZ (own_wc hw) (kI := 4) (hw _ (List.mem_of_getElem? (i := 15) rfl)) E_a1 Fv_a1 Fc_a1 V_a1 (own_cod lat1) (own_up lat1) (S_COMPACT_STRINGS.ext O0.2) hCS (S_SIOOBE_FORMATTER.ext O0.2) hFM lat1.2 (i := 0) (Nat.le_of_ble_eq_true rfl) (j := (0 : Int32)) (by decide) (by decide) (by decide)) q2a q2c (g := (mkF m 12 #[.val (.ref a1), .val (.int (0 : Int32)), .unset, .unset] [(.int (0 : Int32)), (.ref a1)])) rfl (by rw [hml]; rfl) (Steps.refl _) (argsL := [(.int (0 : Int32))]) (rest := []) (lenOf pd_1 rfl) rfl (by show 2 * 0 + _ ≤ _; exact Nat.le_of_eq rfl) (hb hby d17_12) (fun _ _ => ⟨rfl, e1, (by decide : 0 + 0 ≤ _), (by decide : 0 + 0 ≤ _)⟩)
  dsimp only [Pt.U, Pt.locs, Pt.cells, Pt.slots] at X2 l2 y2 z2 st2 hQ2
  subst l2 y2 z2
  obtain ⟨rfl, rfl, e2⟩ := hQ2
  have N2 := Fr.app N1 (Fr.nil n0)
  obtain ⟨cq3, kq3, q3a, q3b, q3c⟩ := isOf hZ e2 E_a1
  obtain ⟨vv3, _, ⟨T3, L3, k3, n3⟩, -, X3, ⟨Lc3, hQ3, l3, y3, z3⟩, st3⟩ := X2.virtualBack hx (y := (⟨"java/lang/String", "length", "()I"⟩ : MethodName)) (z := (⟨"java/lang/String", "length", "()I"⟩ : MethodName)) hown (mvT hZ (hw _ (List.mem_of_getElem? (i := 77) rfl))) (mvT hZ (hw _ (List.mem_of_getElem? (i := 78) rfl))) (notFace_of_selects (args := #[]) (mvT hZ (hw _ (List.mem_of_getElem? (i := 80) rfl)))) (mvT hZ (hw _ (List.mem_of_getElem? (i := 80) rfl))) (mvT hZ (hw _ (List.mem_of_getElem? (i := 79) rfl))) (by decide) (StrChars.Road.lenW (W := 1) hZ (own_wl hw) (kI := 4) (hw _ (List.mem_of_getElem? (i := 15) rfl)) E_a1 Fv_a1 Fc_a1 V_a1 (own_cod lat1) (own_up lat1) (S_COMPACT_STRINGS.ext O0.2) hCS lat1.2 (by decide) (by decide)) q3a q3c (g := (mkF m 4 #[.val (.ref a1), .val (.int ((0 : Int32) + (1 : Int32))), .val (.int c0), .unset] [(.ref a1), (.int ((0 : Int32) + (1 : Int32)))])) rfl (by rw [hml]; rfl) (Steps.refl _) (argsL := []) (rest := [(.int ((0 : Int32) + (1 : Int32)))]) (lenOf pd_0 rfl) rfl (by show 2 * 0 + _ ≤ _; exact Nat.le_of_eq rfl) (hb hby d17_4) (fun _ _ => ⟨rfl, e2, (by decide : 0 + 0 ≤ _), (by decide : 0 + 0 ≤ _)⟩)
  dsimp only [Pt.U, Pt.locs, Pt.cells, Pt.slots] at X3 l3 y3 z3 st3 hQ3
  subst l3 y3 z3
  obtain ⟨rfl, rfl, e3⟩ := hQ3
  have N3 := Fr.app N2 (Fr.nil n0)
  obtain ⟨cq4, kq4, q4a, q4b, q4c⟩ := isOf hZ e3 E_a1
  obtain ⟨vv4, _, ⟨T4, L4, k4, n4⟩, -, X4, ⟨Lc4, hQ4, l4, y4, z4⟩, st4⟩ := X3.virtualBack hx (y := (⟨"java/lang/String", "charAt", "(I)C"⟩ : MethodName)) (z := (⟨"java/lang/String", "charAt", "(I)C"⟩ : MethodName)) hown (mvT hZ (hw _ (List.mem_of_getElem? (i := 87) rfl))) (mvT hZ (hw _ (List.mem_of_getElem? (i := 88) rfl))) (notFace_of_selects (args := #[]) (mvT hZ (hw _ (List.mem_of_getElem? (i := 90) rfl)))) (mvT hZ (hw _ (List.mem_of_getElem? (i := 90) rfl))) (mvT hZ (hw _ (List.mem_of_getElem? (i := 89) rfl))) (by decide) (StrChars.Road.chN (W := 0) hZ (own_wc hw) (kI := 4) (hw _ (List.mem_of_getElem? (i := 15) rfl)) E_a1 Fv_a1 Fc_a1 V_a1 (own_cod lat1) (own_up lat1) (S_COMPACT_STRINGS.ext O0.2) hCS (S_SIOOBE_FORMATTER.ext O0.2) hFM lat1.2 (i := 1) (Nat.le_of_ble_eq_true rfl) (j := ((0 : Int32) + (1 : Int32))) (by decide) (by decide) (by decide)) q4a q4c (g := (mkF m 12 #[.val (.ref a1), .val (.int ((0 : Int32) + (1 : Int32))), .val (.int c0), .unset] [(.int ((0 : Int32) + (1 : Int32))), (.ref a1)])) rfl (by rw [hml]; rfl) (Steps.refl _) (argsL := [(.int ((0 : Int32) + (1 : Int32)))]) (rest := []) (lenOf pd_1 rfl) rfl (by show 2 * 0 + _ ≤ _; exact Nat.le_of_eq rfl) (hb hby d17_12) (fun _ _ => ⟨rfl, e3, (by decide : 0 + 0 ≤ _), (by decide : 0 + 0 ≤ _)⟩)
  dsimp only [Pt.U, Pt.locs, Pt.cells, Pt.slots] at X4 l4 y4 z4 st4 hQ4
  subst l4 y4 z4
  obtain ⟨rfl, rfl, e4⟩ := hQ4
  have N4 := Fr.app N3 (Fr.nil n0)
  obtain ⟨cq5, kq5, q5a, q5b, q5c⟩ := isOf hZ e4 E_a1
  obtain ⟨vv5, _, ⟨T5, L5, k5, n5⟩, -, X5, ⟨Lc5, hQ5, l5, y5, z5⟩, st5⟩ := X4.virtualBack hx (y := (⟨"java/lang/String", "length", "()I"⟩ : MethodName)) (z := (⟨"java/lang/String", "length", "()I"⟩ : MethodName)) hown (mvT hZ (hw _ (List.mem_of_getElem? (i := 77) rfl))) (mvT hZ (hw _ (List.mem_of_getElem? (i := 78) rfl))) (notFace_of_selects (args := #[]) (mvT hZ (hw _ (List.mem_of_getElem? (i := 80) rfl)))) (mvT hZ (hw _ (List.mem_of_getElem? (i := 80) rfl))) (mvT hZ (hw _ (List.mem_of_getElem? (i := 79) rfl))) (by decide) (StrChars.Road.lenW (W := 1) hZ (own_wl hw) (kI := 4) (hw _ (List.mem_of_getElem? (i := 15) rfl)) E_a1 Fv_a1 Fc_a1 V_a1 (own_cod lat1) (own_up lat1) (S_COMPACT_STRINGS.ext O0.2) hCS lat1.2 (by decide) (by decide)) q5a q5c (g := (mkF m 4 #[.val (.ref a1), .val (.int (((0 : Int32) + (1 : Int32)) + (1 : Int32))), .val (.int c1), .unset] [(.ref a1), (.int (((0 : Int32) + (1 : Int32)) + (1 : Int32)))])) rfl (by rw [hml]; rfl) (Steps.refl _) (argsL := []) (rest := [(.int (((0 : Int32) + (1 : Int32)) + (1 : Int32)))]) (lenOf pd_0 rfl) rfl (by show 2 * 0 + _ ≤ _; exact Nat.le_of_eq rfl) (hb hby d17_4) (fun _ _ => ⟨rfl, e4, (by decide : 0 + 0 ≤ _), (by decide : 0 + 0 ≤ _)⟩)
  dsimp only [Pt.U, Pt.locs, Pt.cells, Pt.slots] at X5 l5 y5 z5 st5 hQ5
  subst l5 y5 z5
  obtain ⟨rfl, rfl, e5⟩ := hQ5
  have N5 := Fr.app N4 (Fr.nil n0)
  obtain ⟨cq6, kq6, q6a, q6b, q6c⟩ := isOf hZ e5 E_a1
  obtain ⟨vv6, _, ⟨T6, L6, k6, n6⟩, -, X6, ⟨Lc6, hQ6, l6, y6, z6⟩, st6⟩ := X5.virtualBack hx (y := (⟨"java/lang/String", "charAt", "(I)C"⟩ : MethodName)) (z := (⟨"java/lang/String", "charAt", "(I)C"⟩ : MethodName)) hown (mvT hZ (hw _ (List.mem_of_getElem? (i := 87) rfl))) (mvT hZ (hw _ (List.mem_of_getElem? (i := 88) rfl))) (notFace_of_selects (args := #[]) (mvT hZ (hw _ (List.mem_of_getElem? (i := 90) rfl)))) (mvT hZ (hw _ (List.mem_of_getElem? (i := 90) rfl))) (mvT hZ (hw _ (List.mem_of_getElem? (i := 89) rfl))) (by decide) (StrChars.Road.chN (W := 0) hZ (own_wc hw) (kI := 4) (hw _ (List.mem_of_getElem? (i := 15) rfl)) E_a1 Fv_a1 Fc_a1 V_a1 (own_cod lat1) (own_up lat1) (S_COMPACT_STRINGS.ext O0.2) hCS (S_SIOOBE_FORMATTER.ext O0.2) hFM lat1.2 (i := 2) (Nat.le_of_ble_eq_true rfl) (j := (((0 : Int32) + (1 : Int32)) + (1 : Int32))) (by decide) (by decide) (by decide)) q6a q6c (g := (mkF m 12 #[.val (.ref a1), .val (.int (((0 : Int32) + (1 : Int32)) + (1 : Int32))), .val (.int c1), .unset] [(.int (((0 : Int32) + (1 : Int32)) + (1 : Int32))), (.ref a1)])) rfl (by rw [hml]; rfl) (Steps.refl _) (argsL := [(.int (((0 : Int32) + (1 : Int32)) + (1 : Int32)))]) (rest := []) (lenOf pd_1 rfl) rfl (by show 2 * 0 + _ ≤ _; exact Nat.le_of_eq rfl) (hb hby d17_12) (fun _ _ => ⟨rfl, e5, (by decide : 0 + 0 ≤ _), (by decide : 0 + 0 ≤ _)⟩)
  dsimp only [Pt.U, Pt.locs, Pt.cells, Pt.slots] at X6 l6 y6 z6 st6 hQ6
  subst l6 y6 z6
  obtain ⟨rfl, rfl, e6⟩ := hQ6
  have N6 := Fr.app N5 (Fr.nil n0)
  obtain ⟨cq7, kq7, q7a, q7b, q7c⟩ := isOf hZ e6 E_a1
  obtain ⟨vv7, _, ⟨T7, L7, k7, n7⟩, -, X7, ⟨Lc7, hQ7, l7, y7, z7⟩, st7⟩ := X6.virtualBack hx (y := (⟨"java/lang/String", "length", "()I"⟩ : MethodName)) (z := (⟨"java/lang/String", "length", "()I"⟩ : MethodName)) hown (mvT hZ (hw _ (List.mem_of_getElem? (i := 77) rfl))) (mvT hZ (hw _ (List.mem_of_getElem? (i := 78) rfl))) (notFace_of_selects (args := #[]) (mvT hZ (hw _ (List.mem_of_getElem? (i := 80) rfl)))) (mvT hZ (hw _ (List.mem_of_getElem? (i := 80) rfl))) (mvT hZ (hw _ (List.mem_of_getElem? (i := 79) rfl))) (by decide) (StrChars.Road.lenW (W := 1) hZ (own_wl hw) (kI := 4) (hw _ (List.mem_of_getElem? (i := 15) rfl)) E_a1 Fv_a1 Fc_a1 V_a1 (own_cod lat1) (own_up lat1) (S_COMPACT_STRINGS.ext O0.2) hCS lat1.2 (by decide) (by decide)) q7a q7c (g := (mkF m 4 #[.val (.ref a1), .val (.int ((((0 : Int32) + (1 : Int32)) + (1 : Int32)) + (1 : Int32))), .val (.int c2), .unset] [(.ref a1), (.int ((((0 : Int32) + (1 : Int32)) + (1 : Int32)) + (1 : Int32)))])) rfl (by rw [hml]; rfl) (Steps.refl _) (argsL := []) (rest := [(.int ((((0 : Int32) + (1 : Int32)) + (1 : Int32)) + (1 : Int32)))]) (lenOf pd_0 rfl) rfl (by show 2 * 0 + _ ≤ _; exact Nat.le_of_eq rfl) (hb hby d17_4) (fun _ _ => ⟨rfl, e6, (by decide : 0 + 0 ≤ _), (by decide : 0 + 0 ≤ _)⟩)
  dsimp only [Pt.U, Pt.locs, Pt.cells, Pt.slots] at X7 l7 y7 z7 st7 hQ7
  subst l7 y7 z7
  obtain ⟨rfl, rfl, e7⟩ := hQ7
  have N7 := Fr.app N6 (Fr.nil n0)
  have sg8 : ∀ target, Steps p.tables e below (T7.setTop (mkF m 60 #[.val (.ref a1), .val (.int ((((0 : Int32) + (1 : Int32)) + (1 : Int32)) + (1 : Int32))), .val (.int c2), .unset] [(.int (0 : Int32))])) target → Steps p.tables e below (s₁.setTop (mkF m 0 #[.val (.ref a1), .unset, .unset, .unset] [])) target := by
    intro target kt
    show Steps p.tables e below (s₁.setTop (mkF m 0 #[.val (.ref a1), .unset, .unset, .unset] [])) _
    refine XS.iconst X0.here hx rfl (hb hby d17_0) ?_
    show Steps p.tables e below (s₁.setTop (mkF m 1 #[.val (.ref a1), .unset, .unset, .unset] [(.int (0 : Int32))])) _
    refine XS.istoreN X0.here hx rfl (hb hby d17_1) rfl (l' := #[.val (.ref a1), .val (.int (0 : Int32)), .unset, .unset]) rfl ?_
    show Steps p.tables e below (s₁.setTop (mkF m 2 #[.val (.ref a1), .val (.int (0 : Int32)), .unset, .unset] [])) _
    refine XS.iloadN X0.here hx rfl (hb hby d17_2) rfl ?_
    show Steps p.tables e below (s₁.setTop (mkF m 3 #[.val (.ref a1), .val (.int (0 : Int32)), .unset, .unset] [(.int (0 : Int32))])) _
    refine XS.aloadN X0.here hx rfl (hb hby d17_3) rfl rfl ?_
    show Steps p.tables e below (s₁.setTop (mkF m 4 #[.val (.ref a1), .val (.int (0 : Int32)), .unset, .unset] [(.ref a1), (.int (0 : Int32))])) _
    refine st1.trans ?_
    show Steps p.tables e below (T1.setTop (mkF m 7 #[.val (.ref a1), .val (.int (0 : Int32)), .unset, .unset] [(.int (3 : Int32)), (.int (0 : Int32))])) _
    refine XS.icmpNo X1.here hx rfl (hb hby d17_7) rfl (tlt (by decide : (0 : Int32) < (3 : Int32))).2.1 ?_
    show Steps p.tables e below (T1.setTop (mkF m 10 #[.val (.ref a1), .val (.int (0 : Int32)), .unset, .unset] [])) _
    refine XS.aloadN X1.here hx rfl (hb hby d17_10) rfl rfl ?_
    show Steps p.tables e below (T1.setTop (mkF m 11 #[.val (.ref a1), .val (.int (0 : Int32)), .unset, .unset] [(.ref a1)])) _
    refine XS.iloadN X1.here hx rfl (hb hby d17_11) rfl ?_
    show Steps p.tables e below (T1.setTop (mkF m 12 #[.val (.ref a1), .val (.int (0 : Int32)), .unset, .unset] [(.int (0 : Int32)), (.ref a1)])) _
    refine st2.trans ?_
    show Steps p.tables e below (T2.setTop (mkF m 15 #[.val (.ref a1), .val (.int (0 : Int32)), .unset, .unset] [(.int c0)])) _
    refine XS.istoreN X2.here hx rfl (hb hby d17_15) rfl (l' := #[.val (.ref a1), .val (.int (0 : Int32)), .val (.int c0), .unset]) rfl ?_
    show Steps p.tables e below (T2.setTop (mkF m 16 #[.val (.ref a1), .val (.int (0 : Int32)), .val (.int c0), .unset] [])) _
    refine XS.iloadN X2.here hx rfl (hb hby d17_16) rfl ?_
    show Steps p.tables e below (T2.setTop (mkF m 17 #[.val (.ref a1), .val (.int (0 : Int32)), .val (.int c0), .unset] [(.int c0)])) _
    refine XS.bipush X2.here hx rfl (hb hby d17_17) ?_
    show Steps p.tables e below (T2.setTop (mkF m 19 #[.val (.ref a1), .val (.int (0 : Int32)), .val (.int c0), .unset] [(.int (32 : Int32)), (.int c0)])) _
    refine XS.icmpNo X2.here hx rfl (hb hby d17_19) rfl (tlt ok_c0.1).2.2.2 ?_
    show Steps p.tables e below (T2.setTop (mkF m 22 #[.val (.ref a1), .val (.int (0 : Int32)), .val (.int c0), .unset] [])) _
    refine XS.iloadN X2.here hx rfl (hb hby d17_22) rfl ?_
    show Steps p.tables e below (T2.setTop (mkF m 23 #[.val (.ref a1), .val (.int (0 : Int32)), .val (.int c0), .unset] [(.int c0)])) _
    refine XS.bipush X2.here hx rfl (hb hby d17_23) ?_
    show Steps p.tables e below (T2.setTop (mkF m 25 #[.val (.ref a1), .val (.int (0 : Int32)), .val (.int c0), .unset] [(.int (127 : Int32)), (.int c0)])) _
    refine XS.icmpNo X2.here hx rfl (hb hby d17_25) rfl (tlt ok_c0.2).2.1 ?_
    show Steps p.tables e below (T2.setTop (mkF m 28 #[.val (.ref a1), .val (.int (0 : Int32)), .val (.int c0), .unset] [])) _
    refine XS.iinc X2.here hx rfl (hb hby d17_28) rfl (l' := #[.val (.ref a1), .val (.int ((0 : Int32) + (1 : Int32))), .val (.int c0), .unset]) rfl ?_
    show Steps p.tables e below (T2.setTop (mkF m 31 #[.val (.ref a1), .val (.int ((0 : Int32) + (1 : Int32))), .val (.int c0), .unset] [])) _
    refine XS.goto X2.here hx rfl (pc0 := 31) (pc' := 2) rfl (hb hby d17_31) (by decide) (by decide) ?_
    show Steps p.tables e below (T2.setTop (mkF m 2 #[.val (.ref a1), .val (.int ((0 : Int32) + (1 : Int32))), .val (.int c0), .unset] [])) _
    refine XS.iloadN X2.here hx rfl (hb hby d17_2) rfl ?_
    show Steps p.tables e below (T2.setTop (mkF m 3 #[.val (.ref a1), .val (.int ((0 : Int32) + (1 : Int32))), .val (.int c0), .unset] [(.int ((0 : Int32) + (1 : Int32)))])) _
    refine XS.aloadN X2.here hx rfl (hb hby d17_3) rfl rfl ?_
    show Steps p.tables e below (T2.setTop (mkF m 4 #[.val (.ref a1), .val (.int ((0 : Int32) + (1 : Int32))), .val (.int c0), .unset] [(.ref a1), (.int ((0 : Int32) + (1 : Int32)))])) _
    refine st3.trans ?_
    show Steps p.tables e below (T3.setTop (mkF m 7 #[.val (.ref a1), .val (.int ((0 : Int32) + (1 : Int32))), .val (.int c0), .unset] [(.int (3 : Int32)), (.int ((0 : Int32) + (1 : Int32)))])) _
    refine XS.icmpNo X3.here hx rfl (hb hby d17_7) rfl (tlt (by decide : ((0 : Int32) + (1 : Int32)) < (3 : Int32))).2.1 ?_
    show Steps p.tables e below (T3.setTop (mkF m 10 #[.val (.ref a1), .val (.int ((0 : Int32) + (1 : Int32))), .val (.int c0), .unset] [])) _
    refine XS.aloadN X3.here hx rfl (hb hby d17_10) rfl rfl ?_
    show Steps p.tables e below (T3.setTop (mkF m 11 #[.val (.ref a1), .val (.int ((0 : Int32) + (1 : Int32))), .val (.int c0), .unset] [(.ref a1)])) _
    refine XS.iloadN X3.here hx rfl (hb hby d17_11) rfl ?_
    show Steps p.tables e below (T3.setTop (mkF m 12 #[.val (.ref a1), .val (.int ((0 : Int32) + (1 : Int32))), .val (.int c0), .unset] [(.int ((0 : Int32) + (1 : Int32))), (.ref a1)])) _
    refine st4.trans ?_
    show Steps p.tables e below (T4.setTop (mkF m 15 #[.val (.ref a1), .val (.int ((0 : Int32) + (1 : Int32))), .val (.int c0), .unset] [(.int c1)])) _
    refine XS.istoreN X4.here hx rfl (hb hby d17_15) rfl (l' := #[.val (.ref a1), .val (.int ((0 : Int32) + (1 : Int32))), .val (.int c1), .unset]) rfl ?_
    show Steps p.tables e below (T4.setTop (mkF m 16 #[.val (.ref a1), .val (.int ((0 : Int32) + (1 : Int32))), .val (.int c1), .unset] [])) _
    refine XS.iloadN X4.here hx rfl (hb hby d17_16) rfl ?_
    show Steps p.tables e below (T4.setTop (mkF m 17 #[.val (.ref a1), .val (.int ((0 : Int32) + (1 : Int32))), .val (.int c1), .unset] [(.int c1)])) _
    refine XS.bipush X4.here hx rfl (hb hby d17_17) ?_
    show Steps p.tables e below (T4.setTop (mkF m 19 #[.val (.ref a1), .val (.int ((0 : Int32) + (1 : Int32))), .val (.int c1), .unset] [(.int (32 : Int32)), (.int c1)])) _
    refine XS.icmpNo X4.here hx rfl (hb hby d17_19) rfl (tlt ok_c1.1).2.2.2 ?_
    show Steps p.tables e below (T4.setTop (mkF m 22 #[.val (.ref a1), .val (.int ((0 : Int32) + (1 : Int32))), .val (.int c1), .unset] [])) _
    refine XS.iloadN X4.here hx rfl (hb hby d17_22) rfl ?_
    show Steps p.tables e below (T4.setTop (mkF m 23 #[.val (.ref a1), .val (.int ((0 : Int32) + (1 : Int32))), .val (.int c1), .unset] [(.int c1)])) _
    refine XS.bipush X4.here hx rfl (hb hby d17_23) ?_
    show Steps p.tables e below (T4.setTop (mkF m 25 #[.val (.ref a1), .val (.int ((0 : Int32) + (1 : Int32))), .val (.int c1), .unset] [(.int (127 : Int32)), (.int c1)])) _
    refine XS.icmpNo X4.here hx rfl (hb hby d17_25) rfl (tlt ok_c1.2).2.1 ?_
    show Steps p.tables e below (T4.setTop (mkF m 28 #[.val (.ref a1), .val (.int ((0 : Int32) + (1 : Int32))), .val (.int c1), .unset] [])) _
    refine XS.iinc X4.here hx rfl (hb hby d17_28) rfl (l' := #[.val (.ref a1), .val (.int (((0 : Int32) + (1 : Int32)) + (1 : Int32))), .val (.int c1), .unset]) rfl ?_
    show Steps p.tables e below (T4.setTop (mkF m 31 #[.val (.ref a1), .val (.int (((0 : Int32) + (1 : Int32)) + (1 : Int32))), .val (.int c1), .unset] [])) _
    refine XS.goto X4.here hx rfl (pc0 := 31) (pc' := 2) rfl (hb hby d17_31) (by decide) (by decide) ?_
    show Steps p.tables e below (T4.setTop (mkF m 2 #[.val (.ref a1), .val (.int (((0 : Int32) + (1 : Int32)) + (1 : Int32))), .val (.int c1), .unset] [])) _
    refine XS.iloadN X4.here hx rfl (hb hby d17_2) rfl ?_
    show Steps p.tables e below (T4.setTop (mkF m 3 #[.val (.ref a1), .val (.int (((0 : Int32) + (1 : Int32)) + (1 : Int32))), .val (.int c1), .unset] [(.int (((0 : Int32) + (1 : Int32)) + (1 : Int32)))])) _
    refine XS.aloadN X4.here hx rfl (hb hby d17_3) rfl rfl ?_
    show Steps p.tables e below (T4.setTop (mkF m 4 #[.val (.ref a1), .val (.int (((0 : Int32) + (1 : Int32)) + (1 : Int32))), .val (.int c1), .unset] [(.ref a1), (.int (((0 : Int32) + (1 : Int32)) + (1 : Int32)))])) _
    refine st5.trans ?_
    show Steps p.tables e below (T5.setTop (mkF m 7 #[.val (.ref a1), .val (.int (((0 : Int32) + (1 : Int32)) + (1 : Int32))), .val (.int c1), .unset] [(.int (3 : Int32)), (.int (((0 : Int32) + (1 : Int32)) + (1 : Int32)))])) _
    refine XS.icmpNo X5.here hx rfl (hb hby d17_7) rfl (tlt (by decide : (((0 : Int32) + (1 : Int32)) + (1 : Int32)) < (3 : Int32))).2.1 ?_
    show Steps p.tables e below (T5.setTop (mkF m 10 #[.val (.ref a1), .val (.int (((0 : Int32) + (1 : Int32)) + (1 : Int32))), .val (.int c1), .unset] [])) _
    refine XS.aloadN X5.here hx rfl (hb hby d17_10) rfl rfl ?_
    show Steps p.tables e below (T5.setTop (mkF m 11 #[.val (.ref a1), .val (.int (((0 : Int32) + (1 : Int32)) + (1 : Int32))), .val (.int c1), .unset] [(.ref a1)])) _
    refine XS.iloadN X5.here hx rfl (hb hby d17_11) rfl ?_
    show Steps p.tables e below (T5.setTop (mkF m 12 #[.val (.ref a1), .val (.int (((0 : Int32) + (1 : Int32)) + (1 : Int32))), .val (.int c1), .unset] [(.int (((0 : Int32) + (1 : Int32)) + (1 : Int32))), (.ref a1)])) _
    refine st6.trans ?_
    show Steps p.tables e below (T6.setTop (mkF m 15 #[.val (.ref a1), .val (.int (((0 : Int32) + (1 : Int32)) + (1 : Int32))), .val (.int c1), .unset] [(.int c2)])) _
    refine XS.istoreN X6.here hx rfl (hb hby d17_15) rfl (l' := #[.val (.ref a1), .val (.int (((0 : Int32) + (1 : Int32)) + (1 : Int32))), .val (.int c2), .unset]) rfl ?_
    show Steps p.tables e below (T6.setTop (mkF m 16 #[.val (.ref a1), .val (.int (((0 : Int32) + (1 : Int32)) + (1 : Int32))), .val (.int c2), .unset] [])) _
    refine XS.iloadN X6.here hx rfl (hb hby d17_16) rfl ?_
    show Steps p.tables e below (T6.setTop (mkF m 17 #[.val (.ref a1), .val (.int (((0 : Int32) + (1 : Int32)) + (1 : Int32))), .val (.int c2), .unset] [(.int c2)])) _
    refine XS.bipush X6.here hx rfl (hb hby d17_17) ?_
    show Steps p.tables e below (T6.setTop (mkF m 19 #[.val (.ref a1), .val (.int (((0 : Int32) + (1 : Int32)) + (1 : Int32))), .val (.int c2), .unset] [(.int (32 : Int32)), (.int c2)])) _
    refine XS.icmpNo X6.here hx rfl (hb hby d17_19) rfl (tlt ok_c2.1).2.2.2 ?_
    show Steps p.tables e below (T6.setTop (mkF m 22 #[.val (.ref a1), .val (.int (((0 : Int32) + (1 : Int32)) + (1 : Int32))), .val (.int c2), .unset] [])) _
    refine XS.iloadN X6.here hx rfl (hb hby d17_22) rfl ?_
    show Steps p.tables e below (T6.setTop (mkF m 23 #[.val (.ref a1), .val (.int (((0 : Int32) + (1 : Int32)) + (1 : Int32))), .val (.int c2), .unset] [(.int c2)])) _
    refine XS.bipush X6.here hx rfl (hb hby d17_23) ?_
    show Steps p.tables e below (T6.setTop (mkF m 25 #[.val (.ref a1), .val (.int (((0 : Int32) + (1 : Int32)) + (1 : Int32))), .val (.int c2), .unset] [(.int (127 : Int32)), (.int c2)])) _
    refine XS.icmpNo X6.here hx rfl (hb hby d17_25) rfl (tlt ok_c2.2).2.1 ?_
    show Steps p.tables e below (T6.setTop (mkF m 28 #[.val (.ref a1), .val (.int (((0 : Int32) + (1 : Int32)) + (1 : Int32))), .val (.int c2), .unset] [])) _
    refine XS.iinc X6.here hx rfl (hb hby d17_28) rfl (l' := #[.val (.ref a1), .val (.int ((((0 : Int32) + (1 : Int32)) + (1 : Int32)) + (1 : Int32))), .val (.int c2), .unset]) rfl ?_
    show Steps p.tables e below (T6.setTop (mkF m 31 #[.val (.ref a1), .val (.int ((((0 : Int32) + (1 : Int32)) + (1 : Int32)) + (1 : Int32))), .val (.int c2), .unset] [])) _
    refine XS.goto X6.here hx rfl (pc0 := 31) (pc' := 2) rfl (hb hby d17_31) (by decide) (by decide) ?_
    show Steps p.tables e below (T6.setTop (mkF m 2 #[.val (.ref a1), .val (.int ((((0 : Int32) + (1 : Int32)) + (1 : Int32)) + (1 : Int32))), .val (.int c2), .unset] [])) _
    refine XS.iloadN X6.here hx rfl (hb hby d17_2) rfl ?_
    show Steps p.tables e below (T6.setTop (mkF m 3 #[.val (.ref a1), .val (.int ((((0 : Int32) + (1 : Int32)) + (1 : Int32)) + (1 : Int32))), .val (.int c2), .unset] [(.int ((((0 : Int32) + (1 : Int32)) + (1 : Int32)) + (1 : Int32)))])) _
    refine XS.aloadN X6.here hx rfl (hb hby d17_3) rfl rfl ?_
    show Steps p.tables e below (T6.setTop (mkF m 4 #[.val (.ref a1), .val (.int ((((0 : Int32) + (1 : Int32)) + (1 : Int32)) + (1 : Int32))), .val (.int c2), .unset] [(.ref a1), (.int ((((0 : Int32) + (1 : Int32)) + (1 : Int32)) + (1 : Int32)))])) _
    refine st7.trans ?_
    show Steps p.tables e below (T7.setTop (mkF m 7 #[.val (.ref a1), .val (.int ((((0 : Int32) + (1 : Int32)) + (1 : Int32)) + (1 : Int32))), .val (.int c2), .unset] [(.int (3 : Int32)), (.int ((((0 : Int32) + (1 : Int32)) + (1 : Int32)) + (1 : Int32)))])) _
    refine XS.icmpYes X7.here hx rfl (pc0 := 7) (pc' := 59) rfl (hb hby d17_7) rfl (flt (by decide : ¬ (((((0 : Int32) + (1 : Int32)) + (1 : Int32)) + (1 : Int32)) < (3 : Int32)))).2.1 (by decide) (by decide) ?_
    show Steps p.tables e below (T7.setTop (mkF m 59 #[.val (.ref a1), .val (.int ((((0 : Int32) + (1 : Int32)) + (1 : Int32)) + (1 : Int32))), .val (.int c2), .unset] [])) _
    refine XS.iconst X7.here hx rfl (hb hby d17_59) ?_
    exact kt
  obtain ⟨fs, hr, hrun, hended, hW, hsame⟩ := X7.leave (v := some (.int (0 : Int32))) (fun h => by rw [Bd.returns] at h; cases h)
  refine ⟨_, _, pre0 _ (sg8 _ (?_)), hrun, hended, _, _, rfl, ?_, ⟨_, rfl⟩, hW, hsame.mono (by decide) (by decide)⟩
  · show Steps p.tables e below (T7.setTop (mkF m 60 #[.val (.ref a1), .val (.int ((((0 : Int32) + (1 : Int32)) + (1 : Int32)) + (1 : Int32))), .val (.int c2), .unset] [(.int (0 : Int32))])) _
    exact retN X7 hx (t := .boolean) Bd.returns (by simp) (hb hby d17_60) hr
  · show Q17_3 Z a1 c0 c1 c2 zC vFM t1 kb1 h0 n0 _ T7.heap _
    rw [e7]
    exact ⟨rfl, N7, rfl⟩
def Q17 (Z : State) (a1 : Addr) (cs : List Int32) (zC : Int32) (vFM : Value) (t1 : Addr) (kb1 : ClassId) (h0 : Heap) (n0 : Nat) (v : Option Value) (h : Heap) (L : List Loc) : Prop := v = some (.int (0 : Int32)) ∧ Fr n0 L ∧ h = h0
theorem ef_17 (m : MethodId) (x0 : Addr) : entryFrame m #[(.ref x0)] 4 = mkF m 0 #[.val (.ref x0), .unset, .unset, .unset] [] := by first | (simp [entryFrame, mkF, argsToLocals, Value.category]; done) | rfl
set_option maxRecDepth 65536 in
set_option maxHeartbeats 40000000 in
theorem rm17 (l : Launch) (Z : State) (a0 : Array Value) (hw : ∀ d ∈ tables_1, d.before a0 Z = true) (ws : List Jvm.Cond) (a1 : Addr) (cs : List Int32) (zC : Int32) (vFM : Value) (t1 : Addr) (kb1 : ClassId) (h0 : Heap) (n0 : Nat) (O0 : Old Z n0 h0) (S_COMPACT_STRINGS : Sta Z Z.heap "java/lang/String" "COMPACT_STRINGS" "Z" (.int zC)) (S_SIOOBE_FORMATTER : Sta Z Z.heap "jdk/internal/util/Preconditions" "SIOOBE_FORMATTER" "Ljava/util/function/BiFunction;" vFM) (hCS : ¬ zC = 0) (hFM : vFM.isRef = true) (E_a1 : Exa Z h0 a1 "java/lang/String") (Fc_a1 : Fld Z h0 a1 "java/lang/String" "coder" "B" (.int (0 : Int32))) (Fv_a1 : Fld Z h0 a1 "java/lang/String" "value" "[B" (.ref t1)) (V_a1 : Arv Z h0 t1 kb1 .byte (Int32.ofNat (cs).length) (strV cs) (.int 0)) (lat1 : Lat cs) (vis : own_Vis cs) :
    MetFree l (⟨"com/example/muninn/muninn/store/Node", "holdsBlankOrControl", "(Ljava/lang/String;)Z"⟩ : MethodName) (head1 (Jvm.Cond.code (⟨"com/example/muninn/muninn/store/Node", "holdsBlankOrControl", "(Ljava/lang/String;)Z"⟩ : MethodName) prog_58_method_9_code 4 (some .boolean) :: ws) ({ frames := 4, cells := 0, slots := 0, locals := 53 } : Room)) (fun a U => a = #[(.ref a1)] ∧ Z.Warmed39 U.vm ∧ U.heap = h0) (fun _ _ _ _ _ => True) (fun _ U o U' => ∃ v L, o = .returned v ∧ Q17 Z a1 cs zC vFM t1 kb1 h0 n0 v U'.heap L ∧ FrameEnd U o U' L ({ frames := 4, cells := 0, slots := 0, locals := 53 } : Room).cells ({ frames := 4, cells := 0, slots := 0, locals := 53 } : Room).slots) := by
  rcases vis with ⟨c0, rfl, ok_c0⟩ | ⟨c0, c1, rfl, ok_c0, ok_c1⟩ | ⟨c0, c1, c2, rfl, ok_c0, ok_c1, ok_c2⟩
  · exact rm17_1 l Z a0 hw ws a1 c0 zC vFM t1 kb1 h0 n0 O0 S_COMPACT_STRINGS S_SIOOBE_FORMATTER hCS hFM E_a1 Fc_a1 Fv_a1 V_a1 lat1 ok_c0
  · exact rm17_2 l Z a0 hw ws a1 c0 c1 zC vFM t1 kb1 h0 n0 O0 S_COMPACT_STRINGS S_SIOOBE_FORMATTER hCS hFM E_a1 Fc_a1 Fv_a1 V_a1 lat1 ok_c0 ok_c1
  · exact rm17_3 l Z a0 hw ws a1 c0 c1 c2 zC vFM t1 kb1 h0 n0 O0 S_COMPACT_STRINGS S_SIOOBE_FORMATTER hCS hFM E_a1 Fc_a1 Fv_a1 V_a1 lat1 ok_c0 ok_c1 ok_c2
def Q26 (Z : State) (a1 : Addr) (a2 : Addr) (cs : List Int32) (zC : Int32) (vFM : Value) (t1 : Addr) (kb1 : ClassId) (t2 : Addr) (kb2 : ClassId) (h0 : Heap) (n0 : Nat) (v : Option Value) (h : Heap) (L : List Loc) : Prop := v = some (.int (0 : Int32)) ∧ Fr n0 L ∧ h = h0
theorem ef_26 (m : MethodId) (x0 : Addr) (x1 : Addr) (x2 : Int32) : entryFrame m #[(.ref x0), (.ref x1), (.int x2)] 8 = mkF m 0 #[.val (.ref x0), .val (.ref x1), .val (.int x2), .unset, .unset, .unset, .unset, .unset] [] := by first | (simp [entryFrame, mkF, argsToLocals, Value.category]; done) | rfl
set_option maxRecDepth 65536 in
set_option maxHeartbeats 40000000 in
theorem rm26 (l : Launch) (Z : State) (a0 : Array Value) (hw : ∀ d ∈ tables_1, d.before a0 Z = true) (ws : List Jvm.Cond) (a1 : Addr) (a2 : Addr) (cs : List Int32) (zC : Int32) (vFM : Value) (t1 : Addr) (kb1 : ClassId) (t2 : Addr) (kb2 : ClassId) (h0 : Heap) (n0 : Nat) (O0 : Old Z n0 h0) (S_COMPACT_STRINGS : Sta Z Z.heap "java/lang/String" "COMPACT_STRINGS" "Z" (.int zC)) (S_SIOOBE_FORMATTER : Sta Z Z.heap "jdk/internal/util/Preconditions" "SIOOBE_FORMATTER" "Ljava/util/function/BiFunction;" vFM) (hCS : ¬ zC = 0) (hFM : vFM.isRef = true) (E_a1 : Exa Z h0 a1 "java/lang/String") (Fc_a1 : Fld Z h0 a1 "java/lang/String" "coder" "B" (.int (0 : Int32))) (Fv_a1 : Fld Z h0 a1 "java/lang/String" "value" "[B" (.ref t1)) (V_a1 : Arv Z h0 t1 kb1 .byte (Int32.ofNat (cs).length) (strV cs) (.int 0)) (lat1 : Lat cs) (E_a2 : Exa Z h0 a2 "java/lang/String") (Fc_a2 : Fld Z h0 a2 "java/lang/String" "coder" "B" (.int (0 : Int32))) (Fv_a2 : Fld Z h0 a2 "java/lang/String" "value" "[B" (.ref t2)) (V_a2 : Arv Z h0 t2 kb2 .byte (Int32.ofNat (([115, 104, 97, 50, 53, 54, 58] : List Int32)).length) (strV ([115, 104, 97, 50, 53, 54, 58] : List Int32)) (.int 0)) (lat2 : Lat ([115, 104, 97, 50, 53, 54, 58] : List Int32)) (vis : own_Vis cs) :
    MetFree l (⟨"java/lang/String", "startsWith", "(Ljava/lang/String;I)Z"⟩ : MethodName) (head1 (Jvm.Cond.code (⟨"java/lang/String", "startsWith", "(Ljava/lang/String;I)Z"⟩ : MethodName) jdk_42_method_75_code 8 (some .boolean) :: ws) ({ frames := 2, cells := 0, slots := 0, locals := 27 } : Room)) (fun a U => a = #[(.ref a1), (.ref a2), (.int (0 : Int32))] ∧ Z.Warmed39 U.vm ∧ U.heap = h0) (fun _ _ _ _ _ => True) (fun _ U o U' => ∃ v L, o = .returned v ∧ Q26 Z a1 a2 cs zC vFM t1 kb1 t2 kb2 h0 n0 v U'.heap L ∧ FrameEnd U o U' L ({ frames := 2, cells := 0, slots := 0, locals := 27 } : Room).cells ({ frames := 2, cells := 0, slots := 0, locals := 27 } : Room).slots) := by
  refine MetFree.of_bodySF (plainFor_of_name pn_2) hisR ?_
  intro p e s m args below meth c s₁ Bd hml0 hP hK
  obtain ⟨rfl, hZ, hh⟩ := hP
  have hx := Bd.exec
  have hby := Bd.bytes
  have hml : c.maxLocals = 8 := hml0
  have hown : s.vm.findClass "java/lang/String" = some m.cls := findClass_of_methodNamed Bd.named
  have hnm := (name_of_methodNamed Bd.named Bd.method).1
  have X0 : Stand p l e ({ frames := 2, cells := 0, slots := 0, locals := 27 } : Room) s m #[(.ref a1), (.ref a2), (.int (0 : Int32))] below meth c s₁ [] 0 0 := Stand.of_body Bd
  have e0 : s₁.heap = h0 := by rw [← hh, Bd.state]; rfl
  have N0 := Fr.nil n0
  have pre0 : ∀ t, Steps p.tables e below (s₁.setTop (mkF m 0 #[.val (.ref a1), .val (.ref a2), .val (.int (0 : Int32)), .unset, .unset, .unset, .unset, .unset] [])) t → Steps p.tables e below (s₁.setTop (entryFrame m #[(.ref a1), (.ref a2), (.int (0 : Int32))] 8)) t := fun t k => castTop (ef_26 m a1 a2 (0 : Int32)) k
  obtain ⟨cq1, kq1, q1a, q1b, q1c⟩ := isOf hZ e0 E_a1
  obtain ⟨vv1, _, ⟨T1, L1, k1, n1⟩, -, X1, ⟨Lc1, hQ1, l1, y1, z1⟩, st1⟩ := X0.virtualBack hx (y := (⟨"java/lang/String", "length", "()I"⟩ : MethodName)) (z := (⟨"java/lang/String", "length", "()I"⟩ : MethodName)) hown (mvT hZ (hw _ (List.mem_of_getElem? (i := 119) rfl))) (mvT hZ (hw _ (List.mem_of_getElem? (i := 78) rfl))) (notFace_of_selects (args := #[]) (mvT hZ (hw _ (List.mem_of_getElem? (i := 80) rfl)))) (mvT hZ (hw _ (List.mem_of_getElem? (i := 80) rfl))) (mvT hZ (hw _ (List.mem_of_getElem? (i := 79) rfl))) (by decide) (StrChars.Road.lenW (W := 1) hZ (own_wl hw) (kI := 4) (hw _ (List.mem_of_getElem? (i := 15) rfl)) E_a1 Fv_a1 Fc_a1 V_a1 (own_cod lat1) (own_up lat1) (S_COMPACT_STRINGS.ext O0.2) hCS lat1.2 (by decide) (by decide)) q1a q1c (g := (mkF m 6 #[.val (.ref a1), .val (.ref a2), .val (.int (0 : Int32)), .unset, .unset, .unset, .unset, .unset] [(.ref a1), (.int (0 : Int32))])) rfl (by rw [hml]; rfl) (Steps.refl _) (argsL := []) (rest := [(.int (0 : Int32))]) (lenOf pd_0 rfl) rfl (by show 2 * 0 + _ ≤ _; exact Nat.le_of_eq rfl) (hb hby d26_6) (fun _ _ => ⟨rfl, e0, (by decide : 0 + 0 ≤ _), (by decide : 0 + 0 ≤ _)⟩)
  dsimp only [Pt.U, Pt.locs, Pt.cells, Pt.slots] at X1 l1 y1 z1 st1 hQ1
  subst l1 y1 z1
  obtain ⟨rfl, rfl, e1⟩ := hQ1
  have N1 := Fr.app N0 (Fr.nil n0)
  obtain ⟨cq2, kq2, q2a, q2b, q2c⟩ := isOf hZ e1 E_a2
  obtain ⟨vv2, _, ⟨T2, L2, k2, n2⟩, -, X2, ⟨Lc2, hQ2, l2, y2, z2⟩, st2⟩ := X1.virtualBack hx (y := (⟨"java/lang/String", "length", "()I"⟩ : MethodName)) (z := (⟨"java/lang/String", "length", "()I"⟩ : MethodName)) hown (mvT hZ (hw _ (List.mem_of_getElem? (i := 119) rfl))) (mvT hZ (hw _ (List.mem_of_getElem? (i := 78) rfl))) (notFace_of_selects (args := #[]) (mvT hZ (hw _ (List.mem_of_getElem? (i := 80) rfl)))) (mvT hZ (hw _ (List.mem_of_getElem? (i := 80) rfl))) (mvT hZ (hw _ (List.mem_of_getElem? (i := 79) rfl))) (by decide) (StrChars.Road.lenW (W := 2) hZ (own_wl hw) (kI := 4) (hw _ (List.mem_of_getElem? (i := 15) rfl)) E_a2 Fv_a2 Fc_a2 V_a2 (own_cod lat2) (own_up lat2) (S_COMPACT_STRINGS.ext O0.2) hCS lat2.2 (by decide) (by decide)) q2a q2c (g := (mkF m 10 #[.val (.ref a1), .val (.ref a2), .val (.int (0 : Int32)), .unset, .unset, .unset, .unset, .unset] [(.ref a2), (.int (Int32.ofNat (cs).length)), (.int (0 : Int32))])) rfl (by rw [hml]; rfl) (Steps.refl _) (argsL := []) (rest := [(.int (Int32.ofNat (cs).length)), (.int (0 : Int32))]) (lenOf pd_0 rfl) rfl (by show 2 * 0 + _ ≤ _; exact Nat.le_of_eq rfl) (hb hby d26_10) (fun _ _ => ⟨rfl, e1, (by decide : 0 + 0 ≤ _), (by decide : 0 + 0 ≤ _)⟩)
  dsimp only [Pt.U, Pt.locs, Pt.cells, Pt.slots] at X2 l2 y2 z2 st2 hQ2
  subst l2 y2 z2
  obtain ⟨rfl, rfl, e2⟩ := hQ2
  have N2 := Fr.app N1 (Fr.nil n0)
  have sg3 : ∀ target, Steps p.tables e below (T2.setTop (mkF m 18 #[.val (.ref a1), .val (.ref a2), .val (.int (0 : Int32)), .unset, .unset, .unset, .unset, .unset] [(.int (0 : Int32))])) target → Steps p.tables e below (s₁.setTop (mkF m 0 #[.val (.ref a1), .val (.ref a2), .val (.int (0 : Int32)), .unset, .unset, .unset, .unset, .unset] [])) target := by
    intro target kt
    show Steps p.tables e below (s₁.setTop (mkF m 0 #[.val (.ref a1), .val (.ref a2), .val (.int (0 : Int32)), .unset, .unset, .unset, .unset, .unset] [])) _
    refine XS.iloadN X0.here hx rfl (hb hby d26_0) rfl ?_
    show Steps p.tables e below (s₁.setTop (mkF m 1 #[.val (.ref a1), .val (.ref a2), .val (.int (0 : Int32)), .unset, .unset, .unset, .unset, .unset] [(.int (0 : Int32))])) _
    refine XS.ifNo X0.here hx rfl (hb hby d26_1) rfl ((if0 _ _).trans (flt (by decide : ¬ ((0 : Int32) < (0 : Int32)))).1) ?_
    show Steps p.tables e below (s₁.setTop (mkF m 4 #[.val (.ref a1), .val (.ref a2), .val (.int (0 : Int32)), .unset, .unset, .unset, .unset, .unset] [])) _
    refine XS.iloadN X0.here hx rfl (hb hby d26_4) rfl ?_
    show Steps p.tables e below (s₁.setTop (mkF m 5 #[.val (.ref a1), .val (.ref a2), .val (.int (0 : Int32)), .unset, .unset, .unset, .unset, .unset] [(.int (0 : Int32))])) _
    refine XS.aloadN X0.here hx rfl (hb hby d26_5) rfl rfl ?_
    show Steps p.tables e below (s₁.setTop (mkF m 6 #[.val (.ref a1), .val (.ref a2), .val (.int (0 : Int32)), .unset, .unset, .unset, .unset, .unset] [(.ref a1), (.int (0 : Int32))])) _
    refine st1.trans ?_
    show Steps p.tables e below (T1.setTop (mkF m 9 #[.val (.ref a1), .val (.ref a2), .val (.int (0 : Int32)), .unset, .unset, .unset, .unset, .unset] [(.int (Int32.ofNat (cs).length)), (.int (0 : Int32))])) _
    refine XS.aloadN X1.here hx rfl (hb hby d26_9) rfl rfl ?_
    show Steps p.tables e below (T1.setTop (mkF m 10 #[.val (.ref a1), .val (.ref a2), .val (.int (0 : Int32)), .unset, .unset, .unset, .unset, .unset] [(.ref a2), (.int (Int32.ofNat (cs).length)), (.int (0 : Int32))])) _
    refine st2.trans ?_
    show Steps p.tables e below (T2.setTop (mkF m 13 #[.val (.ref a1), .val (.ref a2), .val (.int (0 : Int32)), .unset, .unset, .unset, .unset, .unset] [(.int (7 : Int32)), (.int (Int32.ofNat (cs).length)), (.int (0 : Int32))])) _
    refine XS.isub X2.here hx rfl (hb hby d26_13) rfl ?_
    show Steps p.tables e below (T2.setTop (mkF m 14 #[.val (.ref a1), .val (.ref a2), .val (.int (0 : Int32)), .unset, .unset, .unset, .unset, .unset] [(.int ((Int32.ofNat (cs).length) - (7 : Int32))), (.int (0 : Int32))])) _
    refine XS.icmpNo X2.here hx rfl (hb hby d26_14) rfl (tlt (own_vsw vis)).2.2.2 ?_
    show Steps p.tables e below (T2.setTop (mkF m 17 #[.val (.ref a1), .val (.ref a2), .val (.int (0 : Int32)), .unset, .unset, .unset, .unset, .unset] [])) _
    refine XS.iconst X2.here hx rfl (hb hby d26_17) ?_
    exact kt
  obtain ⟨fs, hr, hrun, hended, hW, hsame⟩ := X2.leave (v := some (.int (0 : Int32))) (fun h => by rw [Bd.returns] at h; cases h)
  refine ⟨_, _, pre0 _ (sg3 _ (?_)), hrun, hended, _, _, rfl, ?_, ⟨_, rfl⟩, hW, hsame.mono (by decide) (by decide)⟩
  · show Steps p.tables e below (T2.setTop (mkF m 18 #[.val (.ref a1), .val (.ref a2), .val (.int (0 : Int32)), .unset, .unset, .unset, .unset, .unset] [(.int (0 : Int32))])) _
    exact retN X2 hx (t := .boolean) Bd.returns (by simp) (hb hby d26_18) hr
  · show Q26 Z a1 a2 cs zC vFM t1 kb1 t2 kb2 h0 n0 _ T2.heap _
    rw [e2]
    exact ⟨rfl, N2, rfl⟩
def Q25 (Z : State) (a1 : Addr) (a2 : Addr) (cs : List Int32) (zC : Int32) (vFM : Value) (t1 : Addr) (kb1 : ClassId) (t2 : Addr) (kb2 : ClassId) (h0 : Heap) (n0 : Nat) (v : Option Value) (h : Heap) (L : List Loc) : Prop := v = some (.int (0 : Int32)) ∧ Fr n0 L ∧ h = h0
theorem ef_25 (m : MethodId) (x0 : Addr) (x1 : Addr) : entryFrame m #[(.ref x0), (.ref x1)] 2 = mkF m 0 #[.val (.ref x0), .val (.ref x1)] [] := by first | (simp [entryFrame, mkF, argsToLocals, Value.category]; done) | rfl
set_option maxRecDepth 65536 in
set_option maxHeartbeats 40000000 in
theorem rm25 (l : Launch) (Z : State) (a0 : Array Value) (hw : ∀ d ∈ tables_1, d.before a0 Z = true) (ws : List Jvm.Cond) (a1 : Addr) (a2 : Addr) (cs : List Int32) (zC : Int32) (vFM : Value) (t1 : Addr) (kb1 : ClassId) (t2 : Addr) (kb2 : ClassId) (h0 : Heap) (n0 : Nat) (O0 : Old Z n0 h0) (S_COMPACT_STRINGS : Sta Z Z.heap "java/lang/String" "COMPACT_STRINGS" "Z" (.int zC)) (S_SIOOBE_FORMATTER : Sta Z Z.heap "jdk/internal/util/Preconditions" "SIOOBE_FORMATTER" "Ljava/util/function/BiFunction;" vFM) (hCS : ¬ zC = 0) (hFM : vFM.isRef = true) (E_a1 : Exa Z h0 a1 "java/lang/String") (Fc_a1 : Fld Z h0 a1 "java/lang/String" "coder" "B" (.int (0 : Int32))) (Fv_a1 : Fld Z h0 a1 "java/lang/String" "value" "[B" (.ref t1)) (V_a1 : Arv Z h0 t1 kb1 .byte (Int32.ofNat (cs).length) (strV cs) (.int 0)) (lat1 : Lat cs) (E_a2 : Exa Z h0 a2 "java/lang/String") (Fc_a2 : Fld Z h0 a2 "java/lang/String" "coder" "B" (.int (0 : Int32))) (Fv_a2 : Fld Z h0 a2 "java/lang/String" "value" "[B" (.ref t2)) (V_a2 : Arv Z h0 t2 kb2 .byte (Int32.ofNat (([115, 104, 97, 50, 53, 54, 58] : List Int32)).length) (strV ([115, 104, 97, 50, 53, 54, 58] : List Int32)) (.int 0)) (lat2 : Lat ([115, 104, 97, 50, 53, 54, 58] : List Int32)) (vis : own_Vis cs) :
    MetFree l (⟨"java/lang/String", "startsWith", "(Ljava/lang/String;)Z"⟩ : MethodName) (head1 (Jvm.Cond.code (⟨"java/lang/String", "startsWith", "(Ljava/lang/String;)Z"⟩ : MethodName) jdk_42_method_76_code 2 (some .boolean) :: ws) ({ frames := 3, cells := 0, slots := 0, locals := 46 } : Room)) (fun a U => a = #[(.ref a1), (.ref a2)] ∧ Z.Warmed39 U.vm ∧ U.heap = h0) (fun _ _ _ _ _ => True) (fun _ U o U' => ∃ v L, o = .returned v ∧ Q25 Z a1 a2 cs zC vFM t1 kb1 t2 kb2 h0 n0 v U'.heap L ∧ FrameEnd U o U' L ({ frames := 3, cells := 0, slots := 0, locals := 46 } : Room).cells ({ frames := 3, cells := 0, slots := 0, locals := 46 } : Room).slots) := by
  refine MetFree.of_bodySF (plainFor_of_name pn_2) hisR ?_
  intro p e s m args below meth c s₁ Bd hml0 hP hK
  obtain ⟨rfl, hZ, hh⟩ := hP
  have hx := Bd.exec
  have hby := Bd.bytes
  have hml : c.maxLocals = 2 := hml0
  have hown : s.vm.findClass "java/lang/String" = some m.cls := findClass_of_methodNamed Bd.named
  have hnm := (name_of_methodNamed Bd.named Bd.method).1
  have X0 : Stand p l e ({ frames := 3, cells := 0, slots := 0, locals := 46 } : Room) s m #[(.ref a1), (.ref a2)] below meth c s₁ [] 0 0 := Stand.of_body Bd
  have e0 : s₁.heap = h0 := by rw [← hh, Bd.state]; rfl
  have N0 := Fr.nil n0
  have pre0 : ∀ t, Steps p.tables e below (s₁.setTop (mkF m 0 #[.val (.ref a1), .val (.ref a2)] [])) t → Steps p.tables e below (s₁.setTop (entryFrame m #[(.ref a1), (.ref a2)] 2)) t := fun t k => castTop (ef_25 m a1 a2) k
  obtain ⟨cq1, kq1, q1a, q1b, q1c⟩ := isOf hZ e0 E_a1
  obtain ⟨_, _, ⟨T1, L1, k1, n1⟩, -, X1, ⟨Lc1, hQ1, l1, y1, z1⟩, st1⟩ := X0.virtualBack hx (y := (⟨"java/lang/String", "startsWith", "(Ljava/lang/String;I)Z"⟩ : MethodName)) (z := (⟨"java/lang/String", "startsWith", "(Ljava/lang/String;I)Z"⟩ : MethodName)) hown (mvT hZ (hw _ (List.mem_of_getElem? (i := 114) rfl))) (mvT hZ (hw _ (List.mem_of_getElem? (i := 115) rfl))) (notFace_of_selects (args := #[]) (mvT hZ (hw _ (List.mem_of_getElem? (i := 117) rfl)))) (mvT hZ (hw _ (List.mem_of_getElem? (i := 117) rfl))) (mvT hZ (hw _ (List.mem_of_getElem? (i := 116) rfl))) (by decide) (backOf (W := 0) (rm26 l Z a0 hw [] a1 a2 cs zC vFM t1 kb1 t2 kb2 h0 n0 O0 S_COMPACT_STRINGS S_SIOOBE_FORMATTER hCS hFM E_a1 Fc_a1 Fv_a1 V_a1 lat1 E_a2 Fc_a2 Fv_a2 V_a2 lat2 vis) hZ (hw _ (List.mem_of_getElem? (i := 118) rfl)) (hw _ (List.mem_of_getElem? (i := 7) rfl)) (by decide) (by decide)) q1a q1c (g := (mkF m 3 #[.val (.ref a1), .val (.ref a2)] [(.int (0 : Int32)), (.ref a2), (.ref a1)])) rfl (by rw [hml]; rfl) (Steps.refl _) (argsL := [(.ref a2), (.int (0 : Int32))]) (rest := []) (lenOf pd_2 rfl) rfl (by show 2 * 0 + _ ≤ _; exact Nat.le_of_eq rfl) (hb hby d25_3) (fun _ _ => ⟨rfl, e0, (by decide : 0 + 0 ≤ _), (by decide : 0 + 0 ≤ _)⟩)
  dsimp only [Pt.U, Pt.locs, Pt.cells, Pt.slots] at X1 l1 y1 z1 st1 hQ1
  subst l1 y1 z1
  obtain ⟨rfl, N1q, e1⟩ := hQ1
  have N1 := Fr.app N0 N1q
  have sg2 : ∀ target, Steps p.tables e below (T1.setTop (mkF m 6 #[.val (.ref a1), .val (.ref a2)] [(.int (0 : Int32))])) target → Steps p.tables e below (s₁.setTop (mkF m 0 #[.val (.ref a1), .val (.ref a2)] [])) target := by
    intro target kt
    show Steps p.tables e below (s₁.setTop (mkF m 0 #[.val (.ref a1), .val (.ref a2)] [])) _
    refine XS.aloadN X0.here hx rfl (hb hby d25_0) rfl rfl ?_
    show Steps p.tables e below (s₁.setTop (mkF m 1 #[.val (.ref a1), .val (.ref a2)] [(.ref a1)])) _
    refine XS.aloadN X0.here hx rfl (hb hby d25_1) rfl rfl ?_
    show Steps p.tables e below (s₁.setTop (mkF m 2 #[.val (.ref a1), .val (.ref a2)] [(.ref a2), (.ref a1)])) _
    refine XS.iconst X0.here hx rfl (hb hby d25_2) ?_
    show Steps p.tables e below (s₁.setTop (mkF m 3 #[.val (.ref a1), .val (.ref a2)] [(.int (0 : Int32)), (.ref a2), (.ref a1)])) _
    refine st1.trans ?_
    exact kt
  obtain ⟨fs, hr, hrun, hended, hW, hsame⟩ := X1.leave (v := some (.int (0 : Int32))) (fun h => by rw [Bd.returns] at h; cases h)
  refine ⟨_, _, pre0 _ (sg2 _ (?_)), hrun, hended, _, _, rfl, ?_, ⟨_, rfl⟩, hW, hsame.mono (by decide) (by decide)⟩
  · show Steps p.tables e below (T1.setTop (mkF m 6 #[.val (.ref a1), .val (.ref a2)] [(.int (0 : Int32))])) _
    exact retN X1 hx (t := .boolean) Bd.returns (by simp) (hb hby d25_6) hr
  · show Q25 Z a1 a2 cs zC vFM t1 kb1 t2 kb2 h0 n0 _ T1.heap _
    rw [e1]
    exact ⟨rfl, N1, rfl⟩
def Q14_0 (Z : State) (a1 : Addr) (cs : List Int32) (zC : Int32) (vFM : Value) (t1 : Addr) (kb1 : ClassId) (h0 : Heap) (n0 : Nat) (v : Option Value) (h : Heap) (L : List Loc) : Prop := v = some (.ref a1) ∧ Fr n0 L ∧ Keep h0 h [] ∧ Old Z n0 h
theorem ef_14_0 (m : MethodId) (x0 : Addr) : entryFrame m #[(.ref x0), .null] 2 = mkF m 0 #[.val (.ref x0), .val .null] [] := by first | (simp [entryFrame, mkF, argsToLocals, Value.category]; done) | rfl
set_option maxRecDepth 65536 in
set_option maxHeartbeats 40000000 in
theorem rm14_0 (l : Launch) (Z : State) (a0 : Array Value) (hw : ∀ d ∈ tables_1, d.before a0 Z = true) (ws : List Jvm.Cond) (a1 : Addr) (cs : List Int32) (zC : Int32) (vFM : Value) (t1 : Addr) (kb1 : ClassId) (h0 : Heap) (n0 : Nat) (O0 : Old Z n0 h0) (S_COMPACT_STRINGS : Sta Z Z.heap "java/lang/String" "COMPACT_STRINGS" "Z" (.int zC)) (S_SIOOBE_FORMATTER : Sta Z Z.heap "jdk/internal/util/Preconditions" "SIOOBE_FORMATTER" "Ljava/util/function/BiFunction;" vFM) (hCS : ¬ zC = 0) (hFM : vFM.isRef = true) (E_a1 : Exa Z h0 a1 "java/lang/String") (Fc_a1 : Fld Z h0 a1 "java/lang/String" "coder" "B" (.int (0 : Int32))) (Fv_a1 : Fld Z h0 a1 "java/lang/String" "value" "[B" (.ref t1)) (V_a1 : Arv Z h0 t1 kb1 .byte (Int32.ofNat (cs).length) (strV cs) (.int 0)) (lat1 : Lat cs) (vis : own_Vis cs) :
    MetFree l (⟨"com/example/muninn/muninn/store/Node", "checkId", "(Ljava/lang/String;Lcom/example/muninn/muninn/store/NodeKind;)Ljava/lang/String;"⟩ : MethodName) (head1 (Jvm.Cond.code (⟨"com/example/muninn/muninn/store/Node", "checkId", "(Ljava/lang/String;Lcom/example/muninn/muninn/store/NodeKind;)Ljava/lang/String;"⟩ : MethodName) prog_58_method_3_code 2 (some (.object "java/lang/String")) :: ws) ({ frames := 5, cells := 4, slots := 44, locals := 68 } : Room)) (fun a U => a = #[(.ref a1), .null] ∧ Z.Warmed39 U.vm ∧ U.heap = h0 ∧ CHv Z own_EL U.vm h0) (fun _ _ _ _ _ => True) (fun _ U o U' => ∃ v L, o = .returned v ∧ Q14_0 Z a1 cs zC vFM t1 kb1 h0 n0 v U'.heap L ∧ CHr Z own_EL U.vm U.heap U'.vm U'.heap ∧ ReturnedEndW U o U' L ({ frames := 5, cells := 4, slots := 44, locals := 68 } : Room).cells ({ frames := 5, cells := 4, slots := 44, locals := 68 } : Room).slots) := by
  refine MetFree.of_bodySF (plainFor_of_name pn_1) hisR ?_
  intro p e s m args below meth c s₁ Bd hml0 hP hK
  obtain ⟨rfl, hZ, hh, hCH⟩ := hP
  have hx := Bd.exec
  have hby := Bd.bytes
  have hml : c.maxLocals = 2 := hml0
  have hown : s.vm.findClass "com/example/muninn/muninn/store/Node" = some m.cls := findClass_of_methodNamed Bd.named
  have hnm := (name_of_methodNamed Bd.named Bd.method).1
  have X0 : Stand p l e ({ frames := 5, cells := 4, slots := 44, locals := 68 } : Room) (s.setVm s.vm) m #[(.ref a1), .null] below meth c s₁ [] 0 0 := Stand.of_body Bd
  have e0 : s₁.heap = h0 := by rw [← hh, Bd.state]; rfl
  have N0 := Fr.nil n0
  have pre0 : ∀ t, Steps p.tables e below (s₁.setTop (mkF m 0 #[.val (.ref a1), .val .null] [])) t → Steps p.tables e below (s₁.setTop (entryFrame m #[(.ref a1), .null] 2)) t := fun t k => castTop (ef_14_0 m a1) k
  have Y0 : s.Since s.vm h0.size := (State.WarmedH.refl s).since h0.size
  have Yk0 : h0.size ≤ h0.size := Nat.le_refl _
  have CR0 : CHr Z own_EL s.vm h0 s.vm h0 := CHr.refl hCH
  have hEL := own_EW hw
  have hSA := own_SA hw
  have K0 := Keep.refl h0 []
  obtain ⟨sa1, T1, h1, k1, X1, e1, E1, Y1, Yk1, hZ1, hown1, C1, Lt1, st1⟩ := ldcOH X0 hx hZ hown (hw _ (List.mem_of_getElem? (i := 62) rfl)) hSA e0 Y0 Yk0 hEL CR0.1 (g := (mkF m 1 #[.val (.ref a1), .val .null] [(.ref a1)])) rfl (hb hby d14_1) (n := 8) (by decide) (by decide) (by decide) (by decide)
  have O2 := O0.ext E1
  have K1 := K0.ext E1
  have CR3 := CR0.trans (C1)
  obtain ⟨_, _, ⟨T4, L4, k4, n4⟩, -, X4, ⟨Lc4, hQ4, l4, y4, z4⟩, st4⟩ := Jvm.LawKit.callS X1 hx (y := (⟨"java/util/Objects", "requireNonNull", "(Ljava/lang/Object;Ljava/lang/String;)Ljava/lang/Object;"⟩ : MethodName)) hown1 (mvT hZ1 (hw _ (List.mem_of_getElem? (i := 65) rfl))) (mvT hZ1 (hw _ (List.mem_of_getElem? (i := 66) rfl))) (mvT hZ1 (hw _ (List.mem_of_getElem? (i := 67) rfl))) (mvT hZ1 (hw _ (List.mem_of_getElem? (i := 68) rfl))) (by decide) (backOf (W := 0) (rm15 l Z a0 hw [] a1 sa1 h1 n0 O2 ) hZ1 (hw _ (List.mem_of_getElem? (i := 68) rfl)) (hw _ (List.mem_of_getElem? (i := 67) rfl)) (by decide) (by decide)) (g := (mkF m 3 #[.val (.ref a1), .val .null] [(.ref sa1), (.ref a1)])) rfl (by rw [hml]; rfl) (argsL := [(.ref a1), (.ref sa1)]) (rest := []) (lenOf pd_3 rfl) rfl (by show 2 * 0 + _ ≤ _; exact Nat.le_of_eq rfl) (hb hby d14_3) (fun _ _ => ⟨rfl, e1, (by decide : 2 + 0 ≤ _), (by decide : 12 + 0 ≤ _)⟩)
  dsimp only [Pt.U, Pt.locs, Pt.cells, Pt.slots] at X4 l4 y4 z4 st4 hQ4
  subst l4 y4 z4
  obtain ⟨rfl, N4q, e4⟩ := hQ4
  have N4 := Fr.app N0 N4q
  obtain ⟨cq5, kq5, q5a, q5b, q5c⟩ := isOf hZ1 e4 (E_a1.ext E1)
  obtain ⟨vv5, _, ⟨T5, L5, k5, n5⟩, -, X5, ⟨Lc5, hQ5, l5, y5, z5⟩, st5⟩ := X4.virtualBack hx (y := (⟨"java/lang/String", "isEmpty", "()Z"⟩ : MethodName)) (z := (⟨"java/lang/String", "isEmpty", "()Z"⟩ : MethodName)) hown1 (mvT hZ1 (hw _ (List.mem_of_getElem? (i := 69) rfl))) (mvT hZ1 (hw _ (List.mem_of_getElem? (i := 70) rfl))) (notFace_of_selects (args := #[]) (mvT hZ1 (hw _ (List.mem_of_getElem? (i := 72) rfl)))) (mvT hZ1 (hw _ (List.mem_of_getElem? (i := 72) rfl))) (mvT hZ1 (hw _ (List.mem_of_getElem? (i := 71) rfl))) (by decide) (StrChars.Road.empW (W := 0) hZ1 (own_wm hw) (kI := 4) (hw _ (List.mem_of_getElem? (i := 15) rfl)) (E_a1.ext E1) (Fv_a1.ext E1) (Fc_a1.ext E1) (V_a1.ext E1) (own_cod lat1) (own_up lat1) lat1.2 (by decide) (by decide)) q5a q5c (g := (mkF m 8 #[.val (.ref a1), .val .null] [(.ref a1)])) rfl (by rw [hml]; rfl) (Steps.refl _) (argsL := []) (rest := []) (lenOf pd_4 rfl) rfl (by show 2 * 0 + _ ≤ _; exact Nat.le_of_eq rfl) (hb hby d14_8) (fun _ _ => ⟨rfl, e4, (by decide : 2 + 0 ≤ _), (by decide : 12 + 0 ≤ _)⟩)
  dsimp only [Pt.U, Pt.locs, Pt.cells, Pt.slots] at X5 l5 y5 z5 st5 hQ5
  subst l5 y5 z5
  obtain ⟨rfl, rfl, e5⟩ := hQ5
  have N5 := Fr.app N4 (Fr.nil n0)
  obtain ⟨_, _, ⟨T6, L6, k6, n6⟩, -, X6, ⟨Lc6, hQ6, l6, y6, z6⟩, st6⟩ := Jvm.LawKit.callS X5 hx (y := (⟨"com/example/muninn/muninn/store/Node", "holdsBlankOrControl", "(Ljava/lang/String;)Z"⟩ : MethodName)) hown1 (mvT hZ1 (hw _ (List.mem_of_getElem? (i := 74) rfl))) (mvT hZ1 (hw _ (List.mem_of_getElem? (i := 75) rfl))) (mvT hZ1 (hw _ (List.mem_of_getElem? (i := 54) rfl))) (mvT hZ1 (hw _ (List.mem_of_getElem? (i := 76) rfl))) (by decide) (backOf (W := 0) (rm17 l Z a0 hw [] a1 cs zC vFM t1 kb1 h1 n0 O2 S_COMPACT_STRINGS S_SIOOBE_FORMATTER hCS hFM (E_a1.ext E1) (Fc_a1.ext E1) (Fv_a1.ext E1) (V_a1.ext E1) lat1 vis) hZ1 (hw _ (List.mem_of_getElem? (i := 76) rfl)) (hw _ (List.mem_of_getElem? (i := 54) rfl)) (by decide) (by decide)) (g := (mkF m 15 #[.val (.ref a1), .val .null] [(.ref a1)])) rfl (by rw [hml]; rfl) (argsL := [(.ref a1)]) (rest := []) (lenOf pd_5 rfl) rfl (by show 2 * 0 + _ ≤ _; exact Nat.le_of_eq rfl) (hb hby d14_15) (fun _ _ => ⟨rfl, e5, (by decide : 2 + 0 ≤ _), (by decide : 12 + 0 ≤ _)⟩)
  dsimp only [Pt.U, Pt.locs, Pt.cells, Pt.slots] at X6 l6 y6 z6 st6 hQ6
  subst l6 y6 z6
  obtain ⟨rfl, N6q, e6⟩ := hQ6
  have N6 := Fr.app N5 N6q
  obtain ⟨sa7, T7, h7, k7, sb7, kb7, X7, e7, E7, Y7, Yk7, hZ7, hown7, A7, Fc7, Fv7, V7, la7, lb7, C7, Lt7, SF7, st7⟩ := ldcCH X6 hx hZ1 hown1 (hw _ (List.mem_of_getElem? (i := 108) rfl)) hSA e6 Y1 Yk1 hEL (own_mem (by decide)) CR3.1 (vs := [(.int (115 : Int32)), (.int (104 : Int32)), (.int (97 : Int32)), (.int (50 : Int32)), (.int (53 : Int32)), (.int (54 : Int32)), (.int (58 : Int32))]) (z := (7 : Int32)) (by decide) (by decide) (by decide) (g := (mkF m 39 #[.val (.ref a1), .val .null] [(.ref a1)])) rfl (hb hby d14_39) (n := 28) (by decide) (by decide) (by decide) (by decide)
  have O8 := O2.ext E7
  have K7 := K1.ext E7
  have CR9 := CR3.trans (C7)
  obtain ⟨cq10, kq10, q10a, q10b, q10c⟩ := isOf hZ7 e7 ((E_a1.ext E1).ext E7)
  obtain ⟨_, _, ⟨T10, L10, k10, n10⟩, -, X10, ⟨Lc10, hQ10, l10, y10, z10⟩, st10⟩ := X7.virtualBack hx (y := (⟨"java/lang/String", "startsWith", "(Ljava/lang/String;)Z"⟩ : MethodName)) (z := (⟨"java/lang/String", "startsWith", "(Ljava/lang/String;)Z"⟩ : MethodName)) hown7 (mvT hZ7 (hw _ (List.mem_of_getElem? (i := 109) rfl))) (mvT hZ7 (hw _ (List.mem_of_getElem? (i := 110) rfl))) (notFace_of_selects (args := #[]) (mvT hZ7 (hw _ (List.mem_of_getElem? (i := 112) rfl)))) (mvT hZ7 (hw _ (List.mem_of_getElem? (i := 112) rfl))) (mvT hZ7 (hw _ (List.mem_of_getElem? (i := 111) rfl))) (by decide) (backOf (W := 0) (rm25 l Z a0 hw [] a1 sa7 cs zC vFM t1 kb1 sb7 kb7 h7 n0 O8 S_COMPACT_STRINGS S_SIOOBE_FORMATTER hCS hFM ((E_a1.ext E1).ext E7) ((Fc_a1.ext E1).ext E7) ((Fv_a1.ext E1).ext E7) ((V_a1.ext E1).ext E7) lat1 A7 Fc7 Fv7 V7 own_latSHA vis) hZ7 (hw _ (List.mem_of_getElem? (i := 113) rfl)) (hw _ (List.mem_of_getElem? (i := 7) rfl)) (by decide) (by decide)) q10a q10c (g := (mkF m 41 #[.val (.ref a1), .val .null] [(.ref sa7), (.ref a1)])) rfl (by rw [hml]; rfl) (Steps.refl _) (argsL := [(.ref sa7)]) (rest := []) (lenOf pd_5 rfl) rfl (by show 2 * 0 + _ ≤ _; exact Nat.le_of_eq rfl) (hb hby d14_41) (fun _ _ => ⟨rfl, e7, (by decide : 4 + 0 ≤ _), (by decide : 44 + 0 ≤ _)⟩)
  dsimp only [Pt.U, Pt.locs, Pt.cells, Pt.slots] at X10 l10 y10 z10 st10 hQ10
  subst l10 y10 z10
  obtain ⟨rfl, N10q, e10⟩ := hQ10
  have N10 := Fr.app N6 N10q
  have sg11 : ∀ target, Steps p.tables e below (T10.setTop (mkF m 82 #[.val (.ref a1), .val .null] [(.ref a1)])) target → Steps p.tables e below (s₁.setTop (mkF m 0 #[.val (.ref a1), .val .null] [])) target := by
    intro target kt
    show Steps p.tables e below (s₁.setTop (mkF m 0 #[.val (.ref a1), .val .null] [])) _
    refine XS.aloadN X0.here hx rfl (hb hby d14_0) rfl rfl ?_
    show Steps p.tables e below (s₁.setTop (mkF m 1 #[.val (.ref a1), .val .null] [(.ref a1)])) _
    refine st1 _ ?_
    show Steps p.tables e below (T1.setTop (mkF m 3 #[.val (.ref a1), .val .null] [(.ref sa1), (.ref a1)])) _
    refine st4 _ ?_
    show Steps p.tables e below (T4.setTop (mkF m 6 #[.val (.ref a1), .val .null] [(.ref a1)])) _
    refine XS.pop X4.here hx rfl (hb hby d14_6) rfl rfl ?_
    show Steps p.tables e below (T4.setTop (mkF m 7 #[.val (.ref a1), .val .null] [])) _
    refine XS.aloadN X4.here hx rfl (hb hby d14_7) rfl rfl ?_
    show Steps p.tables e below (T4.setTop (mkF m 8 #[.val (.ref a1), .val .null] [(.ref a1)])) _
    refine st5.trans ?_
    show Steps p.tables e below (T5.setTop (mkF m 11 #[.val (.ref a1), .val .null] [(.int (if (cs).length = 0 then (1 : Int32) else (0 : Int32)))])) _
    refine XS.ifNo X5.here hx rfl (hb hby d14_11) rfl ((if0 _ _).trans (teq (own_vne vis)).2) ?_
    show Steps p.tables e below (T5.setTop (mkF m 14 #[.val (.ref a1), .val .null] [])) _
    refine XS.aloadN X5.here hx rfl (hb hby d14_14) rfl rfl ?_
    show Steps p.tables e below (T5.setTop (mkF m 15 #[.val (.ref a1), .val .null] [(.ref a1)])) _
    refine st6 _ ?_
    show Steps p.tables e below (T6.setTop (mkF m 18 #[.val (.ref a1), .val .null] [(.int (0 : Int32))])) _
    refine XS.ifYes X6.here hx rfl (pc0 := 18) (pc' := 38) rfl (hb hby d14_18) rfl ((if0 _ _).trans (teq (by decide : (0 : Int32) = (0 : Int32))).1) (by decide) (by decide) ?_
    show Steps p.tables e below (T6.setTop (mkF m 38 #[.val (.ref a1), .val .null] [])) _
    refine XS.aloadN X6.here hx rfl (hb hby d14_38) rfl rfl ?_
    show Steps p.tables e below (T6.setTop (mkF m 39 #[.val (.ref a1), .val .null] [(.ref a1)])) _
    refine st7 _ ?_
    show Steps p.tables e below (T7.setTop (mkF m 41 #[.val (.ref a1), .val .null] [(.ref sa7), (.ref a1)])) _
    refine st10.trans ?_
    show Steps p.tables e below (T10.setTop (mkF m 44 #[.val (.ref a1), .val .null] [(.int (0 : Int32))])) _
    refine XS.ifYes X10.here hx rfl (pc0 := 44) (pc' := 81) rfl (hb hby d14_44) rfl ((if0 _ _).trans (teq (by decide : (0 : Int32) = (0 : Int32))).1) (by decide) (by decide) ?_
    show Steps p.tables e below (T10.setTop (mkF m 81 #[.val (.ref a1), .val .null] [])) _
    refine XS.aloadN X10.here hx rfl (hb hby d14_81) rfl rfl ?_
    exact kt
  obtain ⟨fs, hr, hrun, hended, hRW⟩ := X10.leaveW Y7 (show _ ≤ T10.heap.size by rw [e10]; exact Yk7) (v := some (.ref a1)) (fun h => by rw [Bd.returns] at h; cases h)
  refine ⟨_, _, pre0 _ (sg11 _ (?_)), hrun, hended, _, _, rfl, ?_, (by rw [hh]; show CHr Z own_EL s.vm h0 T10.vm T10.heap; rw [e10]; exact CR9.trans (CHv.at X10 hZ7 hEL CR9.1)), hRW.1, hRW.2.1, hRW.2.2.1, hRW.2.2.2.mono (by decide) (by decide)⟩
  · show Steps p.tables e below (T10.setTop (mkF m 82 #[.val (.ref a1), .val .null] [(.ref a1)])) _
    jvm_step X10.here [X10.here.top, hx, (hb hby d14_82), X10.method', Bd.returns, Value.isRef, FieldType.isReference]
    first | (intro acts; rw [hr _ acts rfl rfl rfl]) | rw [hr _ _ rfl rfl rfl]
    exact Steps.refl _
  · show Q14_0 Z a1 cs zC vFM t1 kb1 h0 n0 _ T10.heap _
    rw [e10]
    exact ⟨rfl, N10, K7, O8⟩
def Q14_1 (Z : State) (a1 : Addr) (a2 : Addr) (cs : List Int32) (zC : Int32) (vFM : Value) (t1 : Addr) (kb1 : ClassId) (h0 : Heap) (n0 : Nat) (v : Option Value) (h : Heap) (L : List Loc) : Prop := v = some (.ref a1) ∧ Fr n0 L ∧ Keep h0 h [] ∧ Old Z n0 h
theorem ef_14_1 (m : MethodId) (x0 : Addr) (x1 : Addr) : entryFrame m #[(.ref x0), (.ref x1)] 2 = mkF m 0 #[.val (.ref x0), .val (.ref x1)] [] := by first | (simp [entryFrame, mkF, argsToLocals, Value.category]; done) | rfl
set_option maxRecDepth 65536 in
set_option maxHeartbeats 40000000 in
theorem rm14_1 (l : Launch) (Z : State) (a0 : Array Value) (hw : ∀ d ∈ tables_1, d.before a0 Z = true) (ws : List Jvm.Cond) (a1 : Addr) (a2 : Addr) (cs : List Int32) (zC : Int32) (vFM : Value) (t1 : Addr) (kb1 : ClassId) (h0 : Heap) (n0 : Nat) (O0 : Old Z n0 h0) (S_COMPACT_STRINGS : Sta Z Z.heap "java/lang/String" "COMPACT_STRINGS" "Z" (.int zC)) (S_SIOOBE_FORMATTER : Sta Z Z.heap "jdk/internal/util/Preconditions" "SIOOBE_FORMATTER" "Ljava/util/function/BiFunction;" vFM) (hCS : ¬ zC = 0) (hFM : vFM.isRef = true) (E_a1 : Exa Z h0 a1 "java/lang/String") (Fc_a1 : Fld Z h0 a1 "java/lang/String" "coder" "B" (.int (0 : Int32))) (Fv_a1 : Fld Z h0 a1 "java/lang/String" "value" "[B" (.ref t1)) (V_a1 : Arv Z h0 t1 kb1 .byte (Int32.ofNat (cs).length) (strV cs) (.int 0)) (lat1 : Lat cs) (vis : own_Vis cs) :
    MetFree l (⟨"com/example/muninn/muninn/store/Node", "checkId", "(Ljava/lang/String;Lcom/example/muninn/muninn/store/NodeKind;)Ljava/lang/String;"⟩ : MethodName) (head1 (Jvm.Cond.code (⟨"com/example/muninn/muninn/store/Node", "checkId", "(Ljava/lang/String;Lcom/example/muninn/muninn/store/NodeKind;)Ljava/lang/String;"⟩ : MethodName) prog_58_method_3_code 2 (some (.object "java/lang/String")) :: ws) ({ frames := 5, cells := 4, slots := 44, locals := 68 } : Room)) (fun a U => a = #[(.ref a1), (.ref a2)] ∧ Z.Warmed39 U.vm ∧ U.heap = h0 ∧ CHv Z own_EL U.vm h0) (fun _ _ _ _ _ => True) (fun _ U o U' => ∃ v L, o = .returned v ∧ Q14_1 Z a1 a2 cs zC vFM t1 kb1 h0 n0 v U'.heap L ∧ CHr Z own_EL U.vm U.heap U'.vm U'.heap ∧ ReturnedEndW U o U' L ({ frames := 5, cells := 4, slots := 44, locals := 68 } : Room).cells ({ frames := 5, cells := 4, slots := 44, locals := 68 } : Room).slots) := by
  refine MetFree.of_bodySF (plainFor_of_name pn_1) hisR ?_
  intro p e s m args below meth c s₁ Bd hml0 hP hK
  obtain ⟨rfl, hZ, hh, hCH⟩ := hP
  have hx := Bd.exec
  have hby := Bd.bytes
  have hml : c.maxLocals = 2 := hml0
  have hown : s.vm.findClass "com/example/muninn/muninn/store/Node" = some m.cls := findClass_of_methodNamed Bd.named
  have hnm := (name_of_methodNamed Bd.named Bd.method).1
  have X0 : Stand p l e ({ frames := 5, cells := 4, slots := 44, locals := 68 } : Room) (s.setVm s.vm) m #[(.ref a1), (.ref a2)] below meth c s₁ [] 0 0 := Stand.of_body Bd
  have e0 : s₁.heap = h0 := by rw [← hh, Bd.state]; rfl
  have N0 := Fr.nil n0
  have pre0 : ∀ t, Steps p.tables e below (s₁.setTop (mkF m 0 #[.val (.ref a1), .val (.ref a2)] [])) t → Steps p.tables e below (s₁.setTop (entryFrame m #[(.ref a1), (.ref a2)] 2)) t := fun t k => castTop (ef_14_1 m a1 a2) k
  have Y0 : s.Since s.vm h0.size := (State.WarmedH.refl s).since h0.size
  have Yk0 : h0.size ≤ h0.size := Nat.le_refl _
  have CR0 : CHr Z own_EL s.vm h0 s.vm h0 := CHr.refl hCH
  have hEL := own_EW hw
  have hSA := own_SA hw
  have K0 := Keep.refl h0 []
  obtain ⟨sa1, T1, h1, k1, X1, e1, E1, Y1, Yk1, hZ1, hown1, C1, Lt1, st1⟩ := ldcOH X0 hx hZ hown (hw _ (List.mem_of_getElem? (i := 62) rfl)) hSA e0 Y0 Yk0 hEL CR0.1 (g := (mkF m 1 #[.val (.ref a1), .val (.ref a2)] [(.ref a1)])) rfl (hb hby d14_1) (n := 8) (by decide) (by decide) (by decide) (by decide)
  have O2 := O0.ext E1
  have K1 := K0.ext E1
  have CR3 := CR0.trans (C1)
  obtain ⟨_, _, ⟨T4, L4, k4, n4⟩, -, X4, ⟨Lc4, hQ4, l4, y4, z4⟩, st4⟩ := Jvm.LawKit.callS X1 hx (y := (⟨"java/util/Objects", "requireNonNull", "(Ljava/lang/Object;Ljava/lang/String;)Ljava/lang/Object;"⟩ : MethodName)) hown1 (mvT hZ1 (hw _ (List.mem_of_getElem? (i := 65) rfl))) (mvT hZ1 (hw _ (List.mem_of_getElem? (i := 66) rfl))) (mvT hZ1 (hw _ (List.mem_of_getElem? (i := 67) rfl))) (mvT hZ1 (hw _ (List.mem_of_getElem? (i := 68) rfl))) (by decide) (backOf (W := 0) (rm15 l Z a0 hw [] a1 sa1 h1 n0 O2 ) hZ1 (hw _ (List.mem_of_getElem? (i := 68) rfl)) (hw _ (List.mem_of_getElem? (i := 67) rfl)) (by decide) (by decide)) (g := (mkF m 3 #[.val (.ref a1), .val (.ref a2)] [(.ref sa1), (.ref a1)])) rfl (by rw [hml]; rfl) (argsL := [(.ref a1), (.ref sa1)]) (rest := []) (lenOf pd_3 rfl) rfl (by show 2 * 0 + _ ≤ _; exact Nat.le_of_eq rfl) (hb hby d14_3) (fun _ _ => ⟨rfl, e1, (by decide : 2 + 0 ≤ _), (by decide : 12 + 0 ≤ _)⟩)
  dsimp only [Pt.U, Pt.locs, Pt.cells, Pt.slots] at X4 l4 y4 z4 st4 hQ4
  subst l4 y4 z4
  obtain ⟨rfl, N4q, e4⟩ := hQ4
  have N4 := Fr.app N0 N4q
  obtain ⟨cq5, kq5, q5a, q5b, q5c⟩ := isOf hZ1 e4 (E_a1.ext E1)
  obtain ⟨vv5, _, ⟨T5, L5, k5, n5⟩, -, X5, ⟨Lc5, hQ5, l5, y5, z5⟩, st5⟩ := X4.virtualBack hx (y := (⟨"java/lang/String", "isEmpty", "()Z"⟩ : MethodName)) (z := (⟨"java/lang/String", "isEmpty", "()Z"⟩ : MethodName)) hown1 (mvT hZ1 (hw _ (List.mem_of_getElem? (i := 69) rfl))) (mvT hZ1 (hw _ (List.mem_of_getElem? (i := 70) rfl))) (notFace_of_selects (args := #[]) (mvT hZ1 (hw _ (List.mem_of_getElem? (i := 72) rfl)))) (mvT hZ1 (hw _ (List.mem_of_getElem? (i := 72) rfl))) (mvT hZ1 (hw _ (List.mem_of_getElem? (i := 71) rfl))) (by decide) (StrChars.Road.empW (W := 0) hZ1 (own_wm hw) (kI := 4) (hw _ (List.mem_of_getElem? (i := 15) rfl)) (E_a1.ext E1) (Fv_a1.ext E1) (Fc_a1.ext E1) (V_a1.ext E1) (own_cod lat1) (own_up lat1) lat1.2 (by decide) (by decide)) q5a q5c (g := (mkF m 8 #[.val (.ref a1), .val (.ref a2)] [(.ref a1)])) rfl (by rw [hml]; rfl) (Steps.refl _) (argsL := []) (rest := []) (lenOf pd_4 rfl) rfl (by show 2 * 0 + _ ≤ _; exact Nat.le_of_eq rfl) (hb hby d14_8) (fun _ _ => ⟨rfl, e4, (by decide : 2 + 0 ≤ _), (by decide : 12 + 0 ≤ _)⟩)
  dsimp only [Pt.U, Pt.locs, Pt.cells, Pt.slots] at X5 l5 y5 z5 st5 hQ5
  subst l5 y5 z5
  obtain ⟨rfl, rfl, e5⟩ := hQ5
  have N5 := Fr.app N4 (Fr.nil n0)
  obtain ⟨_, _, ⟨T6, L6, k6, n6⟩, -, X6, ⟨Lc6, hQ6, l6, y6, z6⟩, st6⟩ := Jvm.LawKit.callS X5 hx (y := (⟨"com/example/muninn/muninn/store/Node", "holdsBlankOrControl", "(Ljava/lang/String;)Z"⟩ : MethodName)) hown1 (mvT hZ1 (hw _ (List.mem_of_getElem? (i := 74) rfl))) (mvT hZ1 (hw _ (List.mem_of_getElem? (i := 75) rfl))) (mvT hZ1 (hw _ (List.mem_of_getElem? (i := 54) rfl))) (mvT hZ1 (hw _ (List.mem_of_getElem? (i := 76) rfl))) (by decide) (backOf (W := 0) (rm17 l Z a0 hw [] a1 cs zC vFM t1 kb1 h1 n0 O2 S_COMPACT_STRINGS S_SIOOBE_FORMATTER hCS hFM (E_a1.ext E1) (Fc_a1.ext E1) (Fv_a1.ext E1) (V_a1.ext E1) lat1 vis) hZ1 (hw _ (List.mem_of_getElem? (i := 76) rfl)) (hw _ (List.mem_of_getElem? (i := 54) rfl)) (by decide) (by decide)) (g := (mkF m 15 #[.val (.ref a1), .val (.ref a2)] [(.ref a1)])) rfl (by rw [hml]; rfl) (argsL := [(.ref a1)]) (rest := []) (lenOf pd_5 rfl) rfl (by show 2 * 0 + _ ≤ _; exact Nat.le_of_eq rfl) (hb hby d14_15) (fun _ _ => ⟨rfl, e5, (by decide : 2 + 0 ≤ _), (by decide : 12 + 0 ≤ _)⟩)
  dsimp only [Pt.U, Pt.locs, Pt.cells, Pt.slots] at X6 l6 y6 z6 st6 hQ6
  subst l6 y6 z6
  obtain ⟨rfl, N6q, e6⟩ := hQ6
  have N6 := Fr.app N5 N6q
  obtain ⟨sa7, T7, h7, k7, sb7, kb7, X7, e7, E7, Y7, Yk7, hZ7, hown7, A7, Fc7, Fv7, V7, la7, lb7, C7, Lt7, SF7, st7⟩ := ldcCH X6 hx hZ1 hown1 (hw _ (List.mem_of_getElem? (i := 108) rfl)) hSA e6 Y1 Yk1 hEL (own_mem (by decide)) CR3.1 (vs := [(.int (115 : Int32)), (.int (104 : Int32)), (.int (97 : Int32)), (.int (50 : Int32)), (.int (53 : Int32)), (.int (54 : Int32)), (.int (58 : Int32))]) (z := (7 : Int32)) (by decide) (by decide) (by decide) (g := (mkF m 39 #[.val (.ref a1), .val (.ref a2)] [(.ref a1)])) rfl (hb hby d14_39) (n := 28) (by decide) (by decide) (by decide) (by decide)
  have O8 := O2.ext E7
  have K7 := K1.ext E7
  have CR9 := CR3.trans (C7)
  obtain ⟨cq10, kq10, q10a, q10b, q10c⟩ := isOf hZ7 e7 ((E_a1.ext E1).ext E7)
  obtain ⟨_, _, ⟨T10, L10, k10, n10⟩, -, X10, ⟨Lc10, hQ10, l10, y10, z10⟩, st10⟩ := X7.virtualBack hx (y := (⟨"java/lang/String", "startsWith", "(Ljava/lang/String;)Z"⟩ : MethodName)) (z := (⟨"java/lang/String", "startsWith", "(Ljava/lang/String;)Z"⟩ : MethodName)) hown7 (mvT hZ7 (hw _ (List.mem_of_getElem? (i := 109) rfl))) (mvT hZ7 (hw _ (List.mem_of_getElem? (i := 110) rfl))) (notFace_of_selects (args := #[]) (mvT hZ7 (hw _ (List.mem_of_getElem? (i := 112) rfl)))) (mvT hZ7 (hw _ (List.mem_of_getElem? (i := 112) rfl))) (mvT hZ7 (hw _ (List.mem_of_getElem? (i := 111) rfl))) (by decide) (backOf (W := 0) (rm25 l Z a0 hw [] a1 sa7 cs zC vFM t1 kb1 sb7 kb7 h7 n0 O8 S_COMPACT_STRINGS S_SIOOBE_FORMATTER hCS hFM ((E_a1.ext E1).ext E7) ((Fc_a1.ext E1).ext E7) ((Fv_a1.ext E1).ext E7) ((V_a1.ext E1).ext E7) lat1 A7 Fc7 Fv7 V7 own_latSHA vis) hZ7 (hw _ (List.mem_of_getElem? (i := 113) rfl)) (hw _ (List.mem_of_getElem? (i := 7) rfl)) (by decide) (by decide)) q10a q10c (g := (mkF m 41 #[.val (.ref a1), .val (.ref a2)] [(.ref sa7), (.ref a1)])) rfl (by rw [hml]; rfl) (Steps.refl _) (argsL := [(.ref sa7)]) (rest := []) (lenOf pd_5 rfl) rfl (by show 2 * 0 + _ ≤ _; exact Nat.le_of_eq rfl) (hb hby d14_41) (fun _ _ => ⟨rfl, e7, (by decide : 4 + 0 ≤ _), (by decide : 44 + 0 ≤ _)⟩)
  dsimp only [Pt.U, Pt.locs, Pt.cells, Pt.slots] at X10 l10 y10 z10 st10 hQ10
  subst l10 y10 z10
  obtain ⟨rfl, N10q, e10⟩ := hQ10
  have N10 := Fr.app N6 N10q
  have sg11 : ∀ target, Steps p.tables e below (T10.setTop (mkF m 82 #[.val (.ref a1), .val (.ref a2)] [(.ref a1)])) target → Steps p.tables e below (s₁.setTop (mkF m 0 #[.val (.ref a1), .val (.ref a2)] [])) target := by
    intro target kt
    show Steps p.tables e below (s₁.setTop (mkF m 0 #[.val (.ref a1), .val (.ref a2)] [])) _
    refine XS.aloadN X0.here hx rfl (hb hby d14_0) rfl rfl ?_
    show Steps p.tables e below (s₁.setTop (mkF m 1 #[.val (.ref a1), .val (.ref a2)] [(.ref a1)])) _
    refine st1 _ ?_
    show Steps p.tables e below (T1.setTop (mkF m 3 #[.val (.ref a1), .val (.ref a2)] [(.ref sa1), (.ref a1)])) _
    refine st4 _ ?_
    show Steps p.tables e below (T4.setTop (mkF m 6 #[.val (.ref a1), .val (.ref a2)] [(.ref a1)])) _
    refine XS.pop X4.here hx rfl (hb hby d14_6) rfl rfl ?_
    show Steps p.tables e below (T4.setTop (mkF m 7 #[.val (.ref a1), .val (.ref a2)] [])) _
    refine XS.aloadN X4.here hx rfl (hb hby d14_7) rfl rfl ?_
    show Steps p.tables e below (T4.setTop (mkF m 8 #[.val (.ref a1), .val (.ref a2)] [(.ref a1)])) _
    refine st5.trans ?_
    show Steps p.tables e below (T5.setTop (mkF m 11 #[.val (.ref a1), .val (.ref a2)] [(.int (if (cs).length = 0 then (1 : Int32) else (0 : Int32)))])) _
    refine XS.ifNo X5.here hx rfl (hb hby d14_11) rfl ((if0 _ _).trans (teq (own_vne vis)).2) ?_
    show Steps p.tables e below (T5.setTop (mkF m 14 #[.val (.ref a1), .val (.ref a2)] [])) _
    refine XS.aloadN X5.here hx rfl (hb hby d14_14) rfl rfl ?_
    show Steps p.tables e below (T5.setTop (mkF m 15 #[.val (.ref a1), .val (.ref a2)] [(.ref a1)])) _
    refine st6 _ ?_
    show Steps p.tables e below (T6.setTop (mkF m 18 #[.val (.ref a1), .val (.ref a2)] [(.int (0 : Int32))])) _
    refine XS.ifYes X6.here hx rfl (pc0 := 18) (pc' := 38) rfl (hb hby d14_18) rfl ((if0 _ _).trans (teq (by decide : (0 : Int32) = (0 : Int32))).1) (by decide) (by decide) ?_
    show Steps p.tables e below (T6.setTop (mkF m 38 #[.val (.ref a1), .val (.ref a2)] [])) _
    refine XS.aloadN X6.here hx rfl (hb hby d14_38) rfl rfl ?_
    show Steps p.tables e below (T6.setTop (mkF m 39 #[.val (.ref a1), .val (.ref a2)] [(.ref a1)])) _
    refine st7 _ ?_
    show Steps p.tables e below (T7.setTop (mkF m 41 #[.val (.ref a1), .val (.ref a2)] [(.ref sa7), (.ref a1)])) _
    refine st10.trans ?_
    show Steps p.tables e below (T10.setTop (mkF m 44 #[.val (.ref a1), .val (.ref a2)] [(.int (0 : Int32))])) _
    refine XS.ifYes X10.here hx rfl (pc0 := 44) (pc' := 81) rfl (hb hby d14_44) rfl ((if0 _ _).trans (teq (by decide : (0 : Int32) = (0 : Int32))).1) (by decide) (by decide) ?_
    show Steps p.tables e below (T10.setTop (mkF m 81 #[.val (.ref a1), .val (.ref a2)] [])) _
    refine XS.aloadN X10.here hx rfl (hb hby d14_81) rfl rfl ?_
    exact kt
  obtain ⟨fs, hr, hrun, hended, hRW⟩ := X10.leaveW Y7 (show _ ≤ T10.heap.size by rw [e10]; exact Yk7) (v := some (.ref a1)) (fun h => by rw [Bd.returns] at h; cases h)
  refine ⟨_, _, pre0 _ (sg11 _ (?_)), hrun, hended, _, _, rfl, ?_, (by rw [hh]; show CHr Z own_EL s.vm h0 T10.vm T10.heap; rw [e10]; exact CR9.trans (CHv.at X10 hZ7 hEL CR9.1)), hRW.1, hRW.2.1, hRW.2.2.1, hRW.2.2.2.mono (by decide) (by decide)⟩
  · show Steps p.tables e below (T10.setTop (mkF m 82 #[.val (.ref a1), .val (.ref a2)] [(.ref a1)])) _
    jvm_step X10.here [X10.here.top, hx, (hb hby d14_82), X10.method', Bd.returns, Value.isRef, FieldType.isReference]
    first | (intro acts; rw [hr _ acts rfl rfl rfl]) | rw [hr _ _ rfl rfl rfl]
    exact Steps.refl _
  · show Q14_1 Z a1 a2 cs zC vFM t1 kb1 h0 n0 _ T10.heap _
    rw [e10]
    exact ⟨rfl, N10, K7, O8⟩
def Q13 (Z : State) (a1 : Addr) (a2 : Addr) (cs : List Int32) (zC : Int32) (vFM : Value) (t2 : Addr) (kb2 : ClassId) (h0 : Heap) (n0 : Nat) (v : Option Value) (h : Heap) (L : List Loc) : Prop := v = none ∧ Fr n0 L ∧ Keep h0 h [a1] ∧ Old Z n0 h ∧ Fld Z h a1 "com/example/muninn/muninn/store/Node" "id" "Ljava/lang/String;" (.ref a2) ∧ Fld Z h a1 "com/example/muninn/muninn/store/Node" "kind" "Lcom/example/muninn/muninn/store/NodeKind;" .null
theorem ef_13 (m : MethodId) (x0 : Addr) (x1 : Addr) : entryFrame m #[(.ref x0), (.ref x1)] 2 = mkF m 0 #[.val (.ref x0), .val (.ref x1)] [] := by first | (simp [entryFrame, mkF, argsToLocals, Value.category]; done) | rfl
set_option maxRecDepth 65536 in
set_option maxHeartbeats 40000000 in
theorem rm13 (l : Launch) (Z : State) (a0 : Array Value) (hw : ∀ d ∈ tables_1, d.before a0 Z = true) (ws : List Jvm.Cond) (a1 : Addr) (a2 : Addr) (cs : List Int32) (zC : Int32) (vFM : Value) (t2 : Addr) (kb2 : ClassId) (h0 : Heap) (n0 : Nat) (O0 : Old Z n0 h0) (S_COMPACT_STRINGS : Sta Z Z.heap "java/lang/String" "COMPACT_STRINGS" "Z" (.int zC)) (S_SIOOBE_FORMATTER : Sta Z Z.heap "jdk/internal/util/Preconditions" "SIOOBE_FORMATTER" "Ljava/util/function/BiFunction;" vFM) (hCS : ¬ zC = 0) (hFM : vFM.isRef = true) (E_a1 : Exa Z h0 a1 "com/example/muninn/muninn/store/Node") (F_id_a1 : Fld Z h0 a1 "com/example/muninn/muninn/store/Node" "id" "Ljava/lang/String;" .null) (F_kind_a1 : Fld Z h0 a1 "com/example/muninn/muninn/store/Node" "kind" "Lcom/example/muninn/muninn/store/NodeKind;" .null) (ge_a1 : n0 ≤ a1) (E_a2 : Exa Z h0 a2 "java/lang/String") (Fc_a2 : Fld Z h0 a2 "java/lang/String" "coder" "B" (.int (0 : Int32))) (Fv_a2 : Fld Z h0 a2 "java/lang/String" "value" "[B" (.ref t2)) (V_a2 : Arv Z h0 t2 kb2 .byte (Int32.ofNat (cs).length) (strV cs) (.int 0)) (lat2 : Lat cs) (vis : own_Vis cs) :
    MetFree l (⟨"com/example/muninn/muninn/store/Node", "<init>", "(Ljava/lang/String;)V"⟩ : MethodName) (head1 (Jvm.Cond.code (⟨"com/example/muninn/muninn/store/Node", "<init>", "(Ljava/lang/String;)V"⟩ : MethodName) prog_58_method_2_code 2 none :: ws) ({ frames := 6, cells := 4, slots := 44, locals := 82 } : Room)) (fun a U => a = #[(.ref a1), (.ref a2)] ∧ Z.Warmed39 U.vm ∧ U.heap = h0 ∧ CHv Z own_EL U.vm h0) (fun _ _ _ _ _ => True) (fun _ U o U' => ∃ v L, o = .returned v ∧ Q13 Z a1 a2 cs zC vFM t2 kb2 h0 n0 v U'.heap L ∧ CHr Z own_EL U.vm U.heap U'.vm U'.heap ∧ ReturnedEndW U o U' L ({ frames := 6, cells := 4, slots := 44, locals := 82 } : Room).cells ({ frames := 6, cells := 4, slots := 44, locals := 82 } : Room).slots) := by
  refine MetFree.of_bodySF (plainFor_of_name pn_1) hisR ?_
  intro p e s m args below meth c s₁ Bd hml0 hP hK
  obtain ⟨rfl, hZ, hh, hCH⟩ := hP
  have hx := Bd.exec
  have hby := Bd.bytes
  have hml : c.maxLocals = 2 := hml0
  have hown : s.vm.findClass "com/example/muninn/muninn/store/Node" = some m.cls := findClass_of_methodNamed Bd.named
  have hnm := (name_of_methodNamed Bd.named Bd.method).1
  have X0 : Stand p l e ({ frames := 6, cells := 4, slots := 44, locals := 82 } : Room) (s.setVm s.vm) m #[(.ref a1), (.ref a2)] below meth c s₁ [] 0 0 := Stand.of_body Bd
  have e0 : s₁.heap = h0 := by rw [← hh, Bd.state]; rfl
  have N0 := Fr.nil n0
  have pre0 : ∀ t, Steps p.tables e below (s₁.setTop (mkF m 0 #[.val (.ref a1), .val (.ref a2)] [])) t → Steps p.tables e below (s₁.setTop (entryFrame m #[(.ref a1), (.ref a2)] 2)) t := fun t k => castTop (ef_13 m a1 a2) k
  have Y0 : s.Since s.vm h0.size := (State.WarmedH.refl s).since h0.size
  have Yk0 : h0.size ≤ h0.size := Nat.le_refl _
  have CR0 : CHr Z own_EL s.vm h0 s.vm h0 := CHr.refl hCH
  have hEL := own_EW hw
  have hSA := own_SA hw
  have K0 := Keep.refl h0 [a1]
  obtain ⟨T1, X1, e1, st1⟩ := initO X0 hx hZ hown (hw _ (List.mem_of_getElem? (i := 58) rfl)) (hw _ (List.mem_of_getElem? (i := 25) rfl)) (hw _ (List.mem_of_getElem? (i := 26) rfl)) e0 (g := (mkF m 1 #[.val (.ref a1), .val (.ref a2)] [(.ref a1)])) rfl (by rw [hml]; rfl) rfl (hb hby d13_1) (by decide) (W := 0) (by show 2 * 0 + _ ≤ _; exact Nat.le_of_eq rfl) (by decide)
  obtain ⟨_, _, ⟨T2, L2, k2, n2⟩, -, X2, Y2, G2, ⟨Lc2, hQ2, l2, y2, z2, C2⟩, st2⟩ := callSS X1 hx (y := (⟨"com/example/muninn/muninn/store/Node", "checkId", "(Ljava/lang/String;Lcom/example/muninn/muninn/store/NodeKind;)Ljava/lang/String;"⟩ : MethodName)) hown (mvT hZ (hw _ (List.mem_of_getElem? (i := 59) rfl))) (mvT hZ (hw _ (List.mem_of_getElem? (i := 60) rfl))) (mvT hZ (hw _ (List.mem_of_getElem? (i := 54) rfl))) (mvT hZ (hw _ (List.mem_of_getElem? (i := 61) rfl))) (by decide) (backOfSH (W := 1) (rm14_0 l Z a0 hw [] a2 cs zC vFM t2 kb2 h0 n0 O0 S_COMPACT_STRINGS S_SIOOBE_FORMATTER hCS hFM E_a2 Fc_a2 Fv_a2 V_a2 lat2 vis) hZ (hw _ (List.mem_of_getElem? (i := 61) rfl)) (hw _ (List.mem_of_getElem? (i := 54) rfl)) (by decide) (by decide) hEL CR0.1) (g := (mkF m 7 #[.val (.ref a1), .val (.ref a2)] [.null, (.ref a2), (.ref a1)])) rfl (by rw [hml]; rfl) (argsL := [(.ref a2), .null]) (rest := [(.ref a1)]) (lenOf pd_6 rfl) rfl (by show 2 * 0 + _ ≤ _; exact Nat.le_of_eq rfl) (hb hby d13_7) (fun _ _ => ⟨rfl, e1, (by decide : 0 + 4 ≤ _), (by decide : 0 + 44 ≤ _)⟩)
  dsimp only [Pt.U, Pt.locs, Pt.cells, Pt.slots] at X2 l2 y2 z2 st2 hQ2 Y2 G2 C2
  subst l2 y2 z2
  obtain ⟨rfl, N2q, K2q, O2⟩ := hQ2
  have N2 := Fr.app N0 N2q
  obtain ⟨X2, Y2, hZ2, hown2⟩ := rebS Y0 (by rw [e1]; exact Yk0) X2 Y2 G2 hZ hown
  have CR3 := CR0.trans (C2)
  have K2 := K0.trans K2q all0
  obtain ⟨T4, h4, X4, e4, W4, st4⟩ := putF X2 hx hZ2 hown2 (host := "") (Or.inl (hw _ (List.mem_of_getElem? (i := 120) rfl))) Via.refl rfl (F_id_a1.keep K2q nin0) (E_a1.keep K2q) (Or.inr ⟨(hw _ (List.mem_of_getElem? (i := 121) rfl)), rfl, hnm⟩) (hw _ (List.mem_of_getElem? (i := 53) rfl)) (ty := (.object "java/lang/String")) (by decide) rfl rfl (g := (mkF m 10 #[.val (.ref a1), .val (.ref a2)] [(.ref a2), (.ref a1)])) rfl rfl (hb hby d13_10)
  have Fw4 := (F_id_a1.keep K2q nin0).same W4
  have N4 := Fr.snoc X4 N2 ge_a1
  have O5 := O2.wr W4 ge_a1
  have K4 := K2.wr W4 (Or.inl (List.mem_of_getElem? (i := 0) rfl))
  have CR6 := CR3.trans (CHr.wr W4 (Safe.exa hZ2.alike (E_a1.keep K2q) (by decide) (by decide)) CR3.1)
  obtain ⟨T7, h7, X7, e7, W7, st7⟩ := putF X4 hx hZ2 hown2 (host := "") (Or.inl (hw _ (List.mem_of_getElem? (i := 122) rfl))) Via.refl e4 ((F_kind_a1.keep K2q nin0).other W4 (Or.inr (slot_ne (Or.inr (hw _ (List.mem_of_getElem? (i := 123) rfl))) (Or.inr (hw _ (List.mem_of_getElem? (i := 121) rfl))) (by decide) (t := (.object "com/example/muninn/muninn/store/NodeKind")) (t' := (.object "java/lang/String")) (by decide) (by decide)))) ((E_a1.keep K2q).wr W4) (Or.inr ⟨(hw _ (List.mem_of_getElem? (i := 123) rfl)), rfl, hnm⟩) (hw _ (List.mem_of_getElem? (i := 53) rfl)) (ty := (.object "com/example/muninn/muninn/store/NodeKind")) (by decide) rfl rfl (g := (mkF m 15 #[.val (.ref a1), .val (.ref a2)] [.null, (.ref a1)])) rfl rfl (hb hby d13_15)
  have Fw7 := ((F_kind_a1.keep K2q nin0).other W4 (Or.inr (slot_ne (Or.inr (hw _ (List.mem_of_getElem? (i := 123) rfl))) (Or.inr (hw _ (List.mem_of_getElem? (i := 121) rfl))) (by decide) (t := (.object "com/example/muninn/muninn/store/NodeKind")) (t' := (.object "java/lang/String")) (by decide) (by decide)))).same W7
  have N7 := Fr.snoc X7 N4 ge_a1
  have O8 := O5.wr W7 ge_a1
  have K7 := K4.wr W7 (Or.inl (List.mem_of_getElem? (i := 0) rfl))
  have CR9 := CR6.trans (CHr.wr W7 (Safe.exa hZ2.alike ((E_a1.keep K2q).wr W4) (by decide) (by decide)) CR6.1)
  have sg10 : ∀ target, Steps p.tables e below (T7.setTop (mkF m 18 #[.val (.ref a1), .val (.ref a2)] [])) target → Steps p.tables e below (s₁.setTop (mkF m 0 #[.val (.ref a1), .val (.ref a2)] [])) target := by
    intro target kt
    show Steps p.tables e below (s₁.setTop (mkF m 0 #[.val (.ref a1), .val (.ref a2)] [])) _
    refine XS.aloadN X0.here hx rfl (hb hby d13_0) rfl rfl ?_
    show Steps p.tables e below (s₁.setTop (mkF m 1 #[.val (.ref a1), .val (.ref a2)] [(.ref a1)])) _
    refine st1 _ ?_
    show Steps p.tables e below (T1.setTop (mkF m 4 #[.val (.ref a1), .val (.ref a2)] [])) _
    refine XS.aloadN X1.here hx rfl (hb hby d13_4) rfl rfl ?_
    show Steps p.tables e below (T1.setTop (mkF m 5 #[.val (.ref a1), .val (.ref a2)] [(.ref a1)])) _
    refine XS.aloadN X1.here hx rfl (hb hby d13_5) rfl rfl ?_
    show Steps p.tables e below (T1.setTop (mkF m 6 #[.val (.ref a1), .val (.ref a2)] [(.ref a2), (.ref a1)])) _
    refine XS.aconstNull X1.here hx rfl (hb hby d13_6) ?_
    show Steps p.tables e below (T1.setTop (mkF m 7 #[.val (.ref a1), .val (.ref a2)] [.null, (.ref a2), (.ref a1)])) _
    refine st2.trans ?_
    show Steps p.tables e below (T2.setTop (mkF m 10 #[.val (.ref a1), .val (.ref a2)] [(.ref a2), (.ref a1)])) _
    refine st4 _ ?_
    show Steps p.tables e below (T4.setTop (mkF m 13 #[.val (.ref a1), .val (.ref a2)] [])) _
    refine XS.aloadN X4.here hx rfl (hb hby d13_13) rfl rfl ?_
    show Steps p.tables e below (T4.setTop (mkF m 14 #[.val (.ref a1), .val (.ref a2)] [(.ref a1)])) _
    refine XS.aconstNull X4.here hx rfl (hb hby d13_14) ?_
    show Steps p.tables e below (T4.setTop (mkF m 15 #[.val (.ref a1), .val (.ref a2)] [.null, (.ref a1)])) _
    refine st7 _ ?_
    exact kt
  obtain ⟨fs, hr, hrun, hended, hRW⟩ := X7.leaveW Y2 (show _ ≤ T7.heap.size by rw [e7]; exact (Nat.le_trans (Nat.le_trans (Nat.le_refl _) (Keep.of_wr W4).1) (Keep.of_wr W7).1)) (v := none) (fun _ => rfl)
  refine ⟨_, _, pre0 _ (sg10 _ (?_)), hrun, hended, _, _, rfl, ?_, (by rw [hh]; show CHr Z own_EL s.vm h0 T7.vm T7.heap; rw [e7]; exact CR9.trans (CHv.at X7 hZ2 hEL CR9.1)), hRW.1, hRW.2.1, hRW.2.2.1, hRW.2.2.2.mono (by decide) (by decide)⟩
  · show Steps p.tables e below (T7.setTop (mkF m 18 #[.val (.ref a1), .val (.ref a2)] [])) _
    exact X7.returnOut hx Bd.returns (hb hby d13_18) hr
  · show Q13 Z a1 a2 cs zC vFM t2 kb2 h0 n0 _ T7.heap _
    rw [e7]
    exact ⟨rfl, N7, K7, O8, (Fw4.other W7 (Or.inr (slot_ne (Or.inr (hw _ (List.mem_of_getElem? (i := 121) rfl))) (Or.inr (hw _ (List.mem_of_getElem? (i := 123) rfl))) (by decide) (t := (.object "java/lang/String")) (t' := (.object "com/example/muninn/muninn/store/NodeKind")) (by decide) (by decide)))), Fw7⟩
def Q30 (Z : State) (a1 : Addr) (a2 : Addr) (a3 : Addr) (cs : List Int32) (zC : Int32) (vFM : Value) (t2 : Addr) (kb2 : ClassId) (h0 : Heap) (n0 : Nat) (v : Option Value) (h : Heap) (L : List Loc) : Prop := v = none ∧ Fr n0 L ∧ Keep h0 h [a1] ∧ Old Z n0 h ∧ Fld Z h a1 "com/example/muninn/muninn/store/Node" "id" "Ljava/lang/String;" (.ref a2) ∧ Fld Z h a1 "com/example/muninn/muninn/store/Node" "kind" "Lcom/example/muninn/muninn/store/NodeKind;" (.ref a3)
theorem ef_30 (m : MethodId) (x0 : Addr) (x1 : Addr) (x2 : Addr) : entryFrame m #[(.ref x0), (.ref x1), (.ref x2)] 3 = mkF m 0 #[.val (.ref x0), .val (.ref x1), .val (.ref x2)] [] := by first | (simp [entryFrame, mkF, argsToLocals, Value.category]; done) | rfl
set_option maxRecDepth 65536 in
set_option maxHeartbeats 40000000 in
theorem rm30 (l : Launch) (Z : State) (a0 : Array Value) (hw : ∀ d ∈ tables_1, d.before a0 Z = true) (ws : List Jvm.Cond) (a1 : Addr) (a2 : Addr) (a3 : Addr) (cs : List Int32) (zC : Int32) (vFM : Value) (t2 : Addr) (kb2 : ClassId) (h0 : Heap) (n0 : Nat) (O0 : Old Z n0 h0) (S_COMPACT_STRINGS : Sta Z Z.heap "java/lang/String" "COMPACT_STRINGS" "Z" (.int zC)) (S_SIOOBE_FORMATTER : Sta Z Z.heap "jdk/internal/util/Preconditions" "SIOOBE_FORMATTER" "Ljava/util/function/BiFunction;" vFM) (hCS : ¬ zC = 0) (hFM : vFM.isRef = true) (E_a1 : Exa Z h0 a1 "com/example/muninn/muninn/store/Node") (F_id_a1 : Fld Z h0 a1 "com/example/muninn/muninn/store/Node" "id" "Ljava/lang/String;" .null) (F_kind_a1 : Fld Z h0 a1 "com/example/muninn/muninn/store/Node" "kind" "Lcom/example/muninn/muninn/store/NodeKind;" .null) (ge_a1 : n0 ≤ a1) (E_a2 : Exa Z h0 a2 "java/lang/String") (Fc_a2 : Fld Z h0 a2 "java/lang/String" "coder" "B" (.int (0 : Int32))) (Fv_a2 : Fld Z h0 a2 "java/lang/String" "value" "[B" (.ref t2)) (V_a2 : Arv Z h0 t2 kb2 .byte (Int32.ofNat (cs).length) (strV cs) (.int 0)) (lat2 : Lat cs) (vis : own_Vis cs) (E_a3 : Exa Z h0 a3 "com/example/muninn/muninn/store/NodeKind") :
    MetFree l (⟨"com/example/muninn/muninn/store/Node", "<init>", "(Ljava/lang/String;Lcom/example/muninn/muninn/store/NodeKind;)V"⟩ : MethodName) (head1 (Jvm.Cond.code (⟨"com/example/muninn/muninn/store/Node", "<init>", "(Ljava/lang/String;Lcom/example/muninn/muninn/store/NodeKind;)V"⟩ : MethodName) prog_58_method_1_code 3 none :: ws) ({ frames := 6, cells := 6, slots := 64, locals := 82 } : Room)) (fun a U => a = #[(.ref a1), (.ref a2), (.ref a3)] ∧ Z.Warmed39 U.vm ∧ U.heap = h0 ∧ CHv Z own_EL U.vm h0) (fun _ _ _ _ _ => True) (fun _ U o U' => ∃ v L, o = .returned v ∧ Q30 Z a1 a2 a3 cs zC vFM t2 kb2 h0 n0 v U'.heap L ∧ CHr Z own_EL U.vm U.heap U'.vm U'.heap ∧ ReturnedEndW U o U' L ({ frames := 6, cells := 6, slots := 64, locals := 82 } : Room).cells ({ frames := 6, cells := 6, slots := 64, locals := 82 } : Room).slots) := by
  refine MetFree.of_bodySF (plainFor_of_name pn_1) hisR ?_
  intro p e s m args below meth c s₁ Bd hml0 hP hK
  obtain ⟨rfl, hZ, hh, hCH⟩ := hP
  have hx := Bd.exec
  have hby := Bd.bytes
  have hml : c.maxLocals = 3 := hml0
  have hown : s.vm.findClass "com/example/muninn/muninn/store/Node" = some m.cls := findClass_of_methodNamed Bd.named
  have hnm := (name_of_methodNamed Bd.named Bd.method).1
  have X0 : Stand p l e ({ frames := 6, cells := 6, slots := 64, locals := 82 } : Room) (s.setVm s.vm) m #[(.ref a1), (.ref a2), (.ref a3)] below meth c s₁ [] 0 0 := Stand.of_body Bd
  have e0 : s₁.heap = h0 := by rw [← hh, Bd.state]; rfl
  have N0 := Fr.nil n0
  have pre0 : ∀ t, Steps p.tables e below (s₁.setTop (mkF m 0 #[.val (.ref a1), .val (.ref a2), .val (.ref a3)] [])) t → Steps p.tables e below (s₁.setTop (entryFrame m #[(.ref a1), (.ref a2), (.ref a3)] 3)) t := fun t k => castTop (ef_30 m a1 a2 a3) k
  have Y0 : s.Since s.vm h0.size := (State.WarmedH.refl s).since h0.size
  have Yk0 : h0.size ≤ h0.size := Nat.le_refl _
  have CR0 : CHr Z own_EL s.vm h0 s.vm h0 := CHr.refl hCH
  have hEL := own_EW hw
  have hSA := own_SA hw
  have K0 := Keep.refl h0 [a1]
  obtain ⟨T1, X1, e1, st1⟩ := initO X0 hx hZ hown (hw _ (List.mem_of_getElem? (i := 58) rfl)) (hw _ (List.mem_of_getElem? (i := 25) rfl)) (hw _ (List.mem_of_getElem? (i := 26) rfl)) e0 (g := (mkF m 1 #[.val (.ref a1), .val (.ref a2), .val (.ref a3)] [(.ref a1)])) rfl (by rw [hml]; rfl) rfl (hb hby d30_1) (by decide) (W := 0) (by show 2 * 0 + _ ≤ _; exact Nat.le_of_eq rfl) (by decide)
  obtain ⟨sa2, T2, h2, k2, X2, e2, E2, Y2, Yk2, hZ2, hown2, C2, Lt2, st2⟩ := ldcOH X1 hx hZ hown (hw _ (List.mem_of_getElem? (i := 145) rfl)) hSA e1 Y0 Yk0 hEL CR0.1 (g := (mkF m 7 #[.val (.ref a1), .val (.ref a2), .val (.ref a3)] [(.ref a3), (.ref a2), (.ref a1)])) rfl (hb hby d30_7) (n := 16) (by decide) (by decide) (by decide) (by decide)
  have O3 := O0.ext E2
  have K2 := K0.ext E2
  have CR4 := CR0.trans (C2)
  obtain ⟨_, _, ⟨T5, L5, k5, n5⟩, -, X5, ⟨Lc5, hQ5, l5, y5, z5⟩, st5⟩ := Jvm.LawKit.callS X2 hx (y := (⟨"java/util/Objects", "requireNonNull", "(Ljava/lang/Object;Ljava/lang/String;)Ljava/lang/Object;"⟩ : MethodName)) hown2 (mvT hZ2 (hw _ (List.mem_of_getElem? (i := 65) rfl))) (mvT hZ2 (hw _ (List.mem_of_getElem? (i := 66) rfl))) (mvT hZ2 (hw _ (List.mem_of_getElem? (i := 67) rfl))) (mvT hZ2 (hw _ (List.mem_of_getElem? (i := 68) rfl))) (by decide) (backOf (W := 2) (rm15 l Z a0 hw [] a3 sa2 h2 n0 O3 ) hZ2 (hw _ (List.mem_of_getElem? (i := 68) rfl)) (hw _ (List.mem_of_getElem? (i := 67) rfl)) (by decide) (by decide)) (g := (mkF m 9 #[.val (.ref a1), .val (.ref a2), .val (.ref a3)] [(.ref sa2), (.ref a3), (.ref a2), (.ref a1)])) rfl (by rw [hml]; rfl) (argsL := [(.ref a3), (.ref sa2)]) (rest := [(.ref a2), (.ref a1)]) (lenOf pd_3 rfl) rfl (by show 2 * 0 + _ ≤ _; exact Nat.le_of_eq rfl) (hb hby d30_9) (fun _ _ => ⟨rfl, e2, (by decide : 2 + 0 ≤ _), (by decide : 20 + 0 ≤ _)⟩)
  dsimp only [Pt.U, Pt.locs, Pt.cells, Pt.slots] at X5 l5 y5 z5 st5 hQ5
  subst l5 y5 z5
  obtain ⟨rfl, N5q, e5⟩ := hQ5
  have N5 := Fr.app N0 N5q
  obtain ⟨T6, X6, e6, st6⟩ := castY X5 hx hZ2 hown2 (hw _ (List.mem_of_getElem? (i := 146) rfl)) e5 (Ins.self (E_a3.ext E2)) (g := (mkF m 12 #[.val (.ref a1), .val (.ref a2), .val (.ref a3)] [(.ref a3), (.ref a2), (.ref a1)])) rfl rfl (hb hby d30_12)
  obtain ⟨_, _, ⟨T7, L7, k7, n7⟩, -, X7, Y7, G7, ⟨Lc7, hQ7, l7, y7, z7, C7⟩, st7⟩ := callSS X6 hx (y := (⟨"com/example/muninn/muninn/store/Node", "checkId", "(Ljava/lang/String;Lcom/example/muninn/muninn/store/NodeKind;)Ljava/lang/String;"⟩ : MethodName)) hown2 (mvT hZ2 (hw _ (List.mem_of_getElem? (i := 59) rfl))) (mvT hZ2 (hw _ (List.mem_of_getElem? (i := 60) rfl))) (mvT hZ2 (hw _ (List.mem_of_getElem? (i := 54) rfl))) (mvT hZ2 (hw _ (List.mem_of_getElem? (i := 61) rfl))) (by decide) (backOfSH (W := 1) (rm14_1 l Z a0 hw [] a2 a3 cs zC vFM t2 kb2 h2 n0 O3 S_COMPACT_STRINGS S_SIOOBE_FORMATTER hCS hFM (E_a2.ext E2) (Fc_a2.ext E2) (Fv_a2.ext E2) (V_a2.ext E2) lat2 vis) hZ2 (hw _ (List.mem_of_getElem? (i := 61) rfl)) (hw _ (List.mem_of_getElem? (i := 54) rfl)) (by decide) (by decide) hEL CR4.1) (g := (mkF m 15 #[.val (.ref a1), .val (.ref a2), .val (.ref a3)] [(.ref a3), (.ref a2), (.ref a1)])) rfl (by rw [hml]; rfl) (argsL := [(.ref a2), (.ref a3)]) (rest := [(.ref a1)]) (lenOf pd_6 rfl) rfl (by show 2 * 0 + _ ≤ _; exact Nat.le_of_eq rfl) (hb hby d30_15) (fun _ _ => ⟨rfl, e6, (by decide : 2 + 4 ≤ _), (by decide : 20 + 44 ≤ _)⟩)
  dsimp only [Pt.U, Pt.locs, Pt.cells, Pt.slots] at X7 l7 y7 z7 st7 hQ7 Y7 G7 C7
  subst l7 y7 z7
  obtain ⟨rfl, N7q, K7q, O7⟩ := hQ7
  have N7 := Fr.app N5 N7q
  obtain ⟨X7, Y7, hZ7, hown7⟩ := rebS Y2 (by rw [e6]; exact Yk2) X7 Y7 G7 hZ2 hown2
  have CR8 := CR4.trans (C7)
  have K7 := K2.trans K7q all0
  obtain ⟨T9, h9, X9, e9, W9, st9⟩ := putF X7 hx hZ7 hown7 (host := "") (Or.inl (hw _ (List.mem_of_getElem? (i := 120) rfl))) Via.refl rfl ((F_id_a1.ext E2).keep K7q nin0) ((E_a1.ext E2).keep K7q) (Or.inr ⟨(hw _ (List.mem_of_getElem? (i := 121) rfl)), rfl, hnm⟩) (hw _ (List.mem_of_getElem? (i := 53) rfl)) (ty := (.object "java/lang/String")) (by decide) rfl rfl (g := (mkF m 18 #[.val (.ref a1), .val (.ref a2), .val (.ref a3)] [(.ref a2), (.ref a1)])) rfl rfl (hb hby d30_18)
  have Fw9 := ((F_id_a1.ext E2).keep K7q nin0).same W9
  have N9 := Fr.snoc X9 N7 ge_a1
  have O10 := O7.wr W9 ge_a1
  have K9 := K7.wr W9 (Or.inl (List.mem_of_getElem? (i := 0) rfl))
  have CR11 := CR8.trans (CHr.wr W9 (Safe.exa hZ7.alike ((E_a1.ext E2).keep K7q) (by decide) (by decide)) CR8.1)
  obtain ⟨T12, h12, X12, e12, W12, st12⟩ := putF X9 hx hZ7 hown7 (host := "") (Or.inl (hw _ (List.mem_of_getElem? (i := 122) rfl))) Via.refl e9 (((F_kind_a1.ext E2).keep K7q nin0).other W9 (Or.inr (slot_ne (Or.inr (hw _ (List.mem_of_getElem? (i := 123) rfl))) (Or.inr (hw _ (List.mem_of_getElem? (i := 121) rfl))) (by decide) (t := (.object "com/example/muninn/muninn/store/NodeKind")) (t' := (.object "java/lang/String")) (by decide) (by decide)))) (((E_a1.ext E2).keep K7q).wr W9) (Or.inr ⟨(hw _ (List.mem_of_getElem? (i := 123) rfl)), rfl, hnm⟩) (hw _ (List.mem_of_getElem? (i := 53) rfl)) (ty := (.object "com/example/muninn/muninn/store/NodeKind")) (by decide) rfl rfl (g := (mkF m 23 #[.val (.ref a1), .val (.ref a2), .val (.ref a3)] [(.ref a3), (.ref a1)])) rfl rfl (hb hby d30_23)
  have Fw12 := (((F_kind_a1.ext E2).keep K7q nin0).other W9 (Or.inr (slot_ne (Or.inr (hw _ (List.mem_of_getElem? (i := 123) rfl))) (Or.inr (hw _ (List.mem_of_getElem? (i := 121) rfl))) (by decide) (t := (.object "com/example/muninn/muninn/store/NodeKind")) (t' := (.object "java/lang/String")) (by decide) (by decide)))).same W12
  have N12 := Fr.snoc X12 N9 ge_a1
  have O13 := O10.wr W12 ge_a1
  have K12 := K9.wr W12 (Or.inl (List.mem_of_getElem? (i := 0) rfl))
  have CR14 := CR11.trans (CHr.wr W12 (Safe.exa hZ7.alike (((E_a1.ext E2).keep K7q).wr W9) (by decide) (by decide)) CR11.1)
  have sg15 : ∀ target, Steps p.tables e below (T12.setTop (mkF m 26 #[.val (.ref a1), .val (.ref a2), .val (.ref a3)] [])) target → Steps p.tables e below (s₁.setTop (mkF m 0 #[.val (.ref a1), .val (.ref a2), .val (.ref a3)] [])) target := by
    intro target kt
    show Steps p.tables e below (s₁.setTop (mkF m 0 #[.val (.ref a1), .val (.ref a2), .val (.ref a3)] [])) _
    refine XS.aloadN X0.here hx rfl (hb hby d30_0) rfl rfl ?_
    show Steps p.tables e below (s₁.setTop (mkF m 1 #[.val (.ref a1), .val (.ref a2), .val (.ref a3)] [(.ref a1)])) _
    refine st1 _ ?_
    show Steps p.tables e below (T1.setTop (mkF m 4 #[.val (.ref a1), .val (.ref a2), .val (.ref a3)] [])) _
    refine XS.aloadN X1.here hx rfl (hb hby d30_4) rfl rfl ?_
    show Steps p.tables e below (T1.setTop (mkF m 5 #[.val (.ref a1), .val (.ref a2), .val (.ref a3)] [(.ref a1)])) _
    refine XS.aloadN X1.here hx rfl (hb hby d30_5) rfl rfl ?_
    show Steps p.tables e below (T1.setTop (mkF m 6 #[.val (.ref a1), .val (.ref a2), .val (.ref a3)] [(.ref a2), (.ref a1)])) _
    refine XS.aloadN X1.here hx rfl (hb hby d30_6) rfl rfl ?_
    show Steps p.tables e below (T1.setTop (mkF m 7 #[.val (.ref a1), .val (.ref a2), .val (.ref a3)] [(.ref a3), (.ref a2), (.ref a1)])) _
    refine st2 _ ?_
    show Steps p.tables e below (T2.setTop (mkF m 9 #[.val (.ref a1), .val (.ref a2), .val (.ref a3)] [(.ref sa2), (.ref a3), (.ref a2), (.ref a1)])) _
    refine st5 _ ?_
    show Steps p.tables e below (T5.setTop (mkF m 12 #[.val (.ref a1), .val (.ref a2), .val (.ref a3)] [(.ref a3), (.ref a2), (.ref a1)])) _
    refine st6 _ ?_
    show Steps p.tables e below (T6.setTop (mkF m 15 #[.val (.ref a1), .val (.ref a2), .val (.ref a3)] [(.ref a3), (.ref a2), (.ref a1)])) _
    refine st7.trans ?_
    show Steps p.tables e below (T7.setTop (mkF m 18 #[.val (.ref a1), .val (.ref a2), .val (.ref a3)] [(.ref a2), (.ref a1)])) _
    refine st9 _ ?_
    show Steps p.tables e below (T9.setTop (mkF m 21 #[.val (.ref a1), .val (.ref a2), .val (.ref a3)] [])) _
    refine XS.aloadN X9.here hx rfl (hb hby d30_21) rfl rfl ?_
    show Steps p.tables e below (T9.setTop (mkF m 22 #[.val (.ref a1), .val (.ref a2), .val (.ref a3)] [(.ref a1)])) _
    refine XS.aloadN X9.here hx rfl (hb hby d30_22) rfl rfl ?_
    show Steps p.tables e below (T9.setTop (mkF m 23 #[.val (.ref a1), .val (.ref a2), .val (.ref a3)] [(.ref a3), (.ref a1)])) _
    refine st12 _ ?_
    exact kt
  obtain ⟨fs, hr, hrun, hended, hRW⟩ := X12.leaveW Y7 (show _ ≤ T12.heap.size by rw [e12]; exact (Nat.le_trans (Nat.le_trans (Nat.le_refl _) (Keep.of_wr W9).1) (Keep.of_wr W12).1)) (v := none) (fun _ => rfl)
  refine ⟨_, _, pre0 _ (sg15 _ (?_)), hrun, hended, _, _, rfl, ?_, (by rw [hh]; show CHr Z own_EL s.vm h0 T12.vm T12.heap; rw [e12]; exact CR14.trans (CHv.at X12 hZ7 hEL CR14.1)), hRW.1, hRW.2.1, hRW.2.2.1, hRW.2.2.2.mono (by decide) (by decide)⟩
  · show Steps p.tables e below (T12.setTop (mkF m 26 #[.val (.ref a1), .val (.ref a2), .val (.ref a3)] [])) _
    exact X12.returnOut hx Bd.returns (hb hby d30_26) hr
  · show Q30 Z a1 a2 a3 cs zC vFM t2 kb2 h0 n0 _ T12.heap _
    rw [e12]
    exact ⟨rfl, N12, K12, O13, (Fw9.other W12 (Or.inr (slot_ne (Or.inr (hw _ (List.mem_of_getElem? (i := 121) rfl))) (Or.inr (hw _ (List.mem_of_getElem? (i := 123) rfl))) (by decide) (t := (.object "java/lang/String")) (t' := (.object "com/example/muninn/muninn/store/NodeKind")) (by decide) (by decide)))), Fw12⟩
def Q3 (Z : State) (p1 : Int32) (h0 : Heap) (n0 : Nat) (v : Option Value) (h : Heap) (L : List Loc) : Prop := v = some (.int (1 : Int32)) ∧ Fr n0 L ∧ h = h0
theorem ef_3 (m : MethodId) (x0 : Int32) : entryFrame m #[(.int x0)] 1 = mkF m 0 #[.val (.int x0)] [] := by first | (simp [entryFrame, mkF, argsToLocals, Value.category]; done) | rfl
set_option maxRecDepth 65536 in
set_option maxHeartbeats 40000000 in
theorem rm3 (l : Launch) (Z : State) (a0 : Array Value) (hw : ∀ d ∈ tables_1, d.before a0 Z = true) (ws : List Jvm.Cond) (p1 : Int32) (h0 : Heap) (n0 : Nat) (O0 : Old Z n0 h0) (hlx : ¬ (255 : Int32) < p1) :
    MetFree l (⟨"java/lang/StringLatin1", "canEncode", "(C)Z"⟩ : MethodName) (head1 (Jvm.Cond.code (⟨"java/lang/StringLatin1", "canEncode", "(C)Z"⟩ : MethodName) jdk_43_method_3_code 1 (some .boolean) :: ws) ({ frames := 0, cells := 0, slots := 0, locals := 0 } : Room)) (fun a U => a = #[(.int p1)] ∧ Z.Warmed39 U.vm ∧ U.heap = h0) (fun _ _ _ _ _ => True) (fun _ U o U' => ∃ v L, o = .returned v ∧ Q3 Z p1 h0 n0 v U'.heap L ∧ FrameEnd U o U' L ({ frames := 0, cells := 0, slots := 0, locals := 0 } : Room).cells ({ frames := 0, cells := 0, slots := 0, locals := 0 } : Room).slots) := by
  refine MetFree.of_bodySF (plainFor_of_name pn_3) hisR ?_
  intro p e s m args below meth c s₁ Bd hml0 hP hK
  obtain ⟨rfl, hZ, hh⟩ := hP
  have hx := Bd.exec
  have hby := Bd.bytes
  have hml : c.maxLocals = 1 := hml0
  have hown : s.vm.findClass "java/lang/StringLatin1" = some m.cls := findClass_of_methodNamed Bd.named
  have hnm := (name_of_methodNamed Bd.named Bd.method).1
  have X0 : Stand p l e ({ frames := 0, cells := 0, slots := 0, locals := 0 } : Room) s m #[(.int p1)] below meth c s₁ [] 0 0 := Stand.of_body Bd
  have e0 : s₁.heap = h0 := by rw [← hh, Bd.state]; rfl
  have N0 := Fr.nil n0
  have pre0 : ∀ t, Steps p.tables e below (s₁.setTop (mkF m 0 #[.val (.int p1)] [])) t → Steps p.tables e below (s₁.setTop (entryFrame m #[(.int p1)] 1)) t := fun t k => castTop (ef_3 m p1) k
  have sg1 : ∀ target, Steps p.tables e below (s₁.setTop (mkF m 12 #[.val (.int p1)] [(.int (1 : Int32))])) target → Steps p.tables e below (s₁.setTop (mkF m 0 #[.val (.int p1)] [])) target := by
    intro target kt
    show Steps p.tables e below (s₁.setTop (mkF m 0 #[.val (.int p1)] [])) _
    refine XS.iloadN X0.here hx rfl (hb hby d3_0) rfl ?_
    show Steps p.tables e below (s₁.setTop (mkF m 1 #[.val (.int p1)] [(.int p1)])) _
    refine XS.sipush X0.here hx rfl (hb hby d3_1) ?_
    show Steps p.tables e below (s₁.setTop (mkF m 4 #[.val (.int p1)] [(.int (255 : Int32)), (.int p1)])) _
    refine XS.icmpNo X0.here hx rfl (hb hby d3_4) rfl (flt hlx).2.2.1 ?_
    show Steps p.tables e below (s₁.setTop (mkF m 7 #[.val (.int p1)] [])) _
    refine XS.iconst X0.here hx rfl (hb hby d3_7) ?_
    show Steps p.tables e below (s₁.setTop (mkF m 8 #[.val (.int p1)] [(.int (1 : Int32))])) _
    refine XS.goto X0.here hx rfl (pc0 := 8) (pc' := 12) rfl (hb hby d3_8) (by decide) (by decide) ?_
    exact kt
  obtain ⟨fs, hr, hrun, hended, hW, hsame⟩ := X0.leave (v := some (.int (1 : Int32))) (fun h => by rw [Bd.returns] at h; cases h)
  refine ⟨_, _, pre0 _ (sg1 _ (?_)), hrun, hended, _, _, rfl, ?_, ⟨_, rfl⟩, hW, hsame.mono (by decide) (by decide)⟩
  · show Steps p.tables e below (s₁.setTop (mkF m 12 #[.val (.int p1)] [(.int (1 : Int32))])) _
    exact retN X0 hx (t := .boolean) Bd.returns (by simp) (hb hby d3_12) hr
  · show Q3 Z p1 h0 n0 _ s₁.heap _
    rw [e0]
    exact ⟨rfl, N0, rfl⟩
def Q4 (Z : State) (p1 : Int32) (h0 : Heap) (n0 : Nat) (v : Option Value) (h : Heap) (L : List Loc) : Prop := ∃ r : Addr, ∃ kb : ClassId, v = some (.ref r) ∧ Fr n0 L ∧ Keep h0 h [] ∧ Old Z n0 h ∧ n0 ≤ r ∧ h0.size ≤ r ∧ Arv Z h r kb .byte (1 : Int32) (strV [p1]) (.int 0)
theorem ef_4 (m : MethodId) (x0 : Int32) : entryFrame m #[(.int x0)] 1 = mkF m 0 #[.val (.int x0)] [] := by first | (simp [entryFrame, mkF, argsToLocals, Value.category]; done) | rfl
set_option maxRecDepth 65536 in
set_option maxHeartbeats 40000000 in
theorem rm4 (l : Launch) (Z : State) (a0 : Array Value) (hw : ∀ d ∈ tables_1, d.before a0 Z = true) (ws : List Jvm.Cond) (p1 : Int32) (h0 : Heap) (n0 : Nat) (O0 : Old Z n0 h0) :
    MetFree l (⟨"java/lang/StringLatin1", "toBytes", "(C)[B"⟩ : MethodName) (head1 (Jvm.Cond.code (⟨"java/lang/StringLatin1", "toBytes", "(C)[B"⟩ : MethodName) jdk_43_method_46_code 1 (some (.array .byte)) :: ws) ({ frames := 0, cells := 1, slots := 1, locals := 0 } : Room)) (fun a U => a = #[(.int p1)] ∧ Z.Warmed39 U.vm ∧ U.heap = h0) (fun _ _ _ _ _ => True) (fun _ U o U' => ∃ v L, o = .returned v ∧ Q4 Z p1 h0 n0 v U'.heap L ∧ FrameEnd U o U' L ({ frames := 0, cells := 1, slots := 1, locals := 0 } : Room).cells ({ frames := 0, cells := 1, slots := 1, locals := 0 } : Room).slots) := by
  refine MetFree.of_bodySF (plainFor_of_name pn_3) hisR ?_
  intro p e s m args below meth c s₁ Bd hml0 hP hK
  obtain ⟨rfl, hZ, hh⟩ := hP
  have hx := Bd.exec
  have hby := Bd.bytes
  have hml : c.maxLocals = 1 := hml0
  have hown : s.vm.findClass "java/lang/StringLatin1" = some m.cls := findClass_of_methodNamed Bd.named
  have hnm := (name_of_methodNamed Bd.named Bd.method).1
  have X0 : Stand p l e ({ frames := 0, cells := 1, slots := 1, locals := 0 } : Room) s m #[(.int p1)] below meth c s₁ [] 0 0 := Stand.of_body Bd
  have e0 : s₁.heap = h0 := by rw [← hh, Bd.state]; rfl
  have N0 := Fr.nil n0
  have pre0 : ∀ t, Steps p.tables e below (s₁.setTop (mkF m 0 #[.val (.int p1)] [])) t → Steps p.tables e below (s₁.setTop (entryFrame m #[(.int p1)] 1)) t := fun t k => castTop (ef_4 m p1) k
  have K0 := Keep.refl h0 []
  obtain ⟨T1, h1, k1, X1, e1, E1, A1, st1⟩ := newP X0 hx hZ (hw _ (List.mem_of_getElem? (i := 19) rfl)) e0 (g := (mkF m 1 #[.val (.int p1)] [(.int (1 : Int32))])) rfl (hb hby d4_1) rfl (by decide) (cap := 1) (by decide) (by decide) (by decide) (by decide)
  obtain ⟨b1, g1⟩ : ∃ z, z = h0.size := ⟨_, rfl⟩
  rw [← g1] at A1 st1
  have ge_b1 : n0 ≤ b1 := Nat.le_trans (own_osz O0) (Nat.le_of_eq g1.symm)
  have sz_b1 : h0.size ≤ b1 := Nat.le_trans K0.1 (Nat.le_of_eq g1.symm)
  have O2 := O0.ext E1
  have K1 := K0.ext E1
  have V_b1 : Arv Z h1 b1 k1 .byte (1 : Int32) [(.int (0 : Int32))] (.int (0 : Int32)) := (Arv.new A1 (by decide)).pad (pad_rep [] (.int (0 : Int32)) 1)
  obtain ⟨cl3, Ar3, q3, Sz3, Nn3, Hh3, Gg3⟩ := id V_b1
  have hin3 : ¬ ((0 : Int32) < 0 ∨ cl3.slots.size ≤ ((0 : Int32)).toNatClampNeg) := inb_of Sz3 ⟨by decide, by decide⟩
  obtain ⟨T4, h4, X4, e4, W4, st4⟩ := stB X1 hx hZ e1 Ar3 (j := (0 : Int32)) hin3 (g := (mkF m 7 #[.val (.int p1)] [(.int (p1.toInt8.toInt32)), (.int (0 : Int32)), (.ref b1), (.ref b1)])) rfl rfl (hb hby d4_7)
  have V4 : Arv Z h4 b1 k1 .byte (1 : Int32) [(.int ((p1.toInt8.toInt32).toInt8.toInt32))] (.int (0 : Int32)) := Arv.set Ar3 q3 Sz3 Nn3 Hh3 Gg3 (fits_nar_byte _) W4 0 rfl (Nat.le_of_ble_eq_true rfl)
  have N4 := Fr.snoc X4 N0 ge_b1
  have O5 := O2.wr W4 ge_b1
  have K4 := K1.wr W4 (Or.inr sz_b1)
  have sg6 : ∀ target, Steps p.tables e below (T4.setTop (mkF m 8 #[.val (.int p1)] [(.ref b1)])) target → Steps p.tables e below (s₁.setTop (mkF m 0 #[.val (.int p1)] [])) target := by
    intro target kt
    show Steps p.tables e below (s₁.setTop (mkF m 0 #[.val (.int p1)] [])) _
    refine XS.iconst X0.here hx rfl (hb hby d4_0) ?_
    show Steps p.tables e below (s₁.setTop (mkF m 1 #[.val (.int p1)] [(.int (1 : Int32))])) _
    refine st1 _ ?_
    show Steps p.tables e below (T1.setTop (mkF m 3 #[.val (.int p1)] [(.ref b1)])) _
    refine XS.dup X1.here hx rfl (hb hby d4_3) rfl rfl ?_
    show Steps p.tables e below (T1.setTop (mkF m 4 #[.val (.int p1)] [(.ref b1), (.ref b1)])) _
    refine XS.iconst X1.here hx rfl (hb hby d4_4) ?_
    show Steps p.tables e below (T1.setTop (mkF m 5 #[.val (.int p1)] [(.int (0 : Int32)), (.ref b1), (.ref b1)])) _
    refine XS.iloadN X1.here hx rfl (hb hby d4_5) rfl ?_
    show Steps p.tables e below (T1.setTop (mkF m 6 #[.val (.int p1)] [(.int p1), (.int (0 : Int32)), (.ref b1), (.ref b1)])) _
    refine XS.i2b X1.here hx rfl (hb hby d4_6) rfl ?_
    show Steps p.tables e below (T1.setTop (mkF m 7 #[.val (.int p1)] [(.int (p1.toInt8.toInt32)), (.int (0 : Int32)), (.ref b1), (.ref b1)])) _
    refine st4 _ ?_
    exact kt
  obtain ⟨fs, hr, hrun, hended, hW, hsame⟩ := X4.leave (v := some (.ref b1)) (fun h => by rw [Bd.returns] at h; cases h)
  refine ⟨_, _, pre0 _ (sg6 _ (?_)), hrun, hended, _, _, rfl, ?_, ⟨_, rfl⟩, hW, hsame.mono (by decide) (by decide)⟩
  · show Steps p.tables e below (T4.setTop (mkF m 8 #[.val (.int p1)] [(.ref b1)])) _
    jvm_step X4.here [X4.here.top, hx, (hb hby d4_8), X4.method', Bd.returns, Value.isRef, FieldType.isReference]
    first | (intro acts; rw [hr _ acts rfl rfl rfl]) | rw [hr _ _ rfl rfl rfl]
    exact Steps.refl _
  · show Q4 Z p1 h0 n0 _ T4.heap _
    rw [e4]
    exact ⟨b1, k1, rfl, N4, K4, O5, ge_b1, sz_b1, (by have q := V4; rw [own_lo8i] at q; exact q)⟩
def Q5 (Z : State) (a1 : Addr) (a2 : Addr) (h0 : Heap) (n0 : Nat) (v : Option Value) (h : Heap) (L : List Loc) : Prop := v = none ∧ Fr n0 L ∧ Keep h0 h [a1] ∧ Old Z n0 h ∧ Fld Z h a1 "java/lang/String" "coder" "B" (.int (0 : Int32)) ∧ Fld Z h a1 "java/lang/String" "value" "[B" (.ref a2)
theorem ef_5 (m : MethodId) (x0 : Addr) (x1 : Addr) (x2 : Int32) : entryFrame m #[(.ref x0), (.ref x1), (.int x2)] 3 = mkF m 0 #[.val (.ref x0), .val (.ref x1), .val (.int x2)] [] := by first | (simp [entryFrame, mkF, argsToLocals, Value.category]; done) | rfl
set_option maxRecDepth 65536 in
set_option maxHeartbeats 40000000 in
theorem rm5 (l : Launch) (Z : State) (a0 : Array Value) (hw : ∀ d ∈ tables_1, d.before a0 Z = true) (ws : List Jvm.Cond) (a1 : Addr) (a2 : Addr) (h0 : Heap) (n0 : Nat) (O0 : Old Z n0 h0) (E_a1 : Exa Z h0 a1 "java/lang/String") (F_value_a1 : Fld Z h0 a1 "java/lang/String" "value" "[B" .null) (F_coder_a1 : Fld Z h0 a1 "java/lang/String" "coder" "B" (.int (0 : Int32))) (ge_a1 : n0 ≤ a1) :
    MetFree l (⟨"java/lang/String", "<init>", "([BB)V"⟩ : MethodName) (head1 (Jvm.Cond.code (⟨"java/lang/String", "<init>", "([BB)V"⟩ : MethodName) jdk_42_method_151_code 3 none :: ws) ({ frames := 1, cells := 0, slots := 0, locals := 12 } : Room)) (fun a U => a = #[(.ref a1), (.ref a2), (.int (0 : Int32))] ∧ Z.Warmed39 U.vm ∧ U.heap = h0) (fun _ _ _ _ _ => True) (fun _ U o U' => ∃ v L, o = .returned v ∧ Q5 Z a1 a2 h0 n0 v U'.heap L ∧ FrameEnd U o U' L ({ frames := 1, cells := 0, slots := 0, locals := 12 } : Room).cells ({ frames := 1, cells := 0, slots := 0, locals := 12 } : Room).slots) := by
  refine MetFree.of_bodySF (plainFor_of_name pn_2) hisR ?_
  intro p e s m args below meth c s₁ Bd hml0 hP hK
  obtain ⟨rfl, hZ, hh⟩ := hP
  have hx := Bd.exec
  have hby := Bd.bytes
  have hml : c.maxLocals = 3 := hml0
  have hown : s.vm.findClass "java/lang/String" = some m.cls := findClass_of_methodNamed Bd.named
  have hnm := (name_of_methodNamed Bd.named Bd.method).1
  have X0 : Stand p l e ({ frames := 1, cells := 0, slots := 0, locals := 12 } : Room) s m #[(.ref a1), (.ref a2), (.int (0 : Int32))] below meth c s₁ [] 0 0 := Stand.of_body Bd
  have e0 : s₁.heap = h0 := by rw [← hh, Bd.state]; rfl
  have N0 := Fr.nil n0
  have pre0 : ∀ t, Steps p.tables e below (s₁.setTop (mkF m 0 #[.val (.ref a1), .val (.ref a2), .val (.int (0 : Int32))] [])) t → Steps p.tables e below (s₁.setTop (entryFrame m #[(.ref a1), (.ref a2), (.int (0 : Int32))] 3)) t := fun t k => castTop (ef_5 m a1 a2 (0 : Int32)) k
  have K0 := Keep.refl h0 [a1]
  obtain ⟨T1, X1, e1, st1⟩ := initO X0 hx hZ hown (hw _ (List.mem_of_getElem? (i := 24) rfl)) (hw _ (List.mem_of_getElem? (i := 25) rfl)) (hw _ (List.mem_of_getElem? (i := 26) rfl)) e0 (g := (mkF m 1 #[.val (.ref a1), .val (.ref a2), .val (.int (0 : Int32))] [(.ref a1)])) rfl (by rw [hml]; rfl) rfl (hb hby d5_1) (by decide) (W := 0) (by show 2 * 0 + _ ≤ _; exact Nat.le_of_eq rfl) (by decide)
  obtain ⟨T2, h2, X2, e2, W2, st2⟩ := putF X1 hx hZ hown (host := "") (Or.inl (hw _ (List.mem_of_getElem? (i := 27) rfl))) Via.refl e1 F_value_a1 E_a1 (Or.inr ⟨(hw _ (List.mem_of_getElem? (i := 28) rfl)), rfl, hnm⟩) (hw _ (List.mem_of_getElem? (i := 15) rfl)) (ty := (.array .byte)) (by decide) rfl rfl (g := (mkF m 6 #[.val (.ref a1), .val (.ref a2), .val (.int (0 : Int32))] [(.ref a2), (.ref a1)])) rfl rfl (hb hby d5_6)
  have Fw2 := F_value_a1.same W2
  have N2 := Fr.snoc X2 N0 ge_a1
  have O3 := O0.wr W2 ge_a1
  have K2 := K0.wr W2 (Or.inl (List.mem_of_getElem? (i := 0) rfl))
  obtain ⟨T4, h4, X4, e4, W4, st4⟩ := putFN X2 hx hZ hown (hw _ (List.mem_of_getElem? (i := 29) rfl)) Via.refl e2 (F_coder_a1.other W2 (Or.inr (slot_ne (Or.inr (hw _ (List.mem_of_getElem? (i := 30) rfl))) (Or.inr (hw _ (List.mem_of_getElem? (i := 28) rfl))) (by decide) (t := .byte) (t' := (.array .byte)) (by decide) (by decide)))) (E_a1.wr W2) (Or.inr ⟨(hw _ (List.mem_of_getElem? (i := 30) rfl)), rfl, hnm⟩) (hw _ (List.mem_of_getElem? (i := 15) rfl)) (ty := .byte) (v' := .int ((0 : Int32).toInt8.toInt32)) (by decide) rfl (fits_nar_byte _) (g := (mkF m 11 #[.val (.ref a1), .val (.ref a2), .val (.int (0 : Int32))] [(.int (0 : Int32)), (.ref a1)])) rfl rfl (hb hby d5_11)
  have Fw4 := (F_coder_a1.other W2 (Or.inr (slot_ne (Or.inr (hw _ (List.mem_of_getElem? (i := 30) rfl))) (Or.inr (hw _ (List.mem_of_getElem? (i := 28) rfl))) (by decide) (t := .byte) (t' := (.array .byte)) (by decide) (by decide)))).same W4
  have N4 := Fr.snoc X4 N2 ge_a1
  have O5 := O3.wr W4 ge_a1
  have K4 := K2.wr W4 (Or.inl (List.mem_of_getElem? (i := 0) rfl))
  have sg6 : ∀ target, Steps p.tables e below (T4.setTop (mkF m 14 #[.val (.ref a1), .val (.ref a2), .val (.int (0 : Int32))] [])) target → Steps p.tables e below (s₁.setTop (mkF m 0 #[.val (.ref a1), .val (.ref a2), .val (.int (0 : Int32))] [])) target := by
    intro target kt
    show Steps p.tables e below (s₁.setTop (mkF m 0 #[.val (.ref a1), .val (.ref a2), .val (.int (0 : Int32))] [])) _
    refine XS.aloadN X0.here hx rfl (hb hby d5_0) rfl rfl ?_
    show Steps p.tables e below (s₁.setTop (mkF m 1 #[.val (.ref a1), .val (.ref a2), .val (.int (0 : Int32))] [(.ref a1)])) _
    refine st1 _ ?_
    show Steps p.tables e below (T1.setTop (mkF m 4 #[.val (.ref a1), .val (.ref a2), .val (.int (0 : Int32))] [])) _
    refine XS.aloadN X1.here hx rfl (hb hby d5_4) rfl rfl ?_
    show Steps p.tables e below (T1.setTop (mkF m 5 #[.val (.ref a1), .val (.ref a2), .val (.int (0 : Int32))] [(.ref a1)])) _
    refine XS.aloadN X1.here hx rfl (hb hby d5_5) rfl rfl ?_
    show Steps p.tables e below (T1.setTop (mkF m 6 #[.val (.ref a1), .val (.ref a2), .val (.int (0 : Int32))] [(.ref a2), (.ref a1)])) _
    refine st2 _ ?_
    show Steps p.tables e below (T2.setTop (mkF m 9 #[.val (.ref a1), .val (.ref a2), .val (.int (0 : Int32))] [])) _
    refine XS.aloadN X2.here hx rfl (hb hby d5_9) rfl rfl ?_
    show Steps p.tables e below (T2.setTop (mkF m 10 #[.val (.ref a1), .val (.ref a2), .val (.int (0 : Int32))] [(.ref a1)])) _
    refine XS.iloadN X2.here hx rfl (hb hby d5_10) rfl ?_
    show Steps p.tables e below (T2.setTop (mkF m 11 #[.val (.ref a1), .val (.ref a2), .val (.int (0 : Int32))] [(.int (0 : Int32)), (.ref a1)])) _
    refine st4 _ ?_
    exact kt
  obtain ⟨fs, hr, hrun, hended, hW, hsame⟩ := X4.leave (v := none) (fun _ => rfl)
  refine ⟨_, _, pre0 _ (sg6 _ (?_)), hrun, hended, _, _, rfl, ?_, ⟨_, rfl⟩, hW, hsame.mono (by decide) (by decide)⟩
  · show Steps p.tables e below (T4.setTop (mkF m 14 #[.val (.ref a1), .val (.ref a2), .val (.int (0 : Int32))] [])) _
    exact X4.returnOut hx Bd.returns (hb hby d5_14) hr
  · show Q5 Z a1 a2 h0 n0 _ T4.heap _
    rw [e4]
    exact ⟨rfl, N4, K4, O5, Fw4, (Fw2.other W4 (Or.inr (slot_ne (Or.inr (hw _ (List.mem_of_getElem? (i := 28) rfl))) (Or.inr (hw _ (List.mem_of_getElem? (i := 30) rfl))) (by decide) (t := (.array .byte)) (t' := .byte) (by decide) (by decide))))⟩
def Q2 (Z : State) (p1 : Int32) (zC : Int32) (vFM : Value) (h0 : Heap) (n0 : Nat) (v : Option Value) (h : Heap) (L : List Loc) : Prop := ∃ r : Addr, ∃ t : Addr, ∃ kb : ClassId, v = some (.ref r) ∧ Fr n0 L ∧ Keep h0 h [] ∧ Old Z n0 h ∧ n0 ≤ r ∧ h0.size ≤ r ∧ n0 ≤ t ∧ h0.size ≤ t ∧ Exa Z h r "java/lang/String" ∧ Fld Z h r "java/lang/String" "coder" "B" (.int (0 : Int32)) ∧ Fld Z h r "java/lang/String" "value" "[B" (.ref t) ∧ Arv Z h t kb .byte (Int32.ofNat (([p1] : List Int32)).length) (strV ([p1] : List Int32)) (.int 0)
theorem ef_2 (m : MethodId) (x0 : Int32) : entryFrame m #[(.int x0)] 1 = mkF m 0 #[.val (.int x0)] [] := by first | (simp [entryFrame, mkF, argsToLocals, Value.category]; done) | rfl
set_option maxRecDepth 65536 in
set_option maxHeartbeats 40000000 in
theorem rm2 (l : Launch) (Z : State) (a0 : Array Value) (hw : ∀ d ∈ tables_1, d.before a0 Z = true) (ws : List Jvm.Cond) (p1 : Int32) (zC : Int32) (vFM : Value) (h0 : Heap) (n0 : Nat) (O0 : Old Z n0 h0) (S_COMPACT_STRINGS : Sta Z Z.heap "java/lang/String" "COMPACT_STRINGS" "Z" (.int zC)) (S_SIOOBE_FORMATTER : Sta Z Z.heap "jdk/internal/util/Preconditions" "SIOOBE_FORMATTER" "Ljava/util/function/BiFunction;" vFM) (hCS : ¬ zC = 0) (hlx : ¬ (255 : Int32) < p1) :
    MetFree l (⟨"java/lang/String", "valueOf", "(C)Ljava/lang/String;"⟩ : MethodName) (head1 (Jvm.Cond.code (⟨"java/lang/String", "valueOf", "(C)Ljava/lang/String;"⟩ : MethodName) jdk_42_method_139_code 1 (some (.object "java/lang/String")) :: ws) ({ frames := 2, cells := 2, slots := 5, locals := 27 } : Room)) (fun a U => a = #[(.int p1)] ∧ Z.Warmed39 U.vm ∧ U.heap = h0) (fun _ _ _ _ _ => True) (fun _ U o U' => ∃ v L, o = .returned v ∧ Q2 Z p1 zC vFM h0 n0 v U'.heap L ∧ FrameEnd U o U' L ({ frames := 2, cells := 2, slots := 5, locals := 27 } : Room).cells ({ frames := 2, cells := 2, slots := 5, locals := 27 } : Room).slots) := by
  refine MetFree.of_bodySF (plainFor_of_name pn_2) hisR ?_
  intro p e s m args below meth c s₁ Bd hml0 hP hK
  obtain ⟨rfl, hZ, hh⟩ := hP
  have hx := Bd.exec
  have hby := Bd.bytes
  have hml : c.maxLocals = 1 := hml0
  have hown : s.vm.findClass "java/lang/String" = some m.cls := findClass_of_methodNamed Bd.named
  have hnm := (name_of_methodNamed Bd.named Bd.method).1
  have X0 : Stand p l e ({ frames := 2, cells := 2, slots := 5, locals := 27 } : Room) s m #[(.int p1)] below meth c s₁ [] 0 0 := Stand.of_body Bd
  have e0 : s₁.heap = h0 := by rw [← hh, Bd.state]; rfl
  have N0 := Fr.nil n0
  have pre0 : ∀ t, Steps p.tables e below (s₁.setTop (mkF m 0 #[.val (.int p1)] [])) t → Steps p.tables e below (s₁.setTop (entryFrame m #[(.int p1)] 1)) t := fun t k => castTop (ef_2 m p1) k
  have K0 := Keep.refl h0 []
  obtain ⟨T1, X1, e1, st1⟩ := getS2 X0 hx hZ hown (host := "") (Or.inl (hw _ (List.mem_of_getElem? (i := 9) rfl))) Via.refl e0 (S_COMPACT_STRINGS.ext O0.2) (g := (mkF m 0 #[.val (.int p1)] [])) rfl (hb hby d2_0)
  obtain ⟨_, _, ⟨T2, L2, k2, n2⟩, -, X2, ⟨Lc2, hQ2, l2, y2, z2⟩, st2⟩ := Jvm.LawKit.callS X1 hx (y := (⟨"java/lang/StringLatin1", "canEncode", "(C)Z"⟩ : MethodName)) hown (mvT hZ (hw _ (List.mem_of_getElem? (i := 10) rfl))) (mvT hZ (hw _ (List.mem_of_getElem? (i := 11) rfl))) (mvT hZ (hw _ (List.mem_of_getElem? (i := 12) rfl))) (mvT hZ (hw _ (List.mem_of_getElem? (i := 13) rfl))) (by decide) (backOf (W := 0) (rm3 l Z a0 hw [] p1 h0 n0 O0 hlx) hZ (hw _ (List.mem_of_getElem? (i := 13) rfl)) (hw _ (List.mem_of_getElem? (i := 12) rfl)) (by decide) (by decide)) (g := (mkF m 7 #[.val (.int p1)] [(.int p1)])) rfl (by rw [hml]; rfl) (argsL := [(.int p1)]) (rest := []) (lenOf pd_7 rfl) rfl (by show 2 * 0 + _ ≤ _; exact Nat.le_of_eq rfl) (hb hby d2_7) (fun _ _ => ⟨rfl, e1, (by decide : 0 + 0 ≤ _), (by decide : 0 + 0 ≤ _)⟩)
  dsimp only [Pt.U, Pt.locs, Pt.cells, Pt.slots] at X2 l2 y2 z2 st2 hQ2
  subst l2 y2 z2
  obtain ⟨rfl, N2q, e2⟩ := hQ2
  have N2 := Fr.app N0 N2q
  obtain ⟨T3, h3, X3, e3, E3, A3, D3, -, st3⟩ := newO X2 hx hZ hown (hw _ (List.mem_of_getElem? (i := 14) rfl)) (hw _ (List.mem_of_getElem? (i := 15) rfl)) (hw _ (List.mem_of_getElem? (i := 7) rfl)) e2 (g := (mkF m 13 #[.val (.int p1)] [])) rfl (hb hby d2_13) (by decide) (by decide)
  obtain ⟨b3, g3⟩ : ∃ z, z = h0.size := ⟨_, rfl⟩
  rw [← g3] at A3 D3 st3
  have ge_b3 : n0 ≤ b3 := Nat.le_trans (own_osz O0) (Nat.le_of_eq g3.symm)
  have sz_b3 : h0.size ≤ b3 := Nat.le_trans K0.1 (Nat.le_of_eq g3.symm)
  have O4 := O0.ext E3
  have K3 := K0.ext E3
  have F_value_b3 : Fld Z h3 b3 "java/lang/String" "value" "[B" .null := D3 (Or.inr (hw _ (List.mem_of_getElem? (i := 28) rfl))) (ty := (.array .byte)) (by decide)
  have F_coder_b3 : Fld Z h3 b3 "java/lang/String" "coder" "B" (.int (0 : Int32)) := D3 (Or.inr (hw _ (List.mem_of_getElem? (i := 30) rfl))) (ty := .byte) (by decide)
  obtain ⟨_, _, ⟨T5, L5, k5, n5⟩, -, X5, ⟨Lc5, hQ5, l5, y5, z5⟩, st5⟩ := Jvm.LawKit.callS X3 hx (y := (⟨"java/lang/StringLatin1", "toBytes", "(C)[B"⟩ : MethodName)) hown (mvT hZ (hw _ (List.mem_of_getElem? (i := 16) rfl))) (mvT hZ (hw _ (List.mem_of_getElem? (i := 17) rfl))) (mvT hZ (hw _ (List.mem_of_getElem? (i := 12) rfl))) (mvT hZ (hw _ (List.mem_of_getElem? (i := 18) rfl))) (by decide) (backOf (W := 2) (rm4 l Z a0 hw [] p1 h3 n0 O4 ) hZ (hw _ (List.mem_of_getElem? (i := 18) rfl)) (hw _ (List.mem_of_getElem? (i := 12) rfl)) (by decide) (by decide)) (g := (mkF m 18 #[.val (.int p1)] [(.int p1), (.ref b3), (.ref b3)])) rfl (by rw [hml]; rfl) (argsL := [(.int p1)]) (rest := [(.ref b3), (.ref b3)]) (lenOf pd_8 rfl) rfl (by show 2 * 0 + _ ≤ _; exact Nat.le_of_eq rfl) (hb hby d2_18) (fun _ _ => ⟨rfl, e3, (by decide : 1 + 1 ≤ _), (by decide : 4 + 1 ≤ _)⟩)
  dsimp only [Pt.U, Pt.locs, Pt.cells, Pt.slots] at X5 l5 y5 z5 st5 hQ5
  subst l5 y5 z5
  obtain ⟨r_5, kb_5, rfl, N5q, K5q, O5, f5_0, f5_1, f5_2⟩ := hQ5
  have N5 := Fr.app N2 N5q
  have K5 := K3.trans K5q all0
  obtain ⟨_, _, ⟨T6, L6, k6, n6⟩, -, X6, ⟨Lc6, hQ6, l6, y6, z6⟩, st6⟩ := X5.specialBack hx (y := (⟨"java/lang/String", "<init>", "([BB)V"⟩ : MethodName)) rfl hown (mvT hZ (hw _ (List.mem_of_getElem? (i := 20) rfl))) (mvT hZ (hw _ (List.mem_of_getElem? (i := 21) rfl))) (mvT hZ (hw _ (List.mem_of_getElem? (i := 23) rfl))) (by decide) (backOf (W := 1) (rm5 l Z a0 hw [] b3 r_5 T5.heap n0 O5 (A3.keep K5q) (F_value_b3.keep K5q nin0) (F_coder_b3.keep K5q nin0) ge_b3) hZ (hw _ (List.mem_of_getElem? (i := 23) rfl)) (hw _ (List.mem_of_getElem? (i := 7) rfl)) (by decide) (by decide)) (g := (mkF m 22 #[.val (.int p1)] [(.int (0 : Int32)), (.ref r_5), (.ref b3), (.ref b3)])) rfl (by rw [hml]; rfl) (Steps.refl _) (a := b3) (argsL := [(.ref r_5), (.int (0 : Int32))]) (rest := [(.ref b3)]) (lenOf pd_9 rfl) rfl (by show 2 * 0 + _ ≤ _; exact Nat.le_of_eq rfl) (hb hby d2_22) (fun _ _ => ⟨rfl, rfl, (by decide : 2 + 0 ≤ _), (by decide : 5 + 0 ≤ _)⟩)
  dsimp only [Pt.U, Pt.locs, Pt.cells, Pt.slots] at X6 l6 y6 z6 st6 hQ6
  subst l6 y6 z6
  obtain ⟨rfl, N6q, K6q, O6, f6_0, f6_1⟩ := hQ6
  have N6 := Fr.app N5 N6q
  have K6 := K5.trans K6q (allS (Or.inr sz_b3) all0)
  have sg7 : ∀ target, Steps p.tables e below (T6.setTop (mkF m 25 #[.val (.int p1)] [(.ref b3)])) target → Steps p.tables e below (s₁.setTop (mkF m 0 #[.val (.int p1)] [])) target := by
    intro target kt
    show Steps p.tables e below (s₁.setTop (mkF m 0 #[.val (.int p1)] [])) _
    refine st1 _ ?_
    show Steps p.tables e below (T1.setTop (mkF m 3 #[.val (.int p1)] [(.int zC)])) _
    refine XS.ifNo X1.here hx rfl (hb hby d2_3) rfl ((if0 _ _).trans (feq hCS).1) ?_
    show Steps p.tables e below (T1.setTop (mkF m 6 #[.val (.int p1)] [])) _
    refine XS.iloadN X1.here hx rfl (hb hby d2_6) rfl ?_
    show Steps p.tables e below (T1.setTop (mkF m 7 #[.val (.int p1)] [(.int p1)])) _
    refine st2 _ ?_
    show Steps p.tables e below (T2.setTop (mkF m 10 #[.val (.int p1)] [(.int (1 : Int32))])) _
    refine XS.ifNo X2.here hx rfl (hb hby d2_10) rfl ((if0 _ _).trans (feq (by decide : ¬ ((1 : Int32) = (0 : Int32)))).1) ?_
    show Steps p.tables e below (T2.setTop (mkF m 13 #[.val (.int p1)] [])) _
    refine st3 _ ?_
    show Steps p.tables e below (T3.setTop (mkF m 16 #[.val (.int p1)] [(.ref b3)])) _
    refine XS.dup X3.here hx rfl (hb hby d2_16) rfl rfl ?_
    show Steps p.tables e below (T3.setTop (mkF m 17 #[.val (.int p1)] [(.ref b3), (.ref b3)])) _
    refine XS.iloadN X3.here hx rfl (hb hby d2_17) rfl ?_
    show Steps p.tables e below (T3.setTop (mkF m 18 #[.val (.int p1)] [(.int p1), (.ref b3), (.ref b3)])) _
    refine st5 _ ?_
    show Steps p.tables e below (T5.setTop (mkF m 21 #[.val (.int p1)] [(.ref r_5), (.ref b3), (.ref b3)])) _
    refine XS.iconst X5.here hx rfl (hb hby d2_21) ?_
    show Steps p.tables e below (T5.setTop (mkF m 22 #[.val (.int p1)] [(.int (0 : Int32)), (.ref r_5), (.ref b3), (.ref b3)])) _
    refine st6.trans ?_
    exact kt
  obtain ⟨fs, hr, hrun, hended, hW, hsame⟩ := X6.leave (v := some (.ref b3)) (fun h => by rw [Bd.returns] at h; cases h)
  refine ⟨_, _, pre0 _ (sg7 _ (?_)), hrun, hended, _, _, rfl, ?_, ⟨_, rfl⟩, hW, hsame.mono (by decide) (by decide)⟩
  · show Steps p.tables e below (T6.setTop (mkF m 25 #[.val (.int p1)] [(.ref b3)])) _
    jvm_step X6.here [X6.here.top, hx, (hb hby d2_25), X6.method', Bd.returns, Value.isRef, FieldType.isReference]
    first | (intro acts; rw [hr _ acts rfl rfl rfl]) | rw [hr _ _ rfl rfl rfl]
    exact Steps.refl _
  · show Q2 Z p1 zC vFM h0 n0 _ T6.heap _
    exact ⟨b3, r_5, kb_5, rfl, N6, K6, O6, ge_b3, sz_b3, f5_0, (Nat.le_trans K3.1 f5_1), ((A3.keep K5q).keep K6q), f6_0, f6_1, (f5_2.keep K6q (ninS (Ne.symm (Nat.ne_of_lt (Nat.lt_of_lt_of_le A3.lt f5_1))) nin0))⟩
def Q1 (Z : State) (p1 : Int32) (h0 : Heap) (n0 : Nat) (v : Option Value) (h : Heap) (L : List Loc) : Prop := v = some (.int (((33 : Int32) + (p1 % (94 : Int32))).toUInt32.toUInt16.toUInt32.toInt32)) ∧ Fr n0 L ∧ h = h0
theorem ef_1 (m : MethodId) (x0 : Int32) : entryFrame m #[(.int x0)] 1 = mkF m 0 #[.val (.int x0)] [] := by first | (simp [entryFrame, mkF, argsToLocals, Value.category]; done) | rfl
set_option maxRecDepth 65536 in
set_option maxHeartbeats 40000000 in
theorem rm1 (l : Launch) (Z : State) (a0 : Array Value) (hw : ∀ d ∈ tables_1, d.before a0 Z = true) (ws : List Jvm.Cond) (p1 : Int32) (h0 : Heap) (n0 : Nat) (O0 : Old Z n0 h0) :
    MetFree l (⟨"com/example/muninn/muninn/store/NodeEqualsPinLaw", "ch", "(I)C"⟩ : MethodName) (head1 (Jvm.Cond.code (⟨"com/example/muninn/muninn/store/NodeEqualsPinLaw", "ch", "(I)C"⟩ : MethodName) method_2_code 1 (some .char) :: ws) ({ frames := 0, cells := 0, slots := 0, locals := 0 } : Room)) (fun a U => a = #[(.int p1)] ∧ Z.Warmed39 U.vm ∧ U.heap = h0) (fun _ _ _ _ _ => True) (fun _ U o U' => ∃ v L, o = .returned v ∧ Q1 Z p1 h0 n0 v U'.heap L ∧ FrameEnd U o U' L ({ frames := 0, cells := 0, slots := 0, locals := 0 } : Room).cells ({ frames := 0, cells := 0, slots := 0, locals := 0 } : Room).slots) := by
  refine MetFree.of_bodySF (plainFor_of_name pn_4) hisR ?_
  intro p e s m args below meth c s₁ Bd hml0 hP hK
  obtain ⟨rfl, hZ, hh⟩ := hP
  have hx := Bd.exec
  have hby := Bd.bytes
  have hml : c.maxLocals = 1 := hml0
  have hown : s.vm.findClass "com/example/muninn/muninn/store/NodeEqualsPinLaw" = some m.cls := findClass_of_methodNamed Bd.named
  have hnm := (name_of_methodNamed Bd.named Bd.method).1
  have X0 : Stand p l e ({ frames := 0, cells := 0, slots := 0, locals := 0 } : Room) s m #[(.int p1)] below meth c s₁ [] 0 0 := Stand.of_body Bd
  have e0 : s₁.heap = h0 := by rw [← hh, Bd.state]; rfl
  have N0 := Fr.nil n0
  have pre0 : ∀ t, Steps p.tables e below (s₁.setTop (mkF m 0 #[.val (.int p1)] [])) t → Steps p.tables e below (s₁.setTop (entryFrame m #[(.int p1)] 1)) t := fun t k => castTop (ef_1 m p1) k
  have sg1 : ∀ target, Steps p.tables e below (s₁.setTop (mkF m 8 #[.val (.int p1)] [(.int (((33 : Int32) + (p1 % (94 : Int32))).toUInt32.toUInt16.toUInt32.toInt32))])) target → Steps p.tables e below (s₁.setTop (mkF m 0 #[.val (.int p1)] [])) target := by
    intro target kt
    show Steps p.tables e below (s₁.setTop (mkF m 0 #[.val (.int p1)] [])) _
    refine XS.bipush X0.here hx rfl (hb hby d1_0) ?_
    show Steps p.tables e below (s₁.setTop (mkF m 2 #[.val (.int p1)] [(.int (33 : Int32))])) _
    refine XS.iloadN X0.here hx rfl (hb hby d1_2) rfl ?_
    show Steps p.tables e below (s₁.setTop (mkF m 3 #[.val (.int p1)] [(.int p1), (.int (33 : Int32))])) _
    refine XS.bipush X0.here hx rfl (hb hby d1_3) ?_
    show Steps p.tables e below (s₁.setTop (mkF m 5 #[.val (.int p1)] [(.int (94 : Int32)), (.int p1), (.int (33 : Int32))])) _
    refine iremM (g := (mkF m 5 #[.val (.int p1)] [(.int (94 : Int32)), (.int p1), (.int (33 : Int32))])) X0 hx rfl (hb hby d1_5) rfl (by decide) ?_
    show Steps p.tables e below (s₁.setTop (mkF m 6 #[.val (.int p1)] [(.int (p1 % (94 : Int32))), (.int (33 : Int32))])) _
    refine XS.iadd X0.here hx rfl (hb hby d1_6) rfl ?_
    show Steps p.tables e below (s₁.setTop (mkF m 7 #[.val (.int p1)] [(.int ((33 : Int32) + (p1 % (94 : Int32))))])) _
    refine XS.i2c X0.here hx rfl (hb hby d1_7) rfl ?_
    exact kt
  have hnar : nar .char (((33 : Int32) + (p1 % (94 : Int32))).toUInt32.toUInt16.toUInt32.toInt32) = (((33 : Int32) + (p1 % (94 : Int32))).toUInt32.toUInt16.toUInt32.toInt32) := own_nar16 _
  obtain ⟨fs, hr, hrun, hended, hW, hsame⟩ := X0.leave (v := some (.int (((33 : Int32) + (p1 % (94 : Int32))).toUInt32.toUInt16.toUInt32.toInt32))) (fun h => by rw [Bd.returns] at h; cases h)
  rw [← hnar] at hr
  refine ⟨_, _, pre0 _ (sg1 _ (?_)), hrun, hended, _, _, rfl, ?_, ⟨_, rfl⟩, hW, hsame.mono (by decide) (by decide)⟩
  · show Steps p.tables e below (s₁.setTop (mkF m 8 #[.val (.int p1)] [(.int (((33 : Int32) + (p1 % (94 : Int32))).toUInt32.toUInt16.toUInt32.toInt32))])) _
    exact retN X0 hx (t := .char) Bd.returns (by simp) (hb hby d1_8) hr
  · show Q1 Z p1 h0 n0 _ s₁.heap _
    rw [e0]
    exact ⟨rfl, N0, rfl⟩
def Q12 (Z : State) (a1 : Addr) (p2 : Int32) (cs : List Int32) (zC : Int32) (wE : Addr) (wA : Addr) (wG : Addr) (vFM : Value) (t1 : Addr) (kb1 : ClassId) (h0 : Heap) (n0 : Nat) (v : Option Value) (h : Heap) (L : List Loc) : Prop := ∃ r : Addr, v = some (.ref r) ∧ Fr n0 L ∧ Keep h0 h [] ∧ Old Z n0 h ∧ n0 ≤ r ∧ h0.size ≤ r ∧ Exa Z h r "com/example/muninn/muninn/store/Node" ∧ Fld Z h r "com/example/muninn/muninn/store/Node" "id" "Ljava/lang/String;" (.ref a1) ∧ Fld Z h r "com/example/muninn/muninn/store/Node" "kind" "Lcom/example/muninn/muninn/store/NodeKind;" (own_kv p2 wE wA wG)
theorem ef_12 (m : MethodId) (x0 : Addr) (x1 : Int32) : entryFrame m #[(.ref x0), (.int x1)] 2 = mkF m 0 #[.val (.ref x0), .val (.int x1)] [] := by first | (simp [entryFrame, mkF, argsToLocals, Value.category]; done) | rfl
set_option maxRecDepth 65536 in
set_option maxHeartbeats 40000000 in
theorem rm12 (l : Launch) (Z : State) (a0 : Array Value) (hw : ∀ d ∈ tables_1, d.before a0 Z = true) (ws : List Jvm.Cond) (a1 : Addr) (p2 : Int32) (cs : List Int32) (zC : Int32) (wE : Addr) (wA : Addr) (wG : Addr) (vFM : Value) (t1 : Addr) (kb1 : ClassId) (h0 : Heap) (n0 : Nat) (O0 : Old Z n0 h0) (S_COMPACT_STRINGS : Sta Z Z.heap "java/lang/String" "COMPACT_STRINGS" "Z" (.int zC)) (S_SIOOBE_FORMATTER : Sta Z Z.heap "jdk/internal/util/Preconditions" "SIOOBE_FORMATTER" "Ljava/util/function/BiFunction;" vFM) (S_ENTITY : Sta Z Z.heap "com/example/muninn/muninn/store/NodeKind" "ENTITY" "Lcom/example/muninn/muninn/store/NodeKind;" (.ref wE)) (S_ACTIVITY : Sta Z Z.heap "com/example/muninn/muninn/store/NodeKind" "ACTIVITY" "Lcom/example/muninn/muninn/store/NodeKind;" (.ref wA)) (S_AGENT : Sta Z Z.heap "com/example/muninn/muninn/store/NodeKind" "AGENT" "Lcom/example/muninn/muninn/store/NodeKind;" (.ref wG)) (hCS : ¬ zC = 0) (hFM : vFM.isRef = true) (hXE : Exa Z Z.heap wE "com/example/muninn/muninn/store/NodeKind") (hXA : Exa Z Z.heap wA "com/example/muninn/muninn/store/NodeKind") (hXG : Exa Z Z.heap wG "com/example/muninn/muninn/store/NodeKind") (E_a1 : Exa Z h0 a1 "java/lang/String") (Fc_a1 : Fld Z h0 a1 "java/lang/String" "coder" "B" (.int (0 : Int32))) (Fv_a1 : Fld Z h0 a1 "java/lang/String" "value" "[B" (.ref t1)) (V_a1 : Arv Z h0 t1 kb1 .byte (Int32.ofNat (cs).length) (strV cs) (.int 0)) (lat1 : Lat cs) (vis : own_Vis cs) :
    MetFree l (⟨"com/example/muninn/muninn/store/NodeEqualsPinLaw", "mk", "(Ljava/lang/String;I)Lcom/example/muninn/muninn/store/Node;"⟩ : MethodName) (head1 (Jvm.Cond.code (⟨"com/example/muninn/muninn/store/NodeEqualsPinLaw", "mk", "(Ljava/lang/String;I)Lcom/example/muninn/muninn/store/Node;"⟩ : MethodName) method_3_code 2 (some (.object "com/example/muninn/muninn/store/Node")) :: ws) ({ frames := 7, cells := 7, slots := 66, locals := 97 } : Room)) (fun a U => a = #[(.ref a1), (.int p2)] ∧ Z.Warmed39 U.vm ∧ U.heap = h0 ∧ CHv Z own_EL U.vm h0) (fun _ _ _ _ _ => True) (fun _ U o U' => ∃ v L, o = .returned v ∧ Q12 Z a1 p2 cs zC wE wA wG vFM t1 kb1 h0 n0 v U'.heap L ∧ CHr Z own_EL U.vm U.heap U'.vm U'.heap ∧ ReturnedEndW U o U' L ({ frames := 7, cells := 7, slots := 66, locals := 97 } : Room).cells ({ frames := 7, cells := 7, slots := 66, locals := 97 } : Room).slots) := by
  refine MetFree.of_bodySF (plainFor_of_name pn_4) hisR ?_
  intro p e s m args below meth c s₁ Bd hml0 hP hK
  obtain ⟨rfl, hZ, hh, hCH⟩ := hP
  have hx := Bd.exec
  have hby := Bd.bytes
  have hml : c.maxLocals = 2 := hml0
  have hown : s.vm.findClass "com/example/muninn/muninn/store/NodeEqualsPinLaw" = some m.cls := findClass_of_methodNamed Bd.named
  have hnm := (name_of_methodNamed Bd.named Bd.method).1
  have X0 : Stand p l e ({ frames := 7, cells := 7, slots := 66, locals := 97 } : Room) (s.setVm s.vm) m #[(.ref a1), (.int p2)] below meth c s₁ [] 0 0 := Stand.of_body Bd
  have e0 : s₁.heap = h0 := by rw [← hh, Bd.state]; rfl
  have N0 := Fr.nil n0
  have pre0 : ∀ t, Steps p.tables e below (s₁.setTop (mkF m 0 #[.val (.ref a1), .val (.int p2)] [])) t → Steps p.tables e below (s₁.setTop (entryFrame m #[(.ref a1), (.int p2)] 2)) t := fun t k => castTop (ef_12 m a1 p2) k
  have Y0 : s.Since s.vm h0.size := (State.WarmedH.refl s).since h0.size
  have Yk0 : h0.size ≤ h0.size := Nat.le_refl _
  have CR0 : CHr Z own_EL s.vm h0 s.vm h0 := CHr.refl hCH
  have hEL := own_EW hw
  have hSA := own_SA hw
  have K0 := Keep.refl h0 []
  have sg1 : ∀ target, Steps p.tables e below (s₁.setTop (mkF m 2 #[.val (.ref a1), .val (.int p2)] [(.int (1 : Int32)), (.int p2)])) target → Steps p.tables e below (s₁.setTop (mkF m 0 #[.val (.ref a1), .val (.int p2)] [])) target := by
    intro target kt
    show Steps p.tables e below (s₁.setTop (mkF m 0 #[.val (.ref a1), .val (.int p2)] [])) _
    refine XS.iloadN X0.here hx rfl (hb hby d12_0) rfl ?_
    show Steps p.tables e below (s₁.setTop (mkF m 1 #[.val (.ref a1), .val (.int p2)] [(.int p2)])) _
    refine XS.iconst X0.here hx rfl (hb hby d12_1) ?_
    exact kt
  by_cases hc2 : p2 = (1 : Int32)
  · obtain ⟨T3, h3, X3, e3, E3, A3, D3, -, st3⟩ := newO X0 hx hZ hown (hw _ (List.mem_of_getElem? (i := 52) rfl)) (hw _ (List.mem_of_getElem? (i := 53) rfl)) (hw _ (List.mem_of_getElem? (i := 54) rfl)) e0 (g := (mkF m 5 #[.val (.ref a1), .val (.int p2)] [])) rfl (hb hby d12_5) (by decide) (by decide)
    obtain ⟨b3, g3⟩ : ∃ z, z = h0.size := ⟨_, rfl⟩
    rw [← g3] at A3 D3 st3
    have ge_b3 : n0 ≤ b3 := Nat.le_trans (own_osz O0) (Nat.le_of_eq g3.symm)
    have sz_b3 : h0.size ≤ b3 := Nat.le_trans K0.1 (Nat.le_of_eq g3.symm)
    have O4 := O0.ext E3
    have K3 := K0.ext E3
    have CR5 := CR0.trans (CHr.ext E3 CR0.1)
    have F_id_b3 : Fld Z h3 b3 "com/example/muninn/muninn/store/Node" "id" "Ljava/lang/String;" .null := D3 (Or.inr (hw _ (List.mem_of_getElem? (i := 121) rfl))) (ty := (.object "java/lang/String")) (by decide)
    have F_kind_b3 : Fld Z h3 b3 "com/example/muninn/muninn/store/Node" "kind" "Lcom/example/muninn/muninn/store/NodeKind;" .null := D3 (Or.inr (hw _ (List.mem_of_getElem? (i := 123) rfl))) (ty := (.object "com/example/muninn/muninn/store/NodeKind")) (by decide)
    obtain ⟨T6, X6, e6, st6⟩ := getS2 X3 hx hZ hown (host := "") (Or.inl (hw _ (List.mem_of_getElem? (i := 148) rfl))) Via.refl e3 (S_ENTITY.ext O4.2) (g := (mkF m 10 #[.val (.ref a1), .val (.int p2)] [(.ref a1), (.ref b3), (.ref b3)])) rfl (hb hby d12_10)
    obtain ⟨_, _, ⟨T7, L7, k7, n7⟩, -, X7, Y7, G7, ⟨Lc7, hQ7, l7, y7, z7, C7⟩, st7⟩ := X6.specialBackS hx (y := (⟨"com/example/muninn/muninn/store/Node", "<init>", "(Ljava/lang/String;Lcom/example/muninn/muninn/store/NodeKind;)V"⟩ : MethodName)) rfl hown (mvT hZ (hw _ (List.mem_of_getElem? (i := 142) rfl))) (mvT hZ (hw _ (List.mem_of_getElem? (i := 143) rfl))) (mvT hZ (hw _ (List.mem_of_getElem? (i := 144) rfl))) (by decide) (backOfSH (W := 1) (rm30 l Z a0 hw [] b3 a1 wE cs zC vFM t1 kb1 h3 n0 O4 S_COMPACT_STRINGS S_SIOOBE_FORMATTER hCS hFM A3 F_id_b3 F_kind_b3 ge_b3 (E_a1.ext E3) (Fc_a1.ext E3) (Fv_a1.ext E3) (V_a1.ext E3) lat1 vis ((hXE.ext O0.2).ext E3)) hZ (hw _ (List.mem_of_getElem? (i := 144) rfl)) (hw _ (List.mem_of_getElem? (i := 54) rfl)) (by decide) (by decide) hEL CR5.1) (g := (mkF m 13 #[.val (.ref a1), .val (.int p2)] [(.ref wE), (.ref a1), (.ref b3), (.ref b3)])) rfl (by rw [hml]; rfl) (Steps.refl _) (a := b3) (argsL := [(.ref a1), (.ref wE)]) (rest := [(.ref b3)]) (lenOf pd_10 rfl) rfl (by show 2 * 0 + _ ≤ _; exact Nat.le_of_eq rfl) (hb hby d12_13) (fun _ _ => ⟨rfl, e6, (by decide : 1 + 6 ≤ _), (by decide : 2 + 64 ≤ _)⟩)
    dsimp only [Pt.U, Pt.locs, Pt.cells, Pt.slots] at X7 l7 y7 z7 st7 hQ7 Y7 G7 C7
    subst l7 y7 z7
    obtain ⟨rfl, N7q, K7q, O7, f7_0, f7_1⟩ := hQ7
    have N7 := Fr.app N0 N7q
    obtain ⟨X7, Y7, hZ7, hown7⟩ := rebS Y0 (by rw [e6]; exact (Nat.le_trans Yk0 E3.1)) X7 Y7 G7 hZ hown
    have CR8 := CR5.trans (C7)
    have K7 := K3.trans K7q (allS (Or.inr sz_b3) all0)
    have sg9 : ∀ target, Steps p.tables e below (T7.setTop (mkF m 16 #[.val (.ref a1), .val (.int p2)] [(.ref b3)])) target → Steps p.tables e below (s₁.setTop (mkF m 2 #[.val (.ref a1), .val (.int p2)] [(.int (1 : Int32)), (.int p2)])) target := by
      intro target kt
      show Steps p.tables e below (s₁.setTop (mkF m 2 #[.val (.ref a1), .val (.int p2)] [(.int (1 : Int32)), (.int p2)])) _
      refine XS.icmpNo X0.here hx rfl (hb hby d12_2) rfl (teq hc2).2 ?_
      show Steps p.tables e below (s₁.setTop (mkF m 5 #[.val (.ref a1), .val (.int p2)] [])) _
      refine st3 _ ?_
      show Steps p.tables e below (T3.setTop (mkF m 8 #[.val (.ref a1), .val (.int p2)] [(.ref b3)])) _
      refine XS.dup X3.here hx rfl (hb hby d12_8) rfl rfl ?_
      show Steps p.tables e below (T3.setTop (mkF m 9 #[.val (.ref a1), .val (.int p2)] [(.ref b3), (.ref b3)])) _
      refine XS.aloadN X3.here hx rfl (hb hby d12_9) rfl rfl ?_
      show Steps p.tables e below (T3.setTop (mkF m 10 #[.val (.ref a1), .val (.int p2)] [(.ref a1), (.ref b3), (.ref b3)])) _
      refine st6 _ ?_
      show Steps p.tables e below (T6.setTop (mkF m 13 #[.val (.ref a1), .val (.int p2)] [(.ref wE), (.ref a1), (.ref b3), (.ref b3)])) _
      refine st7.trans ?_
      exact kt
    obtain ⟨fs, hr, hrun, hended, hRW⟩ := X7.leaveW Y7 (show _ ≤ T7.heap.size by exact (Nat.le_refl _)) (v := some (.ref b3)) (fun h => by rw [Bd.returns] at h; cases h)
    refine ⟨_, _, pre0 _ (sg1 _ (sg9 _ (?_))), hrun, hended, _, _, rfl, ?_, (by rw [hh]; show CHr Z own_EL s.vm h0 T7.vm T7.heap; exact CR8.trans (CHv.at X7 hZ7 hEL CR8.1)), hRW.1, hRW.2.1, hRW.2.2.1, hRW.2.2.2.mono (by decide) (by decide)⟩
    · show Steps p.tables e below (T7.setTop (mkF m 16 #[.val (.ref a1), .val (.int p2)] [(.ref b3)])) _
      jvm_step X7.here [X7.here.top, hx, (hb hby d12_16), X7.method', Bd.returns, Value.isRef, FieldType.isReference]
      first | (intro acts; rw [hr _ acts rfl rfl rfl]) | rw [hr _ _ rfl rfl rfl]
      exact Steps.refl _
    · show Q12 Z a1 p2 cs zC wE wA wG vFM t1 kb1 h0 n0 _ T7.heap _
      exact ⟨b3, rfl, N7, K7, O7, ge_b3, sz_b3, (A3.keep K7q), f7_0, (by rw [own_kv1 hc2]; exact f7_1)⟩
  · have sg10 : ∀ target, Steps p.tables e below (s₁.setTop (mkF m 19 #[.val (.ref a1), .val (.int p2)] [(.int (2 : Int32)), (.int p2)])) target → Steps p.tables e below (s₁.setTop (mkF m 2 #[.val (.ref a1), .val (.int p2)] [(.int (1 : Int32)), (.int p2)])) target := by
      intro target kt
      show Steps p.tables e below (s₁.setTop (mkF m 2 #[.val (.ref a1), .val (.int p2)] [(.int (1 : Int32)), (.int p2)])) _
      refine XS.icmpYes X0.here hx rfl (pc0 := 2) (pc' := 17) rfl (hb hby d12_2) rfl (feq hc2).2 (by decide) (by decide) ?_
      show Steps p.tables e below (s₁.setTop (mkF m 17 #[.val (.ref a1), .val (.int p2)] [])) _
      refine XS.iloadN X0.here hx rfl (hb hby d12_17) rfl ?_
      show Steps p.tables e below (s₁.setTop (mkF m 18 #[.val (.ref a1), .val (.int p2)] [(.int p2)])) _
      refine XS.iconst X0.here hx rfl (hb hby d12_18) ?_
      exact kt
    by_cases hc11 : p2 = (2 : Int32)
    · obtain ⟨T12, h12, X12, e12, E12, A12, D12, -, st12⟩ := newO X0 hx hZ hown (hw _ (List.mem_of_getElem? (i := 52) rfl)) (hw _ (List.mem_of_getElem? (i := 53) rfl)) (hw _ (List.mem_of_getElem? (i := 54) rfl)) e0 (g := (mkF m 22 #[.val (.ref a1), .val (.int p2)] [])) rfl (hb hby d12_22) (by decide) (by decide)
      obtain ⟨b12, g12⟩ : ∃ z, z = h0.size := ⟨_, rfl⟩
      rw [← g12] at A12 D12 st12
      have ge_b12 : n0 ≤ b12 := Nat.le_trans (own_osz O0) (Nat.le_of_eq g12.symm)
      have sz_b12 : h0.size ≤ b12 := Nat.le_trans K0.1 (Nat.le_of_eq g12.symm)
      have O13 := O0.ext E12
      have K12 := K0.ext E12
      have CR14 := CR0.trans (CHr.ext E12 CR0.1)
      have F_id_b12 : Fld Z h12 b12 "com/example/muninn/muninn/store/Node" "id" "Ljava/lang/String;" .null := D12 (Or.inr (hw _ (List.mem_of_getElem? (i := 121) rfl))) (ty := (.object "java/lang/String")) (by decide)
      have F_kind_b12 : Fld Z h12 b12 "com/example/muninn/muninn/store/Node" "kind" "Lcom/example/muninn/muninn/store/NodeKind;" .null := D12 (Or.inr (hw _ (List.mem_of_getElem? (i := 123) rfl))) (ty := (.object "com/example/muninn/muninn/store/NodeKind")) (by decide)
      obtain ⟨T15, X15, e15, st15⟩ := getS2 X12 hx hZ hown (host := "") (Or.inl (hw _ (List.mem_of_getElem? (i := 150) rfl))) Via.refl e12 (S_ACTIVITY.ext O13.2) (g := (mkF m 27 #[.val (.ref a1), .val (.int p2)] [(.ref a1), (.ref b12), (.ref b12)])) rfl (hb hby d12_27)
      obtain ⟨_, _, ⟨T16, L16, k16, n16⟩, -, X16, Y16, G16, ⟨Lc16, hQ16, l16, y16, z16, C16⟩, st16⟩ := X15.specialBackS hx (y := (⟨"com/example/muninn/muninn/store/Node", "<init>", "(Ljava/lang/String;Lcom/example/muninn/muninn/store/NodeKind;)V"⟩ : MethodName)) rfl hown (mvT hZ (hw _ (List.mem_of_getElem? (i := 142) rfl))) (mvT hZ (hw _ (List.mem_of_getElem? (i := 143) rfl))) (mvT hZ (hw _ (List.mem_of_getElem? (i := 144) rfl))) (by decide) (backOfSH (W := 1) (rm30 l Z a0 hw [] b12 a1 wA cs zC vFM t1 kb1 h12 n0 O13 S_COMPACT_STRINGS S_SIOOBE_FORMATTER hCS hFM A12 F_id_b12 F_kind_b12 ge_b12 (E_a1.ext E12) (Fc_a1.ext E12) (Fv_a1.ext E12) (V_a1.ext E12) lat1 vis ((hXA.ext O0.2).ext E12)) hZ (hw _ (List.mem_of_getElem? (i := 144) rfl)) (hw _ (List.mem_of_getElem? (i := 54) rfl)) (by decide) (by decide) hEL CR14.1) (g := (mkF m 30 #[.val (.ref a1), .val (.int p2)] [(.ref wA), (.ref a1), (.ref b12), (.ref b12)])) rfl (by rw [hml]; rfl) (Steps.refl _) (a := b12) (argsL := [(.ref a1), (.ref wA)]) (rest := [(.ref b12)]) (lenOf pd_10 rfl) rfl (by show 2 * 0 + _ ≤ _; exact Nat.le_of_eq rfl) (hb hby d12_30) (fun _ _ => ⟨rfl, e15, (by decide : 1 + 6 ≤ _), (by decide : 2 + 64 ≤ _)⟩)
      dsimp only [Pt.U, Pt.locs, Pt.cells, Pt.slots] at X16 l16 y16 z16 st16 hQ16 Y16 G16 C16
      subst l16 y16 z16
      obtain ⟨rfl, N16q, K16q, O16, f16_0, f16_1⟩ := hQ16
      have N16 := Fr.app N0 N16q
      obtain ⟨X16, Y16, hZ16, hown16⟩ := rebS Y0 (by rw [e15]; exact (Nat.le_trans Yk0 E12.1)) X16 Y16 G16 hZ hown
      have CR17 := CR14.trans (C16)
      have K16 := K12.trans K16q (allS (Or.inr sz_b12) all0)
      have sg18 : ∀ target, Steps p.tables e below (T16.setTop (mkF m 33 #[.val (.ref a1), .val (.int p2)] [(.ref b12)])) target → Steps p.tables e below (s₁.setTop (mkF m 19 #[.val (.ref a1), .val (.int p2)] [(.int (2 : Int32)), (.int p2)])) target := by
        intro target kt
        show Steps p.tables e below (s₁.setTop (mkF m 19 #[.val (.ref a1), .val (.int p2)] [(.int (2 : Int32)), (.int p2)])) _
        refine XS.icmpNo X0.here hx rfl (hb hby d12_19) rfl (teq hc11).2 ?_
        show Steps p.tables e below (s₁.setTop (mkF m 22 #[.val (.ref a1), .val (.int p2)] [])) _
        refine st12 _ ?_
        show Steps p.tables e below (T12.setTop (mkF m 25 #[.val (.ref a1), .val (.int p2)] [(.ref b12)])) _
        refine XS.dup X12.here hx rfl (hb hby d12_25) rfl rfl ?_
        show Steps p.tables e below (T12.setTop (mkF m 26 #[.val (.ref a1), .val (.int p2)] [(.ref b12), (.ref b12)])) _
        refine XS.aloadN X12.here hx rfl (hb hby d12_26) rfl rfl ?_
        show Steps p.tables e below (T12.setTop (mkF m 27 #[.val (.ref a1), .val (.int p2)] [(.ref a1), (.ref b12), (.ref b12)])) _
        refine st15 _ ?_
        show Steps p.tables e below (T15.setTop (mkF m 30 #[.val (.ref a1), .val (.int p2)] [(.ref wA), (.ref a1), (.ref b12), (.ref b12)])) _
        refine st16.trans ?_
        exact kt
      obtain ⟨fs, hr, hrun, hended, hRW⟩ := X16.leaveW Y16 (show _ ≤ T16.heap.size by exact (Nat.le_refl _)) (v := some (.ref b12)) (fun h => by rw [Bd.returns] at h; cases h)
      refine ⟨_, _, pre0 _ (sg1 _ (sg10 _ (sg18 _ (?_)))), hrun, hended, _, _, rfl, ?_, (by rw [hh]; show CHr Z own_EL s.vm h0 T16.vm T16.heap; exact CR17.trans (CHv.at X16 hZ16 hEL CR17.1)), hRW.1, hRW.2.1, hRW.2.2.1, hRW.2.2.2.mono (by decide) (by decide)⟩
      · show Steps p.tables e below (T16.setTop (mkF m 33 #[.val (.ref a1), .val (.int p2)] [(.ref b12)])) _
        jvm_step X16.here [X16.here.top, hx, (hb hby d12_33), X16.method', Bd.returns, Value.isRef, FieldType.isReference]
        first | (intro acts; rw [hr _ acts rfl rfl rfl]) | rw [hr _ _ rfl rfl rfl]
        exact Steps.refl _
      · show Q12 Z a1 p2 cs zC wE wA wG vFM t1 kb1 h0 n0 _ T16.heap _
        exact ⟨b12, rfl, N16, K16, O16, ge_b12, sz_b12, (A12.keep K16q), f16_0, (by rw [own_kv2 hc2 hc11]; exact f16_1)⟩
    · have sg19 : ∀ target, Steps p.tables e below (s₁.setTop (mkF m 36 #[.val (.ref a1), .val (.int p2)] [(.int (3 : Int32)), (.int p2)])) target → Steps p.tables e below (s₁.setTop (mkF m 19 #[.val (.ref a1), .val (.int p2)] [(.int (2 : Int32)), (.int p2)])) target := by
        intro target kt
        show Steps p.tables e below (s₁.setTop (mkF m 19 #[.val (.ref a1), .val (.int p2)] [(.int (2 : Int32)), (.int p2)])) _
        refine XS.icmpYes X0.here hx rfl (pc0 := 19) (pc' := 34) rfl (hb hby d12_19) rfl (feq hc11).2 (by decide) (by decide) ?_
        show Steps p.tables e below (s₁.setTop (mkF m 34 #[.val (.ref a1), .val (.int p2)] [])) _
        refine XS.iloadN X0.here hx rfl (hb hby d12_34) rfl ?_
        show Steps p.tables e below (s₁.setTop (mkF m 35 #[.val (.ref a1), .val (.int p2)] [(.int p2)])) _
        refine XS.iconst X0.here hx rfl (hb hby d12_35) ?_
        exact kt
      by_cases hc20 : p2 = (3 : Int32)
      · obtain ⟨T21, h21, X21, e21, E21, A21, D21, -, st21⟩ := newO X0 hx hZ hown (hw _ (List.mem_of_getElem? (i := 52) rfl)) (hw _ (List.mem_of_getElem? (i := 53) rfl)) (hw _ (List.mem_of_getElem? (i := 54) rfl)) e0 (g := (mkF m 39 #[.val (.ref a1), .val (.int p2)] [])) rfl (hb hby d12_39) (by decide) (by decide)
        obtain ⟨b21, g21⟩ : ∃ z, z = h0.size := ⟨_, rfl⟩
        rw [← g21] at A21 D21 st21
        have ge_b21 : n0 ≤ b21 := Nat.le_trans (own_osz O0) (Nat.le_of_eq g21.symm)
        have sz_b21 : h0.size ≤ b21 := Nat.le_trans K0.1 (Nat.le_of_eq g21.symm)
        have O22 := O0.ext E21
        have K21 := K0.ext E21
        have CR23 := CR0.trans (CHr.ext E21 CR0.1)
        have F_id_b21 : Fld Z h21 b21 "com/example/muninn/muninn/store/Node" "id" "Ljava/lang/String;" .null := D21 (Or.inr (hw _ (List.mem_of_getElem? (i := 121) rfl))) (ty := (.object "java/lang/String")) (by decide)
        have F_kind_b21 : Fld Z h21 b21 "com/example/muninn/muninn/store/Node" "kind" "Lcom/example/muninn/muninn/store/NodeKind;" .null := D21 (Or.inr (hw _ (List.mem_of_getElem? (i := 123) rfl))) (ty := (.object "com/example/muninn/muninn/store/NodeKind")) (by decide)
        obtain ⟨T24, X24, e24, st24⟩ := getS2 X21 hx hZ hown (host := "") (Or.inl (hw _ (List.mem_of_getElem? (i := 139) rfl))) Via.refl e21 (S_AGENT.ext O22.2) (g := (mkF m 44 #[.val (.ref a1), .val (.int p2)] [(.ref a1), (.ref b21), (.ref b21)])) rfl (hb hby d12_44)
        obtain ⟨_, _, ⟨T25, L25, k25, n25⟩, -, X25, Y25, G25, ⟨Lc25, hQ25, l25, y25, z25, C25⟩, st25⟩ := X24.specialBackS hx (y := (⟨"com/example/muninn/muninn/store/Node", "<init>", "(Ljava/lang/String;Lcom/example/muninn/muninn/store/NodeKind;)V"⟩ : MethodName)) rfl hown (mvT hZ (hw _ (List.mem_of_getElem? (i := 142) rfl))) (mvT hZ (hw _ (List.mem_of_getElem? (i := 143) rfl))) (mvT hZ (hw _ (List.mem_of_getElem? (i := 144) rfl))) (by decide) (backOfSH (W := 1) (rm30 l Z a0 hw [] b21 a1 wG cs zC vFM t1 kb1 h21 n0 O22 S_COMPACT_STRINGS S_SIOOBE_FORMATTER hCS hFM A21 F_id_b21 F_kind_b21 ge_b21 (E_a1.ext E21) (Fc_a1.ext E21) (Fv_a1.ext E21) (V_a1.ext E21) lat1 vis ((hXG.ext O0.2).ext E21)) hZ (hw _ (List.mem_of_getElem? (i := 144) rfl)) (hw _ (List.mem_of_getElem? (i := 54) rfl)) (by decide) (by decide) hEL CR23.1) (g := (mkF m 47 #[.val (.ref a1), .val (.int p2)] [(.ref wG), (.ref a1), (.ref b21), (.ref b21)])) rfl (by rw [hml]; rfl) (Steps.refl _) (a := b21) (argsL := [(.ref a1), (.ref wG)]) (rest := [(.ref b21)]) (lenOf pd_10 rfl) rfl (by show 2 * 0 + _ ≤ _; exact Nat.le_of_eq rfl) (hb hby d12_47) (fun _ _ => ⟨rfl, e24, (by decide : 1 + 6 ≤ _), (by decide : 2 + 64 ≤ _)⟩)
        dsimp only [Pt.U, Pt.locs, Pt.cells, Pt.slots] at X25 l25 y25 z25 st25 hQ25 Y25 G25 C25
        subst l25 y25 z25
        obtain ⟨rfl, N25q, K25q, O25, f25_0, f25_1⟩ := hQ25
        have N25 := Fr.app N0 N25q
        obtain ⟨X25, Y25, hZ25, hown25⟩ := rebS Y0 (by rw [e24]; exact (Nat.le_trans Yk0 E21.1)) X25 Y25 G25 hZ hown
        have CR26 := CR23.trans (C25)
        have K25 := K21.trans K25q (allS (Or.inr sz_b21) all0)
        have sg27 : ∀ target, Steps p.tables e below (T25.setTop (mkF m 50 #[.val (.ref a1), .val (.int p2)] [(.ref b21)])) target → Steps p.tables e below (s₁.setTop (mkF m 36 #[.val (.ref a1), .val (.int p2)] [(.int (3 : Int32)), (.int p2)])) target := by
          intro target kt
          show Steps p.tables e below (s₁.setTop (mkF m 36 #[.val (.ref a1), .val (.int p2)] [(.int (3 : Int32)), (.int p2)])) _
          refine XS.icmpNo X0.here hx rfl (hb hby d12_36) rfl (teq hc20).2 ?_
          show Steps p.tables e below (s₁.setTop (mkF m 39 #[.val (.ref a1), .val (.int p2)] [])) _
          refine st21 _ ?_
          show Steps p.tables e below (T21.setTop (mkF m 42 #[.val (.ref a1), .val (.int p2)] [(.ref b21)])) _
          refine XS.dup X21.here hx rfl (hb hby d12_42) rfl rfl ?_
          show Steps p.tables e below (T21.setTop (mkF m 43 #[.val (.ref a1), .val (.int p2)] [(.ref b21), (.ref b21)])) _
          refine XS.aloadN X21.here hx rfl (hb hby d12_43) rfl rfl ?_
          show Steps p.tables e below (T21.setTop (mkF m 44 #[.val (.ref a1), .val (.int p2)] [(.ref a1), (.ref b21), (.ref b21)])) _
          refine st24 _ ?_
          show Steps p.tables e below (T24.setTop (mkF m 47 #[.val (.ref a1), .val (.int p2)] [(.ref wG), (.ref a1), (.ref b21), (.ref b21)])) _
          refine st25.trans ?_
          exact kt
        obtain ⟨fs, hr, hrun, hended, hRW⟩ := X25.leaveW Y25 (show _ ≤ T25.heap.size by exact (Nat.le_refl _)) (v := some (.ref b21)) (fun h => by rw [Bd.returns] at h; cases h)
        refine ⟨_, _, pre0 _ (sg1 _ (sg10 _ (sg19 _ (sg27 _ (?_))))), hrun, hended, _, _, rfl, ?_, (by rw [hh]; show CHr Z own_EL s.vm h0 T25.vm T25.heap; exact CR26.trans (CHv.at X25 hZ25 hEL CR26.1)), hRW.1, hRW.2.1, hRW.2.2.1, hRW.2.2.2.mono (by decide) (by decide)⟩
        · show Steps p.tables e below (T25.setTop (mkF m 50 #[.val (.ref a1), .val (.int p2)] [(.ref b21)])) _
          jvm_step X25.here [X25.here.top, hx, (hb hby d12_50), X25.method', Bd.returns, Value.isRef, FieldType.isReference]
          first | (intro acts; rw [hr _ acts rfl rfl rfl]) | rw [hr _ _ rfl rfl rfl]
          exact Steps.refl _
        · show Q12 Z a1 p2 cs zC wE wA wG vFM t1 kb1 h0 n0 _ T25.heap _
          exact ⟨b21, rfl, N25, K25, O25, ge_b21, sz_b21, (A21.keep K25q), f25_0, (by rw [own_kv3 hc2 hc11 hc20]; exact f25_1)⟩
      · obtain ⟨T28, h28, X28, e28, E28, A28, D28, -, st28⟩ := newO X0 hx hZ hown (hw _ (List.mem_of_getElem? (i := 52) rfl)) (hw _ (List.mem_of_getElem? (i := 53) rfl)) (hw _ (List.mem_of_getElem? (i := 54) rfl)) e0 (g := (mkF m 51 #[.val (.ref a1), .val (.int p2)] [])) rfl (hb hby d12_51) (by decide) (by decide)
        obtain ⟨b28, g28⟩ : ∃ z, z = h0.size := ⟨_, rfl⟩
        rw [← g28] at A28 D28 st28
        have ge_b28 : n0 ≤ b28 := Nat.le_trans (own_osz O0) (Nat.le_of_eq g28.symm)
        have sz_b28 : h0.size ≤ b28 := Nat.le_trans K0.1 (Nat.le_of_eq g28.symm)
        have O29 := O0.ext E28
        have K28 := K0.ext E28
        have CR30 := CR0.trans (CHr.ext E28 CR0.1)
        have F_id_b28 : Fld Z h28 b28 "com/example/muninn/muninn/store/Node" "id" "Ljava/lang/String;" .null := D28 (Or.inr (hw _ (List.mem_of_getElem? (i := 121) rfl))) (ty := (.object "java/lang/String")) (by decide)
        have F_kind_b28 : Fld Z h28 b28 "com/example/muninn/muninn/store/Node" "kind" "Lcom/example/muninn/muninn/store/NodeKind;" .null := D28 (Or.inr (hw _ (List.mem_of_getElem? (i := 123) rfl))) (ty := (.object "com/example/muninn/muninn/store/NodeKind")) (by decide)
        obtain ⟨_, _, ⟨T31, L31, k31, n31⟩, -, X31, Y31, G31, ⟨Lc31, hQ31, l31, y31, z31, C31⟩, st31⟩ := X28.specialBackS hx (y := (⟨"com/example/muninn/muninn/store/Node", "<init>", "(Ljava/lang/String;)V"⟩ : MethodName)) rfl hown (mvT hZ (hw _ (List.mem_of_getElem? (i := 55) rfl))) (mvT hZ (hw _ (List.mem_of_getElem? (i := 56) rfl))) (mvT hZ (hw _ (List.mem_of_getElem? (i := 57) rfl))) (by decide) (backOfSH (W := 1) (rm13 l Z a0 hw [] b28 a1 cs zC vFM t1 kb1 h28 n0 O29 S_COMPACT_STRINGS S_SIOOBE_FORMATTER hCS hFM A28 F_id_b28 F_kind_b28 ge_b28 (E_a1.ext E28) (Fc_a1.ext E28) (Fv_a1.ext E28) (V_a1.ext E28) lat1 vis) hZ (hw _ (List.mem_of_getElem? (i := 57) rfl)) (hw _ (List.mem_of_getElem? (i := 54) rfl)) (by decide) (by decide) hEL CR30.1) (g := (mkF m 56 #[.val (.ref a1), .val (.int p2)] [(.ref a1), (.ref b28), (.ref b28)])) rfl (by rw [hml]; rfl) (Steps.refl _) (a := b28) (argsL := [(.ref a1)]) (rest := [(.ref b28)]) (lenOf pd_11 rfl) rfl (by show 2 * 0 + _ ≤ _; exact Nat.le_of_eq rfl) (hb hby d12_56) (fun _ _ => ⟨rfl, e28, (by decide : 1 + 4 ≤ _), (by decide : 2 + 44 ≤ _)⟩)
        dsimp only [Pt.U, Pt.locs, Pt.cells, Pt.slots] at X31 l31 y31 z31 st31 hQ31 Y31 G31 C31
        subst l31 y31 z31
        obtain ⟨rfl, N31q, K31q, O31, f31_0, f31_1⟩ := hQ31
        have N31 := Fr.app N0 N31q
        obtain ⟨X31, Y31, hZ31, hown31⟩ := rebS Y0 (by rw [e28]; exact (Nat.le_trans Yk0 E28.1)) X31 Y31 G31 hZ hown
        have CR32 := CR30.trans (C31)
        have K31 := K28.trans K31q (allS (Or.inr sz_b28) all0)
        have sg33 : ∀ target, Steps p.tables e below (T31.setTop (mkF m 59 #[.val (.ref a1), .val (.int p2)] [(.ref b28)])) target → Steps p.tables e below (s₁.setTop (mkF m 36 #[.val (.ref a1), .val (.int p2)] [(.int (3 : Int32)), (.int p2)])) target := by
          intro target kt
          show Steps p.tables e below (s₁.setTop (mkF m 36 #[.val (.ref a1), .val (.int p2)] [(.int (3 : Int32)), (.int p2)])) _
          refine XS.icmpYes X0.here hx rfl (pc0 := 36) (pc' := 51) rfl (hb hby d12_36) rfl (feq hc20).2 (by decide) (by decide) ?_
          show Steps p.tables e below (s₁.setTop (mkF m 51 #[.val (.ref a1), .val (.int p2)] [])) _
          refine st28 _ ?_
          show Steps p.tables e below (T28.setTop (mkF m 54 #[.val (.ref a1), .val (.int p2)] [(.ref b28)])) _
          refine XS.dup X28.here hx rfl (hb hby d12_54) rfl rfl ?_
          show Steps p.tables e below (T28.setTop (mkF m 55 #[.val (.ref a1), .val (.int p2)] [(.ref b28), (.ref b28)])) _
          refine XS.aloadN X28.here hx rfl (hb hby d12_55) rfl rfl ?_
          show Steps p.tables e below (T28.setTop (mkF m 56 #[.val (.ref a1), .val (.int p2)] [(.ref a1), (.ref b28), (.ref b28)])) _
          refine st31.trans ?_
          exact kt
        obtain ⟨fs, hr, hrun, hended, hRW⟩ := X31.leaveW Y31 (show _ ≤ T31.heap.size by exact (Nat.le_refl _)) (v := some (.ref b28)) (fun h => by rw [Bd.returns] at h; cases h)
        refine ⟨_, _, pre0 _ (sg1 _ (sg10 _ (sg19 _ (sg33 _ (?_))))), hrun, hended, _, _, rfl, ?_, (by rw [hh]; show CHr Z own_EL s.vm h0 T31.vm T31.heap; exact CR32.trans (CHv.at X31 hZ31 hEL CR32.1)), hRW.1, hRW.2.1, hRW.2.2.1, hRW.2.2.2.mono (by decide) (by decide)⟩
        · show Steps p.tables e below (T31.setTop (mkF m 59 #[.val (.ref a1), .val (.int p2)] [(.ref b28)])) _
          jvm_step X31.here [X31.here.top, hx, (hb hby d12_59), X31.method', Bd.returns, Value.isRef, FieldType.isReference]
          first | (intro acts; rw [hr _ acts rfl rfl rfl]) | rw [hr _ _ rfl rfl rfl]
          exact Steps.refl _
        · show Q12 Z a1 p2 cs zC wE wA wG vFM t1 kb1 h0 n0 _ T31.heap _
          exact ⟨b28, rfl, N31, K31, O31, ge_b28, sz_b28, (A28.keep K31q), f31_0, (by rw [own_kv4 hc2 hc11 hc20]; exact f31_1)⟩
def Q27_0 (Z : State) (a1 : Addr) (a2 : Addr) (s1 : Addr) (s2 : Addr) (cs : List Int32) (ds : List Int32) (k1 : Value) (k2 : Value) (zC : Int32) (t1 : Addr) (kb1 : ClassId) (t2 : Addr) (kb2 : ClassId) (h0 : Heap) (n0 : Nat) (v : Option Value) (h : Heap) (L : List Loc) : Prop := v = some (.int (if cs = ds then (if k1 = k2 then (1 : Int32) else (0 : Int32)) else (0 : Int32))) ∧ Fr n0 L ∧ h = h0
theorem ef_27_0 (m : MethodId) (x0 : Addr) (x1 : Addr) : entryFrame m #[(.ref x0), (.ref x1)] 3 = mkF m 0 #[.val (.ref x0), .val (.ref x1), .unset] [] := by first | (simp [entryFrame, mkF, argsToLocals, Value.category]; done) | rfl
set_option maxRecDepth 65536 in
set_option maxHeartbeats 40000000 in
theorem rm27_0 (l : Launch) (Z : State) (a0 : Array Value) (hw : ∀ d ∈ tables_1, d.before a0 Z = true) (ws : List Jvm.Cond) (a1 : Addr) (a2 : Addr) (s1 : Addr) (s2 : Addr) (cs : List Int32) (ds : List Int32) (k1 : Value) (k2 : Value) (zC : Int32) (t1 : Addr) (kb1 : ClassId) (t2 : Addr) (kb2 : ClassId) (h0 : Heap) (n0 : Nat) (O0 : Old Z n0 h0) (S_COMPACT_STRINGS : Sta Z Z.heap "java/lang/String" "COMPACT_STRINGS" "Z" (.int zC)) (hCS : ¬ zC = 0) (E_a1 : Exa Z h0 a1 "com/example/muninn/muninn/store/Node") (E_a2 : Exa Z h0 a2 "com/example/muninn/muninn/store/Node") (F_id_a1 : Fld Z h0 a1 "com/example/muninn/muninn/store/Node" "id" "Ljava/lang/String;" (.ref s1)) (F_id_a2 : Fld Z h0 a2 "com/example/muninn/muninn/store/Node" "id" "Ljava/lang/String;" (.ref s2)) (F_kind_a1 : Fld Z h0 a1 "com/example/muninn/muninn/store/Node" "kind" "Lcom/example/muninn/muninn/store/NodeKind;" k1) (F_kind_a2 : Fld Z h0 a2 "com/example/muninn/muninn/store/Node" "kind" "Lcom/example/muninn/muninn/store/NodeKind;" k2) (E_s1 : Exa Z h0 s1 "java/lang/String") (Fc_s1 : Fld Z h0 s1 "java/lang/String" "coder" "B" (.int (0 : Int32))) (Fv_s1 : Fld Z h0 s1 "java/lang/String" "value" "[B" (.ref t1)) (V_s1 : Arv Z h0 t1 kb1 .byte (Int32.ofNat (cs).length) (strV cs) (.int 0)) (lat1 : Lat cs) (E_s2 : Exa Z h0 s2 "java/lang/String") (Fc_s2 : Fld Z h0 s2 "java/lang/String" "coder" "B" (.int (0 : Int32))) (Fv_s2 : Fld Z h0 s2 "java/lang/String" "value" "[B" (.ref t2)) (V_s2 : Arv Z h0 t2 kb2 .byte (Int32.ofNat (ds).length) (strV ds) (.int 0)) (lat2 : Lat ds) (hk1 : k1.isRef = true) (hk2 : k2.isRef = true) :
    MetFree l (⟨"com/example/muninn/muninn/store/Node", "equals", "(Ljava/lang/Object;)Z"⟩ : MethodName) (head1 (Jvm.Cond.code (⟨"com/example/muninn/muninn/store/Node", "equals", "(Ljava/lang/Object;)Z"⟩ : MethodName) prog_58_method_14_code 3 (some .boolean) :: ws) ({ frames := 2, cells := 0, slots := 0, locals := 28 } : Room)) (fun a U => a = #[(.ref a1), (.ref a2)] ∧ Z.Warmed39 U.vm ∧ U.heap = h0) (fun _ _ _ _ _ => True) (fun _ U o U' => ∃ v L, o = .returned v ∧ Q27_0 Z a1 a2 s1 s2 cs ds k1 k2 zC t1 kb1 t2 kb2 h0 n0 v U'.heap L ∧ FrameEnd U o U' L ({ frames := 2, cells := 0, slots := 0, locals := 28 } : Room).cells ({ frames := 2, cells := 0, slots := 0, locals := 28 } : Room).slots) := by
  refine MetFree.of_bodySF (plainFor_of_name pn_1) hisR ?_
  intro p e s m args below meth c s₁ Bd hml0 hP hK
  obtain ⟨rfl, hZ, hh⟩ := hP
  have hx := Bd.exec
  have hby := Bd.bytes
  have hml : c.maxLocals = 3 := hml0
  have hown : s.vm.findClass "com/example/muninn/muninn/store/Node" = some m.cls := findClass_of_methodNamed Bd.named
  have hnm := (name_of_methodNamed Bd.named Bd.method).1
  have X0 : Stand p l e ({ frames := 2, cells := 0, slots := 0, locals := 28 } : Room) s m #[(.ref a1), (.ref a2)] below meth c s₁ [] 0 0 := Stand.of_body Bd
  have e0 : s₁.heap = h0 := by rw [← hh, Bd.state]; rfl
  have N0 := Fr.nil n0
  have pre0 : ∀ t, Steps p.tables e below (s₁.setTop (mkF m 0 #[.val (.ref a1), .val (.ref a2), .unset] [])) t → Steps p.tables e below (s₁.setTop (entryFrame m #[(.ref a1), (.ref a2)] 3)) t := fun t k => castTop (ef_27_0 m a1 a2) k
  obtain ⟨T1, X1, e1, st1⟩ := instY X0 hx hZ hown (hw _ (List.mem_of_getElem? (i := 129) rfl)) e0 (Ins.self E_a2) (g := (mkF m 1 #[.val (.ref a1), .val (.ref a2), .unset] [(.ref a2)])) rfl rfl (hb hby d27_1)
  obtain ⟨T2, X2, e2, st2⟩ := castY X1 hx hZ hown (hw _ (List.mem_of_getElem? (i := 129) rfl)) e1 (Ins.self E_a2) (g := (mkF m 8 #[.val (.ref a1), .val (.ref a2), .unset] [(.ref a2)])) rfl rfl (hb hby d27_8)
  obtain ⟨T3, X3, e3, st3⟩ := getF X2 hx hZ hown (host := "") (Or.inl (hw _ (List.mem_of_getElem? (i := 120) rfl))) Via.refl e2 F_id_a1 (g := (mkF m 13 #[.val (.ref a1), .val (.ref a2), .val (.ref a2)] [(.ref a1)])) rfl rfl (hb hby d27_13)
  obtain ⟨T4, X4, e4, st4⟩ := getF X3 hx hZ hown (host := "") (Or.inl (hw _ (List.mem_of_getElem? (i := 120) rfl))) Via.refl e3 F_id_a2 (g := (mkF m 17 #[.val (.ref a1), .val (.ref a2), .val (.ref a2)] [(.ref a2), (.ref s1)])) rfl rfl (hb hby d27_17)
  obtain ⟨cq5, kq5, q5a, q5b, q5c⟩ := isOf hZ e4 E_s1
  obtain ⟨vv5, _, ⟨T5, L5, k5, n5⟩, -, X5, ⟨Lc5, hQ5, l5, y5, z5⟩, st5⟩ := X4.virtualBack hx (y := (⟨"java/lang/String", "equals", "(Ljava/lang/Object;)Z"⟩ : MethodName)) (z := (⟨"java/lang/String", "equals", "(Ljava/lang/Object;)Z"⟩ : MethodName)) hown (mvT hZ (hw _ (List.mem_of_getElem? (i := 131) rfl))) (mvT hZ (hw _ (List.mem_of_getElem? (i := 132) rfl))) (notFace_of_selects (args := #[]) (mvT hZ (hw _ (List.mem_of_getElem? (i := 134) rfl)))) (mvT hZ (hw _ (List.mem_of_getElem? (i := 134) rfl))) (mvT hZ (hw _ (List.mem_of_getElem? (i := 133) rfl))) (by decide) (StrChars.Road.eqW (W := 0) hZ (own_we hw) (kI := 4) (hw _ (List.mem_of_getElem? (i := 15) rfl)) E_s1 Fv_s1 Fc_s1 V_s1 (own_cod lat1) (own_up lat1) lat1.2 E_s2 Fv_s2 Fc_s2 V_s2 (own_cod lat2) (own_up lat2) lat2.2 (S_COMPACT_STRINGS.ext O0.2) hCS (by decide) (by decide)) q5a q5c (g := (mkF m 20 #[.val (.ref a1), .val (.ref a2), .val (.ref a2)] [(.ref s2), (.ref s1)])) rfl (by rw [hml]; rfl) (Steps.refl _) (argsL := [(.ref s2)]) (rest := []) (lenOf pd_12 rfl) rfl (by show 2 * 0 + _ ≤ _; exact Nat.le_of_eq rfl) (hb hby d27_20) (fun _ _ => ⟨rfl, e4, (by decide : 0 + 0 ≤ _), (by decide : 0 + 0 ≤ _)⟩)
  dsimp only [Pt.U, Pt.locs, Pt.cells, Pt.slots] at X5 l5 y5 z5 st5 hQ5
  subst l5 y5 z5
  obtain ⟨hcase5, rfl, e5⟩ := hQ5
  obtain ⟨r5, hr5⟩ : ∃ z : Int32, z = (if cs = ds then (1 : Int32) else (0 : Int32)) := ⟨_, rfl⟩
  have hv5 : vv5 = some (Value.int r5) := by rw [hr5]; exact hcase5.elim (fun q => by rw [if_pos q.2]; exact q.1) (fun q => by rw [if_neg q.2]; exact q.1)
  subst hv5
  have N5 := Fr.app N0 (Fr.nil n0)
  have sg6 : ∀ target, Steps p.tables e below (T5.setTop (mkF m 23 #[.val (.ref a1), .val (.ref a2), .val (.ref a2)] [(.int r5)])) target → Steps p.tables e below (s₁.setTop (mkF m 0 #[.val (.ref a1), .val (.ref a2), .unset] [])) target := by
    intro target kt
    show Steps p.tables e below (s₁.setTop (mkF m 0 #[.val (.ref a1), .val (.ref a2), .unset] [])) _
    refine XS.aloadN X0.here hx rfl (hb hby d27_0) rfl rfl ?_
    show Steps p.tables e below (s₁.setTop (mkF m 1 #[.val (.ref a1), .val (.ref a2), .unset] [(.ref a2)])) _
    refine st1 _ ?_
    show Steps p.tables e below (T1.setTop (mkF m 4 #[.val (.ref a1), .val (.ref a2), .unset] [(.int (1 : Int32))])) _
    refine XS.ifNo X1.here hx rfl (hb hby d27_4) rfl ((if0 _ _).trans (feq (by decide : ¬ ((1 : Int32) = (0 : Int32)))).1) ?_
    show Steps p.tables e below (T1.setTop (mkF m 7 #[.val (.ref a1), .val (.ref a2), .unset] [])) _
    refine XS.aloadN X1.here hx rfl (hb hby d27_7) rfl rfl ?_
    show Steps p.tables e below (T1.setTop (mkF m 8 #[.val (.ref a1), .val (.ref a2), .unset] [(.ref a2)])) _
    refine st2 _ ?_
    show Steps p.tables e below (T2.setTop (mkF m 11 #[.val (.ref a1), .val (.ref a2), .unset] [(.ref a2)])) _
    refine XS.astoreN X2.here hx rfl (hb hby d27_11) rfl rfl (l' := #[.val (.ref a1), .val (.ref a2), .val (.ref a2)]) rfl ?_
    show Steps p.tables e below (T2.setTop (mkF m 12 #[.val (.ref a1), .val (.ref a2), .val (.ref a2)] [])) _
    refine XS.aloadN X2.here hx rfl (hb hby d27_12) rfl rfl ?_
    show Steps p.tables e below (T2.setTop (mkF m 13 #[.val (.ref a1), .val (.ref a2), .val (.ref a2)] [(.ref a1)])) _
    refine st3 _ ?_
    show Steps p.tables e below (T3.setTop (mkF m 16 #[.val (.ref a1), .val (.ref a2), .val (.ref a2)] [(.ref s1)])) _
    refine XS.aloadN X3.here hx rfl (hb hby d27_16) rfl rfl ?_
    show Steps p.tables e below (T3.setTop (mkF m 17 #[.val (.ref a1), .val (.ref a2), .val (.ref a2)] [(.ref a2), (.ref s1)])) _
    refine st4 _ ?_
    show Steps p.tables e below (T4.setTop (mkF m 20 #[.val (.ref a1), .val (.ref a2), .val (.ref a2)] [(.ref s2), (.ref s1)])) _
    refine st5.trans ?_
    exact kt
  by_cases hc7 : r5 = (0 : Int32)
  · have sg8 : ∀ target, Steps p.tables e below (T5.setTop (mkF m 42 #[.val (.ref a1), .val (.ref a2), .val (.ref a2)] [(.int (0 : Int32))])) target → Steps p.tables e below (T5.setTop (mkF m 23 #[.val (.ref a1), .val (.ref a2), .val (.ref a2)] [(.int r5)])) target := by
      intro target kt
      show Steps p.tables e below (T5.setTop (mkF m 23 #[.val (.ref a1), .val (.ref a2), .val (.ref a2)] [(.int r5)])) _
      refine XS.ifYes X5.here hx rfl (pc0 := 23) (pc' := 41) rfl (hb hby d27_23) rfl ((if0 _ _).trans (teq hc7).1) (by decide) (by decide) ?_
      show Steps p.tables e below (T5.setTop (mkF m 41 #[.val (.ref a1), .val (.ref a2), .val (.ref a2)] [])) _
      refine XS.iconst X5.here hx rfl (hb hby d27_41) ?_
      exact kt
    obtain ⟨fs, hr, hrun, hended, hW, hsame⟩ := X5.leave (v := some (.int (0 : Int32))) (fun h => by rw [Bd.returns] at h; cases h)
    refine ⟨_, _, pre0 _ (sg6 _ (sg8 _ (?_))), hrun, hended, _, _, rfl, ?_, ⟨_, rfl⟩, hW, hsame.mono (by decide) (by decide)⟩
    · show Steps p.tables e below (T5.setTop (mkF m 42 #[.val (.ref a1), .val (.ref a2), .val (.ref a2)] [(.int (0 : Int32))])) _
      exact retN X5 hx (t := .boolean) Bd.returns (by simp) (hb hby d27_42) hr
    · show Q27_0 Z a1 a2 s1 s2 cs ds k1 k2 zC t1 kb1 t2 kb2 h0 n0 _ T5.heap _
      rw [e5]
      exact ⟨(by rw [if_neg (own_e0 hr5 hc7)]), N5, rfl⟩
  · obtain ⟨T9, X9, e9, st9⟩ := getF X5 hx hZ hown (host := "") (Or.inl (hw _ (List.mem_of_getElem? (i := 122) rfl))) Via.refl e5 F_kind_a1 (g := (mkF m 27 #[.val (.ref a1), .val (.ref a2), .val (.ref a2)] [(.ref a1)])) rfl rfl (hb hby d27_27)
    obtain ⟨T10, X10, e10, st10⟩ := getF X9 hx hZ hown (host := "") (Or.inl (hw _ (List.mem_of_getElem? (i := 122) rfl))) Via.refl e9 F_kind_a2 (g := (mkF m 31 #[.val (.ref a1), .val (.ref a2), .val (.ref a2)] [(.ref a2), k1])) rfl rfl (hb hby d27_31)
    have sg11 : ∀ target, Steps p.tables e below (T10.setTop (mkF m 34 #[.val (.ref a1), .val (.ref a2), .val (.ref a2)] [k2, k1])) target → Steps p.tables e below (T5.setTop (mkF m 23 #[.val (.ref a1), .val (.ref a2), .val (.ref a2)] [(.int r5)])) target := by
      intro target kt
      show Steps p.tables e below (T5.setTop (mkF m 23 #[.val (.ref a1), .val (.ref a2), .val (.ref a2)] [(.int r5)])) _
      refine XS.ifNo X5.here hx rfl (hb hby d27_23) rfl ((if0 _ _).trans (feq hc7).1) ?_
      show Steps p.tables e below (T5.setTop (mkF m 26 #[.val (.ref a1), .val (.ref a2), .val (.ref a2)] [])) _
      refine XS.aloadN X5.here hx rfl (hb hby d27_26) rfl rfl ?_
      show Steps p.tables e below (T5.setTop (mkF m 27 #[.val (.ref a1), .val (.ref a2), .val (.ref a2)] [(.ref a1)])) _
      refine st9 _ ?_
      show Steps p.tables e below (T9.setTop (mkF m 30 #[.val (.ref a1), .val (.ref a2), .val (.ref a2)] [k1])) _
      refine XS.aloadN X9.here hx rfl (hb hby d27_30) rfl rfl ?_
      show Steps p.tables e below (T9.setTop (mkF m 31 #[.val (.ref a1), .val (.ref a2), .val (.ref a2)] [(.ref a2), k1])) _
      refine st10 _ ?_
      exact kt
    by_cases hc12 : k1 = k2
    · have sg13 : ∀ target, Steps p.tables e below (T10.setTop (mkF m 42 #[.val (.ref a1), .val (.ref a2), .val (.ref a2)] [(.int (1 : Int32))])) target → Steps p.tables e below (T10.setTop (mkF m 34 #[.val (.ref a1), .val (.ref a2), .val (.ref a2)] [k2, k1])) target := by
        intro target kt
        show Steps p.tables e below (T10.setTop (mkF m 34 #[.val (.ref a1), .val (.ref a2), .val (.ref a2)] [k2, k1])) _
        refine Jvm.RoadKit.acmp (g := (mkF m 34 #[.val (.ref a1), .val (.ref a2), .val (.ref a2)] [k2, k1])) X10 hx rfl hk1 hk2 (pc0 := 34) (pc' := 37) (same := true) rfl (hb hby d27_34) rfl (decide_eq_true hc12) (by decide) (by decide) ?_
        show Steps p.tables e below (T10.setTop (mkF m 37 #[.val (.ref a1), .val (.ref a2), .val (.ref a2)] [])) _
        refine XS.iconst X10.here hx rfl (hb hby d27_37) ?_
        show Steps p.tables e below (T10.setTop (mkF m 38 #[.val (.ref a1), .val (.ref a2), .val (.ref a2)] [(.int (1 : Int32))])) _
        refine XS.goto X10.here hx rfl (pc0 := 38) (pc' := 42) rfl (hb hby d27_38) (by decide) (by decide) ?_
        exact kt
      obtain ⟨fs, hr, hrun, hended, hW, hsame⟩ := X10.leave (v := some (.int (1 : Int32))) (fun h => by rw [Bd.returns] at h; cases h)
      refine ⟨_, _, pre0 _ (sg6 _ (sg11 _ (sg13 _ (?_)))), hrun, hended, _, _, rfl, ?_, ⟨_, rfl⟩, hW, hsame.mono (by decide) (by decide)⟩
      · show Steps p.tables e below (T10.setTop (mkF m 42 #[.val (.ref a1), .val (.ref a2), .val (.ref a2)] [(.int (1 : Int32))])) _
        exact retN X10 hx (t := .boolean) Bd.returns (by simp) (hb hby d27_42) hr
      · show Q27_0 Z a1 a2 s1 s2 cs ds k1 k2 zC t1 kb1 t2 kb2 h0 n0 _ T10.heap _
        rw [e10]
        exact ⟨(by rw [if_pos (own_e1 hr5 hc7), if_pos hc12]), N5, rfl⟩
    · have sg14 : ∀ target, Steps p.tables e below (T10.setTop (mkF m 42 #[.val (.ref a1), .val (.ref a2), .val (.ref a2)] [(.int (0 : Int32))])) target → Steps p.tables e below (T10.setTop (mkF m 34 #[.val (.ref a1), .val (.ref a2), .val (.ref a2)] [k2, k1])) target := by
        intro target kt
        show Steps p.tables e below (T10.setTop (mkF m 34 #[.val (.ref a1), .val (.ref a2), .val (.ref a2)] [k2, k1])) _
        refine Jvm.RoadKit.acmp (g := (mkF m 34 #[.val (.ref a1), .val (.ref a2), .val (.ref a2)] [k2, k1])) X10 hx rfl hk1 hk2 (pc0 := 34) (pc' := 41) (same := false) rfl (hb hby d27_34) rfl (decide_eq_false hc12) (by decide) (by decide) ?_
        show Steps p.tables e below (T10.setTop (mkF m 41 #[.val (.ref a1), .val (.ref a2), .val (.ref a2)] [])) _
        refine XS.iconst X10.here hx rfl (hb hby d27_41) ?_
        exact kt
      obtain ⟨fs, hr, hrun, hended, hW, hsame⟩ := X10.leave (v := some (.int (0 : Int32))) (fun h => by rw [Bd.returns] at h; cases h)
      refine ⟨_, _, pre0 _ (sg6 _ (sg11 _ (sg14 _ (?_)))), hrun, hended, _, _, rfl, ?_, ⟨_, rfl⟩, hW, hsame.mono (by decide) (by decide)⟩
      · show Steps p.tables e below (T10.setTop (mkF m 42 #[.val (.ref a1), .val (.ref a2), .val (.ref a2)] [(.int (0 : Int32))])) _
        exact retN X10 hx (t := .boolean) Bd.returns (by simp) (hb hby d27_42) hr
      · show Q27_0 Z a1 a2 s1 s2 cs ds k1 k2 zC t1 kb1 t2 kb2 h0 n0 _ T10.heap _
        rw [e10]
        exact ⟨(by rw [if_pos (own_e1 hr5 hc7), if_neg hc12]), N5, rfl⟩
def Q27_1 (Z : State) (a1 : Addr) (zC : Int32) (h0 : Heap) (n0 : Nat) (v : Option Value) (h : Heap) (L : List Loc) : Prop := v = some (.int (0 : Int32)) ∧ Fr n0 L ∧ h = h0
theorem ef_27_1 (m : MethodId) (x0 : Addr) : entryFrame m #[(.ref x0), .null] 3 = mkF m 0 #[.val (.ref x0), .val .null, .unset] [] := by first | (simp [entryFrame, mkF, argsToLocals, Value.category]; done) | rfl
set_option maxRecDepth 65536 in
set_option maxHeartbeats 40000000 in
theorem rm27_1 (l : Launch) (Z : State) (a0 : Array Value) (hw : ∀ d ∈ tables_1, d.before a0 Z = true) (ws : List Jvm.Cond) (a1 : Addr) (zC : Int32) (h0 : Heap) (n0 : Nat) (O0 : Old Z n0 h0) (S_COMPACT_STRINGS : Sta Z Z.heap "java/lang/String" "COMPACT_STRINGS" "Z" (.int zC)) (hCS : ¬ zC = 0) :
    MetFree l (⟨"com/example/muninn/muninn/store/Node", "equals", "(Ljava/lang/Object;)Z"⟩ : MethodName) (head1 (Jvm.Cond.code (⟨"com/example/muninn/muninn/store/Node", "equals", "(Ljava/lang/Object;)Z"⟩ : MethodName) prog_58_method_14_code 3 (some .boolean) :: ws) ({ frames := 0, cells := 0, slots := 0, locals := 0 } : Room)) (fun a U => a = #[(.ref a1), .null] ∧ Z.Warmed39 U.vm ∧ U.heap = h0) (fun _ _ _ _ _ => True) (fun _ U o U' => ∃ v L, o = .returned v ∧ Q27_1 Z a1 zC h0 n0 v U'.heap L ∧ FrameEnd U o U' L ({ frames := 0, cells := 0, slots := 0, locals := 0 } : Room).cells ({ frames := 0, cells := 0, slots := 0, locals := 0 } : Room).slots) := by
  refine MetFree.of_bodySF (plainFor_of_name pn_1) hisR ?_
  intro p e s m args below meth c s₁ Bd hml0 hP hK
  obtain ⟨rfl, hZ, hh⟩ := hP
  have hx := Bd.exec
  have hby := Bd.bytes
  have hml : c.maxLocals = 3 := hml0
  have hown : s.vm.findClass "com/example/muninn/muninn/store/Node" = some m.cls := findClass_of_methodNamed Bd.named
  have hnm := (name_of_methodNamed Bd.named Bd.method).1
  have X0 : Stand p l e ({ frames := 0, cells := 0, slots := 0, locals := 0 } : Room) s m #[(.ref a1), .null] below meth c s₁ [] 0 0 := Stand.of_body Bd
  have e0 : s₁.heap = h0 := by rw [← hh, Bd.state]; rfl
  have N0 := Fr.nil n0
  have pre0 : ∀ t, Steps p.tables e below (s₁.setTop (mkF m 0 #[.val (.ref a1), .val .null, .unset] [])) t → Steps p.tables e below (s₁.setTop (entryFrame m #[(.ref a1), .null] 3)) t := fun t k => castTop (ef_27_1 m a1) k
  have sg1 : ∀ target, Steps p.tables e below (s₁.setTop (mkF m 42 #[.val (.ref a1), .val .null, .unset] [(.int (0 : Int32))])) target → Steps p.tables e below (s₁.setTop (mkF m 0 #[.val (.ref a1), .val .null, .unset] [])) target := by
    intro target kt
    show Steps p.tables e below (s₁.setTop (mkF m 0 #[.val (.ref a1), .val .null, .unset] [])) _
    refine XS.aloadN X0.here hx rfl (hb hby d27_0) rfl rfl ?_
    show Steps p.tables e below (s₁.setTop (mkF m 1 #[.val (.ref a1), .val .null, .unset] [.null])) _
    refine X0.instanceofNull hx (g := (mkF m 1 #[.val (.ref a1), .val .null, .unset] [.null])) rfl rfl (hb hby d27_1) _ ?_
    show Steps p.tables e below (s₁.setTop (mkF m 4 #[.val (.ref a1), .val .null, .unset] [(.int (0 : Int32))])) _
    refine XS.ifYes X0.here hx rfl (pc0 := 4) (pc' := 41) rfl (hb hby d27_4) rfl ((if0 _ _).trans (teq (by decide : (0 : Int32) = (0 : Int32))).1) (by decide) (by decide) ?_
    show Steps p.tables e below (s₁.setTop (mkF m 41 #[.val (.ref a1), .val .null, .unset] [])) _
    refine XS.iconst X0.here hx rfl (hb hby d27_41) ?_
    exact kt
  obtain ⟨fs, hr, hrun, hended, hW, hsame⟩ := X0.leave (v := some (.int (0 : Int32))) (fun h => by rw [Bd.returns] at h; cases h)
  refine ⟨_, _, pre0 _ (sg1 _ (?_)), hrun, hended, _, _, rfl, ?_, ⟨_, rfl⟩, hW, hsame.mono (by decide) (by decide)⟩
  · show Steps p.tables e below (s₁.setTop (mkF m 42 #[.val (.ref a1), .val .null, .unset] [(.int (0 : Int32))])) _
    exact retN X0 hx (t := .boolean) Bd.returns (by simp) (hb hby d27_42) hr
  · show Q27_1 Z a1 zC h0 n0 _ s₁.heap _
    rw [e0]
    exact ⟨rfl, N0, rfl⟩
def Q27_2 (Z : State) (a1 : Addr) (a2 : Addr) (zC : Int32) (h0 : Heap) (n0 : Nat) (v : Option Value) (h : Heap) (L : List Loc) : Prop := v = some (.int (0 : Int32)) ∧ Fr n0 L ∧ h = h0
theorem ef_27_2 (m : MethodId) (x0 : Addr) (x1 : Addr) : entryFrame m #[(.ref x0), (.ref x1)] 3 = mkF m 0 #[.val (.ref x0), .val (.ref x1), .unset] [] := by first | (simp [entryFrame, mkF, argsToLocals, Value.category]; done) | rfl
set_option maxRecDepth 65536 in
set_option maxHeartbeats 40000000 in
theorem rm27_2 (l : Launch) (Z : State) (a0 : Array Value) (hw : ∀ d ∈ tables_1, d.before a0 Z = true) (ws : List Jvm.Cond) (a1 : Addr) (a2 : Addr) (zC : Int32) (h0 : Heap) (n0 : Nat) (O0 : Old Z n0 h0) (S_COMPACT_STRINGS : Sta Z Z.heap "java/lang/String" "COMPACT_STRINGS" "Z" (.int zC)) (hCS : ¬ zC = 0) (E_a2 : Exa Z h0 a2 "java/lang/String") :
    MetFree l (⟨"com/example/muninn/muninn/store/Node", "equals", "(Ljava/lang/Object;)Z"⟩ : MethodName) (head1 (Jvm.Cond.code (⟨"com/example/muninn/muninn/store/Node", "equals", "(Ljava/lang/Object;)Z"⟩ : MethodName) prog_58_method_14_code 3 (some .boolean) :: ws) ({ frames := 0, cells := 0, slots := 0, locals := 0 } : Room)) (fun a U => a = #[(.ref a1), (.ref a2)] ∧ Z.Warmed39 U.vm ∧ U.heap = h0) (fun _ _ _ _ _ => True) (fun _ U o U' => ∃ v L, o = .returned v ∧ Q27_2 Z a1 a2 zC h0 n0 v U'.heap L ∧ FrameEnd U o U' L ({ frames := 0, cells := 0, slots := 0, locals := 0 } : Room).cells ({ frames := 0, cells := 0, slots := 0, locals := 0 } : Room).slots) := by
  refine MetFree.of_bodySF (plainFor_of_name pn_1) hisR ?_
  intro p e s m args below meth c s₁ Bd hml0 hP hK
  obtain ⟨rfl, hZ, hh⟩ := hP
  have hx := Bd.exec
  have hby := Bd.bytes
  have hml : c.maxLocals = 3 := hml0
  have hown : s.vm.findClass "com/example/muninn/muninn/store/Node" = some m.cls := findClass_of_methodNamed Bd.named
  have hnm := (name_of_methodNamed Bd.named Bd.method).1
  have X0 : Stand p l e ({ frames := 0, cells := 0, slots := 0, locals := 0 } : Room) s m #[(.ref a1), (.ref a2)] below meth c s₁ [] 0 0 := Stand.of_body Bd
  have e0 : s₁.heap = h0 := by rw [← hh, Bd.state]; rfl
  have N0 := Fr.nil n0
  have pre0 : ∀ t, Steps p.tables e below (s₁.setTop (mkF m 0 #[.val (.ref a1), .val (.ref a2), .unset] [])) t → Steps p.tables e below (s₁.setTop (entryFrame m #[(.ref a1), (.ref a2)] 3)) t := fun t k => castTop (ef_27_2 m a1 a2) k
  obtain ⟨T1, X1, e1, st1⟩ := instNo X0 hx hZ hown (hw _ (List.mem_of_getElem? (i := 129) rfl)) e0 E_a2 (own_noinst hw) (g := (mkF m 1 #[.val (.ref a1), .val (.ref a2), .unset] [(.ref a2)])) rfl rfl (hb hby d27_1)
  have sg2 : ∀ target, Steps p.tables e below (T1.setTop (mkF m 42 #[.val (.ref a1), .val (.ref a2), .unset] [(.int (0 : Int32))])) target → Steps p.tables e below (s₁.setTop (mkF m 0 #[.val (.ref a1), .val (.ref a2), .unset] [])) target := by
    intro target kt
    show Steps p.tables e below (s₁.setTop (mkF m 0 #[.val (.ref a1), .val (.ref a2), .unset] [])) _
    refine XS.aloadN X0.here hx rfl (hb hby d27_0) rfl rfl ?_
    show Steps p.tables e below (s₁.setTop (mkF m 1 #[.val (.ref a1), .val (.ref a2), .unset] [(.ref a2)])) _
    refine st1 _ ?_
    show Steps p.tables e below (T1.setTop (mkF m 4 #[.val (.ref a1), .val (.ref a2), .unset] [(.int (0 : Int32))])) _
    refine XS.ifYes X1.here hx rfl (pc0 := 4) (pc' := 41) rfl (hb hby d27_4) rfl ((if0 _ _).trans (teq (by decide : (0 : Int32) = (0 : Int32))).1) (by decide) (by decide) ?_
    show Steps p.tables e below (T1.setTop (mkF m 41 #[.val (.ref a1), .val (.ref a2), .unset] [])) _
    refine XS.iconst X1.here hx rfl (hb hby d27_41) ?_
    exact kt
  obtain ⟨fs, hr, hrun, hended, hW, hsame⟩ := X1.leave (v := some (.int (0 : Int32))) (fun h => by rw [Bd.returns] at h; cases h)
  refine ⟨_, _, pre0 _ (sg2 _ (?_)), hrun, hended, _, _, rfl, ?_, ⟨_, rfl⟩, hW, hsame.mono (by decide) (by decide)⟩
  · show Steps p.tables e below (T1.setTop (mkF m 42 #[.val (.ref a1), .val (.ref a2), .unset] [(.int (0 : Int32))])) _
    exact retN X1 hx (t := .boolean) Bd.returns (by simp) (hb hby d27_42) hr
  · show Q27_2 Z a1 a2 zC h0 n0 _ T1.heap _
    rw [e1]
    exact ⟨rfl, N0, rfl⟩
def Q0 (Z : State) (p1 : Int32) (p2 : Int32) (p3 : Int32) (zC : Int32) (wE : Addr) (wA : Addr) (wG : Addr) (vFM : Value) (h0 : Heap) (n0 : Nat) (v : Option Value) (h : Heap) (L : List Loc) : Prop := v = some (.int (1 : Int32)) ∧ Fr n0 L ∧ Keep h0 h [] ∧ Old Z n0 h
theorem ef_0 (m : MethodId) (x0 : Int32) (x1 : Int32) (x2 : Int32) : entryFrame m #[(.int x0), (.int x1), (.int x2)] maxLocals = mkF m 0 #[.val (.int x0), .val (.int x1), .val (.int x2), .unset, .unset, .unset, .unset, .unset, .unset, .unset, .unset, .unset, .unset, .unset, .unset, .unset, .unset, .unset, .unset] [] := by first | (simp [entryFrame, mkF, argsToLocals, Value.category, maxLocals]; done) | rfl
set_option maxRecDepth 65536 in
set_option maxHeartbeats 40000000 in
theorem rm0 (l : Launch) (Z : State) (a0 : Array Value) (hw : ∀ d ∈ tables_1, d.before a0 Z = true) (ws : List Jvm.Cond) (p1 : Int32) (p2 : Int32) (p3 : Int32) (zC : Int32) (wE : Addr) (wA : Addr) (wG : Addr) (vFM : Value) (h0 : Heap) (n0 : Nat) (O0 : Old Z n0 h0) (S_COMPACT_STRINGS : Sta Z Z.heap "java/lang/String" "COMPACT_STRINGS" "Z" (.int zC)) (S_SIOOBE_FORMATTER : Sta Z Z.heap "jdk/internal/util/Preconditions" "SIOOBE_FORMATTER" "Ljava/util/function/BiFunction;" vFM) (S_ENTITY : Sta Z Z.heap "com/example/muninn/muninn/store/NodeKind" "ENTITY" "Lcom/example/muninn/muninn/store/NodeKind;" (.ref wE)) (S_ACTIVITY : Sta Z Z.heap "com/example/muninn/muninn/store/NodeKind" "ACTIVITY" "Lcom/example/muninn/muninn/store/NodeKind;" (.ref wA)) (S_AGENT : Sta Z Z.heap "com/example/muninn/muninn/store/NodeKind" "AGENT" "Lcom/example/muninn/muninn/store/NodeKind;" (.ref wG)) (hCS : ¬ zC = 0) (hFM : vFM.isRef = true) (hXE : Exa Z Z.heap wE "com/example/muninn/muninn/store/NodeKind") (hXA : Exa Z Z.heap wA "com/example/muninn/muninn/store/NodeKind") (hXG : Exa Z Z.heap wG "com/example/muninn/muninn/store/NodeKind") (hEA : wE ≠ wA) (hEG : wE ≠ wG) (hAG : wA ≠ wG) :
    MetFree l x (head1 (Jvm.Cond.code x code maxLocals ret :: ws) room_1) (fun a U => a = #[(.int p1), (.int p2), (.int p3)] ∧ Z.Warmed39 U.vm ∧ U.heap = h0 ∧ CHv Z own_EL U.vm h0) (fun _ _ _ _ _ => True) (fun _ U o U' => ∃ v L, o = .returned v ∧ Q0 Z p1 p2 p3 zC wE wA wG vFM h0 n0 v U'.heap L ∧ CHr Z own_EL U.vm U.heap U'.vm U'.heap ∧ ReturnedEndW U o U' L room_1.cells room_1.slots) := by
  refine MetFree.of_bodySF (plainFor_of_name pn_4) hisR ?_
  intro p e s m args below meth c s₁ Bd hml0 hP hK
  obtain ⟨rfl, hZ, hh, hCH⟩ := hP
  have hx := Bd.exec
  have hby := Bd.bytes
  have hml : c.maxLocals = 19 := hml0
  have hown : s.vm.findClass "com/example/muninn/muninn/store/NodeEqualsPinLaw" = some m.cls := findClass_of_methodNamed Bd.named
  have hnm := (name_of_methodNamed Bd.named Bd.method).1
  have X0 : Stand p l e room_1 (s.setVm s.vm) m #[(.int p1), (.int p2), (.int p3)] below meth c s₁ [] 0 0 := Stand.of_body Bd
  have e0 : s₁.heap = h0 := by rw [← hh, Bd.state]; rfl
  have N0 := Fr.nil n0
  have pre0 : ∀ t, Steps p.tables e below (s₁.setTop (mkF m 0 #[.val (.int p1), .val (.int p2), .val (.int p3), .unset, .unset, .unset, .unset, .unset, .unset, .unset, .unset, .unset, .unset, .unset, .unset, .unset, .unset, .unset, .unset] [])) t → Steps p.tables e below (s₁.setTop (entryFrame m #[(.int p1), (.int p2), (.int p3)] maxLocals)) t := fun t k => castTop (ef_0 m p1 p2 p3) k
  have Y0 : s.Since s.vm h0.size := (State.WarmedH.refl s).since h0.size
  have Yk0 : h0.size ≤ h0.size := Nat.le_refl _
  have CR0 : CHr Z own_EL s.vm h0 s.vm h0 := CHr.refl hCH
  have hEL := own_EW hw
  have hSA := own_SA hw
  have K0 := Keep.refl h0 []
  obtain ⟨T5, L5, v5_t0, X5, e5, N5, hv5_t0, sg5⟩ : ∃ (T' : State) (L' : List Loc) (v5_t0 : Int32), Stand p l e room_1 (s.setVm s.vm) m #[(.int p1), (.int p2), (.int p3)] below meth c T' L' 0 0 ∧ T'.heap = h0 ∧ Fr n0 L' ∧ v5_t0 = (if (((p3.toUInt32 >>> ((8 : Int32) &&& 31).toUInt32).toInt32) &&& (1 : Int32)) = (0 : Int32) then p2 else p1) ∧ ∀ target, Steps p.tables e below (T'.setTop (mkF m 14 #[.val (.int p1), .val (.int p2), .val (.int p3), .unset, .unset, .unset, .unset, .unset, .unset, .unset, .unset, .unset, .unset, .unset, .unset, .unset, .unset, .unset, .unset] [(.int v5_t0)])) target → Steps p.tables e below (s₁.setTop (mkF m 0 #[.val (.int p1), .val (.int p2), .val (.int p3), .unset, .unset, .unset, .unset, .unset, .unset, .unset, .unset, .unset, .unset, .unset, .unset, .unset, .unset, .unset, .unset] [])) target := by
    have sg1 : ∀ target, Steps p.tables e below (s₁.setTop (mkF m 6 #[.val (.int p1), .val (.int p2), .val (.int p3), .unset, .unset, .unset, .unset, .unset, .unset, .unset, .unset, .unset, .unset, .unset, .unset, .unset, .unset, .unset, .unset] [(.int (((p3.toUInt32 >>> ((8 : Int32) &&& 31).toUInt32).toInt32) &&& (1 : Int32)))])) target → Steps p.tables e below (s₁.setTop (mkF m 0 #[.val (.int p1), .val (.int p2), .val (.int p3), .unset, .unset, .unset, .unset, .unset, .unset, .unset, .unset, .unset, .unset, .unset, .unset, .unset, .unset, .unset, .unset] [])) target := by
      intro target kt
      show Steps p.tables e below (s₁.setTop (mkF m 0 #[.val (.int p1), .val (.int p2), .val (.int p3), .unset, .unset, .unset, .unset, .unset, .unset, .unset, .unset, .unset, .unset, .unset, .unset, .unset, .unset, .unset, .unset] [])) _
      refine XS.iloadN X0.here hx rfl (hb hby at_0) rfl ?_
      show Steps p.tables e below (s₁.setTop (mkF m 1 #[.val (.int p1), .val (.int p2), .val (.int p3), .unset, .unset, .unset, .unset, .unset, .unset, .unset, .unset, .unset, .unset, .unset, .unset, .unset, .unset, .unset, .unset] [(.int p3)])) _
      refine XS.bipush X0.here hx rfl (hb hby at_1) ?_
      show Steps p.tables e below (s₁.setTop (mkF m 3 #[.val (.int p1), .val (.int p2), .val (.int p3), .unset, .unset, .unset, .unset, .unset, .unset, .unset, .unset, .unset, .unset, .unset, .unset, .unset, .unset, .unset, .unset] [(.int (8 : Int32)), (.int p3)])) _
      refine XS.iushr X0.here hx rfl (hb hby at_3) rfl ?_
      show Steps p.tables e below (s₁.setTop (mkF m 4 #[.val (.int p1), .val (.int p2), .val (.int p3), .unset, .unset, .unset, .unset, .unset, .unset, .unset, .unset, .unset, .unset, .unset, .unset, .unset, .unset, .unset, .unset] [(.int ((p3.toUInt32 >>> ((8 : Int32) &&& 31).toUInt32).toInt32))])) _
      refine XS.iconst X0.here hx rfl (hb hby at_4) ?_
      show Steps p.tables e below (s₁.setTop (mkF m 5 #[.val (.int p1), .val (.int p2), .val (.int p3), .unset, .unset, .unset, .unset, .unset, .unset, .unset, .unset, .unset, .unset, .unset, .unset, .unset, .unset, .unset, .unset] [(.int (1 : Int32)), (.int ((p3.toUInt32 >>> ((8 : Int32) &&& 31).toUInt32).toInt32))])) _
      refine XS.iand X0.here hx rfl (hb hby at_5) rfl ?_
      exact kt
    by_cases hc2 : (((p3.toUInt32 >>> ((8 : Int32) &&& 31).toUInt32).toInt32) &&& (1 : Int32)) = (0 : Int32)
    · have sg3 : ∀ target, Steps p.tables e below (s₁.setTop (mkF m 14 #[.val (.int p1), .val (.int p2), .val (.int p3), .unset, .unset, .unset, .unset, .unset, .unset, .unset, .unset, .unset, .unset, .unset, .unset, .unset, .unset, .unset, .unset] [(.int p2)])) target → Steps p.tables e below (s₁.setTop (mkF m 6 #[.val (.int p1), .val (.int p2), .val (.int p3), .unset, .unset, .unset, .unset, .unset, .unset, .unset, .unset, .unset, .unset, .unset, .unset, .unset, .unset, .unset, .unset] [(.int (((p3.toUInt32 >>> ((8 : Int32) &&& 31).toUInt32).toInt32) &&& (1 : Int32)))])) target := by
        intro target kt
        show Steps p.tables e below (s₁.setTop (mkF m 6 #[.val (.int p1), .val (.int p2), .val (.int p3), .unset, .unset, .unset, .unset, .unset, .unset, .unset, .unset, .unset, .unset, .unset, .unset, .unset, .unset, .unset, .unset] [(.int (((p3.toUInt32 >>> ((8 : Int32) &&& 31).toUInt32).toInt32) &&& (1 : Int32)))])) _
        refine XS.ifYes X0.here hx rfl (pc0 := 6) (pc' := 13) rfl (hb hby at_6) rfl ((if0 _ _).trans (teq hc2).1) (by decide) (by decide) ?_
        show Steps p.tables e below (s₁.setTop (mkF m 13 #[.val (.int p1), .val (.int p2), .val (.int p3), .unset, .unset, .unset, .unset, .unset, .unset, .unset, .unset, .unset, .unset, .unset, .unset, .unset, .unset, .unset, .unset] [])) _
        refine XS.iloadN X0.here hx rfl (hb hby at_13) rfl ?_
        exact kt
      exact ⟨s₁, _, p2, X0.mono (by decide) (by decide), e0, N0, (by rw [if_pos hc2]), fun target kt => sg1 _ (sg3 _ (kt))⟩
    · have sg4 : ∀ target, Steps p.tables e below (s₁.setTop (mkF m 14 #[.val (.int p1), .val (.int p2), .val (.int p3), .unset, .unset, .unset, .unset, .unset, .unset, .unset, .unset, .unset, .unset, .unset, .unset, .unset, .unset, .unset, .unset] [(.int p1)])) target → Steps p.tables e below (s₁.setTop (mkF m 6 #[.val (.int p1), .val (.int p2), .val (.int p3), .unset, .unset, .unset, .unset, .unset, .unset, .unset, .unset, .unset, .unset, .unset, .unset, .unset, .unset, .unset, .unset] [(.int (((p3.toUInt32 >>> ((8 : Int32) &&& 31).toUInt32).toInt32) &&& (1 : Int32)))])) target := by
        intro target kt
        show Steps p.tables e below (s₁.setTop (mkF m 6 #[.val (.int p1), .val (.int p2), .val (.int p3), .unset, .unset, .unset, .unset, .unset, .unset, .unset, .unset, .unset, .unset, .unset, .unset, .unset, .unset, .unset, .unset] [(.int (((p3.toUInt32 >>> ((8 : Int32) &&& 31).toUInt32).toInt32) &&& (1 : Int32)))])) _
        refine XS.ifNo X0.here hx rfl (hb hby at_6) rfl ((if0 _ _).trans (feq hc2).1) ?_
        show Steps p.tables e below (s₁.setTop (mkF m 9 #[.val (.int p1), .val (.int p2), .val (.int p3), .unset, .unset, .unset, .unset, .unset, .unset, .unset, .unset, .unset, .unset, .unset, .unset, .unset, .unset, .unset, .unset] [])) _
        refine XS.iloadN X0.here hx rfl (hb hby at_9) rfl ?_
        show Steps p.tables e below (s₁.setTop (mkF m 10 #[.val (.int p1), .val (.int p2), .val (.int p3), .unset, .unset, .unset, .unset, .unset, .unset, .unset, .unset, .unset, .unset, .unset, .unset, .unset, .unset, .unset, .unset] [(.int p1)])) _
        refine XS.goto X0.here hx rfl (pc0 := 10) (pc' := 14) rfl (hb hby at_10) (by decide) (by decide) ?_
        exact kt
      exact ⟨s₁, _, p1, X0.mono (by decide) (by decide), e0, N0, (by rw [if_neg hc2]), fun target kt => sg1 _ (sg4 _ (kt))⟩
  obtain ⟨_, _, ⟨T6, L6, k6, n6⟩, -, X6, ⟨Lc6, hQ6, l6, y6, z6⟩, st6⟩ := Jvm.LawKit.callS X5 hx (y := (⟨"com/example/muninn/muninn/store/NodeEqualsPinLaw", "ch", "(I)C"⟩ : MethodName)) hown (mvT hZ (hw _ (List.mem_of_getElem? (i := 1) rfl))) (mvT hZ (hw _ (List.mem_of_getElem? (i := 2) rfl))) (mvT hZ (hw _ (List.mem_of_getElem? (i := 3) rfl))) (mvT hZ (hw _ (List.mem_of_getElem? (i := 4) rfl))) (by decide) (backOf (W := 0) (rm1 l Z a0 hw [] (p1 &&& (65535 : Int32)) h0 n0 O0 ) hZ (hw _ (List.mem_of_getElem? (i := 4) rfl)) (hw _ (List.mem_of_getElem? (i := 3) rfl)) (by decide) (by decide)) (g := (mkF m 19 #[.val (.int p1), .val (.int p2), .val (.int p3), .val (.int v5_t0), .unset, .unset, .unset, .unset, .unset, .unset, .unset, .unset, .unset, .unset, .unset, .unset, .unset, .unset, .unset] [(.int (p1 &&& (65535 : Int32)))])) rfl (by rw [hml]; rfl) (argsL := [(.int (p1 &&& (65535 : Int32)))]) (rest := []) (lenOf pd_1 rfl) rfl (by show 2 * 0 + _ ≤ _; exact Nat.le_of_eq rfl) (hb hby at_19) (fun _ _ => ⟨rfl, e5, (by decide : 0 + 0 ≤ _), (by decide : 0 + 0 ≤ _)⟩)
  dsimp only [Pt.U, Pt.locs, Pt.cells, Pt.slots] at X6 l6 y6 z6 st6 hQ6
  subst l6 y6 z6
  obtain ⟨rfl, N6q, e6⟩ := hQ6
  have N6 := Fr.app N5 N6q
  obtain ⟨r6, hr6⟩ : ∃ z, z = (((33 : Int32) + ((p1 &&& (65535 : Int32)) % (94 : Int32))).toUInt32.toUInt16.toUInt32.toInt32) := ⟨_, rfl⟩
  rw [← hr6] at st6
  have ok_r6 : own_ok r6 := own_chokA hr6
  obtain ⟨_, _, ⟨T7, L7, k7, n7⟩, -, X7, ⟨Lc7, hQ7, l7, y7, z7⟩, st7⟩ := Jvm.LawKit.callS X6 hx (y := (⟨"com/example/muninn/muninn/store/NodeEqualsPinLaw", "ch", "(I)C"⟩ : MethodName)) hown (mvT hZ (hw _ (List.mem_of_getElem? (i := 1) rfl))) (mvT hZ (hw _ (List.mem_of_getElem? (i := 2) rfl))) (mvT hZ (hw _ (List.mem_of_getElem? (i := 3) rfl))) (mvT hZ (hw _ (List.mem_of_getElem? (i := 4) rfl))) (by decide) (backOf (W := 0) (rm1 l Z a0 hw [] ((p1.toUInt32 >>> ((16 : Int32) &&& 31).toUInt32).toInt32) h0 n0 O0 ) hZ (hw _ (List.mem_of_getElem? (i := 4) rfl)) (hw _ (List.mem_of_getElem? (i := 3) rfl)) (by decide) (by decide)) (g := (mkF m 28 #[.val (.int p1), .val (.int p2), .val (.int p3), .val (.int v5_t0), .val (.int r6), .unset, .unset, .unset, .unset, .unset, .unset, .unset, .unset, .unset, .unset, .unset, .unset, .unset, .unset] [(.int ((p1.toUInt32 >>> ((16 : Int32) &&& 31).toUInt32).toInt32))])) rfl (by rw [hml]; rfl) (argsL := [(.int ((p1.toUInt32 >>> ((16 : Int32) &&& 31).toUInt32).toInt32))]) (rest := []) (lenOf pd_1 rfl) rfl (by show 2 * 0 + _ ≤ _; exact Nat.le_of_eq rfl) (hb hby at_28) (fun _ _ => ⟨rfl, e6, (by decide : 0 + 0 ≤ _), (by decide : 0 + 0 ≤ _)⟩)
  dsimp only [Pt.U, Pt.locs, Pt.cells, Pt.slots] at X7 l7 y7 z7 st7 hQ7
  subst l7 y7 z7
  obtain ⟨rfl, N7q, e7⟩ := hQ7
  have N7 := Fr.app N6 N7q
  obtain ⟨r7, hr7⟩ : ∃ z, z = (((33 : Int32) + (((p1.toUInt32 >>> ((16 : Int32) &&& 31).toUInt32).toInt32) % (94 : Int32))).toUInt32.toUInt16.toUInt32.toInt32) := ⟨_, rfl⟩
  rw [← hr7] at st7
  have ok_r7 : own_ok r7 := own_chokB hr7
  obtain ⟨_, _, ⟨T8, L8, k8, n8⟩, -, X8, ⟨Lc8, hQ8, l8, y8, z8⟩, st8⟩ := Jvm.LawKit.callS X7 hx (y := (⟨"com/example/muninn/muninn/store/NodeEqualsPinLaw", "ch", "(I)C"⟩ : MethodName)) hown (mvT hZ (hw _ (List.mem_of_getElem? (i := 1) rfl))) (mvT hZ (hw _ (List.mem_of_getElem? (i := 2) rfl))) (mvT hZ (hw _ (List.mem_of_getElem? (i := 3) rfl))) (mvT hZ (hw _ (List.mem_of_getElem? (i := 4) rfl))) (by decide) (backOf (W := 0) (rm1 l Z a0 hw [] (v5_t0 &&& (65535 : Int32)) h0 n0 O0 ) hZ (hw _ (List.mem_of_getElem? (i := 4) rfl)) (hw _ (List.mem_of_getElem? (i := 3) rfl)) (by decide) (by decide)) (g := (mkF m 37 #[.val (.int p1), .val (.int p2), .val (.int p3), .val (.int v5_t0), .val (.int r6), .val (.int r7), .unset, .unset, .unset, .unset, .unset, .unset, .unset, .unset, .unset, .unset, .unset, .unset, .unset] [(.int (v5_t0 &&& (65535 : Int32)))])) rfl (by rw [hml]; rfl) (argsL := [(.int (v5_t0 &&& (65535 : Int32)))]) (rest := []) (lenOf pd_1 rfl) rfl (by show 2 * 0 + _ ≤ _; exact Nat.le_of_eq rfl) (hb hby at_37) (fun _ _ => ⟨rfl, e7, (by decide : 0 + 0 ≤ _), (by decide : 0 + 0 ≤ _)⟩)
  dsimp only [Pt.U, Pt.locs, Pt.cells, Pt.slots] at X8 l8 y8 z8 st8 hQ8
  subst l8 y8 z8
  obtain ⟨rfl, N8q, e8⟩ := hQ8
  have N8 := Fr.app N7 N8q
  obtain ⟨r8, hr8⟩ : ∃ z, z = (((33 : Int32) + ((v5_t0 &&& (65535 : Int32)) % (94 : Int32))).toUInt32.toUInt16.toUInt32.toInt32) := ⟨_, rfl⟩
  rw [← hr8] at st8
  have ok_r8 : own_ok r8 := own_chokA hr8
  obtain ⟨_, _, ⟨T9, L9, k9, n9⟩, -, X9, ⟨Lc9, hQ9, l9, y9, z9⟩, st9⟩ := Jvm.LawKit.callS X8 hx (y := (⟨"com/example/muninn/muninn/store/NodeEqualsPinLaw", "ch", "(I)C"⟩ : MethodName)) hown (mvT hZ (hw _ (List.mem_of_getElem? (i := 1) rfl))) (mvT hZ (hw _ (List.mem_of_getElem? (i := 2) rfl))) (mvT hZ (hw _ (List.mem_of_getElem? (i := 3) rfl))) (mvT hZ (hw _ (List.mem_of_getElem? (i := 4) rfl))) (by decide) (backOf (W := 0) (rm1 l Z a0 hw [] ((v5_t0.toUInt32 >>> ((16 : Int32) &&& 31).toUInt32).toInt32) h0 n0 O0 ) hZ (hw _ (List.mem_of_getElem? (i := 4) rfl)) (hw _ (List.mem_of_getElem? (i := 3) rfl)) (by decide) (by decide)) (g := (mkF m 46 #[.val (.int p1), .val (.int p2), .val (.int p3), .val (.int v5_t0), .val (.int r6), .val (.int r7), .val (.int r8), .unset, .unset, .unset, .unset, .unset, .unset, .unset, .unset, .unset, .unset, .unset, .unset] [(.int ((v5_t0.toUInt32 >>> ((16 : Int32) &&& 31).toUInt32).toInt32))])) rfl (by rw [hml]; rfl) (argsL := [(.int ((v5_t0.toUInt32 >>> ((16 : Int32) &&& 31).toUInt32).toInt32))]) (rest := []) (lenOf pd_1 rfl) rfl (by show 2 * 0 + _ ≤ _; exact Nat.le_of_eq rfl) (hb hby at_46) (fun _ _ => ⟨rfl, e8, (by decide : 0 + 0 ≤ _), (by decide : 0 + 0 ≤ _)⟩)
  dsimp only [Pt.U, Pt.locs, Pt.cells, Pt.slots] at X9 l9 y9 z9 st9 hQ9
  subst l9 y9 z9
  obtain ⟨rfl, N9q, e9⟩ := hQ9
  have N9 := Fr.app N8 N9q
  obtain ⟨r9, hr9⟩ : ∃ z, z = (((33 : Int32) + (((v5_t0.toUInt32 >>> ((16 : Int32) &&& 31).toUInt32).toInt32) % (94 : Int32))).toUInt32.toUInt16.toUInt32.toInt32) := ⟨_, rfl⟩
  rw [← hr9] at st9
  have ok_r9 : own_ok r9 := own_chokB hr9
  obtain ⟨u10, hu10⟩ : ∃ z, z = ((1 : Int32) + (p3 &&& (1 : Int32))) := ⟨_, rfl⟩
  have sg11 : ∀ target, Steps p.tables e below (T9.setTop (mkF m 56 #[.val (.int p1), .val (.int p2), .val (.int p3), .val (.int v5_t0), .val (.int r6), .val (.int r7), .val (.int r8), .val (.int r9), .unset, .unset, .unset, .unset, .unset, .unset, .unset, .unset, .unset, .unset, .unset] [(.int u10)])) target → Steps p.tables e below (T5.setTop (mkF m 14 #[.val (.int p1), .val (.int p2), .val (.int p3), .unset, .unset, .unset, .unset, .unset, .unset, .unset, .unset, .unset, .unset, .unset, .unset, .unset, .unset, .unset, .unset] [(.int v5_t0)])) target := by
    intro target kt
    subst hu10
    show Steps p.tables e below (T5.setTop (mkF m 14 #[.val (.int p1), .val (.int p2), .val (.int p3), .unset, .unset, .unset, .unset, .unset, .unset, .unset, .unset, .unset, .unset, .unset, .unset, .unset, .unset, .unset, .unset] [(.int v5_t0)])) _
    refine XS.istoreN X5.here hx rfl (hb hby at_14) rfl (l' := #[.val (.int p1), .val (.int p2), .val (.int p3), .val (.int v5_t0), .unset, .unset, .unset, .unset, .unset, .unset, .unset, .unset, .unset, .unset, .unset, .unset, .unset, .unset, .unset]) rfl ?_
    show Steps p.tables e below (T5.setTop (mkF m 15 #[.val (.int p1), .val (.int p2), .val (.int p3), .val (.int v5_t0), .unset, .unset, .unset, .unset, .unset, .unset, .unset, .unset, .unset, .unset, .unset, .unset, .unset, .unset, .unset] [])) _
    refine XS.iloadN X5.here hx rfl (hb hby at_15) rfl ?_
    show Steps p.tables e below (T5.setTop (mkF m 16 #[.val (.int p1), .val (.int p2), .val (.int p3), .val (.int v5_t0), .unset, .unset, .unset, .unset, .unset, .unset, .unset, .unset, .unset, .unset, .unset, .unset, .unset, .unset, .unset] [(.int p1)])) _
    refine X5.ldcInt hx hown (mvT hZ (hw _ (List.mem_of_getElem? (i := 0) rfl))) (g := (mkF m 16 #[.val (.int p1), .val (.int p2), .val (.int p3), .val (.int v5_t0), .unset, .unset, .unset, .unset, .unset, .unset, .unset, .unset, .unset, .unset, .unset, .unset, .unset, .unset, .unset] [(.int p1)])) rfl (hb hby at_16) _ ?_
    show Steps p.tables e below (T5.setTop (mkF m 18 #[.val (.int p1), .val (.int p2), .val (.int p3), .val (.int v5_t0), .unset, .unset, .unset, .unset, .unset, .unset, .unset, .unset, .unset, .unset, .unset, .unset, .unset, .unset, .unset] [(.int (65535 : Int32)), (.int p1)])) _
    refine XS.iand X5.here hx rfl (hb hby at_18) rfl ?_
    show Steps p.tables e below (T5.setTop (mkF m 19 #[.val (.int p1), .val (.int p2), .val (.int p3), .val (.int v5_t0), .unset, .unset, .unset, .unset, .unset, .unset, .unset, .unset, .unset, .unset, .unset, .unset, .unset, .unset, .unset] [(.int (p1 &&& (65535 : Int32)))])) _
    refine st6 _ ?_
    show Steps p.tables e below (T6.setTop (mkF m 22 #[.val (.int p1), .val (.int p2), .val (.int p3), .val (.int v5_t0), .unset, .unset, .unset, .unset, .unset, .unset, .unset, .unset, .unset, .unset, .unset, .unset, .unset, .unset, .unset] [(.int r6)])) _
    refine XS.istore X6.here hx rfl (hb hby at_22) rfl (l' := #[.val (.int p1), .val (.int p2), .val (.int p3), .val (.int v5_t0), .val (.int r6), .unset, .unset, .unset, .unset, .unset, .unset, .unset, .unset, .unset, .unset, .unset, .unset, .unset, .unset]) rfl ?_
    show Steps p.tables e below (T6.setTop (mkF m 24 #[.val (.int p1), .val (.int p2), .val (.int p3), .val (.int v5_t0), .val (.int r6), .unset, .unset, .unset, .unset, .unset, .unset, .unset, .unset, .unset, .unset, .unset, .unset, .unset, .unset] [])) _
    refine XS.iloadN X6.here hx rfl (hb hby at_24) rfl ?_
    show Steps p.tables e below (T6.setTop (mkF m 25 #[.val (.int p1), .val (.int p2), .val (.int p3), .val (.int v5_t0), .val (.int r6), .unset, .unset, .unset, .unset, .unset, .unset, .unset, .unset, .unset, .unset, .unset, .unset, .unset, .unset] [(.int p1)])) _
    refine XS.bipush X6.here hx rfl (hb hby at_25) ?_
    show Steps p.tables e below (T6.setTop (mkF m 27 #[.val (.int p1), .val (.int p2), .val (.int p3), .val (.int v5_t0), .val (.int r6), .unset, .unset, .unset, .unset, .unset, .unset, .unset, .unset, .unset, .unset, .unset, .unset, .unset, .unset] [(.int (16 : Int32)), (.int p1)])) _
    refine XS.iushr X6.here hx rfl (hb hby at_27) rfl ?_
    show Steps p.tables e below (T6.setTop (mkF m 28 #[.val (.int p1), .val (.int p2), .val (.int p3), .val (.int v5_t0), .val (.int r6), .unset, .unset, .unset, .unset, .unset, .unset, .unset, .unset, .unset, .unset, .unset, .unset, .unset, .unset] [(.int ((p1.toUInt32 >>> ((16 : Int32) &&& 31).toUInt32).toInt32))])) _
    refine st7 _ ?_
    show Steps p.tables e below (T7.setTop (mkF m 31 #[.val (.int p1), .val (.int p2), .val (.int p3), .val (.int v5_t0), .val (.int r6), .unset, .unset, .unset, .unset, .unset, .unset, .unset, .unset, .unset, .unset, .unset, .unset, .unset, .unset] [(.int r7)])) _
    refine XS.istore X7.here hx rfl (hb hby at_31) rfl (l' := #[.val (.int p1), .val (.int p2), .val (.int p3), .val (.int v5_t0), .val (.int r6), .val (.int r7), .unset, .unset, .unset, .unset, .unset, .unset, .unset, .unset, .unset, .unset, .unset, .unset, .unset]) rfl ?_
    show Steps p.tables e below (T7.setTop (mkF m 33 #[.val (.int p1), .val (.int p2), .val (.int p3), .val (.int v5_t0), .val (.int r6), .val (.int r7), .unset, .unset, .unset, .unset, .unset, .unset, .unset, .unset, .unset, .unset, .unset, .unset, .unset] [])) _
    refine XS.iloadN X7.here hx rfl (hb hby at_33) rfl ?_
    show Steps p.tables e below (T7.setTop (mkF m 34 #[.val (.int p1), .val (.int p2), .val (.int p3), .val (.int v5_t0), .val (.int r6), .val (.int r7), .unset, .unset, .unset, .unset, .unset, .unset, .unset, .unset, .unset, .unset, .unset, .unset, .unset] [(.int v5_t0)])) _
    refine X7.ldcInt hx hown (mvT hZ (hw _ (List.mem_of_getElem? (i := 0) rfl))) (g := (mkF m 34 #[.val (.int p1), .val (.int p2), .val (.int p3), .val (.int v5_t0), .val (.int r6), .val (.int r7), .unset, .unset, .unset, .unset, .unset, .unset, .unset, .unset, .unset, .unset, .unset, .unset, .unset] [(.int v5_t0)])) rfl (hb hby at_34) _ ?_
    show Steps p.tables e below (T7.setTop (mkF m 36 #[.val (.int p1), .val (.int p2), .val (.int p3), .val (.int v5_t0), .val (.int r6), .val (.int r7), .unset, .unset, .unset, .unset, .unset, .unset, .unset, .unset, .unset, .unset, .unset, .unset, .unset] [(.int (65535 : Int32)), (.int v5_t0)])) _
    refine XS.iand X7.here hx rfl (hb hby at_36) rfl ?_
    show Steps p.tables e below (T7.setTop (mkF m 37 #[.val (.int p1), .val (.int p2), .val (.int p3), .val (.int v5_t0), .val (.int r6), .val (.int r7), .unset, .unset, .unset, .unset, .unset, .unset, .unset, .unset, .unset, .unset, .unset, .unset, .unset] [(.int (v5_t0 &&& (65535 : Int32)))])) _
    refine st8 _ ?_
    show Steps p.tables e below (T8.setTop (mkF m 40 #[.val (.int p1), .val (.int p2), .val (.int p3), .val (.int v5_t0), .val (.int r6), .val (.int r7), .unset, .unset, .unset, .unset, .unset, .unset, .unset, .unset, .unset, .unset, .unset, .unset, .unset] [(.int r8)])) _
    refine XS.istore X8.here hx rfl (hb hby at_40) rfl (l' := #[.val (.int p1), .val (.int p2), .val (.int p3), .val (.int v5_t0), .val (.int r6), .val (.int r7), .val (.int r8), .unset, .unset, .unset, .unset, .unset, .unset, .unset, .unset, .unset, .unset, .unset, .unset]) rfl ?_
    show Steps p.tables e below (T8.setTop (mkF m 42 #[.val (.int p1), .val (.int p2), .val (.int p3), .val (.int v5_t0), .val (.int r6), .val (.int r7), .val (.int r8), .unset, .unset, .unset, .unset, .unset, .unset, .unset, .unset, .unset, .unset, .unset, .unset] [])) _
    refine XS.iloadN X8.here hx rfl (hb hby at_42) rfl ?_
    show Steps p.tables e below (T8.setTop (mkF m 43 #[.val (.int p1), .val (.int p2), .val (.int p3), .val (.int v5_t0), .val (.int r6), .val (.int r7), .val (.int r8), .unset, .unset, .unset, .unset, .unset, .unset, .unset, .unset, .unset, .unset, .unset, .unset] [(.int v5_t0)])) _
    refine XS.bipush X8.here hx rfl (hb hby at_43) ?_
    show Steps p.tables e below (T8.setTop (mkF m 45 #[.val (.int p1), .val (.int p2), .val (.int p3), .val (.int v5_t0), .val (.int r6), .val (.int r7), .val (.int r8), .unset, .unset, .unset, .unset, .unset, .unset, .unset, .unset, .unset, .unset, .unset, .unset] [(.int (16 : Int32)), (.int v5_t0)])) _
    refine XS.iushr X8.here hx rfl (hb hby at_45) rfl ?_
    show Steps p.tables e below (T8.setTop (mkF m 46 #[.val (.int p1), .val (.int p2), .val (.int p3), .val (.int v5_t0), .val (.int r6), .val (.int r7), .val (.int r8), .unset, .unset, .unset, .unset, .unset, .unset, .unset, .unset, .unset, .unset, .unset, .unset] [(.int ((v5_t0.toUInt32 >>> ((16 : Int32) &&& 31).toUInt32).toInt32))])) _
    refine st9 _ ?_
    show Steps p.tables e below (T9.setTop (mkF m 49 #[.val (.int p1), .val (.int p2), .val (.int p3), .val (.int v5_t0), .val (.int r6), .val (.int r7), .val (.int r8), .unset, .unset, .unset, .unset, .unset, .unset, .unset, .unset, .unset, .unset, .unset, .unset] [(.int r9)])) _
    refine XS.istore X9.here hx rfl (hb hby at_49) rfl (l' := #[.val (.int p1), .val (.int p2), .val (.int p3), .val (.int v5_t0), .val (.int r6), .val (.int r7), .val (.int r8), .val (.int r9), .unset, .unset, .unset, .unset, .unset, .unset, .unset, .unset, .unset, .unset, .unset]) rfl ?_
    show Steps p.tables e below (T9.setTop (mkF m 51 #[.val (.int p1), .val (.int p2), .val (.int p3), .val (.int v5_t0), .val (.int r6), .val (.int r7), .val (.int r8), .val (.int r9), .unset, .unset, .unset, .unset, .unset, .unset, .unset, .unset, .unset, .unset, .unset] [])) _
    refine XS.iconst X9.here hx rfl (hb hby at_51) ?_
    show Steps p.tables e below (T9.setTop (mkF m 52 #[.val (.int p1), .val (.int p2), .val (.int p3), .val (.int v5_t0), .val (.int r6), .val (.int r7), .val (.int r8), .val (.int r9), .unset, .unset, .unset, .unset, .unset, .unset, .unset, .unset, .unset, .unset, .unset] [(.int (1 : Int32))])) _
    refine XS.iloadN X9.here hx rfl (hb hby at_52) rfl ?_
    show Steps p.tables e below (T9.setTop (mkF m 53 #[.val (.int p1), .val (.int p2), .val (.int p3), .val (.int v5_t0), .val (.int r6), .val (.int r7), .val (.int r8), .val (.int r9), .unset, .unset, .unset, .unset, .unset, .unset, .unset, .unset, .unset, .unset, .unset] [(.int p3), (.int (1 : Int32))])) _
    refine XS.iconst X9.here hx rfl (hb hby at_53) ?_
    show Steps p.tables e below (T9.setTop (mkF m 54 #[.val (.int p1), .val (.int p2), .val (.int p3), .val (.int v5_t0), .val (.int r6), .val (.int r7), .val (.int r8), .val (.int r9), .unset, .unset, .unset, .unset, .unset, .unset, .unset, .unset, .unset, .unset, .unset] [(.int (1 : Int32)), (.int p3), (.int (1 : Int32))])) _
    refine XS.iand X9.here hx rfl (hb hby at_54) rfl ?_
    show Steps p.tables e below (T9.setTop (mkF m 55 #[.val (.int p1), .val (.int p2), .val (.int p3), .val (.int v5_t0), .val (.int r6), .val (.int r7), .val (.int r8), .val (.int r9), .unset, .unset, .unset, .unset, .unset, .unset, .unset, .unset, .unset, .unset, .unset] [(.int (p3 &&& (1 : Int32))), (.int (1 : Int32))])) _
    refine XS.iadd X9.here hx rfl (hb hby at_55) rfl ?_
    exact kt
  obtain ⟨u12, hu12⟩ : ∃ z, z = ((1 : Int32) + (((p3.toUInt32 >>> ((1 : Int32) &&& 31).toUInt32).toInt32) &&& (1 : Int32))) := ⟨_, rfl⟩
  have sg13 : ∀ target, Steps p.tables e below (T9.setTop (mkF m 65 #[.val (.int p1), .val (.int p2), .val (.int p3), .val (.int v5_t0), .val (.int r6), .val (.int r7), .val (.int r8), .val (.int r9), .val (.int u10), .unset, .unset, .unset, .unset, .unset, .unset, .unset, .unset, .unset, .unset] [(.int u12)])) target → Steps p.tables e below (T9.setTop (mkF m 56 #[.val (.int p1), .val (.int p2), .val (.int p3), .val (.int v5_t0), .val (.int r6), .val (.int r7), .val (.int r8), .val (.int r9), .unset, .unset, .unset, .unset, .unset, .unset, .unset, .unset, .unset, .unset, .unset] [(.int u10)])) target := by
    intro target kt
    subst hu12
    show Steps p.tables e below (T9.setTop (mkF m 56 #[.val (.int p1), .val (.int p2), .val (.int p3), .val (.int v5_t0), .val (.int r6), .val (.int r7), .val (.int r8), .val (.int r9), .unset, .unset, .unset, .unset, .unset, .unset, .unset, .unset, .unset, .unset, .unset] [(.int u10)])) _
    refine XS.istore X9.here hx rfl (hb hby at_56) rfl (l' := #[.val (.int p1), .val (.int p2), .val (.int p3), .val (.int v5_t0), .val (.int r6), .val (.int r7), .val (.int r8), .val (.int r9), .val (.int u10), .unset, .unset, .unset, .unset, .unset, .unset, .unset, .unset, .unset, .unset]) rfl ?_
    show Steps p.tables e below (T9.setTop (mkF m 58 #[.val (.int p1), .val (.int p2), .val (.int p3), .val (.int v5_t0), .val (.int r6), .val (.int r7), .val (.int r8), .val (.int r9), .val (.int u10), .unset, .unset, .unset, .unset, .unset, .unset, .unset, .unset, .unset, .unset] [])) _
    refine XS.iconst X9.here hx rfl (hb hby at_58) ?_
    show Steps p.tables e below (T9.setTop (mkF m 59 #[.val (.int p1), .val (.int p2), .val (.int p3), .val (.int v5_t0), .val (.int r6), .val (.int r7), .val (.int r8), .val (.int r9), .val (.int u10), .unset, .unset, .unset, .unset, .unset, .unset, .unset, .unset, .unset, .unset] [(.int (1 : Int32))])) _
    refine XS.iloadN X9.here hx rfl (hb hby at_59) rfl ?_
    show Steps p.tables e below (T9.setTop (mkF m 60 #[.val (.int p1), .val (.int p2), .val (.int p3), .val (.int v5_t0), .val (.int r6), .val (.int r7), .val (.int r8), .val (.int r9), .val (.int u10), .unset, .unset, .unset, .unset, .unset, .unset, .unset, .unset, .unset, .unset] [(.int p3), (.int (1 : Int32))])) _
    refine XS.iconst X9.here hx rfl (hb hby at_60) ?_
    show Steps p.tables e below (T9.setTop (mkF m 61 #[.val (.int p1), .val (.int p2), .val (.int p3), .val (.int v5_t0), .val (.int r6), .val (.int r7), .val (.int r8), .val (.int r9), .val (.int u10), .unset, .unset, .unset, .unset, .unset, .unset, .unset, .unset, .unset, .unset] [(.int (1 : Int32)), (.int p3), (.int (1 : Int32))])) _
    refine XS.iushr X9.here hx rfl (hb hby at_61) rfl ?_
    show Steps p.tables e below (T9.setTop (mkF m 62 #[.val (.int p1), .val (.int p2), .val (.int p3), .val (.int v5_t0), .val (.int r6), .val (.int r7), .val (.int r8), .val (.int r9), .val (.int u10), .unset, .unset, .unset, .unset, .unset, .unset, .unset, .unset, .unset, .unset] [(.int ((p3.toUInt32 >>> ((1 : Int32) &&& 31).toUInt32).toInt32)), (.int (1 : Int32))])) _
    refine XS.iconst X9.here hx rfl (hb hby at_62) ?_
    show Steps p.tables e below (T9.setTop (mkF m 63 #[.val (.int p1), .val (.int p2), .val (.int p3), .val (.int v5_t0), .val (.int r6), .val (.int r7), .val (.int r8), .val (.int r9), .val (.int u10), .unset, .unset, .unset, .unset, .unset, .unset, .unset, .unset, .unset, .unset] [(.int (1 : Int32)), (.int ((p3.toUInt32 >>> ((1 : Int32) &&& 31).toUInt32).toInt32)), (.int (1 : Int32))])) _
    refine XS.iand X9.here hx rfl (hb hby at_63) rfl ?_
    show Steps p.tables e below (T9.setTop (mkF m 64 #[.val (.int p1), .val (.int p2), .val (.int p3), .val (.int v5_t0), .val (.int r6), .val (.int r7), .val (.int r8), .val (.int r9), .val (.int u10), .unset, .unset, .unset, .unset, .unset, .unset, .unset, .unset, .unset, .unset] [(.int (((p3.toUInt32 >>> ((1 : Int32) &&& 31).toUInt32).toInt32) &&& (1 : Int32))), (.int (1 : Int32))])) _
    refine XS.iadd X9.here hx rfl (hb hby at_64) rfl ?_
    exact kt
  obtain ⟨u14, hu14⟩ : ∃ z, z = (((p3.toUInt32 >>> ((2 : Int32) &&& 31).toUInt32).toInt32) &&& (3 : Int32)) := ⟨_, rfl⟩
  have sg15 : ∀ target, Steps p.tables e below (T9.setTop (mkF m 72 #[.val (.int p1), .val (.int p2), .val (.int p3), .val (.int v5_t0), .val (.int r6), .val (.int r7), .val (.int r8), .val (.int r9), .val (.int u10), .val (.int u12), .unset, .unset, .unset, .unset, .unset, .unset, .unset, .unset, .unset] [(.int u14)])) target → Steps p.tables e below (T9.setTop (mkF m 65 #[.val (.int p1), .val (.int p2), .val (.int p3), .val (.int v5_t0), .val (.int r6), .val (.int r7), .val (.int r8), .val (.int r9), .val (.int u10), .unset, .unset, .unset, .unset, .unset, .unset, .unset, .unset, .unset, .unset] [(.int u12)])) target := by
    intro target kt
    subst hu14
    show Steps p.tables e below (T9.setTop (mkF m 65 #[.val (.int p1), .val (.int p2), .val (.int p3), .val (.int v5_t0), .val (.int r6), .val (.int r7), .val (.int r8), .val (.int r9), .val (.int u10), .unset, .unset, .unset, .unset, .unset, .unset, .unset, .unset, .unset, .unset] [(.int u12)])) _
    refine XS.istore X9.here hx rfl (hb hby at_65) rfl (l' := #[.val (.int p1), .val (.int p2), .val (.int p3), .val (.int v5_t0), .val (.int r6), .val (.int r7), .val (.int r8), .val (.int r9), .val (.int u10), .val (.int u12), .unset, .unset, .unset, .unset, .unset, .unset, .unset, .unset, .unset]) rfl ?_
    show Steps p.tables e below (T9.setTop (mkF m 67 #[.val (.int p1), .val (.int p2), .val (.int p3), .val (.int v5_t0), .val (.int r6), .val (.int r7), .val (.int r8), .val (.int r9), .val (.int u10), .val (.int u12), .unset, .unset, .unset, .unset, .unset, .unset, .unset, .unset, .unset] [])) _
    refine XS.iloadN X9.here hx rfl (hb hby at_67) rfl ?_
    show Steps p.tables e below (T9.setTop (mkF m 68 #[.val (.int p1), .val (.int p2), .val (.int p3), .val (.int v5_t0), .val (.int r6), .val (.int r7), .val (.int r8), .val (.int r9), .val (.int u10), .val (.int u12), .unset, .unset, .unset, .unset, .unset, .unset, .unset, .unset, .unset] [(.int p3)])) _
    refine XS.iconst X9.here hx rfl (hb hby at_68) ?_
    show Steps p.tables e below (T9.setTop (mkF m 69 #[.val (.int p1), .val (.int p2), .val (.int p3), .val (.int v5_t0), .val (.int r6), .val (.int r7), .val (.int r8), .val (.int r9), .val (.int u10), .val (.int u12), .unset, .unset, .unset, .unset, .unset, .unset, .unset, .unset, .unset] [(.int (2 : Int32)), (.int p3)])) _
    refine XS.iushr X9.here hx rfl (hb hby at_69) rfl ?_
    show Steps p.tables e below (T9.setTop (mkF m 70 #[.val (.int p1), .val (.int p2), .val (.int p3), .val (.int v5_t0), .val (.int r6), .val (.int r7), .val (.int r8), .val (.int r9), .val (.int u10), .val (.int u12), .unset, .unset, .unset, .unset, .unset, .unset, .unset, .unset, .unset] [(.int ((p3.toUInt32 >>> ((2 : Int32) &&& 31).toUInt32).toInt32))])) _
    refine XS.iconst X9.here hx rfl (hb hby at_70) ?_
    show Steps p.tables e below (T9.setTop (mkF m 71 #[.val (.int p1), .val (.int p2), .val (.int p3), .val (.int v5_t0), .val (.int r6), .val (.int r7), .val (.int r8), .val (.int r9), .val (.int u10), .val (.int u12), .unset, .unset, .unset, .unset, .unset, .unset, .unset, .unset, .unset] [(.int (3 : Int32)), (.int ((p3.toUInt32 >>> ((2 : Int32) &&& 31).toUInt32).toInt32))])) _
    refine XS.iand X9.here hx rfl (hb hby at_71) rfl ?_
    exact kt
  obtain ⟨u16, hu16⟩ : ∃ z, z = (((p3.toUInt32 >>> ((4 : Int32) &&& 31).toUInt32).toInt32) &&& (3 : Int32)) := ⟨_, rfl⟩
  have sg17 : ∀ target, Steps p.tables e below (T9.setTop (mkF m 79 #[.val (.int p1), .val (.int p2), .val (.int p3), .val (.int v5_t0), .val (.int r6), .val (.int r7), .val (.int r8), .val (.int r9), .val (.int u10), .val (.int u12), .val (.int u14), .unset, .unset, .unset, .unset, .unset, .unset, .unset, .unset] [(.int u16)])) target → Steps p.tables e below (T9.setTop (mkF m 72 #[.val (.int p1), .val (.int p2), .val (.int p3), .val (.int v5_t0), .val (.int r6), .val (.int r7), .val (.int r8), .val (.int r9), .val (.int u10), .val (.int u12), .unset, .unset, .unset, .unset, .unset, .unset, .unset, .unset, .unset] [(.int u14)])) target := by
    intro target kt
    subst hu16
    show Steps p.tables e below (T9.setTop (mkF m 72 #[.val (.int p1), .val (.int p2), .val (.int p3), .val (.int v5_t0), .val (.int r6), .val (.int r7), .val (.int r8), .val (.int r9), .val (.int u10), .val (.int u12), .unset, .unset, .unset, .unset, .unset, .unset, .unset, .unset, .unset] [(.int u14)])) _
    refine XS.istore X9.here hx rfl (hb hby at_72) rfl (l' := #[.val (.int p1), .val (.int p2), .val (.int p3), .val (.int v5_t0), .val (.int r6), .val (.int r7), .val (.int r8), .val (.int r9), .val (.int u10), .val (.int u12), .val (.int u14), .unset, .unset, .unset, .unset, .unset, .unset, .unset, .unset]) rfl ?_
    show Steps p.tables e below (T9.setTop (mkF m 74 #[.val (.int p1), .val (.int p2), .val (.int p3), .val (.int v5_t0), .val (.int r6), .val (.int r7), .val (.int r8), .val (.int r9), .val (.int u10), .val (.int u12), .val (.int u14), .unset, .unset, .unset, .unset, .unset, .unset, .unset, .unset] [])) _
    refine XS.iloadN X9.here hx rfl (hb hby at_74) rfl ?_
    show Steps p.tables e below (T9.setTop (mkF m 75 #[.val (.int p1), .val (.int p2), .val (.int p3), .val (.int v5_t0), .val (.int r6), .val (.int r7), .val (.int r8), .val (.int r9), .val (.int u10), .val (.int u12), .val (.int u14), .unset, .unset, .unset, .unset, .unset, .unset, .unset, .unset] [(.int p3)])) _
    refine XS.iconst X9.here hx rfl (hb hby at_75) ?_
    show Steps p.tables e below (T9.setTop (mkF m 76 #[.val (.int p1), .val (.int p2), .val (.int p3), .val (.int v5_t0), .val (.int r6), .val (.int r7), .val (.int r8), .val (.int r9), .val (.int u10), .val (.int u12), .val (.int u14), .unset, .unset, .unset, .unset, .unset, .unset, .unset, .unset] [(.int (4 : Int32)), (.int p3)])) _
    refine XS.iushr X9.here hx rfl (hb hby at_76) rfl ?_
    show Steps p.tables e below (T9.setTop (mkF m 77 #[.val (.int p1), .val (.int p2), .val (.int p3), .val (.int v5_t0), .val (.int r6), .val (.int r7), .val (.int r8), .val (.int r9), .val (.int u10), .val (.int u12), .val (.int u14), .unset, .unset, .unset, .unset, .unset, .unset, .unset, .unset] [(.int ((p3.toUInt32 >>> ((4 : Int32) &&& 31).toUInt32).toInt32))])) _
    refine XS.iconst X9.here hx rfl (hb hby at_77) ?_
    show Steps p.tables e below (T9.setTop (mkF m 78 #[.val (.int p1), .val (.int p2), .val (.int p3), .val (.int v5_t0), .val (.int r6), .val (.int r7), .val (.int r8), .val (.int r9), .val (.int u10), .val (.int u12), .val (.int u14), .unset, .unset, .unset, .unset, .unset, .unset, .unset, .unset] [(.int (3 : Int32)), (.int ((p3.toUInt32 >>> ((4 : Int32) &&& 31).toUInt32).toInt32))])) _
    refine XS.iand X9.here hx rfl (hb hby at_78) rfl ?_
    exact kt
  obtain ⟨u18, hu18⟩ : ∃ z, z = (((p3.toUInt32 >>> ((10 : Int32) &&& 31).toUInt32).toInt32) &&& (3 : Int32)) := ⟨_, rfl⟩
  have sg19 : ∀ target, Steps p.tables e below (T9.setTop (mkF m 87 #[.val (.int p1), .val (.int p2), .val (.int p3), .val (.int v5_t0), .val (.int r6), .val (.int r7), .val (.int r8), .val (.int r9), .val (.int u10), .val (.int u12), .val (.int u14), .val (.int u16), .unset, .unset, .unset, .unset, .unset, .unset, .unset] [(.int u18)])) target → Steps p.tables e below (T9.setTop (mkF m 79 #[.val (.int p1), .val (.int p2), .val (.int p3), .val (.int v5_t0), .val (.int r6), .val (.int r7), .val (.int r8), .val (.int r9), .val (.int u10), .val (.int u12), .val (.int u14), .unset, .unset, .unset, .unset, .unset, .unset, .unset, .unset] [(.int u16)])) target := by
    intro target kt
    subst hu18
    show Steps p.tables e below (T9.setTop (mkF m 79 #[.val (.int p1), .val (.int p2), .val (.int p3), .val (.int v5_t0), .val (.int r6), .val (.int r7), .val (.int r8), .val (.int r9), .val (.int u10), .val (.int u12), .val (.int u14), .unset, .unset, .unset, .unset, .unset, .unset, .unset, .unset] [(.int u16)])) _
    refine XS.istore X9.here hx rfl (hb hby at_79) rfl (l' := #[.val (.int p1), .val (.int p2), .val (.int p3), .val (.int v5_t0), .val (.int r6), .val (.int r7), .val (.int r8), .val (.int r9), .val (.int u10), .val (.int u12), .val (.int u14), .val (.int u16), .unset, .unset, .unset, .unset, .unset, .unset, .unset]) rfl ?_
    show Steps p.tables e below (T9.setTop (mkF m 81 #[.val (.int p1), .val (.int p2), .val (.int p3), .val (.int v5_t0), .val (.int r6), .val (.int r7), .val (.int r8), .val (.int r9), .val (.int u10), .val (.int u12), .val (.int u14), .val (.int u16), .unset, .unset, .unset, .unset, .unset, .unset, .unset] [])) _
    refine XS.iloadN X9.here hx rfl (hb hby at_81) rfl ?_
    show Steps p.tables e below (T9.setTop (mkF m 82 #[.val (.int p1), .val (.int p2), .val (.int p3), .val (.int v5_t0), .val (.int r6), .val (.int r7), .val (.int r8), .val (.int r9), .val (.int u10), .val (.int u12), .val (.int u14), .val (.int u16), .unset, .unset, .unset, .unset, .unset, .unset, .unset] [(.int p3)])) _
    refine XS.bipush X9.here hx rfl (hb hby at_82) ?_
    show Steps p.tables e below (T9.setTop (mkF m 84 #[.val (.int p1), .val (.int p2), .val (.int p3), .val (.int v5_t0), .val (.int r6), .val (.int r7), .val (.int r8), .val (.int r9), .val (.int u10), .val (.int u12), .val (.int u14), .val (.int u16), .unset, .unset, .unset, .unset, .unset, .unset, .unset] [(.int (10 : Int32)), (.int p3)])) _
    refine XS.iushr X9.here hx rfl (hb hby at_84) rfl ?_
    show Steps p.tables e below (T9.setTop (mkF m 85 #[.val (.int p1), .val (.int p2), .val (.int p3), .val (.int v5_t0), .val (.int r6), .val (.int r7), .val (.int r8), .val (.int r9), .val (.int u10), .val (.int u12), .val (.int u14), .val (.int u16), .unset, .unset, .unset, .unset, .unset, .unset, .unset] [(.int ((p3.toUInt32 >>> ((10 : Int32) &&& 31).toUInt32).toInt32))])) _
    refine XS.iconst X9.here hx rfl (hb hby at_85) ?_
    show Steps p.tables e below (T9.setTop (mkF m 86 #[.val (.int p1), .val (.int p2), .val (.int p3), .val (.int v5_t0), .val (.int r6), .val (.int r7), .val (.int r8), .val (.int r9), .val (.int u10), .val (.int u12), .val (.int u14), .val (.int u16), .unset, .unset, .unset, .unset, .unset, .unset, .unset] [(.int (3 : Int32)), (.int ((p3.toUInt32 >>> ((10 : Int32) &&& 31).toUInt32).toInt32))])) _
    refine XS.iand X9.here hx rfl (hb hby at_86) rfl ?_
    exact kt
  have sg20 : ∀ target, Steps p.tables e below (T9.setTop (mkF m 89 #[.val (.int p1), .val (.int p2), .val (.int p3), .val (.int v5_t0), .val (.int r6), .val (.int r7), .val (.int r8), .val (.int r9), .val (.int u10), .val (.int u12), .val (.int u14), .val (.int u16), .val (.int u18), .unset, .unset, .unset, .unset, .unset, .unset] [])) target → Steps p.tables e below (T9.setTop (mkF m 87 #[.val (.int p1), .val (.int p2), .val (.int p3), .val (.int v5_t0), .val (.int r6), .val (.int r7), .val (.int r8), .val (.int r9), .val (.int u10), .val (.int u12), .val (.int u14), .val (.int u16), .unset, .unset, .unset, .unset, .unset, .unset, .unset] [(.int u18)])) target := by
    intro target kt
    show Steps p.tables e below (T9.setTop (mkF m 87 #[.val (.int p1), .val (.int p2), .val (.int p3), .val (.int v5_t0), .val (.int r6), .val (.int r7), .val (.int r8), .val (.int r9), .val (.int u10), .val (.int u12), .val (.int u14), .val (.int u16), .unset, .unset, .unset, .unset, .unset, .unset, .unset] [(.int u18)])) _
    refine XS.istore X9.here hx rfl (hb hby at_87) rfl (l' := #[.val (.int p1), .val (.int p2), .val (.int p3), .val (.int v5_t0), .val (.int r6), .val (.int r7), .val (.int r8), .val (.int r9), .val (.int u10), .val (.int u12), .val (.int u14), .val (.int u16), .val (.int u18), .unset, .unset, .unset, .unset, .unset, .unset]) rfl ?_
    exact kt
  obtain ⟨T43, L43, v43_t0, h43, vm43, kk43, t_43, kb_43, X43, e43, N43, O43, K43, KK43, Y43, Yk43, hZ43, hown43, CR_43, CQ43, ge_v43_t0, bo_v43_t0, bo_t_43, E_v43_t0, Fc_v43_t0, Fv_v43_t0, V_v43_t0, sg43⟩ : ∃ (T' : State) (L' : List Loc) (v43_t0 : Addr) (h' : Heap) (vm' : Vm) (k' : Nat) (t_43 : Addr) (kb_43 : ClassId), Stand p l e room_1 (s.setVm vm') m #[(.int p1), (.int p2), (.int p3)] below meth c T' L' 3 8 ∧ T'.heap = h' ∧ Fr n0 L' ∧ Old Z n0 h' ∧ Keep h0 h' [] ∧ Keep h0 h' [] ∧ s.Since vm' k' ∧ k' ≤ h'.size ∧ Z.Warmed39 (s.setVm vm').vm ∧ (s.setVm vm').vm.findClass "com/example/muninn/muninn/store/NodeEqualsPinLaw" = some m.cls ∧ CHr Z own_EL s.vm h0 vm' h' ∧ CHr Z own_EL s.vm h0 vm' h' ∧ n0 ≤ v43_t0 ∧ h0.size ≤ v43_t0 ∧ h0.size ≤ t_43 ∧ Exa Z h' v43_t0 "java/lang/String" ∧ Fld Z h' v43_t0 "java/lang/String" "coder" "B" (.int (0 : Int32)) ∧ Fld Z h' v43_t0 "java/lang/String" "value" "[B" (.ref t_43) ∧ Arv Z h' t_43 kb_43 .byte (Int32.ofNat ((own_cs2 u10 r6 r7)).length) (strV (own_cs2 u10 r6 r7)) (.int 0) ∧ ∀ target, Steps p.tables e below (T'.setTop (mkF m 123 #[.val (.int p1), .val (.int p2), .val (.int p3), .val (.int v5_t0), .val (.int r6), .val (.int r7), .val (.int r8), .val (.int r9), .val (.int u10), .val (.int u12), .val (.int u14), .val (.int u16), .val (.int u18), .unset, .unset, .unset, .unset, .unset, .unset] [(.ref v43_t0)])) target → Steps p.tables e below (T9.setTop (mkF m 89 #[.val (.int p1), .val (.int p2), .val (.int p3), .val (.int v5_t0), .val (.int r6), .val (.int r7), .val (.int r8), .val (.int r9), .val (.int u10), .val (.int u12), .val (.int u14), .val (.int u16), .val (.int u18), .unset, .unset, .unset, .unset, .unset, .unset] [])) target := by
    have sg21 : ∀ target, Steps p.tables e below (T9.setTop (mkF m 92 #[.val (.int p1), .val (.int p2), .val (.int p3), .val (.int v5_t0), .val (.int r6), .val (.int r7), .val (.int r8), .val (.int r9), .val (.int u10), .val (.int u12), .val (.int u14), .val (.int u16), .val (.int u18), .unset, .unset, .unset, .unset, .unset, .unset] [(.int (1 : Int32)), (.int u10)])) target → Steps p.tables e below (T9.setTop (mkF m 89 #[.val (.int p1), .val (.int p2), .val (.int p3), .val (.int v5_t0), .val (.int r6), .val (.int r7), .val (.int r8), .val (.int r9), .val (.int u10), .val (.int u12), .val (.int u14), .val (.int u16), .val (.int u18), .unset, .unset, .unset, .unset, .unset, .unset] [])) target := by
      intro target kt
      show Steps p.tables e below (T9.setTop (mkF m 89 #[.val (.int p1), .val (.int p2), .val (.int p3), .val (.int v5_t0), .val (.int r6), .val (.int r7), .val (.int r8), .val (.int r9), .val (.int u10), .val (.int u12), .val (.int u14), .val (.int u16), .val (.int u18), .unset, .unset, .unset, .unset, .unset, .unset] [])) _
      refine XS.iload X9.here hx rfl (hb hby at_89) rfl ?_
      show Steps p.tables e below (T9.setTop (mkF m 91 #[.val (.int p1), .val (.int p2), .val (.int p3), .val (.int v5_t0), .val (.int r6), .val (.int r7), .val (.int r8), .val (.int r9), .val (.int u10), .val (.int u12), .val (.int u14), .val (.int u16), .val (.int u18), .unset, .unset, .unset, .unset, .unset, .unset] [(.int u10)])) _
      refine XS.iconst X9.here hx rfl (hb hby at_91) ?_
      exact kt
    by_cases hc22 : u10 = (1 : Int32)
    · obtain ⟨_, _, ⟨T23, L23, k23, n23⟩, -, X23, ⟨Lc23, hQ23, l23, y23, z23⟩, st23⟩ := Jvm.LawKit.callS X9 hx (y := (⟨"java/lang/String", "valueOf", "(C)Ljava/lang/String;"⟩ : MethodName)) hown (mvT hZ (hw _ (List.mem_of_getElem? (i := 5) rfl))) (mvT hZ (hw _ (List.mem_of_getElem? (i := 6) rfl))) (mvT hZ (hw _ (List.mem_of_getElem? (i := 7) rfl))) (mvT hZ (hw _ (List.mem_of_getElem? (i := 8) rfl))) (by decide) (backOf (W := 0) (rm2 l Z a0 hw [] r6 zC vFM h0 n0 O0 S_COMPACT_STRINGS S_SIOOBE_FORMATTER hCS (own_okr ok_r6).2) hZ (hw _ (List.mem_of_getElem? (i := 8) rfl)) (hw _ (List.mem_of_getElem? (i := 7) rfl)) (by decide) (by decide)) (g := (mkF m 97 #[.val (.int p1), .val (.int p2), .val (.int p3), .val (.int v5_t0), .val (.int r6), .val (.int r7), .val (.int r8), .val (.int r9), .val (.int u10), .val (.int u12), .val (.int u14), .val (.int u16), .val (.int u18), .unset, .unset, .unset, .unset, .unset, .unset] [(.int r6)])) rfl (by rw [hml]; rfl) (argsL := [(.int r6)]) (rest := []) (lenOf pd_13 rfl) rfl (by show 2 * 0 + _ ≤ _; exact Nat.le_of_eq rfl) (hb hby at_97) (fun _ _ => ⟨rfl, e9, (by decide : 0 + 2 ≤ _), (by decide : 0 + 5 ≤ _)⟩)
      dsimp only [Pt.U, Pt.locs, Pt.cells, Pt.slots] at X23 l23 y23 z23 st23 hQ23
      subst l23 y23 z23
      obtain ⟨r_23, t_23, kb_23, rfl, N23q, K23q, O23, f23_0, f23_1, f23_2, f23_3, f23_4, f23_5, f23_6, f23_7⟩ := hQ23
      have N23 := Fr.app N9 N23q
      have CR24 := CR0.trans (CHr.keep K23q all0 CR0.1)
      have K23 := K0.trans K23q all0
      have sg25 : ∀ target, Steps p.tables e below (T23.setTop (mkF m 123 #[.val (.int p1), .val (.int p2), .val (.int p3), .val (.int v5_t0), .val (.int r6), .val (.int r7), .val (.int r8), .val (.int r9), .val (.int u10), .val (.int u12), .val (.int u14), .val (.int u16), .val (.int u18), .unset, .unset, .unset, .unset, .unset, .unset] [(.ref r_23)])) target → Steps p.tables e below (T9.setTop (mkF m 92 #[.val (.int p1), .val (.int p2), .val (.int p3), .val (.int v5_t0), .val (.int r6), .val (.int r7), .val (.int r8), .val (.int r9), .val (.int u10), .val (.int u12), .val (.int u14), .val (.int u16), .val (.int u18), .unset, .unset, .unset, .unset, .unset, .unset] [(.int (1 : Int32)), (.int u10)])) target := by
        intro target kt
        show Steps p.tables e below (T9.setTop (mkF m 92 #[.val (.int p1), .val (.int p2), .val (.int p3), .val (.int v5_t0), .val (.int r6), .val (.int r7), .val (.int r8), .val (.int r9), .val (.int u10), .val (.int u12), .val (.int u14), .val (.int u16), .val (.int u18), .unset, .unset, .unset, .unset, .unset, .unset] [(.int (1 : Int32)), (.int u10)])) _
        refine XS.icmpNo X9.here hx rfl (hb hby at_92) rfl (teq hc22).2 ?_
        show Steps p.tables e below (T9.setTop (mkF m 95 #[.val (.int p1), .val (.int p2), .val (.int p3), .val (.int v5_t0), .val (.int r6), .val (.int r7), .val (.int r8), .val (.int r9), .val (.int u10), .val (.int u12), .val (.int u14), .val (.int u16), .val (.int u18), .unset, .unset, .unset, .unset, .unset, .unset] [])) _
        refine XS.iload X9.here hx rfl (hb hby at_95) rfl ?_
        show Steps p.tables e below (T9.setTop (mkF m 97 #[.val (.int p1), .val (.int p2), .val (.int p3), .val (.int v5_t0), .val (.int r6), .val (.int r7), .val (.int r8), .val (.int r9), .val (.int u10), .val (.int u12), .val (.int u14), .val (.int u16), .val (.int u18), .unset, .unset, .unset, .unset, .unset, .unset] [(.int r6)])) _
        refine st23 _ ?_
        show Steps p.tables e below (T23.setTop (mkF m 100 #[.val (.int p1), .val (.int p2), .val (.int p3), .val (.int v5_t0), .val (.int r6), .val (.int r7), .val (.int r8), .val (.int r9), .val (.int u10), .val (.int u12), .val (.int u14), .val (.int u16), .val (.int u18), .unset, .unset, .unset, .unset, .unset, .unset] [(.ref r_23)])) _
        refine XS.goto X23.here hx rfl (pc0 := 100) (pc' := 123) rfl (hb hby at_100) (by decide) (by decide) ?_
        exact kt
      exact ⟨T23, _, r_23, T23.heap, s.vm, _, t_23, kb_23, X23.mono (by decide) (by decide), rfl, N23, O23, ((Keep.refl h0 []).trans K23q all0), K23, Y0, (Nat.le_trans Yk0 K23q.1), hZ, hown, CR24, ((CHr.refl CR0.1).trans (CHr.keep K23q all0 CR0.1)), f23_0, (Nat.le_trans (Nat.le_refl _) f23_1), (Nat.le_trans (Nat.le_refl _) f23_3), f23_4, f23_5, f23_6, (by rw [own_cs2a hc22]; exact f23_7), fun target kt => sg21 _ (sg25 _ (kt))⟩
    · obtain ⟨T26, h26, X26, e26, E26, A26, D26, -, st26⟩ := newO X9 hx hZ hown (hw _ (List.mem_of_getElem? (i := 31) rfl)) (hw _ (List.mem_of_getElem? (i := 15) rfl)) (hw _ (List.mem_of_getElem? (i := 7) rfl)) e9 (g := (mkF m 103 #[.val (.int p1), .val (.int p2), .val (.int p3), .val (.int v5_t0), .val (.int r6), .val (.int r7), .val (.int r8), .val (.int r9), .val (.int u10), .val (.int u12), .val (.int u14), .val (.int u16), .val (.int u18), .unset, .unset, .unset, .unset, .unset, .unset] [])) rfl (hb hby at_103) (by decide) (by decide)
      obtain ⟨b26, g26⟩ : ∃ z, z = h0.size := ⟨_, rfl⟩
      rw [← g26] at A26 D26 st26
      have ge_b26 : n0 ≤ b26 := Nat.le_trans (own_osz O0) (Nat.le_of_eq g26.symm)
      have sz_b26 : h0.size ≤ b26 := Nat.le_trans K0.1 (Nat.le_of_eq g26.symm)
      have O27 := O0.ext E26
      have K26 := K0.ext E26
      have CR28 := CR0.trans (CHr.ext E26 CR0.1)
      have F_value_b26 : Fld Z h26 b26 "java/lang/String" "value" "[B" .null := D26 (Or.inr (hw _ (List.mem_of_getElem? (i := 28) rfl))) (ty := (.array .byte)) (by decide)
      have F_coder_b26 : Fld Z h26 b26 "java/lang/String" "coder" "B" (.int (0 : Int32)) := D26 (Or.inr (hw _ (List.mem_of_getElem? (i := 30) rfl))) (ty := .byte) (by decide)
      obtain ⟨T29, h29, k29, X29, e29, E29, A29, st29⟩ := newP X26 hx hZ (hw _ (List.mem_of_getElem? (i := 32) rfl)) e26 (g := (mkF m 108 #[.val (.int p1), .val (.int p2), .val (.int p3), .val (.int v5_t0), .val (.int r6), .val (.int r7), .val (.int r8), .val (.int r9), .val (.int u10), .val (.int u12), .val (.int u14), .val (.int u16), .val (.int u18), .unset, .unset, .unset, .unset, .unset, .unset] [(.int (2 : Int32)), (.ref b26), (.ref b26)])) rfl (hb hby at_108) rfl (by decide) (cap := 2) (by decide) (by decide) (by decide) (by decide)
      obtain ⟨b29, g29⟩ : ∃ z, z = h26.size := ⟨_, rfl⟩
      rw [← g29] at A29 st29
      have ge_b29 : n0 ≤ b29 := Nat.le_trans (own_osz O27) (Nat.le_of_eq g29.symm)
      have sz_b29 : h0.size ≤ b29 := Nat.le_trans K26.1 (Nat.le_of_eq g29.symm)
      have O30 := O27.ext E29
      have K29 := K26.ext E29
      have CR31 := CR28.trans (CHr.ext E29 CR28.1)
      have V_b29 : Arv Z h29 b29 k29 .char (2 : Int32) [(.int (0 : Int32)), (.int (0 : Int32))] (.int (0 : Int32)) := (Arv.new A29 (by decide)).pad (pad_rep [] (.int (0 : Int32)) 2)
      obtain ⟨cl32, Ar32, q32, Sz32, Nn32, Hh32, Gg32⟩ := id V_b29
      have hin32 : ¬ ((0 : Int32) < 0 ∨ cl32.slots.size ≤ ((0 : Int32)).toNatClampNeg) := inb_of Sz32 ⟨by decide, by decide⟩
      obtain ⟨T33, h33, X33, e33, W33, st33⟩ := stC X29 hx hZ e29 Ar32 (j := (0 : Int32)) hin32 (g := (mkF m 114 #[.val (.int p1), .val (.int p2), .val (.int p3), .val (.int v5_t0), .val (.int r6), .val (.int r7), .val (.int r8), .val (.int r9), .val (.int u10), .val (.int u12), .val (.int u14), .val (.int u16), .val (.int u18), .unset, .unset, .unset, .unset, .unset, .unset] [(.int r6), (.int (0 : Int32)), (.ref b29), (.ref b29), (.ref b26), (.ref b26)])) rfl rfl (hb hby at_114)
      have V33 : Arv Z h33 b29 k29 .char (2 : Int32) [(.int (nar .char r6)), (.int (0 : Int32))] (.int (0 : Int32)) := Arv.set Ar32 q32 Sz32 Nn32 Hh32 Gg32 (fits_nar_char _) W33 0 rfl (Nat.le_of_ble_eq_true rfl)
      have N33 := Fr.snoc X33 N9 ge_b29
      have O34 := O30.wr W33 ge_b29
      have K33 := K29.wr W33 (Or.inr sz_b29)
      have CR35 := CR31.trans (CHr.wr W33 (own_safearr hZ.alike V_b29 (by decide)) CR31.1)
      obtain ⟨cl36, Ar36, q36, Sz36, Nn36, Hh36, Gg36⟩ := id V33
      have hin36 : ¬ ((1 : Int32) < 0 ∨ cl36.slots.size ≤ ((1 : Int32)).toNatClampNeg) := inb_of Sz36 ⟨by decide, by decide⟩
      obtain ⟨T37, h37, X37, e37, W37, st37⟩ := stC X33 hx hZ e33 Ar36 (j := (1 : Int32)) hin36 (g := (mkF m 119 #[.val (.int p1), .val (.int p2), .val (.int p3), .val (.int v5_t0), .val (.int r6), .val (.int r7), .val (.int r8), .val (.int r9), .val (.int u10), .val (.int u12), .val (.int u14), .val (.int u16), .val (.int u18), .unset, .unset, .unset, .unset, .unset, .unset] [(.int r7), (.int (1 : Int32)), (.ref b29), (.ref b29), (.ref b26), (.ref b26)])) rfl rfl (hb hby at_119)
      have V37 : Arv Z h37 b29 k29 .char (2 : Int32) [(.int (nar .char r6)), (.int (nar .char r7))] (.int (0 : Int32)) := Arv.set Ar36 q36 Sz36 Nn36 Hh36 Gg36 (fits_nar_char _) W37 1 rfl (Nat.le_of_ble_eq_true rfl)
      have N37 := Fr.snoc X37 N33 ge_b29
      have O38 := O34.wr W37 ge_b29
      have K37 := K33.wr W37 (Or.inr sz_b29)
      have CR39 := CR35.trans (CHr.wr W37 (own_safearr hZ.alike V33 (by decide)) CR35.1)
      have lat40 : Lat ([(nar .char r6), (nar .char r7)] : List Int32) := own_vlat (Or.inr (Or.inl ⟨_, _, rfl, by rw [own_narC (own_okr ok_r6)]; exact ok_r6, by rw [own_narC (own_okr ok_r7)]; exact ok_r7⟩))
      obtain ⟨vv40, _, ⟨T40, L40, k40, n40⟩, -, X40, ⟨Lc40, hQ40, l40, y40, z40⟩, st40⟩ := X37.specialBack hx (y := (⟨"java/lang/String", "<init>", "([C)V"⟩ : MethodName)) rfl hown (mvT hZ (hw _ (List.mem_of_getElem? (i := 33) rfl))) (mvT hZ (hw _ (List.mem_of_getElem? (i := 34) rfl))) (mvT hZ (hw _ (List.mem_of_getElem? (i := 35) rfl))) (by decide) (StrChars.Road.backV (W := 1) hZ (own_wn hw) (kI := 4) (hw _ (List.mem_of_getElem? (i := 15) rfl)) (cs := ([(nar .char r6), (nar .char r7)] : List Int32)) (bs := (([(nar .char r6), (nar .char r7)] : List Int32)).map StrChars.lo8) (n := 2) ge_b26 (own_osz O38) (((A26.ext E29).wr W33).wr W37) (((F_value_b26.ext E29).other W33 (Or.inl (Nat.ne_of_lt (Nat.lt_of_lt_of_le A26.lt (Nat.le_of_eq g29.symm))))).other W37 (Or.inl (Nat.ne_of_lt (Nat.lt_of_lt_of_le A26.lt (Nat.le_of_eq g29.symm))))) (((F_coder_b26.ext E29).other W33 (Or.inl (Nat.ne_of_lt (Nat.lt_of_lt_of_le A26.lt (Nat.le_of_eq g29.symm))))).other W37 (Or.inl (Nat.ne_of_lt (Nat.lt_of_lt_of_le A26.lt (Nat.le_of_eq g29.symm))))) V37 (S_COMPACT_STRINGS.ext O38.2) hCS rfl rfl (by decide) (by decide) lat40.1 rfl (by decide) (by decide)) (g := (mkF m 120 #[.val (.int p1), .val (.int p2), .val (.int p3), .val (.int v5_t0), .val (.int r6), .val (.int r7), .val (.int r8), .val (.int r9), .val (.int u10), .val (.int u12), .val (.int u14), .val (.int u16), .val (.int u18), .unset, .unset, .unset, .unset, .unset, .unset] [(.ref b29), (.ref b26), (.ref b26)])) rfl (by rw [hml]; rfl) (Steps.refl _) (a := b26) (argsL := [(.ref b29)]) (rest := [(.ref b26)]) (lenOf pd_14 rfl) rfl (by show 2 * 0 + _ ≤ _; exact Nat.le_of_eq rfl) (hb hby at_120) (fun _ _ => ⟨rfl, e37, (by decide : 2 + 1 ≤ _), (by decide : 6 + 2 ≤ _)⟩)
      dsimp only [Pt.U, Pt.locs, Pt.cells, Pt.slots] at X40 l40 y40 z40 st40 hQ40
      subst l40 y40 z40
      obtain ⟨rfl, N40q, K40q, A40, Fc40, t40, kb40, gt40, bt40, nt40, Fv40, Va40⟩ := hQ40
      have N40 := Fr.app N37 N40q
      have V40 : Arv Z T40.heap t40 kb40 .byte (Int32.ofNat (([(nar .char r6), (nar .char r7)] : List Int32)).length) (strV ([(nar .char r6), (nar .char r7)] : List Int32)) (.int 0) := Va40
      have sz_t40 : h0.size ≤ t40 := Nat.le_trans K37.1 bt40
      have CR41 := CR39.trans (CHr.keep K40q (allS (Safe.wr W37 (own_safearr hZ.alike V33 (by decide)) CR35.1 (Safe.wr W33 (own_safearr hZ.alike V_b29 (by decide)) CR31.1 (Safe.ext E29 CR28.1 (Safe.ext E26 CR0.1 (Safe.new (Nat.le_of_eq g26.symm)))))) all0) CR39.1)
      have O40 := O38.keep K40q (allS ge_b26 all0)
      have K40 := K37.trans K40q (allS (Or.inr sz_b26) all0)
      have sg42 : ∀ target, Steps p.tables e below (T40.setTop (mkF m 123 #[.val (.int p1), .val (.int p2), .val (.int p3), .val (.int v5_t0), .val (.int r6), .val (.int r7), .val (.int r8), .val (.int r9), .val (.int u10), .val (.int u12), .val (.int u14), .val (.int u16), .val (.int u18), .unset, .unset, .unset, .unset, .unset, .unset] [(.ref b26)])) target → Steps p.tables e below (T9.setTop (mkF m 92 #[.val (.int p1), .val (.int p2), .val (.int p3), .val (.int v5_t0), .val (.int r6), .val (.int r7), .val (.int r8), .val (.int r9), .val (.int u10), .val (.int u12), .val (.int u14), .val (.int u16), .val (.int u18), .unset, .unset, .unset, .unset, .unset, .unset] [(.int (1 : Int32)), (.int u10)])) target := by
        intro target kt
        show Steps p.tables e below (T9.setTop (mkF m 92 #[.val (.int p1), .val (.int p2), .val (.int p3), .val (.int v5_t0), .val (.int r6), .val (.int r7), .val (.int r8), .val (.int r9), .val (.int u10), .val (.int u12), .val (.int u14), .val (.int u16), .val (.int u18), .unset, .unset, .unset, .unset, .unset, .unset] [(.int (1 : Int32)), (.int u10)])) _
        refine XS.icmpYes X9.here hx rfl (pc0 := 92) (pc' := 103) rfl (hb hby at_92) rfl (feq hc22).2 (by decide) (by decide) ?_
        show Steps p.tables e below (T9.setTop (mkF m 103 #[.val (.int p1), .val (.int p2), .val (.int p3), .val (.int v5_t0), .val (.int r6), .val (.int r7), .val (.int r8), .val (.int r9), .val (.int u10), .val (.int u12), .val (.int u14), .val (.int u16), .val (.int u18), .unset, .unset, .unset, .unset, .unset, .unset] [])) _
        refine st26 _ ?_
        show Steps p.tables e below (T26.setTop (mkF m 106 #[.val (.int p1), .val (.int p2), .val (.int p3), .val (.int v5_t0), .val (.int r6), .val (.int r7), .val (.int r8), .val (.int r9), .val (.int u10), .val (.int u12), .val (.int u14), .val (.int u16), .val (.int u18), .unset, .unset, .unset, .unset, .unset, .unset] [(.ref b26)])) _
        refine XS.dup X26.here hx rfl (hb hby at_106) rfl rfl ?_
        show Steps p.tables e below (T26.setTop (mkF m 107 #[.val (.int p1), .val (.int p2), .val (.int p3), .val (.int v5_t0), .val (.int r6), .val (.int r7), .val (.int r8), .val (.int r9), .val (.int u10), .val (.int u12), .val (.int u14), .val (.int u16), .val (.int u18), .unset, .unset, .unset, .unset, .unset, .unset] [(.ref b26), (.ref b26)])) _
        refine XS.iconst X26.here hx rfl (hb hby at_107) ?_
        show Steps p.tables e below (T26.setTop (mkF m 108 #[.val (.int p1), .val (.int p2), .val (.int p3), .val (.int v5_t0), .val (.int r6), .val (.int r7), .val (.int r8), .val (.int r9), .val (.int u10), .val (.int u12), .val (.int u14), .val (.int u16), .val (.int u18), .unset, .unset, .unset, .unset, .unset, .unset] [(.int (2 : Int32)), (.ref b26), (.ref b26)])) _
        refine st29 _ ?_
        show Steps p.tables e below (T29.setTop (mkF m 110 #[.val (.int p1), .val (.int p2), .val (.int p3), .val (.int v5_t0), .val (.int r6), .val (.int r7), .val (.int r8), .val (.int r9), .val (.int u10), .val (.int u12), .val (.int u14), .val (.int u16), .val (.int u18), .unset, .unset, .unset, .unset, .unset, .unset] [(.ref b29), (.ref b26), (.ref b26)])) _
        refine XS.dup X29.here hx rfl (hb hby at_110) rfl rfl ?_
        show Steps p.tables e below (T29.setTop (mkF m 111 #[.val (.int p1), .val (.int p2), .val (.int p3), .val (.int v5_t0), .val (.int r6), .val (.int r7), .val (.int r8), .val (.int r9), .val (.int u10), .val (.int u12), .val (.int u14), .val (.int u16), .val (.int u18), .unset, .unset, .unset, .unset, .unset, .unset] [(.ref b29), (.ref b29), (.ref b26), (.ref b26)])) _
        refine XS.iconst X29.here hx rfl (hb hby at_111) ?_
        show Steps p.tables e below (T29.setTop (mkF m 112 #[.val (.int p1), .val (.int p2), .val (.int p3), .val (.int v5_t0), .val (.int r6), .val (.int r7), .val (.int r8), .val (.int r9), .val (.int u10), .val (.int u12), .val (.int u14), .val (.int u16), .val (.int u18), .unset, .unset, .unset, .unset, .unset, .unset] [(.int (0 : Int32)), (.ref b29), (.ref b29), (.ref b26), (.ref b26)])) _
        refine XS.iload X29.here hx rfl (hb hby at_112) rfl ?_
        show Steps p.tables e below (T29.setTop (mkF m 114 #[.val (.int p1), .val (.int p2), .val (.int p3), .val (.int v5_t0), .val (.int r6), .val (.int r7), .val (.int r8), .val (.int r9), .val (.int u10), .val (.int u12), .val (.int u14), .val (.int u16), .val (.int u18), .unset, .unset, .unset, .unset, .unset, .unset] [(.int r6), (.int (0 : Int32)), (.ref b29), (.ref b29), (.ref b26), (.ref b26)])) _
        refine st33 _ ?_
        show Steps p.tables e below (T33.setTop (mkF m 115 #[.val (.int p1), .val (.int p2), .val (.int p3), .val (.int v5_t0), .val (.int r6), .val (.int r7), .val (.int r8), .val (.int r9), .val (.int u10), .val (.int u12), .val (.int u14), .val (.int u16), .val (.int u18), .unset, .unset, .unset, .unset, .unset, .unset] [(.ref b29), (.ref b26), (.ref b26)])) _
        refine XS.dup X33.here hx rfl (hb hby at_115) rfl rfl ?_
        show Steps p.tables e below (T33.setTop (mkF m 116 #[.val (.int p1), .val (.int p2), .val (.int p3), .val (.int v5_t0), .val (.int r6), .val (.int r7), .val (.int r8), .val (.int r9), .val (.int u10), .val (.int u12), .val (.int u14), .val (.int u16), .val (.int u18), .unset, .unset, .unset, .unset, .unset, .unset] [(.ref b29), (.ref b29), (.ref b26), (.ref b26)])) _
        refine XS.iconst X33.here hx rfl (hb hby at_116) ?_
        show Steps p.tables e below (T33.setTop (mkF m 117 #[.val (.int p1), .val (.int p2), .val (.int p3), .val (.int v5_t0), .val (.int r6), .val (.int r7), .val (.int r8), .val (.int r9), .val (.int u10), .val (.int u12), .val (.int u14), .val (.int u16), .val (.int u18), .unset, .unset, .unset, .unset, .unset, .unset] [(.int (1 : Int32)), (.ref b29), (.ref b29), (.ref b26), (.ref b26)])) _
        refine XS.iload X33.here hx rfl (hb hby at_117) rfl ?_
        show Steps p.tables e below (T33.setTop (mkF m 119 #[.val (.int p1), .val (.int p2), .val (.int p3), .val (.int v5_t0), .val (.int r6), .val (.int r7), .val (.int r8), .val (.int r9), .val (.int u10), .val (.int u12), .val (.int u14), .val (.int u16), .val (.int u18), .unset, .unset, .unset, .unset, .unset, .unset] [(.int r7), (.int (1 : Int32)), (.ref b29), (.ref b29), (.ref b26), (.ref b26)])) _
        refine st37 _ ?_
        show Steps p.tables e below (T37.setTop (mkF m 120 #[.val (.int p1), .val (.int p2), .val (.int p3), .val (.int v5_t0), .val (.int r6), .val (.int r7), .val (.int r8), .val (.int r9), .val (.int u10), .val (.int u12), .val (.int u14), .val (.int u16), .val (.int u18), .unset, .unset, .unset, .unset, .unset, .unset] [(.ref b29), (.ref b26), (.ref b26)])) _
        refine st40.trans ?_
        exact kt
      exact ⟨T40, _, b26, T40.heap, s.vm, _, t40, kb40, X40.mono (by decide) (by decide), rfl, N40, O40, ((((((Keep.refl h0 []).ext E26).ext E29).wr W33 (Or.inr (Nat.le_trans (Nat.le_trans (Nat.le_refl _) E26.1) (Nat.le_of_eq g29.symm)))).wr W37 (Or.inr (Nat.le_trans (Nat.le_trans (Nat.le_refl _) E26.1) (Nat.le_of_eq g29.symm)))).trans K40q (allS (Or.inr (Nat.le_trans (Nat.le_refl _) (Nat.le_of_eq g26.symm))) all0)), K40, Y0, (Nat.le_trans (Nat.le_trans (Nat.le_trans (Nat.le_trans (Nat.le_trans Yk0 E26.1) E29.1) (Keep.of_wr W33).1) (Keep.of_wr W37).1) K40q.1), hZ, hown, CR41, ((((((CHr.refl CR0.1).trans (CHr.ext E26 CR0.1)).trans (CHr.ext E29 CR28.1)).trans (CHr.wr W33 (own_safearr hZ.alike V_b29 (by decide)) CR31.1)).trans (CHr.wr W37 (own_safearr hZ.alike V33 (by decide)) CR35.1)).trans (CHr.keep K40q (allS (Safe.wr W37 (own_safearr hZ.alike V33 (by decide)) CR35.1 (Safe.wr W33 (own_safearr hZ.alike V_b29 (by decide)) CR31.1 (Safe.ext E29 CR28.1 (Safe.ext E26 CR0.1 (Safe.new (Nat.le_of_eq g26.symm)))))) all0) CR39.1)), ge_b26, (Nat.le_trans (Nat.le_refl _) (Nat.le_of_eq g26.symm)), (Nat.le_trans (Nat.le_trans (Nat.le_trans (Nat.le_trans (Nat.le_trans (Nat.le_refl _) E26.1) E29.1) (Keep.of_wr W33).1) (Keep.of_wr W37).1) bt40), A40, Fc40, Fv40, (by rw [own_cs2b hc22 (own_okr ok_r6) (own_okr ok_r7)]; exact V40), fun target kt => sg21 _ (sg42 _ (kt))⟩
  have vis_v43_t0 : own_Vis (own_cs2 u10 r6 r7) := own_cs2vis ok_r6 ok_r7
  have sg44 : ∀ target, Steps p.tables e below (T43.setTop (mkF m 125 #[.val (.int p1), .val (.int p2), .val (.int p3), .val (.int v5_t0), .val (.int r6), .val (.int r7), .val (.int r8), .val (.int r9), .val (.int u10), .val (.int u12), .val (.int u14), .val (.int u16), .val (.int u18), .val (.ref v43_t0), .unset, .unset, .unset, .unset, .unset] [])) target → Steps p.tables e below (T43.setTop (mkF m 123 #[.val (.int p1), .val (.int p2), .val (.int p3), .val (.int v5_t0), .val (.int r6), .val (.int r7), .val (.int r8), .val (.int r9), .val (.int u10), .val (.int u12), .val (.int u14), .val (.int u16), .val (.int u18), .unset, .unset, .unset, .unset, .unset, .unset] [(.ref v43_t0)])) target := by
    intro target kt
    show Steps p.tables e below (T43.setTop (mkF m 123 #[.val (.int p1), .val (.int p2), .val (.int p3), .val (.int v5_t0), .val (.int r6), .val (.int r7), .val (.int r8), .val (.int r9), .val (.int u10), .val (.int u12), .val (.int u14), .val (.int u16), .val (.int u18), .unset, .unset, .unset, .unset, .unset, .unset] [(.ref v43_t0)])) _
    refine XS.astore X43.here hx rfl (hb hby at_123) rfl rfl (l' := #[.val (.int p1), .val (.int p2), .val (.int p3), .val (.int v5_t0), .val (.int r6), .val (.int r7), .val (.int r8), .val (.int r9), .val (.int u10), .val (.int u12), .val (.int u14), .val (.int u16), .val (.int u18), .val (.ref v43_t0), .unset, .unset, .unset, .unset, .unset]) rfl ?_
    exact kt
  obtain ⟨T67, L67, v67_t0, h67, vm67, kk67, t_67, kb_67, X67, e67, N67, O67, K67, KK67, Y67, Yk67, hZ67, hown67, CR_67, CQ67, ge_v67_t0, bo_v67_t0, bo_t_67, E_v67_t0, Fc_v67_t0, Fv_v67_t0, V_v67_t0, sg67⟩ : ∃ (T' : State) (L' : List Loc) (v67_t0 : Addr) (h' : Heap) (vm' : Vm) (k' : Nat) (t_67 : Addr) (kb_67 : ClassId), Stand p l e room_1 (s.setVm vm') m #[(.int p1), (.int p2), (.int p3)] below meth c T' L' 6 16 ∧ T'.heap = h' ∧ Fr n0 L' ∧ Old Z n0 h' ∧ Keep h43 h' [] ∧ Keep h0 h' [] ∧ s.Since vm' k' ∧ k' ≤ h'.size ∧ Z.Warmed39 (s.setVm vm').vm ∧ (s.setVm vm').vm.findClass "com/example/muninn/muninn/store/NodeEqualsPinLaw" = some m.cls ∧ CHr Z own_EL s.vm h0 vm' h' ∧ CHr Z own_EL vm43 h43 vm' h' ∧ n0 ≤ v67_t0 ∧ h43.size ≤ v67_t0 ∧ h43.size ≤ t_67 ∧ Exa Z h' v67_t0 "java/lang/String" ∧ Fld Z h' v67_t0 "java/lang/String" "coder" "B" (.int (0 : Int32)) ∧ Fld Z h' v67_t0 "java/lang/String" "value" "[B" (.ref t_67) ∧ Arv Z h' t_67 kb_67 .byte (Int32.ofNat ((own_cs2 u12 r8 r9)).length) (strV (own_cs2 u12 r8 r9)) (.int 0) ∧ ∀ target, Steps p.tables e below (T'.setTop (mkF m 159 #[.val (.int p1), .val (.int p2), .val (.int p3), .val (.int v5_t0), .val (.int r6), .val (.int r7), .val (.int r8), .val (.int r9), .val (.int u10), .val (.int u12), .val (.int u14), .val (.int u16), .val (.int u18), .val (.ref v43_t0), .unset, .unset, .unset, .unset, .unset] [(.ref v67_t0)])) target → Steps p.tables e below (T43.setTop (mkF m 125 #[.val (.int p1), .val (.int p2), .val (.int p3), .val (.int v5_t0), .val (.int r6), .val (.int r7), .val (.int r8), .val (.int r9), .val (.int u10), .val (.int u12), .val (.int u14), .val (.int u16), .val (.int u18), .val (.ref v43_t0), .unset, .unset, .unset, .unset, .unset] [])) target := by
    have sg45 : ∀ target, Steps p.tables e below (T43.setTop (mkF m 128 #[.val (.int p1), .val (.int p2), .val (.int p3), .val (.int v5_t0), .val (.int r6), .val (.int r7), .val (.int r8), .val (.int r9), .val (.int u10), .val (.int u12), .val (.int u14), .val (.int u16), .val (.int u18), .val (.ref v43_t0), .unset, .unset, .unset, .unset, .unset] [(.int (1 : Int32)), (.int u12)])) target → Steps p.tables e below (T43.setTop (mkF m 125 #[.val (.int p1), .val (.int p2), .val (.int p3), .val (.int v5_t0), .val (.int r6), .val (.int r7), .val (.int r8), .val (.int r9), .val (.int u10), .val (.int u12), .val (.int u14), .val (.int u16), .val (.int u18), .val (.ref v43_t0), .unset, .unset, .unset, .unset, .unset] [])) target := by
      intro target kt
      show Steps p.tables e below (T43.setTop (mkF m 125 #[.val (.int p1), .val (.int p2), .val (.int p3), .val (.int v5_t0), .val (.int r6), .val (.int r7), .val (.int r8), .val (.int r9), .val (.int u10), .val (.int u12), .val (.int u14), .val (.int u16), .val (.int u18), .val (.ref v43_t0), .unset, .unset, .unset, .unset, .unset] [])) _
      refine XS.iload X43.here hx rfl (hb hby at_125) rfl ?_
      show Steps p.tables e below (T43.setTop (mkF m 127 #[.val (.int p1), .val (.int p2), .val (.int p3), .val (.int v5_t0), .val (.int r6), .val (.int r7), .val (.int r8), .val (.int r9), .val (.int u10), .val (.int u12), .val (.int u14), .val (.int u16), .val (.int u18), .val (.ref v43_t0), .unset, .unset, .unset, .unset, .unset] [(.int u12)])) _
      refine XS.iconst X43.here hx rfl (hb hby at_127) ?_
      exact kt
    by_cases hc46 : u12 = (1 : Int32)
    · obtain ⟨_, _, ⟨T47, L47, k47, n47⟩, -, X47, ⟨Lc47, hQ47, l47, y47, z47⟩, st47⟩ := Jvm.LawKit.callS X43 hx (y := (⟨"java/lang/String", "valueOf", "(C)Ljava/lang/String;"⟩ : MethodName)) hown43 (mvT hZ43 (hw _ (List.mem_of_getElem? (i := 5) rfl))) (mvT hZ43 (hw _ (List.mem_of_getElem? (i := 6) rfl))) (mvT hZ43 (hw _ (List.mem_of_getElem? (i := 7) rfl))) (mvT hZ43 (hw _ (List.mem_of_getElem? (i := 8) rfl))) (by decide) (backOf (W := 0) (rm2 l Z a0 hw [] r8 zC vFM h43 n0 O43 S_COMPACT_STRINGS S_SIOOBE_FORMATTER hCS (own_okr ok_r8).2) hZ43 (hw _ (List.mem_of_getElem? (i := 8) rfl)) (hw _ (List.mem_of_getElem? (i := 7) rfl)) (by decide) (by decide)) (g := (mkF m 133 #[.val (.int p1), .val (.int p2), .val (.int p3), .val (.int v5_t0), .val (.int r6), .val (.int r7), .val (.int r8), .val (.int r9), .val (.int u10), .val (.int u12), .val (.int u14), .val (.int u16), .val (.int u18), .val (.ref v43_t0), .unset, .unset, .unset, .unset, .unset] [(.int r8)])) rfl (by rw [hml]; rfl) (argsL := [(.int r8)]) (rest := []) (lenOf pd_13 rfl) rfl (by show 2 * 0 + _ ≤ _; exact Nat.le_of_eq rfl) (hb hby at_133) (fun _ _ => ⟨rfl, e43, (by decide : 3 + 2 ≤ _), (by decide : 8 + 5 ≤ _)⟩)
      dsimp only [Pt.U, Pt.locs, Pt.cells, Pt.slots] at X47 l47 y47 z47 st47 hQ47
      subst l47 y47 z47
      obtain ⟨r_47, t_47, kb_47, rfl, N47q, K47q, O47, f47_0, f47_1, f47_2, f47_3, f47_4, f47_5, f47_6, f47_7⟩ := hQ47
      have N47 := Fr.app N43 N47q
      have CR48 := CR_43.trans (CHr.keep K47q all0 CR_43.1)
      have K47 := KK43.trans K47q all0
      have sg49 : ∀ target, Steps p.tables e below (T47.setTop (mkF m 159 #[.val (.int p1), .val (.int p2), .val (.int p3), .val (.int v5_t0), .val (.int r6), .val (.int r7), .val (.int r8), .val (.int r9), .val (.int u10), .val (.int u12), .val (.int u14), .val (.int u16), .val (.int u18), .val (.ref v43_t0), .unset, .unset, .unset, .unset, .unset] [(.ref r_47)])) target → Steps p.tables e below (T43.setTop (mkF m 128 #[.val (.int p1), .val (.int p2), .val (.int p3), .val (.int v5_t0), .val (.int r6), .val (.int r7), .val (.int r8), .val (.int r9), .val (.int u10), .val (.int u12), .val (.int u14), .val (.int u16), .val (.int u18), .val (.ref v43_t0), .unset, .unset, .unset, .unset, .unset] [(.int (1 : Int32)), (.int u12)])) target := by
        intro target kt
        show Steps p.tables e below (T43.setTop (mkF m 128 #[.val (.int p1), .val (.int p2), .val (.int p3), .val (.int v5_t0), .val (.int r6), .val (.int r7), .val (.int r8), .val (.int r9), .val (.int u10), .val (.int u12), .val (.int u14), .val (.int u16), .val (.int u18), .val (.ref v43_t0), .unset, .unset, .unset, .unset, .unset] [(.int (1 : Int32)), (.int u12)])) _
        refine XS.icmpNo X43.here hx rfl (hb hby at_128) rfl (teq hc46).2 ?_
        show Steps p.tables e below (T43.setTop (mkF m 131 #[.val (.int p1), .val (.int p2), .val (.int p3), .val (.int v5_t0), .val (.int r6), .val (.int r7), .val (.int r8), .val (.int r9), .val (.int u10), .val (.int u12), .val (.int u14), .val (.int u16), .val (.int u18), .val (.ref v43_t0), .unset, .unset, .unset, .unset, .unset] [])) _
        refine XS.iload X43.here hx rfl (hb hby at_131) rfl ?_
        show Steps p.tables e below (T43.setTop (mkF m 133 #[.val (.int p1), .val (.int p2), .val (.int p3), .val (.int v5_t0), .val (.int r6), .val (.int r7), .val (.int r8), .val (.int r9), .val (.int u10), .val (.int u12), .val (.int u14), .val (.int u16), .val (.int u18), .val (.ref v43_t0), .unset, .unset, .unset, .unset, .unset] [(.int r8)])) _
        refine st47 _ ?_
        show Steps p.tables e below (T47.setTop (mkF m 136 #[.val (.int p1), .val (.int p2), .val (.int p3), .val (.int v5_t0), .val (.int r6), .val (.int r7), .val (.int r8), .val (.int r9), .val (.int u10), .val (.int u12), .val (.int u14), .val (.int u16), .val (.int u18), .val (.ref v43_t0), .unset, .unset, .unset, .unset, .unset] [(.ref r_47)])) _
        refine XS.goto X47.here hx rfl (pc0 := 136) (pc' := 159) rfl (hb hby at_136) (by decide) (by decide) ?_
        exact kt
      exact ⟨T47, _, r_47, T47.heap, vm43, _, t_47, kb_47, X47.mono (by decide) (by decide), rfl, N47, O47, ((Keep.refl h43 []).trans K47q all0), K47, Y43, (Nat.le_trans Yk43 K47q.1), hZ43, hown43, CR48, ((CHr.refl CR_43.1).trans (CHr.keep K47q all0 CR_43.1)), f47_0, (Nat.le_trans (Nat.le_refl _) f47_1), (Nat.le_trans (Nat.le_refl _) f47_3), f47_4, f47_5, f47_6, (by rw [own_cs2a hc46]; exact f47_7), fun target kt => sg45 _ (sg49 _ (kt))⟩
    · obtain ⟨T50, h50, X50, e50, E50, A50, D50, -, st50⟩ := newO X43 hx hZ43 hown43 (hw _ (List.mem_of_getElem? (i := 31) rfl)) (hw _ (List.mem_of_getElem? (i := 15) rfl)) (hw _ (List.mem_of_getElem? (i := 7) rfl)) e43 (g := (mkF m 139 #[.val (.int p1), .val (.int p2), .val (.int p3), .val (.int v5_t0), .val (.int r6), .val (.int r7), .val (.int r8), .val (.int r9), .val (.int u10), .val (.int u12), .val (.int u14), .val (.int u16), .val (.int u18), .val (.ref v43_t0), .unset, .unset, .unset, .unset, .unset] [])) rfl (hb hby at_139) (by decide) (by decide)
      obtain ⟨b50, g50⟩ : ∃ z, z = h43.size := ⟨_, rfl⟩
      rw [← g50] at A50 D50 st50
      have ge_b50 : n0 ≤ b50 := Nat.le_trans (own_osz O43) (Nat.le_of_eq g50.symm)
      have sz_b50 : h0.size ≤ b50 := Nat.le_trans KK43.1 (Nat.le_of_eq g50.symm)
      have O51 := O43.ext E50
      have K50 := KK43.ext E50
      have CR52 := CR_43.trans (CHr.ext E50 CR_43.1)
      have F_value_b50 : Fld Z h50 b50 "java/lang/String" "value" "[B" .null := D50 (Or.inr (hw _ (List.mem_of_getElem? (i := 28) rfl))) (ty := (.array .byte)) (by decide)
      have F_coder_b50 : Fld Z h50 b50 "java/lang/String" "coder" "B" (.int (0 : Int32)) := D50 (Or.inr (hw _ (List.mem_of_getElem? (i := 30) rfl))) (ty := .byte) (by decide)
      obtain ⟨T53, h53, k53, X53, e53, E53, A53, st53⟩ := newP X50 hx hZ43 (hw _ (List.mem_of_getElem? (i := 32) rfl)) e50 (g := (mkF m 144 #[.val (.int p1), .val (.int p2), .val (.int p3), .val (.int v5_t0), .val (.int r6), .val (.int r7), .val (.int r8), .val (.int r9), .val (.int u10), .val (.int u12), .val (.int u14), .val (.int u16), .val (.int u18), .val (.ref v43_t0), .unset, .unset, .unset, .unset, .unset] [(.int (2 : Int32)), (.ref b50), (.ref b50)])) rfl (hb hby at_144) rfl (by decide) (cap := 2) (by decide) (by decide) (by decide) (by decide)
      obtain ⟨b53, g53⟩ : ∃ z, z = h50.size := ⟨_, rfl⟩
      rw [← g53] at A53 st53
      have ge_b53 : n0 ≤ b53 := Nat.le_trans (own_osz O51) (Nat.le_of_eq g53.symm)
      have sz_b53 : h0.size ≤ b53 := Nat.le_trans K50.1 (Nat.le_of_eq g53.symm)
      have O54 := O51.ext E53
      have K53 := K50.ext E53
      have CR55 := CR52.trans (CHr.ext E53 CR52.1)
      have V_b53 : Arv Z h53 b53 k53 .char (2 : Int32) [(.int (0 : Int32)), (.int (0 : Int32))] (.int (0 : Int32)) := (Arv.new A53 (by decide)).pad (pad_rep [] (.int (0 : Int32)) 2)
      obtain ⟨cl56, Ar56, q56, Sz56, Nn56, Hh56, Gg56⟩ := id V_b53
      have hin56 : ¬ ((0 : Int32) < 0 ∨ cl56.slots.size ≤ ((0 : Int32)).toNatClampNeg) := inb_of Sz56 ⟨by decide, by decide⟩
      obtain ⟨T57, h57, X57, e57, W57, st57⟩ := stC X53 hx hZ43 e53 Ar56 (j := (0 : Int32)) hin56 (g := (mkF m 150 #[.val (.int p1), .val (.int p2), .val (.int p3), .val (.int v5_t0), .val (.int r6), .val (.int r7), .val (.int r8), .val (.int r9), .val (.int u10), .val (.int u12), .val (.int u14), .val (.int u16), .val (.int u18), .val (.ref v43_t0), .unset, .unset, .unset, .unset, .unset] [(.int r8), (.int (0 : Int32)), (.ref b53), (.ref b53), (.ref b50), (.ref b50)])) rfl rfl (hb hby at_150)
      have V57 : Arv Z h57 b53 k53 .char (2 : Int32) [(.int (nar .char r8)), (.int (0 : Int32))] (.int (0 : Int32)) := Arv.set Ar56 q56 Sz56 Nn56 Hh56 Gg56 (fits_nar_char _) W57 0 rfl (Nat.le_of_ble_eq_true rfl)
      have N57 := Fr.snoc X57 N43 ge_b53
      have O58 := O54.wr W57 ge_b53
      have K57 := K53.wr W57 (Or.inr sz_b53)
      have CR59 := CR55.trans (CHr.wr W57 (own_safearr hZ43.alike V_b53 (by decide)) CR55.1)
      obtain ⟨cl60, Ar60, q60, Sz60, Nn60, Hh60, Gg60⟩ := id V57
      have hin60 : ¬ ((1 : Int32) < 0 ∨ cl60.slots.size ≤ ((1 : Int32)).toNatClampNeg) := inb_of Sz60 ⟨by decide, by decide⟩
      obtain ⟨T61, h61, X61, e61, W61, st61⟩ := stC X57 hx hZ43 e57 Ar60 (j := (1 : Int32)) hin60 (g := (mkF m 155 #[.val (.int p1), .val (.int p2), .val (.int p3), .val (.int v5_t0), .val (.int r6), .val (.int r7), .val (.int r8), .val (.int r9), .val (.int u10), .val (.int u12), .val (.int u14), .val (.int u16), .val (.int u18), .val (.ref v43_t0), .unset, .unset, .unset, .unset, .unset] [(.int r9), (.int (1 : Int32)), (.ref b53), (.ref b53), (.ref b50), (.ref b50)])) rfl rfl (hb hby at_155)
      have V61 : Arv Z h61 b53 k53 .char (2 : Int32) [(.int (nar .char r8)), (.int (nar .char r9))] (.int (0 : Int32)) := Arv.set Ar60 q60 Sz60 Nn60 Hh60 Gg60 (fits_nar_char _) W61 1 rfl (Nat.le_of_ble_eq_true rfl)
      have N61 := Fr.snoc X61 N57 ge_b53
      have O62 := O58.wr W61 ge_b53
      have K61 := K57.wr W61 (Or.inr sz_b53)
      have CR63 := CR59.trans (CHr.wr W61 (own_safearr hZ43.alike V57 (by decide)) CR59.1)
      have lat64 : Lat ([(nar .char r8), (nar .char r9)] : List Int32) := own_vlat (Or.inr (Or.inl ⟨_, _, rfl, by rw [own_narC (own_okr ok_r8)]; exact ok_r8, by rw [own_narC (own_okr ok_r9)]; exact ok_r9⟩))
      obtain ⟨vv64, _, ⟨T64, L64, k64, n64⟩, -, X64, ⟨Lc64, hQ64, l64, y64, z64⟩, st64⟩ := X61.specialBack hx (y := (⟨"java/lang/String", "<init>", "([C)V"⟩ : MethodName)) rfl hown43 (mvT hZ43 (hw _ (List.mem_of_getElem? (i := 33) rfl))) (mvT hZ43 (hw _ (List.mem_of_getElem? (i := 34) rfl))) (mvT hZ43 (hw _ (List.mem_of_getElem? (i := 35) rfl))) (by decide) (StrChars.Road.backV (W := 1) hZ43 (own_wn hw) (kI := 4) (hw _ (List.mem_of_getElem? (i := 15) rfl)) (cs := ([(nar .char r8), (nar .char r9)] : List Int32)) (bs := (([(nar .char r8), (nar .char r9)] : List Int32)).map StrChars.lo8) (n := 2) ge_b50 (own_osz O62) (((A50.ext E53).wr W57).wr W61) (((F_value_b50.ext E53).other W57 (Or.inl (Nat.ne_of_lt (Nat.lt_of_lt_of_le A50.lt (Nat.le_of_eq g53.symm))))).other W61 (Or.inl (Nat.ne_of_lt (Nat.lt_of_lt_of_le A50.lt (Nat.le_of_eq g53.symm))))) (((F_coder_b50.ext E53).other W57 (Or.inl (Nat.ne_of_lt (Nat.lt_of_lt_of_le A50.lt (Nat.le_of_eq g53.symm))))).other W61 (Or.inl (Nat.ne_of_lt (Nat.lt_of_lt_of_le A50.lt (Nat.le_of_eq g53.symm))))) V61 (S_COMPACT_STRINGS.ext O62.2) hCS rfl rfl (by decide) (by decide) lat64.1 rfl (by decide) (by decide)) (g := (mkF m 156 #[.val (.int p1), .val (.int p2), .val (.int p3), .val (.int v5_t0), .val (.int r6), .val (.int r7), .val (.int r8), .val (.int r9), .val (.int u10), .val (.int u12), .val (.int u14), .val (.int u16), .val (.int u18), .val (.ref v43_t0), .unset, .unset, .unset, .unset, .unset] [(.ref b53), (.ref b50), (.ref b50)])) rfl (by rw [hml]; rfl) (Steps.refl _) (a := b50) (argsL := [(.ref b53)]) (rest := [(.ref b50)]) (lenOf pd_14 rfl) rfl (by show 2 * 0 + _ ≤ _; exact Nat.le_of_eq rfl) (hb hby at_156) (fun _ _ => ⟨rfl, e61, (by decide : 5 + 1 ≤ _), (by decide : 14 + 2 ≤ _)⟩)
      dsimp only [Pt.U, Pt.locs, Pt.cells, Pt.slots] at X64 l64 y64 z64 st64 hQ64
      subst l64 y64 z64
      obtain ⟨rfl, N64q, K64q, A64, Fc64, t64, kb64, gt64, bt64, nt64, Fv64, Va64⟩ := hQ64
      have N64 := Fr.app N61 N64q
      have V64 : Arv Z T64.heap t64 kb64 .byte (Int32.ofNat (([(nar .char r8), (nar .char r9)] : List Int32)).length) (strV ([(nar .char r8), (nar .char r9)] : List Int32)) (.int 0) := Va64
      have sz_t64 : h0.size ≤ t64 := Nat.le_trans K61.1 bt64
      have CR65 := CR63.trans (CHr.keep K64q (allS (Safe.wr W61 (own_safearr hZ43.alike V57 (by decide)) CR59.1 (Safe.wr W57 (own_safearr hZ43.alike V_b53 (by decide)) CR55.1 (Safe.ext E53 CR52.1 (Safe.ext E50 CR_43.1 (Safe.new (Nat.le_of_eq g50.symm)))))) all0) CR63.1)
      have O64 := O62.keep K64q (allS ge_b50 all0)
      have K64 := K61.trans K64q (allS (Or.inr sz_b50) all0)
      have sg66 : ∀ target, Steps p.tables e below (T64.setTop (mkF m 159 #[.val (.int p1), .val (.int p2), .val (.int p3), .val (.int v5_t0), .val (.int r6), .val (.int r7), .val (.int r8), .val (.int r9), .val (.int u10), .val (.int u12), .val (.int u14), .val (.int u16), .val (.int u18), .val (.ref v43_t0), .unset, .unset, .unset, .unset, .unset] [(.ref b50)])) target → Steps p.tables e below (T43.setTop (mkF m 128 #[.val (.int p1), .val (.int p2), .val (.int p3), .val (.int v5_t0), .val (.int r6), .val (.int r7), .val (.int r8), .val (.int r9), .val (.int u10), .val (.int u12), .val (.int u14), .val (.int u16), .val (.int u18), .val (.ref v43_t0), .unset, .unset, .unset, .unset, .unset] [(.int (1 : Int32)), (.int u12)])) target := by
        intro target kt
        show Steps p.tables e below (T43.setTop (mkF m 128 #[.val (.int p1), .val (.int p2), .val (.int p3), .val (.int v5_t0), .val (.int r6), .val (.int r7), .val (.int r8), .val (.int r9), .val (.int u10), .val (.int u12), .val (.int u14), .val (.int u16), .val (.int u18), .val (.ref v43_t0), .unset, .unset, .unset, .unset, .unset] [(.int (1 : Int32)), (.int u12)])) _
        refine XS.icmpYes X43.here hx rfl (pc0 := 128) (pc' := 139) rfl (hb hby at_128) rfl (feq hc46).2 (by decide) (by decide) ?_
        show Steps p.tables e below (T43.setTop (mkF m 139 #[.val (.int p1), .val (.int p2), .val (.int p3), .val (.int v5_t0), .val (.int r6), .val (.int r7), .val (.int r8), .val (.int r9), .val (.int u10), .val (.int u12), .val (.int u14), .val (.int u16), .val (.int u18), .val (.ref v43_t0), .unset, .unset, .unset, .unset, .unset] [])) _
        refine st50 _ ?_
        show Steps p.tables e below (T50.setTop (mkF m 142 #[.val (.int p1), .val (.int p2), .val (.int p3), .val (.int v5_t0), .val (.int r6), .val (.int r7), .val (.int r8), .val (.int r9), .val (.int u10), .val (.int u12), .val (.int u14), .val (.int u16), .val (.int u18), .val (.ref v43_t0), .unset, .unset, .unset, .unset, .unset] [(.ref b50)])) _
        refine XS.dup X50.here hx rfl (hb hby at_142) rfl rfl ?_
        show Steps p.tables e below (T50.setTop (mkF m 143 #[.val (.int p1), .val (.int p2), .val (.int p3), .val (.int v5_t0), .val (.int r6), .val (.int r7), .val (.int r8), .val (.int r9), .val (.int u10), .val (.int u12), .val (.int u14), .val (.int u16), .val (.int u18), .val (.ref v43_t0), .unset, .unset, .unset, .unset, .unset] [(.ref b50), (.ref b50)])) _
        refine XS.iconst X50.here hx rfl (hb hby at_143) ?_
        show Steps p.tables e below (T50.setTop (mkF m 144 #[.val (.int p1), .val (.int p2), .val (.int p3), .val (.int v5_t0), .val (.int r6), .val (.int r7), .val (.int r8), .val (.int r9), .val (.int u10), .val (.int u12), .val (.int u14), .val (.int u16), .val (.int u18), .val (.ref v43_t0), .unset, .unset, .unset, .unset, .unset] [(.int (2 : Int32)), (.ref b50), (.ref b50)])) _
        refine st53 _ ?_
        show Steps p.tables e below (T53.setTop (mkF m 146 #[.val (.int p1), .val (.int p2), .val (.int p3), .val (.int v5_t0), .val (.int r6), .val (.int r7), .val (.int r8), .val (.int r9), .val (.int u10), .val (.int u12), .val (.int u14), .val (.int u16), .val (.int u18), .val (.ref v43_t0), .unset, .unset, .unset, .unset, .unset] [(.ref b53), (.ref b50), (.ref b50)])) _
        refine XS.dup X53.here hx rfl (hb hby at_146) rfl rfl ?_
        show Steps p.tables e below (T53.setTop (mkF m 147 #[.val (.int p1), .val (.int p2), .val (.int p3), .val (.int v5_t0), .val (.int r6), .val (.int r7), .val (.int r8), .val (.int r9), .val (.int u10), .val (.int u12), .val (.int u14), .val (.int u16), .val (.int u18), .val (.ref v43_t0), .unset, .unset, .unset, .unset, .unset] [(.ref b53), (.ref b53), (.ref b50), (.ref b50)])) _
        refine XS.iconst X53.here hx rfl (hb hby at_147) ?_
        show Steps p.tables e below (T53.setTop (mkF m 148 #[.val (.int p1), .val (.int p2), .val (.int p3), .val (.int v5_t0), .val (.int r6), .val (.int r7), .val (.int r8), .val (.int r9), .val (.int u10), .val (.int u12), .val (.int u14), .val (.int u16), .val (.int u18), .val (.ref v43_t0), .unset, .unset, .unset, .unset, .unset] [(.int (0 : Int32)), (.ref b53), (.ref b53), (.ref b50), (.ref b50)])) _
        refine XS.iload X53.here hx rfl (hb hby at_148) rfl ?_
        show Steps p.tables e below (T53.setTop (mkF m 150 #[.val (.int p1), .val (.int p2), .val (.int p3), .val (.int v5_t0), .val (.int r6), .val (.int r7), .val (.int r8), .val (.int r9), .val (.int u10), .val (.int u12), .val (.int u14), .val (.int u16), .val (.int u18), .val (.ref v43_t0), .unset, .unset, .unset, .unset, .unset] [(.int r8), (.int (0 : Int32)), (.ref b53), (.ref b53), (.ref b50), (.ref b50)])) _
        refine st57 _ ?_
        show Steps p.tables e below (T57.setTop (mkF m 151 #[.val (.int p1), .val (.int p2), .val (.int p3), .val (.int v5_t0), .val (.int r6), .val (.int r7), .val (.int r8), .val (.int r9), .val (.int u10), .val (.int u12), .val (.int u14), .val (.int u16), .val (.int u18), .val (.ref v43_t0), .unset, .unset, .unset, .unset, .unset] [(.ref b53), (.ref b50), (.ref b50)])) _
        refine XS.dup X57.here hx rfl (hb hby at_151) rfl rfl ?_
        show Steps p.tables e below (T57.setTop (mkF m 152 #[.val (.int p1), .val (.int p2), .val (.int p3), .val (.int v5_t0), .val (.int r6), .val (.int r7), .val (.int r8), .val (.int r9), .val (.int u10), .val (.int u12), .val (.int u14), .val (.int u16), .val (.int u18), .val (.ref v43_t0), .unset, .unset, .unset, .unset, .unset] [(.ref b53), (.ref b53), (.ref b50), (.ref b50)])) _
        refine XS.iconst X57.here hx rfl (hb hby at_152) ?_
        show Steps p.tables e below (T57.setTop (mkF m 153 #[.val (.int p1), .val (.int p2), .val (.int p3), .val (.int v5_t0), .val (.int r6), .val (.int r7), .val (.int r8), .val (.int r9), .val (.int u10), .val (.int u12), .val (.int u14), .val (.int u16), .val (.int u18), .val (.ref v43_t0), .unset, .unset, .unset, .unset, .unset] [(.int (1 : Int32)), (.ref b53), (.ref b53), (.ref b50), (.ref b50)])) _
        refine XS.iload X57.here hx rfl (hb hby at_153) rfl ?_
        show Steps p.tables e below (T57.setTop (mkF m 155 #[.val (.int p1), .val (.int p2), .val (.int p3), .val (.int v5_t0), .val (.int r6), .val (.int r7), .val (.int r8), .val (.int r9), .val (.int u10), .val (.int u12), .val (.int u14), .val (.int u16), .val (.int u18), .val (.ref v43_t0), .unset, .unset, .unset, .unset, .unset] [(.int r9), (.int (1 : Int32)), (.ref b53), (.ref b53), (.ref b50), (.ref b50)])) _
        refine st61 _ ?_
        show Steps p.tables e below (T61.setTop (mkF m 156 #[.val (.int p1), .val (.int p2), .val (.int p3), .val (.int v5_t0), .val (.int r6), .val (.int r7), .val (.int r8), .val (.int r9), .val (.int u10), .val (.int u12), .val (.int u14), .val (.int u16), .val (.int u18), .val (.ref v43_t0), .unset, .unset, .unset, .unset, .unset] [(.ref b53), (.ref b50), (.ref b50)])) _
        refine st64.trans ?_
        exact kt
      exact ⟨T64, _, b50, T64.heap, vm43, _, t64, kb64, X64.mono (by decide) (by decide), rfl, N64, O64, ((((((Keep.refl h43 []).ext E50).ext E53).wr W57 (Or.inr (Nat.le_trans (Nat.le_trans (Nat.le_refl _) E50.1) (Nat.le_of_eq g53.symm)))).wr W61 (Or.inr (Nat.le_trans (Nat.le_trans (Nat.le_refl _) E50.1) (Nat.le_of_eq g53.symm)))).trans K64q (allS (Or.inr (Nat.le_trans (Nat.le_refl _) (Nat.le_of_eq g50.symm))) all0)), K64, Y43, (Nat.le_trans (Nat.le_trans (Nat.le_trans (Nat.le_trans (Nat.le_trans Yk43 E50.1) E53.1) (Keep.of_wr W57).1) (Keep.of_wr W61).1) K64q.1), hZ43, hown43, CR65, ((((((CHr.refl CR_43.1).trans (CHr.ext E50 CR_43.1)).trans (CHr.ext E53 CR52.1)).trans (CHr.wr W57 (own_safearr hZ43.alike V_b53 (by decide)) CR55.1)).trans (CHr.wr W61 (own_safearr hZ43.alike V57 (by decide)) CR59.1)).trans (CHr.keep K64q (allS (Safe.wr W61 (own_safearr hZ43.alike V57 (by decide)) CR59.1 (Safe.wr W57 (own_safearr hZ43.alike V_b53 (by decide)) CR55.1 (Safe.ext E53 CR52.1 (Safe.ext E50 CR_43.1 (Safe.new (Nat.le_of_eq g50.symm)))))) all0) CR63.1)), ge_b50, (Nat.le_trans (Nat.le_refl _) (Nat.le_of_eq g50.symm)), (Nat.le_trans (Nat.le_trans (Nat.le_trans (Nat.le_trans (Nat.le_trans (Nat.le_refl _) E50.1) E53.1) (Keep.of_wr W57).1) (Keep.of_wr W61).1) bt64), A64, Fc64, Fv64, (by rw [own_cs2b hc46 (own_okr ok_r8) (own_okr ok_r9)]; exact V64), fun target kt => sg45 _ (sg66 _ (kt))⟩
  have vis_v67_t0 : own_Vis (own_cs2 u12 r8 r9) := own_cs2vis ok_r8 ok_r9
  obtain ⟨_, _, ⟨T68, L68, k68, n68⟩, -, X68, Y68, G68, ⟨Lc68, hQ68, l68, y68, z68, C68⟩, st68⟩ := callSS X67 hx (y := (⟨"com/example/muninn/muninn/store/NodeEqualsPinLaw", "mk", "(Ljava/lang/String;I)Lcom/example/muninn/muninn/store/Node;"⟩ : MethodName)) hown67 (mvT hZ67 (hw _ (List.mem_of_getElem? (i := 49) rfl))) (mvT hZ67 (hw _ (List.mem_of_getElem? (i := 50) rfl))) (mvT hZ67 (hw _ (List.mem_of_getElem? (i := 3) rfl))) (mvT hZ67 (hw _ (List.mem_of_getElem? (i := 51) rfl))) (by decide) (backOfSH (W := 0) (rm12 l Z a0 hw [] v43_t0 u14 (own_cs2 u10 r6 r7) zC wE wA wG vFM t_43 kb_43 h67 n0 O67 S_COMPACT_STRINGS S_SIOOBE_FORMATTER S_ENTITY S_ACTIVITY S_AGENT hCS hFM hXE hXA hXG (E_v43_t0.keep K67) (Fc_v43_t0.keep K67 nin0) (Fv_v43_t0.keep K67 nin0) (V_v43_t0.keep K67 nin0) (own_vlat vis_v43_t0) vis_v43_t0) hZ67 (hw _ (List.mem_of_getElem? (i := 51) rfl)) (hw _ (List.mem_of_getElem? (i := 3) rfl)) (by decide) (by decide) hEL CR_67.1) (g := (mkF m 165 #[.val (.int p1), .val (.int p2), .val (.int p3), .val (.int v5_t0), .val (.int r6), .val (.int r7), .val (.int r8), .val (.int r9), .val (.int u10), .val (.int u12), .val (.int u14), .val (.int u16), .val (.int u18), .val (.ref v43_t0), .val (.ref v67_t0), .unset, .unset, .unset, .unset] [(.int u14), (.ref v43_t0)])) rfl (by rw [hml]; rfl) (argsL := [(.ref v43_t0), (.int u14)]) (rest := []) (lenOf pd_15 rfl) rfl (by show 2 * 0 + _ ≤ _; exact Nat.le_of_eq rfl) (hb hby at_165) (fun _ _ => ⟨rfl, e67, (by decide : 6 + 7 ≤ _), (by decide : 16 + 66 ≤ _)⟩)
  dsimp only [Pt.U, Pt.locs, Pt.cells, Pt.slots] at X68 l68 y68 z68 st68 hQ68 Y68 G68 C68
  subst l68 y68 z68
  obtain ⟨r_68, rfl, N68q, K68q, O68, f68_0, f68_1, f68_2, f68_3, f68_4⟩ := hQ68
  have N68 := Fr.app N67 N68q
  obtain ⟨X68, Y68, hZ68, hown68⟩ := rebS Y67 (by rw [e67]; exact Yk67) X68 Y68 G68 hZ67 hown67
  have CR69 := CR_67.trans (C68)
  have K68 := KK67.trans K68q all0
  have sg70 : ∀ target, Steps p.tables e below (T68.setTop (mkF m 173 #[.val (.int p1), .val (.int p2), .val (.int p3), .val (.int v5_t0), .val (.int r6), .val (.int r7), .val (.int r8), .val (.int r9), .val (.int u10), .val (.int u12), .val (.int u14), .val (.int u16), .val (.int u18), .val (.ref v43_t0), .val (.ref v67_t0), .val (.ref r_68), .unset, .unset, .unset] [(.int (1 : Int32)), (.int u18)])) target → Steps p.tables e below (T67.setTop (mkF m 159 #[.val (.int p1), .val (.int p2), .val (.int p3), .val (.int v5_t0), .val (.int r6), .val (.int r7), .val (.int r8), .val (.int r9), .val (.int u10), .val (.int u12), .val (.int u14), .val (.int u16), .val (.int u18), .val (.ref v43_t0), .unset, .unset, .unset, .unset, .unset] [(.ref v67_t0)])) target := by
    intro target kt
    show Steps p.tables e below (T67.setTop (mkF m 159 #[.val (.int p1), .val (.int p2), .val (.int p3), .val (.int v5_t0), .val (.int r6), .val (.int r7), .val (.int r8), .val (.int r9), .val (.int u10), .val (.int u12), .val (.int u14), .val (.int u16), .val (.int u18), .val (.ref v43_t0), .unset, .unset, .unset, .unset, .unset] [(.ref v67_t0)])) _
    refine XS.astore X67.here hx rfl (hb hby at_159) rfl rfl (l' := #[.val (.int p1), .val (.int p2), .val (.int p3), .val (.int v5_t0), .val (.int r6), .val (.int r7), .val (.int r8), .val (.int r9), .val (.int u10), .val (.int u12), .val (.int u14), .val (.int u16), .val (.int u18), .val (.ref v43_t0), .val (.ref v67_t0), .unset, .unset, .unset, .unset]) rfl ?_
    show Steps p.tables e below (T67.setTop (mkF m 161 #[.val (.int p1), .val (.int p2), .val (.int p3), .val (.int v5_t0), .val (.int r6), .val (.int r7), .val (.int r8), .val (.int r9), .val (.int u10), .val (.int u12), .val (.int u14), .val (.int u16), .val (.int u18), .val (.ref v43_t0), .val (.ref v67_t0), .unset, .unset, .unset, .unset] [])) _
    refine XS.aload X67.here hx rfl (hb hby at_161) rfl rfl ?_
    show Steps p.tables e below (T67.setTop (mkF m 163 #[.val (.int p1), .val (.int p2), .val (.int p3), .val (.int v5_t0), .val (.int r6), .val (.int r7), .val (.int r8), .val (.int r9), .val (.int u10), .val (.int u12), .val (.int u14), .val (.int u16), .val (.int u18), .val (.ref v43_t0), .val (.ref v67_t0), .unset, .unset, .unset, .unset] [(.ref v43_t0)])) _
    refine XS.iload X67.here hx rfl (hb hby at_163) rfl ?_
    show Steps p.tables e below (T67.setTop (mkF m 165 #[.val (.int p1), .val (.int p2), .val (.int p3), .val (.int v5_t0), .val (.int r6), .val (.int r7), .val (.int r8), .val (.int r9), .val (.int u10), .val (.int u12), .val (.int u14), .val (.int u16), .val (.int u18), .val (.ref v43_t0), .val (.ref v67_t0), .unset, .unset, .unset, .unset] [(.int u14), (.ref v43_t0)])) _
    refine st68.trans ?_
    show Steps p.tables e below (T68.setTop (mkF m 168 #[.val (.int p1), .val (.int p2), .val (.int p3), .val (.int v5_t0), .val (.int r6), .val (.int r7), .val (.int r8), .val (.int r9), .val (.int u10), .val (.int u12), .val (.int u14), .val (.int u16), .val (.int u18), .val (.ref v43_t0), .val (.ref v67_t0), .unset, .unset, .unset, .unset] [(.ref r_68)])) _
    refine XS.astore X68.here hx rfl (hb hby at_168) rfl rfl (l' := #[.val (.int p1), .val (.int p2), .val (.int p3), .val (.int v5_t0), .val (.int r6), .val (.int r7), .val (.int r8), .val (.int r9), .val (.int u10), .val (.int u12), .val (.int u14), .val (.int u16), .val (.int u18), .val (.ref v43_t0), .val (.ref v67_t0), .val (.ref r_68), .unset, .unset, .unset]) rfl ?_
    show Steps p.tables e below (T68.setTop (mkF m 170 #[.val (.int p1), .val (.int p2), .val (.int p3), .val (.int v5_t0), .val (.int r6), .val (.int r7), .val (.int r8), .val (.int r9), .val (.int u10), .val (.int u12), .val (.int u14), .val (.int u16), .val (.int u18), .val (.ref v43_t0), .val (.ref v67_t0), .val (.ref r_68), .unset, .unset, .unset] [])) _
    refine XS.iload X68.here hx rfl (hb hby at_170) rfl ?_
    show Steps p.tables e below (T68.setTop (mkF m 172 #[.val (.int p1), .val (.int p2), .val (.int p3), .val (.int v5_t0), .val (.int r6), .val (.int r7), .val (.int r8), .val (.int r9), .val (.int u10), .val (.int u12), .val (.int u14), .val (.int u16), .val (.int u18), .val (.ref v43_t0), .val (.ref v67_t0), .val (.ref r_68), .unset, .unset, .unset] [(.int u18)])) _
    refine XS.iconst X68.here hx rfl (hb hby at_172) ?_
    exact kt
  by_cases hc71 : u18 = (1 : Int32)
  · obtain ⟨cq72, kq72, q72a, q72b, q72c⟩ := isOf hZ68 rfl f68_2
    obtain ⟨_, _, ⟨T72, L72, k72, n72⟩, -, X72, ⟨Lc72, hQ72, l72, y72, z72⟩, st72⟩ := X68.virtualBack hx (y := (⟨"com/example/muninn/muninn/store/Node", "equals", "(Ljava/lang/Object;)Z"⟩ : MethodName)) (z := (⟨"com/example/muninn/muninn/store/Node", "equals", "(Ljava/lang/Object;)Z"⟩ : MethodName)) hown68 (mvT hZ68 (hw _ (List.mem_of_getElem? (i := 124) rfl))) (mvT hZ68 (hw _ (List.mem_of_getElem? (i := 125) rfl))) (notFace_of_selects (args := #[]) (mvT hZ68 (hw _ (List.mem_of_getElem? (i := 127) rfl)))) (mvT hZ68 (hw _ (List.mem_of_getElem? (i := 127) rfl))) (mvT hZ68 (hw _ (List.mem_of_getElem? (i := 126) rfl))) (by decide) (backOf (W := 0) (rm27_1 l Z a0 hw [] r_68 zC T68.heap n0 O68 S_COMPACT_STRINGS hCS) hZ68 (hw _ (List.mem_of_getElem? (i := 128) rfl)) (hw _ (List.mem_of_getElem? (i := 54) rfl)) (by decide) (by decide)) q72a q72c (g := (mkF m 267 #[.val (.int p1), .val (.int p2), .val (.int p3), .val (.int v5_t0), .val (.int r6), .val (.int r7), .val (.int r8), .val (.int r9), .val (.int u10), .val (.int u12), .val (.int u14), .val (.int u16), .val (.int u18), .val (.ref v43_t0), .val (.ref v67_t0), .val (.ref r_68), .val .null, .val (.int (0 : Int32)), .unset] [.null, (.ref r_68)])) rfl (by rw [hml]; rfl) (Steps.refl _) (argsL := [.null]) (rest := []) (lenOf pd_12 rfl) rfl (by show 2 * 0 + _ ≤ _; exact Nat.le_of_eq rfl) (hb hby at_267) (fun _ _ => ⟨rfl, rfl, (by decide : 13 + 0 ≤ _), (by decide : 82 + 0 ≤ _)⟩)
    dsimp only [Pt.U, Pt.locs, Pt.cells, Pt.slots] at X72 l72 y72 z72 st72 hQ72
    subst l72 y72 z72
    obtain ⟨rfl, N72q, e72⟩ := hQ72
    have N72 := Fr.app N68 N72q
    have sg73 : ∀ target, Steps p.tables e below (T72.setTop (mkF m 270 #[.val (.int p1), .val (.int p2), .val (.int p3), .val (.int v5_t0), .val (.int r6), .val (.int r7), .val (.int r8), .val (.int r9), .val (.int u10), .val (.int u12), .val (.int u14), .val (.int u16), .val (.int u18), .val (.ref v43_t0), .val (.ref v67_t0), .val (.ref r_68), .val .null, .val (.int (0 : Int32)), .unset] [(.int (0 : Int32))])) target → Steps p.tables e below (T68.setTop (mkF m 173 #[.val (.int p1), .val (.int p2), .val (.int p3), .val (.int v5_t0), .val (.int r6), .val (.int r7), .val (.int r8), .val (.int r9), .val (.int u10), .val (.int u12), .val (.int u14), .val (.int u16), .val (.int u18), .val (.ref v43_t0), .val (.ref v67_t0), .val (.ref r_68), .unset, .unset, .unset] [(.int (1 : Int32)), (.int u18)])) target := by
      intro target kt
      show Steps p.tables e below (T68.setTop (mkF m 173 #[.val (.int p1), .val (.int p2), .val (.int p3), .val (.int v5_t0), .val (.int r6), .val (.int r7), .val (.int r8), .val (.int r9), .val (.int u10), .val (.int u12), .val (.int u14), .val (.int u16), .val (.int u18), .val (.ref v43_t0), .val (.ref v67_t0), .val (.ref r_68), .unset, .unset, .unset] [(.int (1 : Int32)), (.int u18)])) _
      refine XS.icmpNo X68.here hx rfl (hb hby at_173) rfl (teq hc71).2 ?_
      show Steps p.tables e below (T68.setTop (mkF m 176 #[.val (.int p1), .val (.int p2), .val (.int p3), .val (.int v5_t0), .val (.int r6), .val (.int r7), .val (.int r8), .val (.int r9), .val (.int u10), .val (.int u12), .val (.int u14), .val (.int u16), .val (.int u18), .val (.ref v43_t0), .val (.ref v67_t0), .val (.ref r_68), .unset, .unset, .unset] [])) _
      refine XS.aconstNull X68.here hx rfl (hb hby at_176) ?_
      show Steps p.tables e below (T68.setTop (mkF m 177 #[.val (.int p1), .val (.int p2), .val (.int p3), .val (.int v5_t0), .val (.int r6), .val (.int r7), .val (.int r8), .val (.int r9), .val (.int u10), .val (.int u12), .val (.int u14), .val (.int u16), .val (.int u18), .val (.ref v43_t0), .val (.ref v67_t0), .val (.ref r_68), .unset, .unset, .unset] [.null])) _
      refine XS.astore X68.here hx rfl (hb hby at_177) rfl rfl (l' := #[.val (.int p1), .val (.int p2), .val (.int p3), .val (.int v5_t0), .val (.int r6), .val (.int r7), .val (.int r8), .val (.int r9), .val (.int u10), .val (.int u12), .val (.int u14), .val (.int u16), .val (.int u18), .val (.ref v43_t0), .val (.ref v67_t0), .val (.ref r_68), .val .null, .unset, .unset]) rfl ?_
      show Steps p.tables e below (T68.setTop (mkF m 179 #[.val (.int p1), .val (.int p2), .val (.int p3), .val (.int v5_t0), .val (.int r6), .val (.int r7), .val (.int r8), .val (.int r9), .val (.int u10), .val (.int u12), .val (.int u14), .val (.int u16), .val (.int u18), .val (.ref v43_t0), .val (.ref v67_t0), .val (.ref r_68), .val .null, .unset, .unset] [])) _
      refine XS.iconst X68.here hx rfl (hb hby at_179) ?_
      show Steps p.tables e below (T68.setTop (mkF m 180 #[.val (.int p1), .val (.int p2), .val (.int p3), .val (.int v5_t0), .val (.int r6), .val (.int r7), .val (.int r8), .val (.int r9), .val (.int u10), .val (.int u12), .val (.int u14), .val (.int u16), .val (.int u18), .val (.ref v43_t0), .val (.ref v67_t0), .val (.ref r_68), .val .null, .unset, .unset] [(.int (0 : Int32))])) _
      refine XS.istore X68.here hx rfl (hb hby at_180) rfl (l' := #[.val (.int p1), .val (.int p2), .val (.int p3), .val (.int v5_t0), .val (.int r6), .val (.int r7), .val (.int r8), .val (.int r9), .val (.int u10), .val (.int u12), .val (.int u14), .val (.int u16), .val (.int u18), .val (.ref v43_t0), .val (.ref v67_t0), .val (.ref r_68), .val .null, .val (.int (0 : Int32)), .unset]) rfl ?_
      show Steps p.tables e below (T68.setTop (mkF m 182 #[.val (.int p1), .val (.int p2), .val (.int p3), .val (.int v5_t0), .val (.int r6), .val (.int r7), .val (.int r8), .val (.int r9), .val (.int u10), .val (.int u12), .val (.int u14), .val (.int u16), .val (.int u18), .val (.ref v43_t0), .val (.ref v67_t0), .val (.ref r_68), .val .null, .val (.int (0 : Int32)), .unset] [])) _
      refine XS.goto X68.here hx rfl (pc0 := 182) (pc' := 263) rfl (hb hby at_182) (by decide) (by decide) ?_
      show Steps p.tables e below (T68.setTop (mkF m 263 #[.val (.int p1), .val (.int p2), .val (.int p3), .val (.int v5_t0), .val (.int r6), .val (.int r7), .val (.int r8), .val (.int r9), .val (.int u10), .val (.int u12), .val (.int u14), .val (.int u16), .val (.int u18), .val (.ref v43_t0), .val (.ref v67_t0), .val (.ref r_68), .val .null, .val (.int (0 : Int32)), .unset] [])) _
      refine XS.aload X68.here hx rfl (hb hby at_263) rfl rfl ?_
      show Steps p.tables e below (T68.setTop (mkF m 265 #[.val (.int p1), .val (.int p2), .val (.int p3), .val (.int v5_t0), .val (.int r6), .val (.int r7), .val (.int r8), .val (.int r9), .val (.int u10), .val (.int u12), .val (.int u14), .val (.int u16), .val (.int u18), .val (.ref v43_t0), .val (.ref v67_t0), .val (.ref r_68), .val .null, .val (.int (0 : Int32)), .unset] [(.ref r_68)])) _
      refine XS.aload X68.here hx rfl (hb hby at_265) rfl rfl ?_
      show Steps p.tables e below (T68.setTop (mkF m 267 #[.val (.int p1), .val (.int p2), .val (.int p3), .val (.int v5_t0), .val (.int r6), .val (.int r7), .val (.int r8), .val (.int r9), .val (.int u10), .val (.int u12), .val (.int u14), .val (.int u16), .val (.int u18), .val (.ref v43_t0), .val (.ref v67_t0), .val (.ref r_68), .val .null, .val (.int (0 : Int32)), .unset] [.null, (.ref r_68)])) _
      refine st72.trans ?_
      exact kt
    obtain ⟨T75, L75, X75, e75, N75, sg75⟩ : ∃ (T' : State) (L' : List Loc), Stand p l e room_1 (s.setVm T68.vm) m #[(.int p1), (.int p2), (.int p3)] below meth c T' L' 13 82 ∧ T'.heap = T68.heap ∧ Fr n0 L' ∧ ∀ target, Steps p.tables e below (T'.setTop (mkF m 280 #[.val (.int p1), .val (.int p2), .val (.int p3), .val (.int v5_t0), .val (.int r6), .val (.int r7), .val (.int r8), .val (.int r9), .val (.int u10), .val (.int u12), .val (.int u14), .val (.int u16), .val (.int u18), .val (.ref v43_t0), .val (.ref v67_t0), .val (.ref r_68), .val .null, .val (.int (0 : Int32)), .unset] [(.int (1 : Int32))])) target → Steps p.tables e below (T72.setTop (mkF m 270 #[.val (.int p1), .val (.int p2), .val (.int p3), .val (.int v5_t0), .val (.int r6), .val (.int r7), .val (.int r8), .val (.int r9), .val (.int u10), .val (.int u12), .val (.int u14), .val (.int u16), .val (.int u18), .val (.ref v43_t0), .val (.ref v67_t0), .val (.ref r_68), .val .null, .val (.int (0 : Int32)), .unset] [(.int (0 : Int32))])) target := by
      have sg74 : ∀ target, Steps p.tables e below (T72.setTop (mkF m 280 #[.val (.int p1), .val (.int p2), .val (.int p3), .val (.int v5_t0), .val (.int r6), .val (.int r7), .val (.int r8), .val (.int r9), .val (.int u10), .val (.int u12), .val (.int u14), .val (.int u16), .val (.int u18), .val (.ref v43_t0), .val (.ref v67_t0), .val (.ref r_68), .val .null, .val (.int (0 : Int32)), .unset] [(.int (1 : Int32))])) target → Steps p.tables e below (T72.setTop (mkF m 270 #[.val (.int p1), .val (.int p2), .val (.int p3), .val (.int v5_t0), .val (.int r6), .val (.int r7), .val (.int r8), .val (.int r9), .val (.int u10), .val (.int u12), .val (.int u14), .val (.int u16), .val (.int u18), .val (.ref v43_t0), .val (.ref v67_t0), .val (.ref r_68), .val .null, .val (.int (0 : Int32)), .unset] [(.int (0 : Int32))])) target := by
        intro target kt
        show Steps p.tables e below (T72.setTop (mkF m 270 #[.val (.int p1), .val (.int p2), .val (.int p3), .val (.int v5_t0), .val (.int r6), .val (.int r7), .val (.int r8), .val (.int r9), .val (.int u10), .val (.int u12), .val (.int u14), .val (.int u16), .val (.int u18), .val (.ref v43_t0), .val (.ref v67_t0), .val (.ref r_68), .val .null, .val (.int (0 : Int32)), .unset] [(.int (0 : Int32))])) _
        refine XS.iload X72.here hx rfl (hb hby at_270) rfl ?_
        show Steps p.tables e below (T72.setTop (mkF m 272 #[.val (.int p1), .val (.int p2), .val (.int p3), .val (.int v5_t0), .val (.int r6), .val (.int r7), .val (.int r8), .val (.int r9), .val (.int u10), .val (.int u12), .val (.int u14), .val (.int u16), .val (.int u18), .val (.ref v43_t0), .val (.ref v67_t0), .val (.ref r_68), .val .null, .val (.int (0 : Int32)), .unset] [(.int (0 : Int32)), (.int (0 : Int32))])) _
        refine XS.icmpNo X72.here hx rfl (hb hby at_272) rfl (teq (by decide : (0 : Int32) = (0 : Int32))).2 ?_
        show Steps p.tables e below (T72.setTop (mkF m 275 #[.val (.int p1), .val (.int p2), .val (.int p3), .val (.int v5_t0), .val (.int r6), .val (.int r7), .val (.int r8), .val (.int r9), .val (.int u10), .val (.int u12), .val (.int u14), .val (.int u16), .val (.int u18), .val (.ref v43_t0), .val (.ref v67_t0), .val (.ref r_68), .val .null, .val (.int (0 : Int32)), .unset] [])) _
        refine XS.iconst X72.here hx rfl (hb hby at_275) ?_
        show Steps p.tables e below (T72.setTop (mkF m 276 #[.val (.int p1), .val (.int p2), .val (.int p3), .val (.int v5_t0), .val (.int r6), .val (.int r7), .val (.int r8), .val (.int r9), .val (.int u10), .val (.int u12), .val (.int u14), .val (.int u16), .val (.int u18), .val (.ref v43_t0), .val (.ref v67_t0), .val (.ref r_68), .val .null, .val (.int (0 : Int32)), .unset] [(.int (1 : Int32))])) _
        refine XS.goto X72.here hx rfl (pc0 := 276) (pc' := 280) rfl (hb hby at_276) (by decide) (by decide) ?_
        exact kt
      exact ⟨T72, _, X72.mono (by decide) (by decide), e72, N72, fun target kt => sg74 _ (kt)⟩
    obtain ⟨fs, hr, hrun, hended, hRW⟩ := X75.leaveW Y68 (show _ ≤ T75.heap.size by rw [e75]; exact (Nat.le_refl _)) (v := some (.int (1 : Int32))) (fun h => by rw [Bd.returns] at h; cases h)
    refine ⟨_, _, pre0 _ (sg5 _ (sg11 _ (sg13 _ (sg15 _ (sg17 _ (sg19 _ (sg20 _ (sg43 _ (sg44 _ (sg67 _ (sg70 _ (sg73 _ (sg75 _ (?_)))))))))))))), hrun, hended, _, _, rfl, ?_, (by rw [hh]; show CHr Z own_EL s.vm h0 T75.vm T75.heap; rw [e75]; exact CR69.trans (CHv.at X75 hZ68 hEL CR69.1)), hRW.1, hRW.2.1, hRW.2.2.1, hRW.2.2.2.mono (by decide) (by decide)⟩
    · show Steps p.tables e below (T75.setTop (mkF m 280 #[.val (.int p1), .val (.int p2), .val (.int p3), .val (.int v5_t0), .val (.int r6), .val (.int r7), .val (.int r8), .val (.int r9), .val (.int u10), .val (.int u12), .val (.int u14), .val (.int u16), .val (.int u18), .val (.ref v43_t0), .val (.ref v67_t0), .val (.ref r_68), .val .null, .val (.int (0 : Int32)), .unset] [(.int (1 : Int32))])) _
      exact retN X75 hx (t := .boolean) Bd.returns (by simp) (hb hby at_280) hr
    · show Q0 Z p1 p2 p3 zC wE wA wG vFM h0 n0 _ T75.heap _
      rw [e75]
      exact ⟨rfl, N75, K68, O68⟩
  · have sg76 : ∀ target, Steps p.tables e below (T68.setTop (mkF m 188 #[.val (.int p1), .val (.int p2), .val (.int p3), .val (.int v5_t0), .val (.int r6), .val (.int r7), .val (.int r8), .val (.int r9), .val (.int u10), .val (.int u12), .val (.int u14), .val (.int u16), .val (.int u18), .val (.ref v43_t0), .val (.ref v67_t0), .val (.ref r_68), .unset, .unset, .unset] [(.int (2 : Int32)), (.int u18)])) target → Steps p.tables e below (T68.setTop (mkF m 173 #[.val (.int p1), .val (.int p2), .val (.int p3), .val (.int v5_t0), .val (.int r6), .val (.int r7), .val (.int r8), .val (.int r9), .val (.int u10), .val (.int u12), .val (.int u14), .val (.int u16), .val (.int u18), .val (.ref v43_t0), .val (.ref v67_t0), .val (.ref r_68), .unset, .unset, .unset] [(.int (1 : Int32)), (.int u18)])) target := by
      intro target kt
      show Steps p.tables e below (T68.setTop (mkF m 173 #[.val (.int p1), .val (.int p2), .val (.int p3), .val (.int v5_t0), .val (.int r6), .val (.int r7), .val (.int r8), .val (.int r9), .val (.int u10), .val (.int u12), .val (.int u14), .val (.int u16), .val (.int u18), .val (.ref v43_t0), .val (.ref v67_t0), .val (.ref r_68), .unset, .unset, .unset] [(.int (1 : Int32)), (.int u18)])) _
      refine XS.icmpYes X68.here hx rfl (pc0 := 173) (pc' := 185) rfl (hb hby at_173) rfl (feq hc71).2 (by decide) (by decide) ?_
      show Steps p.tables e below (T68.setTop (mkF m 185 #[.val (.int p1), .val (.int p2), .val (.int p3), .val (.int v5_t0), .val (.int r6), .val (.int r7), .val (.int r8), .val (.int r9), .val (.int u10), .val (.int u12), .val (.int u14), .val (.int u16), .val (.int u18), .val (.ref v43_t0), .val (.ref v67_t0), .val (.ref r_68), .unset, .unset, .unset] [])) _
      refine XS.iload X68.here hx rfl (hb hby at_185) rfl ?_
      show Steps p.tables e below (T68.setTop (mkF m 187 #[.val (.int p1), .val (.int p2), .val (.int p3), .val (.int v5_t0), .val (.int r6), .val (.int r7), .val (.int r8), .val (.int r9), .val (.int u10), .val (.int u12), .val (.int u14), .val (.int u16), .val (.int u18), .val (.ref v43_t0), .val (.ref v67_t0), .val (.ref r_68), .unset, .unset, .unset] [(.int u18)])) _
      refine XS.iconst X68.here hx rfl (hb hby at_187) ?_
      exact kt
    by_cases hc77 : u18 = (2 : Int32)
    · obtain ⟨cq78, kq78, q78a, q78b, q78c⟩ := isOf hZ68 rfl f68_2
      obtain ⟨_, _, ⟨T78, L78, k78, n78⟩, -, X78, ⟨Lc78, hQ78, l78, y78, z78⟩, st78⟩ := X68.virtualBack hx (y := (⟨"com/example/muninn/muninn/store/Node", "equals", "(Ljava/lang/Object;)Z"⟩ : MethodName)) (z := (⟨"com/example/muninn/muninn/store/Node", "equals", "(Ljava/lang/Object;)Z"⟩ : MethodName)) hown68 (mvT hZ68 (hw _ (List.mem_of_getElem? (i := 124) rfl))) (mvT hZ68 (hw _ (List.mem_of_getElem? (i := 125) rfl))) (notFace_of_selects (args := #[]) (mvT hZ68 (hw _ (List.mem_of_getElem? (i := 127) rfl)))) (mvT hZ68 (hw _ (List.mem_of_getElem? (i := 127) rfl))) (mvT hZ68 (hw _ (List.mem_of_getElem? (i := 126) rfl))) (by decide) (backOf (W := 0) (rm27_2 l Z a0 hw [] r_68 v43_t0 zC T68.heap n0 O68 S_COMPACT_STRINGS hCS ((E_v43_t0.keep K67).keep K68q)) hZ68 (hw _ (List.mem_of_getElem? (i := 128) rfl)) (hw _ (List.mem_of_getElem? (i := 54) rfl)) (by decide) (by decide)) q78a q78c (g := (mkF m 267 #[.val (.int p1), .val (.int p2), .val (.int p3), .val (.int v5_t0), .val (.int r6), .val (.int r7), .val (.int r8), .val (.int r9), .val (.int u10), .val (.int u12), .val (.int u14), .val (.int u16), .val (.int u18), .val (.ref v43_t0), .val (.ref v67_t0), .val (.ref r_68), .val (.ref v43_t0), .val (.int (0 : Int32)), .unset] [(.ref v43_t0), (.ref r_68)])) rfl (by rw [hml]; rfl) (Steps.refl _) (argsL := [(.ref v43_t0)]) (rest := []) (lenOf pd_12 rfl) rfl (by show 2 * 0 + _ ≤ _; exact Nat.le_of_eq rfl) (hb hby at_267) (fun _ _ => ⟨rfl, rfl, (by decide : 13 + 0 ≤ _), (by decide : 82 + 0 ≤ _)⟩)
      dsimp only [Pt.U, Pt.locs, Pt.cells, Pt.slots] at X78 l78 y78 z78 st78 hQ78
      subst l78 y78 z78
      obtain ⟨rfl, N78q, e78⟩ := hQ78
      have N78 := Fr.app N68 N78q
      have sg79 : ∀ target, Steps p.tables e below (T78.setTop (mkF m 270 #[.val (.int p1), .val (.int p2), .val (.int p3), .val (.int v5_t0), .val (.int r6), .val (.int r7), .val (.int r8), .val (.int r9), .val (.int u10), .val (.int u12), .val (.int u14), .val (.int u16), .val (.int u18), .val (.ref v43_t0), .val (.ref v67_t0), .val (.ref r_68), .val (.ref v43_t0), .val (.int (0 : Int32)), .unset] [(.int (0 : Int32))])) target → Steps p.tables e below (T68.setTop (mkF m 188 #[.val (.int p1), .val (.int p2), .val (.int p3), .val (.int v5_t0), .val (.int r6), .val (.int r7), .val (.int r8), .val (.int r9), .val (.int u10), .val (.int u12), .val (.int u14), .val (.int u16), .val (.int u18), .val (.ref v43_t0), .val (.ref v67_t0), .val (.ref r_68), .unset, .unset, .unset] [(.int (2 : Int32)), (.int u18)])) target := by
        intro target kt
        show Steps p.tables e below (T68.setTop (mkF m 188 #[.val (.int p1), .val (.int p2), .val (.int p3), .val (.int v5_t0), .val (.int r6), .val (.int r7), .val (.int r8), .val (.int r9), .val (.int u10), .val (.int u12), .val (.int u14), .val (.int u16), .val (.int u18), .val (.ref v43_t0), .val (.ref v67_t0), .val (.ref r_68), .unset, .unset, .unset] [(.int (2 : Int32)), (.int u18)])) _
        refine XS.icmpNo X68.here hx rfl (hb hby at_188) rfl (teq hc77).2 ?_
        show Steps p.tables e below (T68.setTop (mkF m 191 #[.val (.int p1), .val (.int p2), .val (.int p3), .val (.int v5_t0), .val (.int r6), .val (.int r7), .val (.int r8), .val (.int r9), .val (.int u10), .val (.int u12), .val (.int u14), .val (.int u16), .val (.int u18), .val (.ref v43_t0), .val (.ref v67_t0), .val (.ref r_68), .unset, .unset, .unset] [])) _
        refine XS.aload X68.here hx rfl (hb hby at_191) rfl rfl ?_
        show Steps p.tables e below (T68.setTop (mkF m 193 #[.val (.int p1), .val (.int p2), .val (.int p3), .val (.int v5_t0), .val (.int r6), .val (.int r7), .val (.int r8), .val (.int r9), .val (.int u10), .val (.int u12), .val (.int u14), .val (.int u16), .val (.int u18), .val (.ref v43_t0), .val (.ref v67_t0), .val (.ref r_68), .unset, .unset, .unset] [(.ref v43_t0)])) _
        refine XS.astore X68.here hx rfl (hb hby at_193) rfl rfl (l' := #[.val (.int p1), .val (.int p2), .val (.int p3), .val (.int v5_t0), .val (.int r6), .val (.int r7), .val (.int r8), .val (.int r9), .val (.int u10), .val (.int u12), .val (.int u14), .val (.int u16), .val (.int u18), .val (.ref v43_t0), .val (.ref v67_t0), .val (.ref r_68), .val (.ref v43_t0), .unset, .unset]) rfl ?_
        show Steps p.tables e below (T68.setTop (mkF m 195 #[.val (.int p1), .val (.int p2), .val (.int p3), .val (.int v5_t0), .val (.int r6), .val (.int r7), .val (.int r8), .val (.int r9), .val (.int u10), .val (.int u12), .val (.int u14), .val (.int u16), .val (.int u18), .val (.ref v43_t0), .val (.ref v67_t0), .val (.ref r_68), .val (.ref v43_t0), .unset, .unset] [])) _
        refine XS.iconst X68.here hx rfl (hb hby at_195) ?_
        show Steps p.tables e below (T68.setTop (mkF m 196 #[.val (.int p1), .val (.int p2), .val (.int p3), .val (.int v5_t0), .val (.int r6), .val (.int r7), .val (.int r8), .val (.int r9), .val (.int u10), .val (.int u12), .val (.int u14), .val (.int u16), .val (.int u18), .val (.ref v43_t0), .val (.ref v67_t0), .val (.ref r_68), .val (.ref v43_t0), .unset, .unset] [(.int (0 : Int32))])) _
        refine XS.istore X68.here hx rfl (hb hby at_196) rfl (l' := #[.val (.int p1), .val (.int p2), .val (.int p3), .val (.int v5_t0), .val (.int r6), .val (.int r7), .val (.int r8), .val (.int r9), .val (.int u10), .val (.int u12), .val (.int u14), .val (.int u16), .val (.int u18), .val (.ref v43_t0), .val (.ref v67_t0), .val (.ref r_68), .val (.ref v43_t0), .val (.int (0 : Int32)), .unset]) rfl ?_
        show Steps p.tables e below (T68.setTop (mkF m 198 #[.val (.int p1), .val (.int p2), .val (.int p3), .val (.int v5_t0), .val (.int r6), .val (.int r7), .val (.int r8), .val (.int r9), .val (.int u10), .val (.int u12), .val (.int u14), .val (.int u16), .val (.int u18), .val (.ref v43_t0), .val (.ref v67_t0), .val (.ref r_68), .val (.ref v43_t0), .val (.int (0 : Int32)), .unset] [])) _
        refine XS.goto X68.here hx rfl (pc0 := 198) (pc' := 263) rfl (hb hby at_198) (by decide) (by decide) ?_
        show Steps p.tables e below (T68.setTop (mkF m 263 #[.val (.int p1), .val (.int p2), .val (.int p3), .val (.int v5_t0), .val (.int r6), .val (.int r7), .val (.int r8), .val (.int r9), .val (.int u10), .val (.int u12), .val (.int u14), .val (.int u16), .val (.int u18), .val (.ref v43_t0), .val (.ref v67_t0), .val (.ref r_68), .val (.ref v43_t0), .val (.int (0 : Int32)), .unset] [])) _
        refine XS.aload X68.here hx rfl (hb hby at_263) rfl rfl ?_
        show Steps p.tables e below (T68.setTop (mkF m 265 #[.val (.int p1), .val (.int p2), .val (.int p3), .val (.int v5_t0), .val (.int r6), .val (.int r7), .val (.int r8), .val (.int r9), .val (.int u10), .val (.int u12), .val (.int u14), .val (.int u16), .val (.int u18), .val (.ref v43_t0), .val (.ref v67_t0), .val (.ref r_68), .val (.ref v43_t0), .val (.int (0 : Int32)), .unset] [(.ref r_68)])) _
        refine XS.aload X68.here hx rfl (hb hby at_265) rfl rfl ?_
        show Steps p.tables e below (T68.setTop (mkF m 267 #[.val (.int p1), .val (.int p2), .val (.int p3), .val (.int v5_t0), .val (.int r6), .val (.int r7), .val (.int r8), .val (.int r9), .val (.int u10), .val (.int u12), .val (.int u14), .val (.int u16), .val (.int u18), .val (.ref v43_t0), .val (.ref v67_t0), .val (.ref r_68), .val (.ref v43_t0), .val (.int (0 : Int32)), .unset] [(.ref v43_t0), (.ref r_68)])) _
        refine st78.trans ?_
        exact kt
      obtain ⟨T81, L81, X81, e81, N81, sg81⟩ : ∃ (T' : State) (L' : List Loc), Stand p l e room_1 (s.setVm T68.vm) m #[(.int p1), (.int p2), (.int p3)] below meth c T' L' 13 82 ∧ T'.heap = T68.heap ∧ Fr n0 L' ∧ ∀ target, Steps p.tables e below (T'.setTop (mkF m 280 #[.val (.int p1), .val (.int p2), .val (.int p3), .val (.int v5_t0), .val (.int r6), .val (.int r7), .val (.int r8), .val (.int r9), .val (.int u10), .val (.int u12), .val (.int u14), .val (.int u16), .val (.int u18), .val (.ref v43_t0), .val (.ref v67_t0), .val (.ref r_68), .val (.ref v43_t0), .val (.int (0 : Int32)), .unset] [(.int (1 : Int32))])) target → Steps p.tables e below (T78.setTop (mkF m 270 #[.val (.int p1), .val (.int p2), .val (.int p3), .val (.int v5_t0), .val (.int r6), .val (.int r7), .val (.int r8), .val (.int r9), .val (.int u10), .val (.int u12), .val (.int u14), .val (.int u16), .val (.int u18), .val (.ref v43_t0), .val (.ref v67_t0), .val (.ref r_68), .val (.ref v43_t0), .val (.int (0 : Int32)), .unset] [(.int (0 : Int32))])) target := by
        have sg80 : ∀ target, Steps p.tables e below (T78.setTop (mkF m 280 #[.val (.int p1), .val (.int p2), .val (.int p3), .val (.int v5_t0), .val (.int r6), .val (.int r7), .val (.int r8), .val (.int r9), .val (.int u10), .val (.int u12), .val (.int u14), .val (.int u16), .val (.int u18), .val (.ref v43_t0), .val (.ref v67_t0), .val (.ref r_68), .val (.ref v43_t0), .val (.int (0 : Int32)), .unset] [(.int (1 : Int32))])) target → Steps p.tables e below (T78.setTop (mkF m 270 #[.val (.int p1), .val (.int p2), .val (.int p3), .val (.int v5_t0), .val (.int r6), .val (.int r7), .val (.int r8), .val (.int r9), .val (.int u10), .val (.int u12), .val (.int u14), .val (.int u16), .val (.int u18), .val (.ref v43_t0), .val (.ref v67_t0), .val (.ref r_68), .val (.ref v43_t0), .val (.int (0 : Int32)), .unset] [(.int (0 : Int32))])) target := by
          intro target kt
          show Steps p.tables e below (T78.setTop (mkF m 270 #[.val (.int p1), .val (.int p2), .val (.int p3), .val (.int v5_t0), .val (.int r6), .val (.int r7), .val (.int r8), .val (.int r9), .val (.int u10), .val (.int u12), .val (.int u14), .val (.int u16), .val (.int u18), .val (.ref v43_t0), .val (.ref v67_t0), .val (.ref r_68), .val (.ref v43_t0), .val (.int (0 : Int32)), .unset] [(.int (0 : Int32))])) _
          refine XS.iload X78.here hx rfl (hb hby at_270) rfl ?_
          show Steps p.tables e below (T78.setTop (mkF m 272 #[.val (.int p1), .val (.int p2), .val (.int p3), .val (.int v5_t0), .val (.int r6), .val (.int r7), .val (.int r8), .val (.int r9), .val (.int u10), .val (.int u12), .val (.int u14), .val (.int u16), .val (.int u18), .val (.ref v43_t0), .val (.ref v67_t0), .val (.ref r_68), .val (.ref v43_t0), .val (.int (0 : Int32)), .unset] [(.int (0 : Int32)), (.int (0 : Int32))])) _
          refine XS.icmpNo X78.here hx rfl (hb hby at_272) rfl (teq (by decide : (0 : Int32) = (0 : Int32))).2 ?_
          show Steps p.tables e below (T78.setTop (mkF m 275 #[.val (.int p1), .val (.int p2), .val (.int p3), .val (.int v5_t0), .val (.int r6), .val (.int r7), .val (.int r8), .val (.int r9), .val (.int u10), .val (.int u12), .val (.int u14), .val (.int u16), .val (.int u18), .val (.ref v43_t0), .val (.ref v67_t0), .val (.ref r_68), .val (.ref v43_t0), .val (.int (0 : Int32)), .unset] [])) _
          refine XS.iconst X78.here hx rfl (hb hby at_275) ?_
          show Steps p.tables e below (T78.setTop (mkF m 276 #[.val (.int p1), .val (.int p2), .val (.int p3), .val (.int v5_t0), .val (.int r6), .val (.int r7), .val (.int r8), .val (.int r9), .val (.int u10), .val (.int u12), .val (.int u14), .val (.int u16), .val (.int u18), .val (.ref v43_t0), .val (.ref v67_t0), .val (.ref r_68), .val (.ref v43_t0), .val (.int (0 : Int32)), .unset] [(.int (1 : Int32))])) _
          refine XS.goto X78.here hx rfl (pc0 := 276) (pc' := 280) rfl (hb hby at_276) (by decide) (by decide) ?_
          exact kt
        exact ⟨T78, _, X78.mono (by decide) (by decide), e78, N78, fun target kt => sg80 _ (kt)⟩
      obtain ⟨fs, hr, hrun, hended, hRW⟩ := X81.leaveW Y68 (show _ ≤ T81.heap.size by rw [e81]; exact (Nat.le_refl _)) (v := some (.int (1 : Int32))) (fun h => by rw [Bd.returns] at h; cases h)
      refine ⟨_, _, pre0 _ (sg5 _ (sg11 _ (sg13 _ (sg15 _ (sg17 _ (sg19 _ (sg20 _ (sg43 _ (sg44 _ (sg67 _ (sg70 _ (sg76 _ (sg79 _ (sg81 _ (?_))))))))))))))), hrun, hended, _, _, rfl, ?_, (by rw [hh]; show CHr Z own_EL s.vm h0 T81.vm T81.heap; rw [e81]; exact CR69.trans (CHv.at X81 hZ68 hEL CR69.1)), hRW.1, hRW.2.1, hRW.2.2.1, hRW.2.2.2.mono (by decide) (by decide)⟩
      · show Steps p.tables e below (T81.setTop (mkF m 280 #[.val (.int p1), .val (.int p2), .val (.int p3), .val (.int v5_t0), .val (.int r6), .val (.int r7), .val (.int r8), .val (.int r9), .val (.int u10), .val (.int u12), .val (.int u14), .val (.int u16), .val (.int u18), .val (.ref v43_t0), .val (.ref v67_t0), .val (.ref r_68), .val (.ref v43_t0), .val (.int (0 : Int32)), .unset] [(.int (1 : Int32))])) _
        exact retN X81 hx (t := .boolean) Bd.returns (by simp) (hb hby at_280) hr
      · show Q0 Z p1 p2 p3 zC wE wA wG vFM h0 n0 _ T81.heap _
        rw [e81]
        exact ⟨rfl, N81, K68, O68⟩
    · obtain ⟨_, _, ⟨T82, L82, k82, n82⟩, -, X82, Y82, G82, ⟨Lc82, hQ82, l82, y82, z82, C82⟩, st82⟩ := callSS X68 hx (y := (⟨"com/example/muninn/muninn/store/NodeEqualsPinLaw", "mk", "(Ljava/lang/String;I)Lcom/example/muninn/muninn/store/Node;"⟩ : MethodName)) hown68 (mvT hZ68 (hw _ (List.mem_of_getElem? (i := 49) rfl))) (mvT hZ68 (hw _ (List.mem_of_getElem? (i := 50) rfl))) (mvT hZ68 (hw _ (List.mem_of_getElem? (i := 3) rfl))) (mvT hZ68 (hw _ (List.mem_of_getElem? (i := 51) rfl))) (by decide) (backOfSH (W := 0) (rm12 l Z a0 hw [] v67_t0 u16 (own_cs2 u12 r8 r9) zC wE wA wG vFM t_67 kb_67 T68.heap n0 O68 S_COMPACT_STRINGS S_SIOOBE_FORMATTER S_ENTITY S_ACTIVITY S_AGENT hCS hFM hXE hXA hXG (E_v67_t0.keep K68q) (Fc_v67_t0.keep K68q nin0) (Fv_v67_t0.keep K68q nin0) (V_v67_t0.keep K68q nin0) (own_vlat vis_v67_t0) vis_v67_t0) hZ68 (hw _ (List.mem_of_getElem? (i := 51) rfl)) (hw _ (List.mem_of_getElem? (i := 3) rfl)) (by decide) (by decide) hEL CR69.1) (g := (mkF m 205 #[.val (.int p1), .val (.int p2), .val (.int p3), .val (.int v5_t0), .val (.int r6), .val (.int r7), .val (.int r8), .val (.int r9), .val (.int u10), .val (.int u12), .val (.int u14), .val (.int u16), .val (.int u18), .val (.ref v43_t0), .val (.ref v67_t0), .val (.ref r_68), .unset, .unset, .unset] [(.int u16), (.ref v67_t0)])) rfl (by rw [hml]; rfl) (argsL := [(.ref v67_t0), (.int u16)]) (rest := []) (lenOf pd_15 rfl) rfl (by show 2 * 0 + _ ≤ _; exact Nat.le_of_eq rfl) (hb hby at_205) (fun _ _ => ⟨rfl, rfl, (by decide : 13 + 7 ≤ _), (by decide : 82 + 66 ≤ _)⟩)
      dsimp only [Pt.U, Pt.locs, Pt.cells, Pt.slots] at X82 l82 y82 z82 st82 hQ82 Y82 G82 C82
      subst l82 y82 z82
      obtain ⟨r_82, rfl, N82q, K82q, O82, f82_0, f82_1, f82_2, f82_3, f82_4⟩ := hQ82
      have N82 := Fr.app N68 N82q
      obtain ⟨X82, Y82, hZ82, hown82⟩ := rebS Y68 (Nat.le_refl _) X82 Y82 G82 hZ68 hown68
      have CR83 := CR69.trans (C82)
      have K82 := K68.trans K82q all0
      have sg84 : ∀ target, Steps p.tables e below (T82.setTop (mkF m 210 #[.val (.int p1), .val (.int p2), .val (.int p3), .val (.int v5_t0), .val (.int r6), .val (.int r7), .val (.int r8), .val (.int r9), .val (.int u10), .val (.int u12), .val (.int u14), .val (.int u16), .val (.int u18), .val (.ref v43_t0), .val (.ref v67_t0), .val (.ref r_68), .val (.ref r_82), .unset, .unset] [])) target → Steps p.tables e below (T68.setTop (mkF m 188 #[.val (.int p1), .val (.int p2), .val (.int p3), .val (.int v5_t0), .val (.int r6), .val (.int r7), .val (.int r8), .val (.int r9), .val (.int u10), .val (.int u12), .val (.int u14), .val (.int u16), .val (.int u18), .val (.ref v43_t0), .val (.ref v67_t0), .val (.ref r_68), .unset, .unset, .unset] [(.int (2 : Int32)), (.int u18)])) target := by
        intro target kt
        show Steps p.tables e below (T68.setTop (mkF m 188 #[.val (.int p1), .val (.int p2), .val (.int p3), .val (.int v5_t0), .val (.int r6), .val (.int r7), .val (.int r8), .val (.int r9), .val (.int u10), .val (.int u12), .val (.int u14), .val (.int u16), .val (.int u18), .val (.ref v43_t0), .val (.ref v67_t0), .val (.ref r_68), .unset, .unset, .unset] [(.int (2 : Int32)), (.int u18)])) _
        refine XS.icmpYes X68.here hx rfl (pc0 := 188) (pc' := 201) rfl (hb hby at_188) rfl (feq hc77).2 (by decide) (by decide) ?_
        show Steps p.tables e below (T68.setTop (mkF m 201 #[.val (.int p1), .val (.int p2), .val (.int p3), .val (.int v5_t0), .val (.int r6), .val (.int r7), .val (.int r8), .val (.int r9), .val (.int u10), .val (.int u12), .val (.int u14), .val (.int u16), .val (.int u18), .val (.ref v43_t0), .val (.ref v67_t0), .val (.ref r_68), .unset, .unset, .unset] [])) _
        refine XS.aload X68.here hx rfl (hb hby at_201) rfl rfl ?_
        show Steps p.tables e below (T68.setTop (mkF m 203 #[.val (.int p1), .val (.int p2), .val (.int p3), .val (.int v5_t0), .val (.int r6), .val (.int r7), .val (.int r8), .val (.int r9), .val (.int u10), .val (.int u12), .val (.int u14), .val (.int u16), .val (.int u18), .val (.ref v43_t0), .val (.ref v67_t0), .val (.ref r_68), .unset, .unset, .unset] [(.ref v67_t0)])) _
        refine XS.iload X68.here hx rfl (hb hby at_203) rfl ?_
        show Steps p.tables e below (T68.setTop (mkF m 205 #[.val (.int p1), .val (.int p2), .val (.int p3), .val (.int v5_t0), .val (.int r6), .val (.int r7), .val (.int r8), .val (.int r9), .val (.int u10), .val (.int u12), .val (.int u14), .val (.int u16), .val (.int u18), .val (.ref v43_t0), .val (.ref v67_t0), .val (.ref r_68), .unset, .unset, .unset] [(.int u16), (.ref v67_t0)])) _
        refine st82.trans ?_
        show Steps p.tables e below (T82.setTop (mkF m 208 #[.val (.int p1), .val (.int p2), .val (.int p3), .val (.int v5_t0), .val (.int r6), .val (.int r7), .val (.int r8), .val (.int r9), .val (.int u10), .val (.int u12), .val (.int u14), .val (.int u16), .val (.int u18), .val (.ref v43_t0), .val (.ref v67_t0), .val (.ref r_68), .unset, .unset, .unset] [(.ref r_82)])) _
        refine XS.astore X82.here hx rfl (hb hby at_208) rfl rfl (l' := #[.val (.int p1), .val (.int p2), .val (.int p3), .val (.int v5_t0), .val (.int r6), .val (.int r7), .val (.int r8), .val (.int r9), .val (.int u10), .val (.int u12), .val (.int u14), .val (.int u16), .val (.int u18), .val (.ref v43_t0), .val (.ref v67_t0), .val (.ref r_68), .val (.ref r_82), .unset, .unset]) rfl ?_
        exact kt
      obtain ⟨T98, L98, v98_t0, X98, e98, N98, hv98_t0, sg98⟩ : ∃ (T' : State) (L' : List Loc) (v98_t0 : Int32), Stand p l e room_1 (s.setVm T82.vm) m #[(.int p1), (.int p2), (.int p3)] below meth c T' L' 20 148 ∧ T'.heap = T82.heap ∧ Fr n0 L' ∧ v98_t0 = (if u10 = u12 then (if r6 = r8 then (if u10 = (1 : Int32) then (1 : Int32) else (if r7 = r9 then (1 : Int32) else (0 : Int32))) else (0 : Int32)) else (0 : Int32)) ∧ ∀ target, Steps p.tables e below (T'.setTop (mkF m 242 #[.val (.int p1), .val (.int p2), .val (.int p3), .val (.int v5_t0), .val (.int r6), .val (.int r7), .val (.int r8), .val (.int r9), .val (.int u10), .val (.int u12), .val (.int u14), .val (.int u16), .val (.int u18), .val (.ref v43_t0), .val (.ref v67_t0), .val (.ref r_68), .val (.ref r_82), .unset, .unset] [(.int v98_t0)])) target → Steps p.tables e below (T82.setTop (mkF m 210 #[.val (.int p1), .val (.int p2), .val (.int p3), .val (.int v5_t0), .val (.int r6), .val (.int r7), .val (.int r8), .val (.int r9), .val (.int u10), .val (.int u12), .val (.int u14), .val (.int u16), .val (.int u18), .val (.ref v43_t0), .val (.ref v67_t0), .val (.ref r_68), .val (.ref r_82), .unset, .unset] [])) target := by
        have sg85 : ∀ target, Steps p.tables e below (T82.setTop (mkF m 214 #[.val (.int p1), .val (.int p2), .val (.int p3), .val (.int v5_t0), .val (.int r6), .val (.int r7), .val (.int r8), .val (.int r9), .val (.int u10), .val (.int u12), .val (.int u14), .val (.int u16), .val (.int u18), .val (.ref v43_t0), .val (.ref v67_t0), .val (.ref r_68), .val (.ref r_82), .unset, .unset] [(.int u12), (.int u10)])) target → Steps p.tables e below (T82.setTop (mkF m 210 #[.val (.int p1), .val (.int p2), .val (.int p3), .val (.int v5_t0), .val (.int r6), .val (.int r7), .val (.int r8), .val (.int r9), .val (.int u10), .val (.int u12), .val (.int u14), .val (.int u16), .val (.int u18), .val (.ref v43_t0), .val (.ref v67_t0), .val (.ref r_68), .val (.ref r_82), .unset, .unset] [])) target := by
          intro target kt
          show Steps p.tables e below (T82.setTop (mkF m 210 #[.val (.int p1), .val (.int p2), .val (.int p3), .val (.int v5_t0), .val (.int r6), .val (.int r7), .val (.int r8), .val (.int r9), .val (.int u10), .val (.int u12), .val (.int u14), .val (.int u16), .val (.int u18), .val (.ref v43_t0), .val (.ref v67_t0), .val (.ref r_68), .val (.ref r_82), .unset, .unset] [])) _
          refine XS.iload X82.here hx rfl (hb hby at_210) rfl ?_
          show Steps p.tables e below (T82.setTop (mkF m 212 #[.val (.int p1), .val (.int p2), .val (.int p3), .val (.int v5_t0), .val (.int r6), .val (.int r7), .val (.int r8), .val (.int r9), .val (.int u10), .val (.int u12), .val (.int u14), .val (.int u16), .val (.int u18), .val (.ref v43_t0), .val (.ref v67_t0), .val (.ref r_68), .val (.ref r_82), .unset, .unset] [(.int u10)])) _
          refine XS.iload X82.here hx rfl (hb hby at_212) rfl ?_
          exact kt
        by_cases hc86 : u10 = u12
        · have sg87 : ∀ target, Steps p.tables e below (T82.setTop (mkF m 221 #[.val (.int p1), .val (.int p2), .val (.int p3), .val (.int v5_t0), .val (.int r6), .val (.int r7), .val (.int r8), .val (.int r9), .val (.int u10), .val (.int u12), .val (.int u14), .val (.int u16), .val (.int u18), .val (.ref v43_t0), .val (.ref v67_t0), .val (.ref r_68), .val (.ref r_82), .unset, .unset] [(.int r8), (.int r6)])) target → Steps p.tables e below (T82.setTop (mkF m 214 #[.val (.int p1), .val (.int p2), .val (.int p3), .val (.int v5_t0), .val (.int r6), .val (.int r7), .val (.int r8), .val (.int r9), .val (.int u10), .val (.int u12), .val (.int u14), .val (.int u16), .val (.int u18), .val (.ref v43_t0), .val (.ref v67_t0), .val (.ref r_68), .val (.ref r_82), .unset, .unset] [(.int u12), (.int u10)])) target := by
            intro target kt
            show Steps p.tables e below (T82.setTop (mkF m 214 #[.val (.int p1), .val (.int p2), .val (.int p3), .val (.int v5_t0), .val (.int r6), .val (.int r7), .val (.int r8), .val (.int r9), .val (.int u10), .val (.int u12), .val (.int u14), .val (.int u16), .val (.int u18), .val (.ref v43_t0), .val (.ref v67_t0), .val (.ref r_68), .val (.ref r_82), .unset, .unset] [(.int u12), (.int u10)])) _
            refine XS.icmpNo X82.here hx rfl (hb hby at_214) rfl (teq hc86).2 ?_
            show Steps p.tables e below (T82.setTop (mkF m 217 #[.val (.int p1), .val (.int p2), .val (.int p3), .val (.int v5_t0), .val (.int r6), .val (.int r7), .val (.int r8), .val (.int r9), .val (.int u10), .val (.int u12), .val (.int u14), .val (.int u16), .val (.int u18), .val (.ref v43_t0), .val (.ref v67_t0), .val (.ref r_68), .val (.ref r_82), .unset, .unset] [])) _
            refine XS.iload X82.here hx rfl (hb hby at_217) rfl ?_
            show Steps p.tables e below (T82.setTop (mkF m 219 #[.val (.int p1), .val (.int p2), .val (.int p3), .val (.int v5_t0), .val (.int r6), .val (.int r7), .val (.int r8), .val (.int r9), .val (.int u10), .val (.int u12), .val (.int u14), .val (.int u16), .val (.int u18), .val (.ref v43_t0), .val (.ref v67_t0), .val (.ref r_68), .val (.ref r_82), .unset, .unset] [(.int r6)])) _
            refine XS.iload X82.here hx rfl (hb hby at_219) rfl ?_
            exact kt
          by_cases hc88 : r6 = r8
          · have sg89 : ∀ target, Steps p.tables e below (T82.setTop (mkF m 227 #[.val (.int p1), .val (.int p2), .val (.int p3), .val (.int v5_t0), .val (.int r6), .val (.int r7), .val (.int r8), .val (.int r9), .val (.int u10), .val (.int u12), .val (.int u14), .val (.int u16), .val (.int u18), .val (.ref v43_t0), .val (.ref v67_t0), .val (.ref r_68), .val (.ref r_82), .unset, .unset] [(.int (1 : Int32)), (.int u10)])) target → Steps p.tables e below (T82.setTop (mkF m 221 #[.val (.int p1), .val (.int p2), .val (.int p3), .val (.int v5_t0), .val (.int r6), .val (.int r7), .val (.int r8), .val (.int r9), .val (.int u10), .val (.int u12), .val (.int u14), .val (.int u16), .val (.int u18), .val (.ref v43_t0), .val (.ref v67_t0), .val (.ref r_68), .val (.ref r_82), .unset, .unset] [(.int r8), (.int r6)])) target := by
              intro target kt
              show Steps p.tables e below (T82.setTop (mkF m 221 #[.val (.int p1), .val (.int p2), .val (.int p3), .val (.int v5_t0), .val (.int r6), .val (.int r7), .val (.int r8), .val (.int r9), .val (.int u10), .val (.int u12), .val (.int u14), .val (.int u16), .val (.int u18), .val (.ref v43_t0), .val (.ref v67_t0), .val (.ref r_68), .val (.ref r_82), .unset, .unset] [(.int r8), (.int r6)])) _
              refine XS.icmpNo X82.here hx rfl (hb hby at_221) rfl (teq hc88).2 ?_
              show Steps p.tables e below (T82.setTop (mkF m 224 #[.val (.int p1), .val (.int p2), .val (.int p3), .val (.int v5_t0), .val (.int r6), .val (.int r7), .val (.int r8), .val (.int r9), .val (.int u10), .val (.int u12), .val (.int u14), .val (.int u16), .val (.int u18), .val (.ref v43_t0), .val (.ref v67_t0), .val (.ref r_68), .val (.ref r_82), .unset, .unset] [])) _
              refine XS.iload X82.here hx rfl (hb hby at_224) rfl ?_
              show Steps p.tables e below (T82.setTop (mkF m 226 #[.val (.int p1), .val (.int p2), .val (.int p3), .val (.int v5_t0), .val (.int r6), .val (.int r7), .val (.int r8), .val (.int r9), .val (.int u10), .val (.int u12), .val (.int u14), .val (.int u16), .val (.int u18), .val (.ref v43_t0), .val (.ref v67_t0), .val (.ref r_68), .val (.ref r_82), .unset, .unset] [(.int u10)])) _
              refine XS.iconst X82.here hx rfl (hb hby at_226) ?_
              exact kt
            by_cases hc90 : u10 = (1 : Int32)
            · have sg91 : ∀ target, Steps p.tables e below (T82.setTop (mkF m 242 #[.val (.int p1), .val (.int p2), .val (.int p3), .val (.int v5_t0), .val (.int r6), .val (.int r7), .val (.int r8), .val (.int r9), .val (.int u10), .val (.int u12), .val (.int u14), .val (.int u16), .val (.int u18), .val (.ref v43_t0), .val (.ref v67_t0), .val (.ref r_68), .val (.ref r_82), .unset, .unset] [(.int (1 : Int32))])) target → Steps p.tables e below (T82.setTop (mkF m 227 #[.val (.int p1), .val (.int p2), .val (.int p3), .val (.int v5_t0), .val (.int r6), .val (.int r7), .val (.int r8), .val (.int r9), .val (.int u10), .val (.int u12), .val (.int u14), .val (.int u16), .val (.int u18), .val (.ref v43_t0), .val (.ref v67_t0), .val (.ref r_68), .val (.ref r_82), .unset, .unset] [(.int (1 : Int32)), (.int u10)])) target := by
                intro target kt
                show Steps p.tables e below (T82.setTop (mkF m 227 #[.val (.int p1), .val (.int p2), .val (.int p3), .val (.int v5_t0), .val (.int r6), .val (.int r7), .val (.int r8), .val (.int r9), .val (.int u10), .val (.int u12), .val (.int u14), .val (.int u16), .val (.int u18), .val (.ref v43_t0), .val (.ref v67_t0), .val (.ref r_68), .val (.ref r_82), .unset, .unset] [(.int (1 : Int32)), (.int u10)])) _
                refine XS.icmpYes X82.here hx rfl (pc0 := 227) (pc' := 237) rfl (hb hby at_227) rfl (teq hc90).1 (by decide) (by decide) ?_
                show Steps p.tables e below (T82.setTop (mkF m 237 #[.val (.int p1), .val (.int p2), .val (.int p3), .val (.int v5_t0), .val (.int r6), .val (.int r7), .val (.int r8), .val (.int r9), .val (.int u10), .val (.int u12), .val (.int u14), .val (.int u16), .val (.int u18), .val (.ref v43_t0), .val (.ref v67_t0), .val (.ref r_68), .val (.ref r_82), .unset, .unset] [])) _
                refine XS.iconst X82.here hx rfl (hb hby at_237) ?_
                show Steps p.tables e below (T82.setTop (mkF m 238 #[.val (.int p1), .val (.int p2), .val (.int p3), .val (.int v5_t0), .val (.int r6), .val (.int r7), .val (.int r8), .val (.int r9), .val (.int u10), .val (.int u12), .val (.int u14), .val (.int u16), .val (.int u18), .val (.ref v43_t0), .val (.ref v67_t0), .val (.ref r_68), .val (.ref r_82), .unset, .unset] [(.int (1 : Int32))])) _
                refine XS.goto X82.here hx rfl (pc0 := 238) (pc' := 242) rfl (hb hby at_238) (by decide) (by decide) ?_
                exact kt
              exact ⟨T82, _, (1 : Int32), X82.mono (by decide) (by decide), rfl, N82, (by rw [if_pos hc86, if_pos hc88, if_pos hc90]), fun target kt => sg85 _ (sg87 _ (sg89 _ (sg91 _ (kt))))⟩
            · have sg92 : ∀ target, Steps p.tables e below (T82.setTop (mkF m 234 #[.val (.int p1), .val (.int p2), .val (.int p3), .val (.int v5_t0), .val (.int r6), .val (.int r7), .val (.int r8), .val (.int r9), .val (.int u10), .val (.int u12), .val (.int u14), .val (.int u16), .val (.int u18), .val (.ref v43_t0), .val (.ref v67_t0), .val (.ref r_68), .val (.ref r_82), .unset, .unset] [(.int r9), (.int r7)])) target → Steps p.tables e below (T82.setTop (mkF m 227 #[.val (.int p1), .val (.int p2), .val (.int p3), .val (.int v5_t0), .val (.int r6), .val (.int r7), .val (.int r8), .val (.int r9), .val (.int u10), .val (.int u12), .val (.int u14), .val (.int u16), .val (.int u18), .val (.ref v43_t0), .val (.ref v67_t0), .val (.ref r_68), .val (.ref r_82), .unset, .unset] [(.int (1 : Int32)), (.int u10)])) target := by
                intro target kt
                show Steps p.tables e below (T82.setTop (mkF m 227 #[.val (.int p1), .val (.int p2), .val (.int p3), .val (.int v5_t0), .val (.int r6), .val (.int r7), .val (.int r8), .val (.int r9), .val (.int u10), .val (.int u12), .val (.int u14), .val (.int u16), .val (.int u18), .val (.ref v43_t0), .val (.ref v67_t0), .val (.ref r_68), .val (.ref r_82), .unset, .unset] [(.int (1 : Int32)), (.int u10)])) _
                refine XS.icmpNo X82.here hx rfl (hb hby at_227) rfl (feq hc90).1 ?_
                show Steps p.tables e below (T82.setTop (mkF m 230 #[.val (.int p1), .val (.int p2), .val (.int p3), .val (.int v5_t0), .val (.int r6), .val (.int r7), .val (.int r8), .val (.int r9), .val (.int u10), .val (.int u12), .val (.int u14), .val (.int u16), .val (.int u18), .val (.ref v43_t0), .val (.ref v67_t0), .val (.ref r_68), .val (.ref r_82), .unset, .unset] [])) _
                refine XS.iload X82.here hx rfl (hb hby at_230) rfl ?_
                show Steps p.tables e below (T82.setTop (mkF m 232 #[.val (.int p1), .val (.int p2), .val (.int p3), .val (.int v5_t0), .val (.int r6), .val (.int r7), .val (.int r8), .val (.int r9), .val (.int u10), .val (.int u12), .val (.int u14), .val (.int u16), .val (.int u18), .val (.ref v43_t0), .val (.ref v67_t0), .val (.ref r_68), .val (.ref r_82), .unset, .unset] [(.int r7)])) _
                refine XS.iload X82.here hx rfl (hb hby at_232) rfl ?_
                exact kt
              by_cases hc93 : r7 = r9
              · have sg94 : ∀ target, Steps p.tables e below (T82.setTop (mkF m 242 #[.val (.int p1), .val (.int p2), .val (.int p3), .val (.int v5_t0), .val (.int r6), .val (.int r7), .val (.int r8), .val (.int r9), .val (.int u10), .val (.int u12), .val (.int u14), .val (.int u16), .val (.int u18), .val (.ref v43_t0), .val (.ref v67_t0), .val (.ref r_68), .val (.ref r_82), .unset, .unset] [(.int (1 : Int32))])) target → Steps p.tables e below (T82.setTop (mkF m 234 #[.val (.int p1), .val (.int p2), .val (.int p3), .val (.int v5_t0), .val (.int r6), .val (.int r7), .val (.int r8), .val (.int r9), .val (.int u10), .val (.int u12), .val (.int u14), .val (.int u16), .val (.int u18), .val (.ref v43_t0), .val (.ref v67_t0), .val (.ref r_68), .val (.ref r_82), .unset, .unset] [(.int r9), (.int r7)])) target := by
                  intro target kt
                  show Steps p.tables e below (T82.setTop (mkF m 234 #[.val (.int p1), .val (.int p2), .val (.int p3), .val (.int v5_t0), .val (.int r6), .val (.int r7), .val (.int r8), .val (.int r9), .val (.int u10), .val (.int u12), .val (.int u14), .val (.int u16), .val (.int u18), .val (.ref v43_t0), .val (.ref v67_t0), .val (.ref r_68), .val (.ref r_82), .unset, .unset] [(.int r9), (.int r7)])) _
                  refine XS.icmpNo X82.here hx rfl (hb hby at_234) rfl (teq hc93).2 ?_
                  show Steps p.tables e below (T82.setTop (mkF m 237 #[.val (.int p1), .val (.int p2), .val (.int p3), .val (.int v5_t0), .val (.int r6), .val (.int r7), .val (.int r8), .val (.int r9), .val (.int u10), .val (.int u12), .val (.int u14), .val (.int u16), .val (.int u18), .val (.ref v43_t0), .val (.ref v67_t0), .val (.ref r_68), .val (.ref r_82), .unset, .unset] [])) _
                  refine XS.iconst X82.here hx rfl (hb hby at_237) ?_
                  show Steps p.tables e below (T82.setTop (mkF m 238 #[.val (.int p1), .val (.int p2), .val (.int p3), .val (.int v5_t0), .val (.int r6), .val (.int r7), .val (.int r8), .val (.int r9), .val (.int u10), .val (.int u12), .val (.int u14), .val (.int u16), .val (.int u18), .val (.ref v43_t0), .val (.ref v67_t0), .val (.ref r_68), .val (.ref r_82), .unset, .unset] [(.int (1 : Int32))])) _
                  refine XS.goto X82.here hx rfl (pc0 := 238) (pc' := 242) rfl (hb hby at_238) (by decide) (by decide) ?_
                  exact kt
                exact ⟨T82, _, (1 : Int32), X82.mono (by decide) (by decide), rfl, N82, (by rw [if_pos hc86, if_pos hc88, if_neg hc90, if_pos hc93]), fun target kt => sg85 _ (sg87 _ (sg89 _ (sg92 _ (sg94 _ (kt)))))⟩
              · have sg95 : ∀ target, Steps p.tables e below (T82.setTop (mkF m 242 #[.val (.int p1), .val (.int p2), .val (.int p3), .val (.int v5_t0), .val (.int r6), .val (.int r7), .val (.int r8), .val (.int r9), .val (.int u10), .val (.int u12), .val (.int u14), .val (.int u16), .val (.int u18), .val (.ref v43_t0), .val (.ref v67_t0), .val (.ref r_68), .val (.ref r_82), .unset, .unset] [(.int (0 : Int32))])) target → Steps p.tables e below (T82.setTop (mkF m 234 #[.val (.int p1), .val (.int p2), .val (.int p3), .val (.int v5_t0), .val (.int r6), .val (.int r7), .val (.int r8), .val (.int r9), .val (.int u10), .val (.int u12), .val (.int u14), .val (.int u16), .val (.int u18), .val (.ref v43_t0), .val (.ref v67_t0), .val (.ref r_68), .val (.ref r_82), .unset, .unset] [(.int r9), (.int r7)])) target := by
                  intro target kt
                  show Steps p.tables e below (T82.setTop (mkF m 234 #[.val (.int p1), .val (.int p2), .val (.int p3), .val (.int v5_t0), .val (.int r6), .val (.int r7), .val (.int r8), .val (.int r9), .val (.int u10), .val (.int u12), .val (.int u14), .val (.int u16), .val (.int u18), .val (.ref v43_t0), .val (.ref v67_t0), .val (.ref r_68), .val (.ref r_82), .unset, .unset] [(.int r9), (.int r7)])) _
                  refine XS.icmpYes X82.here hx rfl (pc0 := 234) (pc' := 241) rfl (hb hby at_234) rfl (feq hc93).2 (by decide) (by decide) ?_
                  show Steps p.tables e below (T82.setTop (mkF m 241 #[.val (.int p1), .val (.int p2), .val (.int p3), .val (.int v5_t0), .val (.int r6), .val (.int r7), .val (.int r8), .val (.int r9), .val (.int u10), .val (.int u12), .val (.int u14), .val (.int u16), .val (.int u18), .val (.ref v43_t0), .val (.ref v67_t0), .val (.ref r_68), .val (.ref r_82), .unset, .unset] [])) _
                  refine XS.iconst X82.here hx rfl (hb hby at_241) ?_
                  exact kt
                exact ⟨T82, _, (0 : Int32), X82.mono (by decide) (by decide), rfl, N82, (by rw [if_pos hc86, if_pos hc88, if_neg hc90, if_neg hc93]), fun target kt => sg85 _ (sg87 _ (sg89 _ (sg92 _ (sg95 _ (kt)))))⟩
          · have sg96 : ∀ target, Steps p.tables e below (T82.setTop (mkF m 242 #[.val (.int p1), .val (.int p2), .val (.int p3), .val (.int v5_t0), .val (.int r6), .val (.int r7), .val (.int r8), .val (.int r9), .val (.int u10), .val (.int u12), .val (.int u14), .val (.int u16), .val (.int u18), .val (.ref v43_t0), .val (.ref v67_t0), .val (.ref r_68), .val (.ref r_82), .unset, .unset] [(.int (0 : Int32))])) target → Steps p.tables e below (T82.setTop (mkF m 221 #[.val (.int p1), .val (.int p2), .val (.int p3), .val (.int v5_t0), .val (.int r6), .val (.int r7), .val (.int r8), .val (.int r9), .val (.int u10), .val (.int u12), .val (.int u14), .val (.int u16), .val (.int u18), .val (.ref v43_t0), .val (.ref v67_t0), .val (.ref r_68), .val (.ref r_82), .unset, .unset] [(.int r8), (.int r6)])) target := by
              intro target kt
              show Steps p.tables e below (T82.setTop (mkF m 221 #[.val (.int p1), .val (.int p2), .val (.int p3), .val (.int v5_t0), .val (.int r6), .val (.int r7), .val (.int r8), .val (.int r9), .val (.int u10), .val (.int u12), .val (.int u14), .val (.int u16), .val (.int u18), .val (.ref v43_t0), .val (.ref v67_t0), .val (.ref r_68), .val (.ref r_82), .unset, .unset] [(.int r8), (.int r6)])) _
              refine XS.icmpYes X82.here hx rfl (pc0 := 221) (pc' := 241) rfl (hb hby at_221) rfl (feq hc88).2 (by decide) (by decide) ?_
              show Steps p.tables e below (T82.setTop (mkF m 241 #[.val (.int p1), .val (.int p2), .val (.int p3), .val (.int v5_t0), .val (.int r6), .val (.int r7), .val (.int r8), .val (.int r9), .val (.int u10), .val (.int u12), .val (.int u14), .val (.int u16), .val (.int u18), .val (.ref v43_t0), .val (.ref v67_t0), .val (.ref r_68), .val (.ref r_82), .unset, .unset] [])) _
              refine XS.iconst X82.here hx rfl (hb hby at_241) ?_
              exact kt
            exact ⟨T82, _, (0 : Int32), X82.mono (by decide) (by decide), rfl, N82, (by rw [if_pos hc86, if_neg hc88]), fun target kt => sg85 _ (sg87 _ (sg96 _ (kt)))⟩
        · have sg97 : ∀ target, Steps p.tables e below (T82.setTop (mkF m 242 #[.val (.int p1), .val (.int p2), .val (.int p3), .val (.int v5_t0), .val (.int r6), .val (.int r7), .val (.int r8), .val (.int r9), .val (.int u10), .val (.int u12), .val (.int u14), .val (.int u16), .val (.int u18), .val (.ref v43_t0), .val (.ref v67_t0), .val (.ref r_68), .val (.ref r_82), .unset, .unset] [(.int (0 : Int32))])) target → Steps p.tables e below (T82.setTop (mkF m 214 #[.val (.int p1), .val (.int p2), .val (.int p3), .val (.int v5_t0), .val (.int r6), .val (.int r7), .val (.int r8), .val (.int r9), .val (.int u10), .val (.int u12), .val (.int u14), .val (.int u16), .val (.int u18), .val (.ref v43_t0), .val (.ref v67_t0), .val (.ref r_68), .val (.ref r_82), .unset, .unset] [(.int u12), (.int u10)])) target := by
            intro target kt
            show Steps p.tables e below (T82.setTop (mkF m 214 #[.val (.int p1), .val (.int p2), .val (.int p3), .val (.int v5_t0), .val (.int r6), .val (.int r7), .val (.int r8), .val (.int r9), .val (.int u10), .val (.int u12), .val (.int u14), .val (.int u16), .val (.int u18), .val (.ref v43_t0), .val (.ref v67_t0), .val (.ref r_68), .val (.ref r_82), .unset, .unset] [(.int u12), (.int u10)])) _
            refine XS.icmpYes X82.here hx rfl (pc0 := 214) (pc' := 241) rfl (hb hby at_214) rfl (feq hc86).2 (by decide) (by decide) ?_
            show Steps p.tables e below (T82.setTop (mkF m 241 #[.val (.int p1), .val (.int p2), .val (.int p3), .val (.int v5_t0), .val (.int r6), .val (.int r7), .val (.int r8), .val (.int r9), .val (.int u10), .val (.int u12), .val (.int u14), .val (.int u16), .val (.int u18), .val (.ref v43_t0), .val (.ref v67_t0), .val (.ref r_68), .val (.ref r_82), .unset, .unset] [])) _
            refine XS.iconst X82.here hx rfl (hb hby at_241) ?_
            exact kt
          exact ⟨T82, _, (0 : Int32), X82.mono (by decide) (by decide), rfl, N82, (by rw [if_neg hc86]), fun target kt => sg85 _ (sg97 _ (kt))⟩
      have sg99 : ∀ target, Steps p.tables e below (T98.setTop (mkF m 244 #[.val (.int p1), .val (.int p2), .val (.int p3), .val (.int v5_t0), .val (.int r6), .val (.int r7), .val (.int r8), .val (.int r9), .val (.int u10), .val (.int u12), .val (.int u14), .val (.int u16), .val (.int u18), .val (.ref v43_t0), .val (.ref v67_t0), .val (.ref r_68), .val (.ref r_82), .unset, .val (.int v98_t0)] [])) target → Steps p.tables e below (T98.setTop (mkF m 242 #[.val (.int p1), .val (.int p2), .val (.int p3), .val (.int v5_t0), .val (.int r6), .val (.int r7), .val (.int r8), .val (.int r9), .val (.int u10), .val (.int u12), .val (.int u14), .val (.int u16), .val (.int u18), .val (.ref v43_t0), .val (.ref v67_t0), .val (.ref r_68), .val (.ref r_82), .unset, .unset] [(.int v98_t0)])) target := by
        intro target kt
        show Steps p.tables e below (T98.setTop (mkF m 242 #[.val (.int p1), .val (.int p2), .val (.int p3), .val (.int v5_t0), .val (.int r6), .val (.int r7), .val (.int r8), .val (.int r9), .val (.int u10), .val (.int u12), .val (.int u14), .val (.int u16), .val (.int u18), .val (.ref v43_t0), .val (.ref v67_t0), .val (.ref r_68), .val (.ref r_82), .unset, .unset] [(.int v98_t0)])) _
        refine XS.istore X98.here hx rfl (hb hby at_242) rfl (l' := #[.val (.int p1), .val (.int p2), .val (.int p3), .val (.int v5_t0), .val (.int r6), .val (.int r7), .val (.int r8), .val (.int r9), .val (.int u10), .val (.int u12), .val (.int u14), .val (.int u16), .val (.int u18), .val (.ref v43_t0), .val (.ref v67_t0), .val (.ref r_68), .val (.ref r_82), .unset, .val (.int v98_t0)]) rfl ?_
        exact kt
      obtain ⟨T107, L107, v107_t0, X107, e107, N107, hv107_t0, sg107⟩ : ∃ (T' : State) (L' : List Loc) (v107_t0 : Int32), Stand p l e room_1 (s.setVm T82.vm) m #[(.int p1), (.int p2), (.int p3)] below meth c T' L' 20 148 ∧ T'.heap = T82.heap ∧ Fr n0 L' ∧ v107_t0 = (if v98_t0 = (0 : Int32) then (0 : Int32) else (if u14 = u16 then (1 : Int32) else (0 : Int32))) ∧ ∀ target, Steps p.tables e below (T'.setTop (mkF m 261 #[.val (.int p1), .val (.int p2), .val (.int p3), .val (.int v5_t0), .val (.int r6), .val (.int r7), .val (.int r8), .val (.int r9), .val (.int u10), .val (.int u12), .val (.int u14), .val (.int u16), .val (.int u18), .val (.ref v43_t0), .val (.ref v67_t0), .val (.ref r_68), .val (.ref r_82), .unset, .val (.int v98_t0)] [(.int v107_t0)])) target → Steps p.tables e below (T98.setTop (mkF m 244 #[.val (.int p1), .val (.int p2), .val (.int p3), .val (.int v5_t0), .val (.int r6), .val (.int r7), .val (.int r8), .val (.int r9), .val (.int u10), .val (.int u12), .val (.int u14), .val (.int u16), .val (.int u18), .val (.ref v43_t0), .val (.ref v67_t0), .val (.ref r_68), .val (.ref r_82), .unset, .val (.int v98_t0)] [])) target := by
        have sg100 : ∀ target, Steps p.tables e below (T98.setTop (mkF m 246 #[.val (.int p1), .val (.int p2), .val (.int p3), .val (.int v5_t0), .val (.int r6), .val (.int r7), .val (.int r8), .val (.int r9), .val (.int u10), .val (.int u12), .val (.int u14), .val (.int u16), .val (.int u18), .val (.ref v43_t0), .val (.ref v67_t0), .val (.ref r_68), .val (.ref r_82), .unset, .val (.int v98_t0)] [(.int v98_t0)])) target → Steps p.tables e below (T98.setTop (mkF m 244 #[.val (.int p1), .val (.int p2), .val (.int p3), .val (.int v5_t0), .val (.int r6), .val (.int r7), .val (.int r8), .val (.int r9), .val (.int u10), .val (.int u12), .val (.int u14), .val (.int u16), .val (.int u18), .val (.ref v43_t0), .val (.ref v67_t0), .val (.ref r_68), .val (.ref r_82), .unset, .val (.int v98_t0)] [])) target := by
          intro target kt
          show Steps p.tables e below (T98.setTop (mkF m 244 #[.val (.int p1), .val (.int p2), .val (.int p3), .val (.int v5_t0), .val (.int r6), .val (.int r7), .val (.int r8), .val (.int r9), .val (.int u10), .val (.int u12), .val (.int u14), .val (.int u16), .val (.int u18), .val (.ref v43_t0), .val (.ref v67_t0), .val (.ref r_68), .val (.ref r_82), .unset, .val (.int v98_t0)] [])) _
          refine XS.iload X98.here hx rfl (hb hby at_244) rfl ?_
          exact kt
        by_cases hc101 : v98_t0 = (0 : Int32)
        · have sg102 : ∀ target, Steps p.tables e below (T98.setTop (mkF m 261 #[.val (.int p1), .val (.int p2), .val (.int p3), .val (.int v5_t0), .val (.int r6), .val (.int r7), .val (.int r8), .val (.int r9), .val (.int u10), .val (.int u12), .val (.int u14), .val (.int u16), .val (.int u18), .val (.ref v43_t0), .val (.ref v67_t0), .val (.ref r_68), .val (.ref r_82), .unset, .val (.int v98_t0)] [(.int (0 : Int32))])) target → Steps p.tables e below (T98.setTop (mkF m 246 #[.val (.int p1), .val (.int p2), .val (.int p3), .val (.int v5_t0), .val (.int r6), .val (.int r7), .val (.int r8), .val (.int r9), .val (.int u10), .val (.int u12), .val (.int u14), .val (.int u16), .val (.int u18), .val (.ref v43_t0), .val (.ref v67_t0), .val (.ref r_68), .val (.ref r_82), .unset, .val (.int v98_t0)] [(.int v98_t0)])) target := by
            intro target kt
            show Steps p.tables e below (T98.setTop (mkF m 246 #[.val (.int p1), .val (.int p2), .val (.int p3), .val (.int v5_t0), .val (.int r6), .val (.int r7), .val (.int r8), .val (.int r9), .val (.int u10), .val (.int u12), .val (.int u14), .val (.int u16), .val (.int u18), .val (.ref v43_t0), .val (.ref v67_t0), .val (.ref r_68), .val (.ref r_82), .unset, .val (.int v98_t0)] [(.int v98_t0)])) _
            refine XS.ifYes X98.here hx rfl (pc0 := 246) (pc' := 260) rfl (hb hby at_246) rfl ((if0 _ _).trans (teq hc101).1) (by decide) (by decide) ?_
            show Steps p.tables e below (T98.setTop (mkF m 260 #[.val (.int p1), .val (.int p2), .val (.int p3), .val (.int v5_t0), .val (.int r6), .val (.int r7), .val (.int r8), .val (.int r9), .val (.int u10), .val (.int u12), .val (.int u14), .val (.int u16), .val (.int u18), .val (.ref v43_t0), .val (.ref v67_t0), .val (.ref r_68), .val (.ref r_82), .unset, .val (.int v98_t0)] [])) _
            refine XS.iconst X98.here hx rfl (hb hby at_260) ?_
            exact kt
          exact ⟨T98, _, (0 : Int32), X98.mono (by decide) (by decide), e98, N98, (by rw [if_pos hc101]), fun target kt => sg100 _ (sg102 _ (kt))⟩
        · have sg103 : ∀ target, Steps p.tables e below (T98.setTop (mkF m 253 #[.val (.int p1), .val (.int p2), .val (.int p3), .val (.int v5_t0), .val (.int r6), .val (.int r7), .val (.int r8), .val (.int r9), .val (.int u10), .val (.int u12), .val (.int u14), .val (.int u16), .val (.int u18), .val (.ref v43_t0), .val (.ref v67_t0), .val (.ref r_68), .val (.ref r_82), .unset, .val (.int v98_t0)] [(.int u16), (.int u14)])) target → Steps p.tables e below (T98.setTop (mkF m 246 #[.val (.int p1), .val (.int p2), .val (.int p3), .val (.int v5_t0), .val (.int r6), .val (.int r7), .val (.int r8), .val (.int r9), .val (.int u10), .val (.int u12), .val (.int u14), .val (.int u16), .val (.int u18), .val (.ref v43_t0), .val (.ref v67_t0), .val (.ref r_68), .val (.ref r_82), .unset, .val (.int v98_t0)] [(.int v98_t0)])) target := by
            intro target kt
            show Steps p.tables e below (T98.setTop (mkF m 246 #[.val (.int p1), .val (.int p2), .val (.int p3), .val (.int v5_t0), .val (.int r6), .val (.int r7), .val (.int r8), .val (.int r9), .val (.int u10), .val (.int u12), .val (.int u14), .val (.int u16), .val (.int u18), .val (.ref v43_t0), .val (.ref v67_t0), .val (.ref r_68), .val (.ref r_82), .unset, .val (.int v98_t0)] [(.int v98_t0)])) _
            refine XS.ifNo X98.here hx rfl (hb hby at_246) rfl ((if0 _ _).trans (feq hc101).1) ?_
            show Steps p.tables e below (T98.setTop (mkF m 249 #[.val (.int p1), .val (.int p2), .val (.int p3), .val (.int v5_t0), .val (.int r6), .val (.int r7), .val (.int r8), .val (.int r9), .val (.int u10), .val (.int u12), .val (.int u14), .val (.int u16), .val (.int u18), .val (.ref v43_t0), .val (.ref v67_t0), .val (.ref r_68), .val (.ref r_82), .unset, .val (.int v98_t0)] [])) _
            refine XS.iload X98.here hx rfl (hb hby at_249) rfl ?_
            show Steps p.tables e below (T98.setTop (mkF m 251 #[.val (.int p1), .val (.int p2), .val (.int p3), .val (.int v5_t0), .val (.int r6), .val (.int r7), .val (.int r8), .val (.int r9), .val (.int u10), .val (.int u12), .val (.int u14), .val (.int u16), .val (.int u18), .val (.ref v43_t0), .val (.ref v67_t0), .val (.ref r_68), .val (.ref r_82), .unset, .val (.int v98_t0)] [(.int u14)])) _
            refine XS.iload X98.here hx rfl (hb hby at_251) rfl ?_
            exact kt
          by_cases hc104 : u14 = u16
          · have sg105 : ∀ target, Steps p.tables e below (T98.setTop (mkF m 261 #[.val (.int p1), .val (.int p2), .val (.int p3), .val (.int v5_t0), .val (.int r6), .val (.int r7), .val (.int r8), .val (.int r9), .val (.int u10), .val (.int u12), .val (.int u14), .val (.int u16), .val (.int u18), .val (.ref v43_t0), .val (.ref v67_t0), .val (.ref r_68), .val (.ref r_82), .unset, .val (.int v98_t0)] [(.int (1 : Int32))])) target → Steps p.tables e below (T98.setTop (mkF m 253 #[.val (.int p1), .val (.int p2), .val (.int p3), .val (.int v5_t0), .val (.int r6), .val (.int r7), .val (.int r8), .val (.int r9), .val (.int u10), .val (.int u12), .val (.int u14), .val (.int u16), .val (.int u18), .val (.ref v43_t0), .val (.ref v67_t0), .val (.ref r_68), .val (.ref r_82), .unset, .val (.int v98_t0)] [(.int u16), (.int u14)])) target := by
              intro target kt
              show Steps p.tables e below (T98.setTop (mkF m 253 #[.val (.int p1), .val (.int p2), .val (.int p3), .val (.int v5_t0), .val (.int r6), .val (.int r7), .val (.int r8), .val (.int r9), .val (.int u10), .val (.int u12), .val (.int u14), .val (.int u16), .val (.int u18), .val (.ref v43_t0), .val (.ref v67_t0), .val (.ref r_68), .val (.ref r_82), .unset, .val (.int v98_t0)] [(.int u16), (.int u14)])) _
              refine XS.icmpNo X98.here hx rfl (hb hby at_253) rfl (teq hc104).2 ?_
              show Steps p.tables e below (T98.setTop (mkF m 256 #[.val (.int p1), .val (.int p2), .val (.int p3), .val (.int v5_t0), .val (.int r6), .val (.int r7), .val (.int r8), .val (.int r9), .val (.int u10), .val (.int u12), .val (.int u14), .val (.int u16), .val (.int u18), .val (.ref v43_t0), .val (.ref v67_t0), .val (.ref r_68), .val (.ref r_82), .unset, .val (.int v98_t0)] [])) _
              refine XS.iconst X98.here hx rfl (hb hby at_256) ?_
              show Steps p.tables e below (T98.setTop (mkF m 257 #[.val (.int p1), .val (.int p2), .val (.int p3), .val (.int v5_t0), .val (.int r6), .val (.int r7), .val (.int r8), .val (.int r9), .val (.int u10), .val (.int u12), .val (.int u14), .val (.int u16), .val (.int u18), .val (.ref v43_t0), .val (.ref v67_t0), .val (.ref r_68), .val (.ref r_82), .unset, .val (.int v98_t0)] [(.int (1 : Int32))])) _
              refine XS.goto X98.here hx rfl (pc0 := 257) (pc' := 261) rfl (hb hby at_257) (by decide) (by decide) ?_
              exact kt
            exact ⟨T98, _, (1 : Int32), X98.mono (by decide) (by decide), e98, N98, (by rw [if_neg hc101, if_pos hc104]), fun target kt => sg100 _ (sg103 _ (sg105 _ (kt)))⟩
          · have sg106 : ∀ target, Steps p.tables e below (T98.setTop (mkF m 261 #[.val (.int p1), .val (.int p2), .val (.int p3), .val (.int v5_t0), .val (.int r6), .val (.int r7), .val (.int r8), .val (.int r9), .val (.int u10), .val (.int u12), .val (.int u14), .val (.int u16), .val (.int u18), .val (.ref v43_t0), .val (.ref v67_t0), .val (.ref r_68), .val (.ref r_82), .unset, .val (.int v98_t0)] [(.int (0 : Int32))])) target → Steps p.tables e below (T98.setTop (mkF m 253 #[.val (.int p1), .val (.int p2), .val (.int p3), .val (.int v5_t0), .val (.int r6), .val (.int r7), .val (.int r8), .val (.int r9), .val (.int u10), .val (.int u12), .val (.int u14), .val (.int u16), .val (.int u18), .val (.ref v43_t0), .val (.ref v67_t0), .val (.ref r_68), .val (.ref r_82), .unset, .val (.int v98_t0)] [(.int u16), (.int u14)])) target := by
              intro target kt
              show Steps p.tables e below (T98.setTop (mkF m 253 #[.val (.int p1), .val (.int p2), .val (.int p3), .val (.int v5_t0), .val (.int r6), .val (.int r7), .val (.int r8), .val (.int r9), .val (.int u10), .val (.int u12), .val (.int u14), .val (.int u16), .val (.int u18), .val (.ref v43_t0), .val (.ref v67_t0), .val (.ref r_68), .val (.ref r_82), .unset, .val (.int v98_t0)] [(.int u16), (.int u14)])) _
              refine XS.icmpYes X98.here hx rfl (pc0 := 253) (pc' := 260) rfl (hb hby at_253) rfl (feq hc104).2 (by decide) (by decide) ?_
              show Steps p.tables e below (T98.setTop (mkF m 260 #[.val (.int p1), .val (.int p2), .val (.int p3), .val (.int v5_t0), .val (.int r6), .val (.int r7), .val (.int r8), .val (.int r9), .val (.int u10), .val (.int u12), .val (.int u14), .val (.int u16), .val (.int u18), .val (.ref v43_t0), .val (.ref v67_t0), .val (.ref r_68), .val (.ref r_82), .unset, .val (.int v98_t0)] [])) _
              refine XS.iconst X98.here hx rfl (hb hby at_260) ?_
              exact kt
            exact ⟨T98, _, (0 : Int32), X98.mono (by decide) (by decide), e98, N98, (by rw [if_neg hc101, if_neg hc104]), fun target kt => sg100 _ (sg103 _ (sg106 _ (kt)))⟩
      obtain ⟨cq108, kq108, q108a, q108b, q108c⟩ := isOf hZ82 e107 (f68_2.keep K82q)
      obtain ⟨_, _, ⟨T108, L108, k108, n108⟩, -, X108, ⟨Lc108, hQ108, l108, y108, z108⟩, st108⟩ := X107.virtualBack hx (y := (⟨"com/example/muninn/muninn/store/Node", "equals", "(Ljava/lang/Object;)Z"⟩ : MethodName)) (z := (⟨"com/example/muninn/muninn/store/Node", "equals", "(Ljava/lang/Object;)Z"⟩ : MethodName)) hown82 (mvT hZ82 (hw _ (List.mem_of_getElem? (i := 124) rfl))) (mvT hZ82 (hw _ (List.mem_of_getElem? (i := 125) rfl))) (notFace_of_selects (args := #[]) (mvT hZ82 (hw _ (List.mem_of_getElem? (i := 127) rfl)))) (mvT hZ82 (hw _ (List.mem_of_getElem? (i := 127) rfl))) (mvT hZ82 (hw _ (List.mem_of_getElem? (i := 126) rfl))) (by decide) (backOf (W := 0) (rm27_0 l Z a0 hw [] r_68 r_82 v43_t0 v67_t0 (own_cs2 u10 r6 r7) (own_cs2 u12 r8 r9) (own_kv u14 wE wA wG) (own_kv u16 wE wA wG) zC t_43 kb_43 t_67 kb_67 T82.heap n0 O82 S_COMPACT_STRINGS hCS (f68_2.keep K82q) f82_2 (f68_3.keep K82q nin0) f82_3 (f68_4.keep K82q nin0) f82_4 (((E_v43_t0.keep K67).keep K68q).keep K82q) (((Fc_v43_t0.keep K67 nin0).keep K68q nin0).keep K82q nin0) (((Fv_v43_t0.keep K67 nin0).keep K68q nin0).keep K82q nin0) (((V_v43_t0.keep K67 nin0).keep K68q nin0).keep K82q nin0) (own_vlat vis_v43_t0) ((E_v67_t0.keep K68q).keep K82q) ((Fc_v67_t0.keep K68q nin0).keep K82q nin0) ((Fv_v67_t0.keep K68q nin0).keep K82q nin0) ((V_v67_t0.keep K68q nin0).keep K82q nin0) (own_vlat vis_v67_t0) own_kvr own_kvr) hZ82 (hw _ (List.mem_of_getElem? (i := 128) rfl)) (hw _ (List.mem_of_getElem? (i := 54) rfl)) (by decide) (by decide)) q108a q108c (g := (mkF m 267 #[.val (.int p1), .val (.int p2), .val (.int p3), .val (.int v5_t0), .val (.int r6), .val (.int r7), .val (.int r8), .val (.int r9), .val (.int u10), .val (.int u12), .val (.int u14), .val (.int u16), .val (.int u18), .val (.ref v43_t0), .val (.ref v67_t0), .val (.ref r_68), .val (.ref r_82), .val (.int v107_t0), .val (.int v98_t0)] [(.ref r_82), (.ref r_68)])) rfl (by rw [hml]; rfl) (Steps.refl _) (argsL := [(.ref r_82)]) (rest := []) (lenOf pd_12 rfl) rfl (by show 2 * 0 + _ ≤ _; exact Nat.le_of_eq rfl) (hb hby at_267) (fun _ _ => ⟨rfl, e107, (by decide : 20 + 0 ≤ _), (by decide : 148 + 0 ≤ _)⟩)
      dsimp only [Pt.U, Pt.locs, Pt.cells, Pt.slots] at X108 l108 y108 z108 st108 hQ108
      subst l108 y108 z108
      obtain ⟨rfl, N108q, e108⟩ := hQ108
      have N108 := Fr.app N107 N108q
      obtain ⟨r108, hr108⟩ : ∃ z, z = (if (own_cs2 u10 r6 r7) = (own_cs2 u12 r8 r9) then (if (own_kv u14 wE wA wG) = (own_kv u16 wE wA wG) then (1 : Int32) else (0 : Int32)) else (0 : Int32)) := ⟨_, rfl⟩
      rw [← hr108] at st108
      have sg109 : ∀ target, Steps p.tables e below (T108.setTop (mkF m 270 #[.val (.int p1), .val (.int p2), .val (.int p3), .val (.int v5_t0), .val (.int r6), .val (.int r7), .val (.int r8), .val (.int r9), .val (.int u10), .val (.int u12), .val (.int u14), .val (.int u16), .val (.int u18), .val (.ref v43_t0), .val (.ref v67_t0), .val (.ref r_68), .val (.ref r_82), .val (.int v107_t0), .val (.int v98_t0)] [(.int r108)])) target → Steps p.tables e below (T107.setTop (mkF m 261 #[.val (.int p1), .val (.int p2), .val (.int p3), .val (.int v5_t0), .val (.int r6), .val (.int r7), .val (.int r8), .val (.int r9), .val (.int u10), .val (.int u12), .val (.int u14), .val (.int u16), .val (.int u18), .val (.ref v43_t0), .val (.ref v67_t0), .val (.ref r_68), .val (.ref r_82), .unset, .val (.int v98_t0)] [(.int v107_t0)])) target := by
        intro target kt
        show Steps p.tables e below (T107.setTop (mkF m 261 #[.val (.int p1), .val (.int p2), .val (.int p3), .val (.int v5_t0), .val (.int r6), .val (.int r7), .val (.int r8), .val (.int r9), .val (.int u10), .val (.int u12), .val (.int u14), .val (.int u16), .val (.int u18), .val (.ref v43_t0), .val (.ref v67_t0), .val (.ref r_68), .val (.ref r_82), .unset, .val (.int v98_t0)] [(.int v107_t0)])) _
        refine XS.istore X107.here hx rfl (hb hby at_261) rfl (l' := #[.val (.int p1), .val (.int p2), .val (.int p3), .val (.int v5_t0), .val (.int r6), .val (.int r7), .val (.int r8), .val (.int r9), .val (.int u10), .val (.int u12), .val (.int u14), .val (.int u16), .val (.int u18), .val (.ref v43_t0), .val (.ref v67_t0), .val (.ref r_68), .val (.ref r_82), .val (.int v107_t0), .val (.int v98_t0)]) rfl ?_
        show Steps p.tables e below (T107.setTop (mkF m 263 #[.val (.int p1), .val (.int p2), .val (.int p3), .val (.int v5_t0), .val (.int r6), .val (.int r7), .val (.int r8), .val (.int r9), .val (.int u10), .val (.int u12), .val (.int u14), .val (.int u16), .val (.int u18), .val (.ref v43_t0), .val (.ref v67_t0), .val (.ref r_68), .val (.ref r_82), .val (.int v107_t0), .val (.int v98_t0)] [])) _
        refine XS.aload X107.here hx rfl (hb hby at_263) rfl rfl ?_
        show Steps p.tables e below (T107.setTop (mkF m 265 #[.val (.int p1), .val (.int p2), .val (.int p3), .val (.int v5_t0), .val (.int r6), .val (.int r7), .val (.int r8), .val (.int r9), .val (.int u10), .val (.int u12), .val (.int u14), .val (.int u16), .val (.int u18), .val (.ref v43_t0), .val (.ref v67_t0), .val (.ref r_68), .val (.ref r_82), .val (.int v107_t0), .val (.int v98_t0)] [(.ref r_68)])) _
        refine XS.aload X107.here hx rfl (hb hby at_265) rfl rfl ?_
        show Steps p.tables e below (T107.setTop (mkF m 267 #[.val (.int p1), .val (.int p2), .val (.int p3), .val (.int v5_t0), .val (.int r6), .val (.int r7), .val (.int r8), .val (.int r9), .val (.int u10), .val (.int u12), .val (.int u14), .val (.int u16), .val (.int u18), .val (.ref v43_t0), .val (.ref v67_t0), .val (.ref r_68), .val (.ref r_82), .val (.int v107_t0), .val (.int v98_t0)] [(.ref r_82), (.ref r_68)])) _
        refine st108.trans ?_
        exact kt
      obtain ⟨T114, L114, v114_t0, X114, e114, N114, hv114_t0, sg114⟩ : ∃ (T' : State) (L' : List Loc) (v114_t0 : Int32), Stand p l e room_1 (s.setVm T82.vm) m #[(.int p1), (.int p2), (.int p3)] below meth c T' L' 20 148 ∧ T'.heap = T82.heap ∧ Fr n0 L' ∧ v114_t0 = (if r108 = v107_t0 then (1 : Int32) else (0 : Int32)) ∧ ∀ target, Steps p.tables e below (T'.setTop (mkF m 280 #[.val (.int p1), .val (.int p2), .val (.int p3), .val (.int v5_t0), .val (.int r6), .val (.int r7), .val (.int r8), .val (.int r9), .val (.int u10), .val (.int u12), .val (.int u14), .val (.int u16), .val (.int u18), .val (.ref v43_t0), .val (.ref v67_t0), .val (.ref r_68), .val (.ref r_82), .val (.int v107_t0), .val (.int v98_t0)] [(.int v114_t0)])) target → Steps p.tables e below (T108.setTop (mkF m 270 #[.val (.int p1), .val (.int p2), .val (.int p3), .val (.int v5_t0), .val (.int r6), .val (.int r7), .val (.int r8), .val (.int r9), .val (.int u10), .val (.int u12), .val (.int u14), .val (.int u16), .val (.int u18), .val (.ref v43_t0), .val (.ref v67_t0), .val (.ref r_68), .val (.ref r_82), .val (.int v107_t0), .val (.int v98_t0)] [(.int r108)])) target := by
        have sg110 : ∀ target, Steps p.tables e below (T108.setTop (mkF m 272 #[.val (.int p1), .val (.int p2), .val (.int p3), .val (.int v5_t0), .val (.int r6), .val (.int r7), .val (.int r8), .val (.int r9), .val (.int u10), .val (.int u12), .val (.int u14), .val (.int u16), .val (.int u18), .val (.ref v43_t0), .val (.ref v67_t0), .val (.ref r_68), .val (.ref r_82), .val (.int v107_t0), .val (.int v98_t0)] [(.int v107_t0), (.int r108)])) target → Steps p.tables e below (T108.setTop (mkF m 270 #[.val (.int p1), .val (.int p2), .val (.int p3), .val (.int v5_t0), .val (.int r6), .val (.int r7), .val (.int r8), .val (.int r9), .val (.int u10), .val (.int u12), .val (.int u14), .val (.int u16), .val (.int u18), .val (.ref v43_t0), .val (.ref v67_t0), .val (.ref r_68), .val (.ref r_82), .val (.int v107_t0), .val (.int v98_t0)] [(.int r108)])) target := by
          intro target kt
          show Steps p.tables e below (T108.setTop (mkF m 270 #[.val (.int p1), .val (.int p2), .val (.int p3), .val (.int v5_t0), .val (.int r6), .val (.int r7), .val (.int r8), .val (.int r9), .val (.int u10), .val (.int u12), .val (.int u14), .val (.int u16), .val (.int u18), .val (.ref v43_t0), .val (.ref v67_t0), .val (.ref r_68), .val (.ref r_82), .val (.int v107_t0), .val (.int v98_t0)] [(.int r108)])) _
          refine XS.iload X108.here hx rfl (hb hby at_270) rfl ?_
          exact kt
        by_cases hc111 : r108 = v107_t0
        · have sg112 : ∀ target, Steps p.tables e below (T108.setTop (mkF m 280 #[.val (.int p1), .val (.int p2), .val (.int p3), .val (.int v5_t0), .val (.int r6), .val (.int r7), .val (.int r8), .val (.int r9), .val (.int u10), .val (.int u12), .val (.int u14), .val (.int u16), .val (.int u18), .val (.ref v43_t0), .val (.ref v67_t0), .val (.ref r_68), .val (.ref r_82), .val (.int v107_t0), .val (.int v98_t0)] [(.int (1 : Int32))])) target → Steps p.tables e below (T108.setTop (mkF m 272 #[.val (.int p1), .val (.int p2), .val (.int p3), .val (.int v5_t0), .val (.int r6), .val (.int r7), .val (.int r8), .val (.int r9), .val (.int u10), .val (.int u12), .val (.int u14), .val (.int u16), .val (.int u18), .val (.ref v43_t0), .val (.ref v67_t0), .val (.ref r_68), .val (.ref r_82), .val (.int v107_t0), .val (.int v98_t0)] [(.int v107_t0), (.int r108)])) target := by
            intro target kt
            show Steps p.tables e below (T108.setTop (mkF m 272 #[.val (.int p1), .val (.int p2), .val (.int p3), .val (.int v5_t0), .val (.int r6), .val (.int r7), .val (.int r8), .val (.int r9), .val (.int u10), .val (.int u12), .val (.int u14), .val (.int u16), .val (.int u18), .val (.ref v43_t0), .val (.ref v67_t0), .val (.ref r_68), .val (.ref r_82), .val (.int v107_t0), .val (.int v98_t0)] [(.int v107_t0), (.int r108)])) _
            refine XS.icmpNo X108.here hx rfl (hb hby at_272) rfl (teq hc111).2 ?_
            show Steps p.tables e below (T108.setTop (mkF m 275 #[.val (.int p1), .val (.int p2), .val (.int p3), .val (.int v5_t0), .val (.int r6), .val (.int r7), .val (.int r8), .val (.int r9), .val (.int u10), .val (.int u12), .val (.int u14), .val (.int u16), .val (.int u18), .val (.ref v43_t0), .val (.ref v67_t0), .val (.ref r_68), .val (.ref r_82), .val (.int v107_t0), .val (.int v98_t0)] [])) _
            refine XS.iconst X108.here hx rfl (hb hby at_275) ?_
            show Steps p.tables e below (T108.setTop (mkF m 276 #[.val (.int p1), .val (.int p2), .val (.int p3), .val (.int v5_t0), .val (.int r6), .val (.int r7), .val (.int r8), .val (.int r9), .val (.int u10), .val (.int u12), .val (.int u14), .val (.int u16), .val (.int u18), .val (.ref v43_t0), .val (.ref v67_t0), .val (.ref r_68), .val (.ref r_82), .val (.int v107_t0), .val (.int v98_t0)] [(.int (1 : Int32))])) _
            refine XS.goto X108.here hx rfl (pc0 := 276) (pc' := 280) rfl (hb hby at_276) (by decide) (by decide) ?_
            exact kt
          exact ⟨T108, _, (1 : Int32), X108.mono (by decide) (by decide), e108, N108, (by rw [if_pos hc111]), fun target kt => sg110 _ (sg112 _ (kt))⟩
        · have sg113 : ∀ target, Steps p.tables e below (T108.setTop (mkF m 280 #[.val (.int p1), .val (.int p2), .val (.int p3), .val (.int v5_t0), .val (.int r6), .val (.int r7), .val (.int r8), .val (.int r9), .val (.int u10), .val (.int u12), .val (.int u14), .val (.int u16), .val (.int u18), .val (.ref v43_t0), .val (.ref v67_t0), .val (.ref r_68), .val (.ref r_82), .val (.int v107_t0), .val (.int v98_t0)] [(.int (0 : Int32))])) target → Steps p.tables e below (T108.setTop (mkF m 272 #[.val (.int p1), .val (.int p2), .val (.int p3), .val (.int v5_t0), .val (.int r6), .val (.int r7), .val (.int r8), .val (.int r9), .val (.int u10), .val (.int u12), .val (.int u14), .val (.int u16), .val (.int u18), .val (.ref v43_t0), .val (.ref v67_t0), .val (.ref r_68), .val (.ref r_82), .val (.int v107_t0), .val (.int v98_t0)] [(.int v107_t0), (.int r108)])) target := by
            intro target kt
            show Steps p.tables e below (T108.setTop (mkF m 272 #[.val (.int p1), .val (.int p2), .val (.int p3), .val (.int v5_t0), .val (.int r6), .val (.int r7), .val (.int r8), .val (.int r9), .val (.int u10), .val (.int u12), .val (.int u14), .val (.int u16), .val (.int u18), .val (.ref v43_t0), .val (.ref v67_t0), .val (.ref r_68), .val (.ref r_82), .val (.int v107_t0), .val (.int v98_t0)] [(.int v107_t0), (.int r108)])) _
            refine XS.icmpYes X108.here hx rfl (pc0 := 272) (pc' := 279) rfl (hb hby at_272) rfl (feq hc111).2 (by decide) (by decide) ?_
            show Steps p.tables e below (T108.setTop (mkF m 279 #[.val (.int p1), .val (.int p2), .val (.int p3), .val (.int v5_t0), .val (.int r6), .val (.int r7), .val (.int r8), .val (.int r9), .val (.int u10), .val (.int u12), .val (.int u14), .val (.int u16), .val (.int u18), .val (.ref v43_t0), .val (.ref v67_t0), .val (.ref r_68), .val (.ref r_82), .val (.int v107_t0), .val (.int v98_t0)] [])) _
            refine XS.iconst X108.here hx rfl (hb hby at_279) ?_
            exact kt
          exact ⟨T108, _, (0 : Int32), X108.mono (by decide) (by decide), e108, N108, (by rw [if_neg hc111]), fun target kt => sg110 _ (sg113 _ (kt))⟩
      have hfin : v114_t0 = 1 := own_plain hu10 hu12 hu14 hu16 hEA hEG hAG ok_r6 ok_r7 ok_r8 ok_r9 hv98_t0 hv107_t0 hr108 hv114_t0
      subst hfin
      obtain ⟨fs, hr, hrun, hended, hRW⟩ := X114.leaveW Y82 (show _ ≤ T114.heap.size by rw [e114]; exact (Nat.le_refl _)) (v := some (.int (1 : Int32))) (fun h => by rw [Bd.returns] at h; cases h)
      refine ⟨_, _, pre0 _ (sg5 _ (sg11 _ (sg13 _ (sg15 _ (sg17 _ (sg19 _ (sg20 _ (sg43 _ (sg44 _ (sg67 _ (sg70 _ (sg76 _ (sg84 _ (sg98 _ (sg99 _ (sg107 _ (sg109 _ (sg114 _ (?_))))))))))))))))))), hrun, hended, _, _, rfl, ?_, (by rw [hh]; show CHr Z own_EL s.vm h0 T114.vm T114.heap; rw [e114]; exact CR83.trans (CHv.at X114 hZ82 hEL CR83.1)), hRW.1, hRW.2.1, hRW.2.2.1, hRW.2.2.2.mono (by decide) (by decide)⟩
      · show Steps p.tables e below (T114.setTop (mkF m 280 #[.val (.int p1), .val (.int p2), .val (.int p3), .val (.int v5_t0), .val (.int r6), .val (.int r7), .val (.int r8), .val (.int r9), .val (.int u10), .val (.int u12), .val (.int u14), .val (.int u16), .val (.int u18), .val (.ref v43_t0), .val (.ref v67_t0), .val (.ref r_68), .val (.ref r_82), .val (.int v107_t0), .val (.int v98_t0)] [(.int (1 : Int32))])) _
        exact retN X114 hx (t := .boolean) Bd.returns (by simp) (hb hby at_280) hr
      · show Q0 Z p1 p2 p3 zC wE wA wG vFM h0 n0 _ T114.heap _
        rw [e114]
        exact ⟨rfl, N114, K82, O82⟩
set_option maxRecDepth 65536 in
set_option maxHeartbeats 40000000 in
theorem comes_1 {Post : Tables → Env → Array Value → State → Outcome → State → Prop} (hpost : ∀ tb e args s v u, (limb_1_1.after args s (.returned v) u = true ∧ limb_1_2.after args s (.returned v) u = true ∧ True) → FramedW s (.returned v) u (Jvm.fieldLocs frame_1_writes args s ++ Jvm.arrayLocs frame_1_arrays args s ++ Jvm.staticLocs frame_1_statics s) 32 3200 → Post tb e args s (.returned v) u) :
    ArmFor flags0 classFile x code maxLocals ret World_1 tables_1 room_1 Calls_1 rest_1 Pre_1 Post := by
  intro l hfl _ _ p e ha hc hk s m args below hf hA hF happ hP
  obtain ⟨hcalls, hrest, hpre⟩ := hP
  obtain ⟨-, -, -, hnamed, -, -, -, hat⟩ := (Spec.applies_iff hf).mp happ
  obtain ⟨hg, hn⟩ := and_e (Cond.before_iff.mp (show (Jvm.Cond.and given_1 narrow_1).before args s = true from hpre))
  obtain ⟨g1, g2⟩ := and_e hg
  obtain ⟨g3, g4⟩ := and_e g2
  obtain ⟨g5, g6⟩ := and_e g4
  obtain ⟨n7, n8⟩ := and_e hn
  obtain ⟨n9, n10⟩ := and_e n8
  obtain ⟨n11, n12⟩ := and_e n10
  obtain ⟨n13, n14⟩ := and_e n12
  obtain ⟨n15, n16⟩ := and_e n14
  obtain ⟨w0, w1, w2, rfl⟩ : ∃ w0 w1 w2 : Value, args = #[w0, w1, w2] := by
    have hs : args.size = 3 := by simpa [Cond.value, given_1] using g1
    obtain ⟨L⟩ := args
    match L, hs with
    | [w0, w1, w2], _ => exact ⟨w0, w1, w2, rfl⟩
  have hw := fun d (hd : d ∈ tables_1) => atoms_spec (ws := Jvm.Cond.code x code maxLocals ret :: tables_1) hat d (List.mem_cons_of_mem _ hd)
  have hfit : Fit s := fun {y c} hc i hi => by
    obtain ⟨ha, rfl⟩ := Array.getElem?_eq_some_iff.mp hc
    have q := List.all_eq_true.mp ((Array.all_eq_true_iff_forall_mem.mp hF) _ (Array.getElem_mem ha)) i (List.mem_range.mpr hi)
    simpa [Array.getElem?_eq_getElem hi] using q
  obtain ⟨hsets, hown0⟩ := atoms_of _ (rest_1_c_eq ▸ (show rest_1_c.before _ s = true from hrest))
  have hr0 := Cond.before_iff.mp hown0
  obtain ⟨i0, ei0⟩ := is_v g3
  obtain rfl : w0 = (.int i0) := Option.some.inj ei0
  obtain ⟨i1, ei1⟩ := is_v g5
  obtain rfl : w1 = (.int i1) := Option.some.inj ei1
  obtain ⟨i2, ei2⟩ := is_v g6
  obtain rfl : w2 = (.int i2) := Option.some.inj ei2
  obtain ⟨wG, ev_AGENT⟩ := exa_v n7
  have EX_AGENT := Exa.start ev_AGENT n7
  have SS_AGENT := Sta.start ev_AGENT (Or.inr ⟨(hw _ (List.mem_of_getElem? (i := 140) rfl)), (hw _ (List.mem_of_getElem? (i := 141) rfl))⟩)
  obtain ⟨wE, ev_ENTITY⟩ := exa_v n9
  have EX_ENTITY := Exa.start ev_ENTITY n9
  have SS_ENTITY := Sta.start ev_ENTITY (Or.inr ⟨(hw _ (List.mem_of_getElem? (i := 140) rfl)), (hw _ (List.mem_of_getElem? (i := 149) rfl))⟩)
  obtain ⟨wA, ev_ACTIVITY⟩ := exa_v n11
  have EX_ACTIVITY := Exa.start ev_ACTIVITY n11
  have SS_ACTIVITY := Sta.start ev_ACTIVITY (Or.inr ⟨(hw _ (List.mem_of_getElem? (i := 140) rfl)), (hw _ (List.mem_of_getElem? (i := 151) rfl))⟩)
  have oo_AGENT := own_fo ev_AGENT n13
  have oo_ACTIVITY := own_fo ev_ACTIVITY n15
  have oo_ENTITY := own_fo ev_ENTITY n16
  obtain ⟨zC, evC⟩ := is_v (Cond.before_iff.mp (hsets _ (List.mem_of_getElem? (i := 1) rfl)))
  have SS_COMPACT_STRINGS := Sta.start evC (Or.inl (hsets _ (List.mem_of_getElem? (i := 0) rfl)))
  have hCW := (hsets _ (List.mem_of_getElem? (i := 2) rfl))
  have hCS : ¬ zC = 0 := gotF (P := zC = 0) (by simp [Cond.value, evC, Term.int_eval]) (not_v (Cond.before_iff.mp hCW))
  obtain ⟨vFM, evF, hFM⟩ := isR_v (Cond.before_iff.mp (hsets _ (List.mem_of_getElem? (i := 8) rfl)))
  have SS_SIOOBE_FORMATTER := Sta.start evF (Or.inl (hsets _ (List.mem_of_getElem? (i := 7) rfl)))
  have hCH : CHv s own_EL s.vm s.heap := CHv.start (own_EW hw) (fun p hp => hcalls.1 p ((by decide +kernel : ∀ p ∈ own_EL, p ∈ consts_1) p hp)) hCW (hw _ (List.mem_of_getElem? (i := 19) rfl)) (hw _ (List.mem_of_getElem? (i := 15) rfl))
  obtain ⟨n, o, h1, h2, h3, _, L, rfl, ⟨rfl, N, -⟩, -, hq⟩ := rm0 l s _ hw tables_1 i0 i1 i2 zC wE wA wG vFM s.heap s.heap.size (Old.start s) SS_COMPACT_STRINGS SS_SIOOBE_FORMATTER SS_ENTITY SS_ACTIVITY SS_AGENT hCS hFM EX_ENTITY EX_ACTIVITY EX_AGENT (own_ne oo_ENTITY oo_ACTIVITY (by decide)) (own_ne oo_ENTITY oo_AGENT (by decide)) (own_ne oo_ACTIVITY oo_AGENT (by decide)) p e ha hc hk s m _ below hf ((Spec.applies_iff_loose hf).mp happ).1 ⟨rfl, State.Warmed39.refl s, rfl, hCH⟩ trivial
  refine ⟨n, _, h1, h2, h3, hpost _ _ _ _ _ _ ⟨Cond.after_iff.mpr rfl, Cond.after_iff.mpr (eq_i res_at (Term.int_eval (1)) rfl), trivial⟩ ?_⟩
  exact ⟨hq.1, hq.2.1, hq.2.2.1, (hq.2.2.2.sift fun y hy => Or.inr (N y hy)).mono (by decide) (by decide)⟩
theorem main_1_1 : Claimed_1_1 := comes_1 fun _ _ _ _ _ _ h hF => ⟨h.1, hF⟩
theorem main_1_2 : Claimed_1_2 := comes_1 fun _ _ _ _ _ _ h hF => ⟨h.2.1, hF⟩
end Jvm.Pilot.@@N@@
namespace Jvm.Pilot.@@N@@
open Jvm Jvm.ClassFile Sem Op Lib Jvm.Free Jvm.Stand Jvm.Pilot.@@N@@.Jvm.D
/-! MADE BY PROGRAM (witnessworld.py) out of the Statement's table words and the real class files: 23 classes; the members and pool entries that the words name. The judged class is class 1, her method 3. -/
namespace start1
open Jvm.ClassFile
def u (s : String) : CpInfo := .utf8 (stringToUtf16 s)
/-- a pool by its gaps: so many unusable entries, then the entry; so many at the end -/
def gap : Nat → List CpInfo → List CpInfo
  | 0, r => r
  | n + 1, r => .unusable :: gap n r
def poolList (es : List (Nat × CpInfo)) (last : Nat) : List CpInfo := es.foldr (fun e r => gap e.1 (e.2 :: r)) (gap last [])
def pool (es : List (Nat × CpInfo)) (last : Nat) : Array CpInfo := ⟨poolList es last⟩
def fileOf (pool : Array CpInfo) (this : Nat) (attrs : Array Attribute := #[]) (ms : Array MethodInfo := #[]) (fl : Nat := 33) (sup : Nat := 0) (ifs : Array Nat := #[]) (fds : Array FieldInfo := #[]) : ClassFile where
  minorVersion := 0
  majorVersion := 65
  constantPool := pool
  accessFlags := fl
  thisClass := this
  superClass := sup
  interfaces := ifs
  fields := fds
  methods := ms
  attributes := attrs
def plain (name : String) (sup : Option ClassId) : Class where
  name := name
  kind := .ordinary
  loader := none
  accessFlags := 33
  super := sup
  interfaces := #[]
  cf := none
  fields := #[]
  methods := #[]
  instanceTypes := #[]
  staticTypes := #[]
  resolved := #[]
  callSites := []
  init := .initialized
  statics := none
  mirror := none

def pool0 : Array CpInfo := pool [(5, u "<init>"), (0, u "()V"), (1, .class_ 10), (1, u "java/lang/Object")] 113

def k0c0 : Code := { maxStack := 0, maxLocals := 1, code := object_method_1_code, exceptionTable := #[], attributes := #[] }
def k0m0 : Method := { name := "<init>", desc := "()V", sig := { parameters := [], returnType := none }, accessFlags := 1, code := some k0c0 }
/-- java/lang/Object -/
def k0 : Class := { plain "java/lang/Object" none with
  accessFlags := 33
  interfaces := #[]
  cf := some (fileOf pool0 8 #[] #[{ accessFlags := 1, nameIndex := 5, descriptorIndex := 6, attributes := #[] }] 33 0 #[] #[])
  fields := #[]
  methods := #[k0m0]
  instanceTypes := #[]
  staticTypes := #[]
  resolved := Array.replicate 124 none
  statics := none }

def pool1 : Array CpInfo := pool [(2, .class_ 4), (1, u "java/lang/Object"), (0, u "<init>"), (0, u "()V"), (0, .class_ 8), (0, u "com/example/muninn/muninn/store/Node"), (0, .fieldref 10 11), (0, .class_ 12), (0, .nameAndType 13 14), (0, u "com/example/muninn/muninn/store/NodeKind"), (0, u "ENTITY"), (0, u "Lcom/example/muninn/muninn/store/NodeKind;"), (0, .methodref 7 16), (0, .nameAndType 5 17), (0, u "(Ljava/lang/String;Lcom/example/muninn/muninn/store/NodeKind;)V"), (0, .fieldref 10 19), (0, .nameAndType 20 14), (0, u "ACTIVITY"), (0, .fieldref 10 22), (0, .nameAndType 23 14), (0, u "AGENT"), (0, .methodref 7 25), (0, .nameAndType 5 26), (0, u "(Ljava/lang/String;)V"), (0, .integer 65535), (0, .methodref 29 30), (0, .class_ 31), (0, .nameAndType 32 33), (0, u "com/example/muninn/muninn/store/NodeEqualsPinLaw"), (0, u "ch"), (0, u "(I)C"), (0, .methodref 35 36), (0, .class_ 37), (0, .nameAndType 38 39), (0, u "java/lang/String"), (0, u "valueOf"), (0, u "(C)Ljava/lang/String;"), (0, .methodref 35 41), (0, .nameAndType 5 42), (0, u "([C)V"), (0, .methodref 29 44), (0, .nameAndType 45 46), (0, u "mk"), (0, u "(Ljava/lang/String;I)Lcom/example/muninn/muninn/store/Node;"), (0, .methodref 7 48), (0, .nameAndType 49 50), (0, u "equals"), (0, u "(Ljava/lang/Object;)Z"), (3, u "law"), (0, u "(III)Z")] 2

def k1m0 : Method := { name := "<init>", desc := "()V", sig := { parameters := [], returnType := none }, accessFlags := 1, code := none }
def k1c1 : Code := { maxStack := 3, maxLocals := 1, code := method_2_code, exceptionTable := #[], attributes := #[] }
def k1m1 : Method := { name := "ch", desc := "(I)C", sig := { parameters := [.int], returnType := some .char }, accessFlags := 10, code := some k1c1 }
def k1c2 : Code := { maxStack := 4, maxLocals := 2, code := method_3_code, exceptionTable := #[], attributes := #[] }
def k1m2 : Method := { name := "mk", desc := "(Ljava/lang/String;I)Lcom/example/muninn/muninn/store/Node;", sig := { parameters := [(.object "java/lang/String"), .int], returnType := some (.object "com/example/muninn/muninn/store/Node") }, accessFlags := 10, code := some k1c2 }
def k1c3 : Code := { maxStack := 6, maxLocals := 19, code := code, exceptionTable := #[], attributes := #[] }
def k1m3 : Method := { name := "law", desc := "(III)Z", sig := { parameters := [.int, .int, .int], returnType := some .boolean }, accessFlags := 9, code := some k1c3 }
/-- com/example/muninn/muninn/store/NodeEqualsPinLaw -/
def k1 : Class := { plain "com/example/muninn/muninn/store/NodeEqualsPinLaw" (some 0) with
  accessFlags := 49
  interfaces := #[]
  cf := some (fileOf pool1 29 #[] #[{ accessFlags := 1, nameIndex := 5, descriptorIndex := 6, attributes := #[] }, { accessFlags := 10, nameIndex := 32, descriptorIndex := 33, attributes := #[] }, { accessFlags := 10, nameIndex := 45, descriptorIndex := 46, attributes := #[] }, { accessFlags := 9, nameIndex := 54, descriptorIndex := 55, attributes := #[] }] 49 2 #[] #[])
  fields := #[]
  methods := #[k1m0, k1m1, k1m2, k1m3]
  instanceTypes := #[]
  staticTypes := #[]
  resolved := Array.replicate 58 none
  statics := none }

def pool2 : Array CpInfo := pool [(1, .class_ 2), (0, u "java/io/Serializable"), (0, .class_ 4), (0, u "java/lang/Object")] 2

/-- java/io/Serializable -/
def k2 : Class := { plain "java/io/Serializable" (some 0) with
  accessFlags := 1537
  interfaces := #[]
  cf := some (fileOf pool2 1 #[] #[] 1537 3 #[] #[])
  fields := #[]
  methods := #[]
  instanceTypes := #[]
  staticTypes := #[]
  resolved := Array.replicate 7 none
  statics := none }

def pool3 : Array CpInfo := pool [(1, .class_ 2), (0, u "java/lang/Comparable"), (0, .class_ 4), (0, u "java/lang/Object")] 7

/-- java/lang/Comparable -/
def k3 : Class := { plain "java/lang/Comparable" (some 0) with
  accessFlags := 1537
  interfaces := #[]
  cf := some (fileOf pool3 1 #[] #[] 1537 3 #[] #[])
  fields := #[]
  methods := #[]
  instanceTypes := #[]
  staticTypes := #[]
  resolved := Array.replicate 12 none
  statics := none }

def pool4 : Array CpInfo := pool [(2, .class_ 4), (1, u "java/lang/CharSequence"), (42, .class_ 48), (0, u "java/lang/CharSequence$1CodePointIterator"), (10, .class_ 60), (0, u "java/lang/CharSequence$1CharIterator"), (5, .class_ 67), (0, u "java/lang/Object")] 63

/-- java/lang/CharSequence -/
def k4 : Class := { plain "java/lang/CharSequence" (some 0) with
  accessFlags := 1537
  interfaces := #[]
  cf := some (fileOf pool4 2 #[.nestMembers #[47, 59]] #[] 1537 66 #[] #[])
  fields := #[]
  methods := #[]
  instanceTypes := #[]
  staticTypes := #[]
  resolved := Array.replicate 131 none
  statics := none }

def pool5 : Array CpInfo := pool [(1, .class_ 2), (0, u "java/lang/constant/Constable"), (0, .class_ 4), (0, u "java/lang/Object")] 6

/-- java/lang/constant/Constable -/
def k5 : Class := { plain "java/lang/constant/Constable" (some 0) with
  accessFlags := 1537
  interfaces := #[]
  cf := some (fileOf pool5 1 #[] #[] 1537 3 #[] #[])
  fields := #[]
  methods := #[]
  instanceTypes := #[]
  staticTypes := #[]
  resolved := Array.replicate 11 none
  statics := none }

def pool6 : Array CpInfo := pool [(1, .class_ 2), (0, u "java/lang/constant/ConstantDesc"), (0, .class_ 4), (0, u "java/lang/Object")] 32

/-- java/lang/constant/ConstantDesc -/
def k6 : Class := { plain "java/lang/constant/ConstantDesc" (some 0) with
  accessFlags := 1537
  interfaces := #[]
  cf := some (fileOf pool6 1 #[] #[] 1537 3 #[] #[])
  fields := #[]
  methods := #[]
  instanceTypes := #[]
  staticTypes := #[]
  resolved := Array.replicate 37 none
  statics := none }

def pool7 : Array CpInfo := pool [(1, .methodref 2 3), (0, .class_ 4), (0, .nameAndType 5 6), (0, u "java/lang/Object"), (0, u "<init>"), (0, u "()V"), (2, .fieldref 10 11), (0, .class_ 12), (0, .nameAndType 13 14), (0, u "java/lang/String"), (0, u "value"), (0, u "[B"), (0, .fieldref 10 16), (0, .nameAndType 17 18), (0, u "coder"), (0, u "B"), (2, u "hash"), (0, u "I"), (2, u "hashIsZero"), (0, u "Z"), (0, .methodref 10 28), (0, .nameAndType 5 29), (0, u "([CIILjava/lang/Void;)V"), (8, .fieldref 10 39), (0, .nameAndType 40 26), (0, u "COMPACT_STRINGS"), (1, .class_ 44), (1, u "java/lang/StringUTF16"), (0, u "compress"), (1, .methodref 42 48), (0, .nameAndType 49 50), (0, u "coderFromArrayLen"), (0, u "([BI)B"), (2, u "toBytes"), (53, .class_ 109), (1, u "java/lang/StringLatin1"), (32, u "()Z"), (34, .methodref 42 178), (0, .nameAndType 45 179), (0, u "([CII)[B"), (29, .methodref 10 210), (0, .nameAndType 5 211), (0, u "([BB)V"), (122, u "()I"), (0, .methodref 10 336), (0, .nameAndType 17 337), (0, u "()B"), (25, u "([BI)C"), (5, u "(C)Z"), (21, u "(II)V"), (35, u "(I)C"), (64, .methodref 10 493), (0, .nameAndType 494 142), (0, u "isLatin1"), (0, .methodref 107 496), (0, .nameAndType 497 363), (0, u "charAt"), (3, u "checkIndex"), (3, .methodref 10 506), (0, .nameAndType 507 334), (0, u "length"), (33, .methodref 107 542), (0, .nameAndType 543 544), (0, u "equals"), (0, u "([B[B)Z"), (28, u "(Ljava/lang/Object;)Z"), (1, .class_ 576), (0, u "java/lang/CharSequence"), (22, u "CASE_INSENSITIVE_ORDER"), (0, u "Ljava/util/Comparator;"), (23, .methodref 10 625), (0, .nameAndType 626 627), (0, u "startsWith"), (0, u "(Ljava/lang/String;I)Z"), (64, u "isEmpty"), (89, u "valueOf"), (0, u "(C)Ljava/lang/String;"), (226, u "([C)V"), (4, .methodref 107 1016), (0, .nameAndType 1017 369), (0, u "canEncode"), (0, .methodref 107 1019), (0, .nameAndType 53 1020), (0, u "(C)[B"), (32, .fieldref 1054 1055), (0, .class_ 1056), (0, .nameAndType 1057 1058), (0, u "jdk/internal/util/Preconditions"), (0, u "SIOOBE_FORMATTER"), (0, u "Ljava/util/function/BiFunction;"), (0, .methodref 1054 1060), (0, .nameAndType 501 1061), (0, u "(IILjava/util/function/BiFunction;)I"), (39, u "serialPersistentFields"), (0, u "[Ljava/io/ObjectStreamField;"), (0, .class_ 1104), (0, u "java/lang/String$CaseInsensitiveComparator"), (1, .class_ 1107), (0, u "java/io/Serializable"), (0, .class_ 1109), (0, u "java/lang/Comparable"), (0, .class_ 1111), (0, u "java/lang/constant/Constable"), (0, .class_ 1113), (0, u "java/lang/constant/ConstantDesc"), (2, u "serialVersionUID"), (0, u "J"), (3, u "REPL"), (0, u "C"), (2, u "LATIN1"), (1, u "UTF16"), (129, u "(Ljava/lang/String;)Z")] 193

def k7m0 : Method := { name := "<init>", desc := "()V", sig := { parameters := [], returnType := none }, accessFlags := 1, code := none }
def k7c1 : Code := { maxStack := 5, maxLocals := 2, code := jdk_42_method_3_code, exceptionTable := #[], attributes := #[] }
def k7m1 : Method := { name := "<init>", desc := "([C)V", sig := { parameters := [(.array .char)], returnType := none }, accessFlags := 1, code := some k7c1 }
def k7c2 : Code := { maxStack := 2, maxLocals := 1, code := jdk_42_method_54_code, exceptionTable := #[], attributes := #[] }
def k7m2 : Method := { name := "length", desc := "()I", sig := { parameters := [], returnType := some .int }, accessFlags := 1, code := some k7c2 }
def k7c3 : Code := { maxStack := 1, maxLocals := 1, code := jdk_42_method_55_code, exceptionTable := #[], attributes := #[] }
def k7m3 : Method := { name := "isEmpty", desc := "()Z", sig := { parameters := [], returnType := some .boolean }, accessFlags := 1, code := some k7c3 }
def k7c4 : Code := { maxStack := 2, maxLocals := 2, code := jdk_42_method_56_code, exceptionTable := #[], attributes := #[] }
def k7m4 : Method := { name := "charAt", desc := "(I)C", sig := { parameters := [.int], returnType := some .char }, accessFlags := 1, code := some k7c4 }
def k7c5 : Code := { maxStack := 2, maxLocals := 3, code := jdk_42_method_66_code, exceptionTable := #[], attributes := #[] }
def k7m5 : Method := { name := "equals", desc := "(Ljava/lang/Object;)Z", sig := { parameters := [(.object "java/lang/Object")], returnType := some .boolean }, accessFlags := 1, code := some k7c5 }
def k7c6 : Code := { maxStack := 5, maxLocals := 8, code := jdk_42_method_75_code, exceptionTable := #[], attributes := #[] }
def k7m6 : Method := { name := "startsWith", desc := "(Ljava/lang/String;I)Z", sig := { parameters := [(.object "java/lang/String"), .int], returnType := some .boolean }, accessFlags := 1, code := some k7c6 }
def k7c7 : Code := { maxStack := 3, maxLocals := 2, code := jdk_42_method_76_code, exceptionTable := #[], attributes := #[] }
def k7m7 : Method := { name := "startsWith", desc := "(Ljava/lang/String;)Z", sig := { parameters := [(.object "java/lang/String")], returnType := some .boolean }, accessFlags := 1, code := some k7c7 }
def k7c8 : Code := { maxStack := 4, maxLocals := 1, code := jdk_42_method_139_code, exceptionTable := #[], attributes := #[] }
def k7m8 : Method := { name := "valueOf", desc := "(C)Ljava/lang/String;", sig := { parameters := [.char], returnType := some (.object "java/lang/String") }, accessFlags := 9, code := some k7c8 }
def k7c9 : Code := { maxStack := 4, maxLocals := 6, code := jdk_42_method_149_code, exceptionTable := #[], attributes := #[] }
def k7m9 : Method := { name := "<init>", desc := "([CIILjava/lang/Void;)V", sig := { parameters := [(.array .char), .int, .int, (.object "java/lang/Void")], returnType := none }, accessFlags := 2, code := some k7c9 }
def k7c10 : Code := { maxStack := 2, maxLocals := 3, code := jdk_42_method_151_code, exceptionTable := #[], attributes := #[] }
def k7m10 : Method := { name := "<init>", desc := "([BB)V", sig := { parameters := [(.array .byte), .byte], returnType := none }, accessFlags := 0, code := some k7c10 }
def k7c11 : Code := { maxStack := 1, maxLocals := 1, code := jdk_42_method_152_code, exceptionTable := #[], attributes := #[] }
def k7m11 : Method := { name := "coder", desc := "()B", sig := { parameters := [], returnType := some .byte }, accessFlags := 0, code := some k7c11 }
def k7c12 : Code := { maxStack := 1, maxLocals := 1, code := jdk_42_method_154_code, exceptionTable := #[], attributes := #[] }
def k7m12 : Method := { name := "isLatin1", desc := "()Z", sig := { parameters := [], returnType := some .boolean }, accessFlags := 0, code := some k7c12 }
def k7c13 : Code := { maxStack := 3, maxLocals := 2, code := jdk_42_method_155_code, exceptionTable := #[], attributes := #[] }
def k7m13 : Method := { name := "checkIndex", desc := "(II)V", sig := { parameters := [.int, .int], returnType := none }, accessFlags := 8, code := some k7c13 }
/-- java/lang/String -/
def k7 : Class := { plain "java/lang/String" (some 0) with
  accessFlags := 49
  interfaces := #[2, 3, 4, 5, 6]
  cf := some (fileOf pool7 10 #[.nestMembers #[1103]] #[{ accessFlags := 1, nameIndex := 5, descriptorIndex := 6, attributes := #[] }, { accessFlags := 1, nameIndex := 5, descriptorIndex := 1010, attributes := #[] }, { accessFlags := 1, nameIndex := 507, descriptorIndex := 334, attributes := #[] }, { accessFlags := 1, nameIndex := 692, descriptorIndex := 142, attributes := #[] }, { accessFlags := 1, nameIndex := 497, descriptorIndex := 427, attributes := #[] }, { accessFlags := 1, nameIndex := 543, descriptorIndex := 573, attributes := #[] }, { accessFlags := 1, nameIndex := 626, descriptorIndex := 627, attributes := #[] }, { accessFlags := 1, nameIndex := 626, descriptorIndex := 1257, attributes := #[] }, { accessFlags := 9, nameIndex := 782, descriptorIndex := 783, attributes := #[] }, { accessFlags := 2, nameIndex := 5, descriptorIndex := 29, attributes := #[] }, { accessFlags := 0, nameIndex := 5, descriptorIndex := 211, attributes := #[] }, { accessFlags := 0, nameIndex := 17, descriptorIndex := 337, attributes := #[] }, { accessFlags := 0, nameIndex := 494, descriptorIndex := 142, attributes := #[] }, { accessFlags := 8, nameIndex := 501, descriptorIndex := 391, attributes := #[] }] 49 2 #[1106, 1108, 575, 1110, 1112] #[{ accessFlags := 18, nameIndex := 13, descriptorIndex := 14, attributes := #[] }, { accessFlags := 18, nameIndex := 17, descriptorIndex := 18, attributes := #[] }, { accessFlags := 2, nameIndex := 21, descriptorIndex := 22, attributes := #[] }, { accessFlags := 2, nameIndex := 25, descriptorIndex := 26, attributes := #[] }, { accessFlags := 26, nameIndex := 1116, descriptorIndex := 1117, attributes := #[] }, { accessFlags := 24, nameIndex := 40, descriptorIndex := 26, attributes := #[] }, { accessFlags := 26, nameIndex := 1101, descriptorIndex := 1102, attributes := #[] }, { accessFlags := 26, nameIndex := 1121, descriptorIndex := 1122, attributes := #[] }, { accessFlags := 25, nameIndex := 599, descriptorIndex := 600, attributes := #[] }, { accessFlags := 24, nameIndex := 1125, descriptorIndex := 18, attributes := #[] }, { accessFlags := 24, nameIndex := 1127, descriptorIndex := 18, attributes := #[] }])
  fields := #[{ name := "value", type := (.array .byte), accessFlags := 18, slot := 0, constantValue := 0 }, { name := "coder", type := .byte, accessFlags := 18, slot := 1, constantValue := 0 }, { name := "hash", type := .int, accessFlags := 2, slot := 2, constantValue := 0 }, { name := "hashIsZero", type := .boolean, accessFlags := 2, slot := 3, constantValue := 0 }, { name := "serialVersionUID", type := .long, accessFlags := 26, slot := 0, constantValue := 0 }, { name := "COMPACT_STRINGS", type := .boolean, accessFlags := 24, slot := 1, constantValue := 0 }, { name := "serialPersistentFields", type := (.array (.object "java/io/ObjectStreamField")), accessFlags := 26, slot := 2, constantValue := 0 }, { name := "REPL", type := .char, accessFlags := 26, slot := 3, constantValue := 0 }, { name := "CASE_INSENSITIVE_ORDER", type := (.object "java/util/Comparator"), accessFlags := 25, slot := 4, constantValue := 0 }, { name := "LATIN1", type := .byte, accessFlags := 24, slot := 5, constantValue := 0 }, { name := "UTF16", type := .byte, accessFlags := 24, slot := 6, constantValue := 0 }]
  methods := #[k7m0, k7m1, k7m2, k7m3, k7m4, k7m5, k7m6, k7m7, k7m8, k7m9, k7m10, k7m11, k7m12, k7m13]
  instanceTypes := #[(.array .byte), .byte, .int, .boolean]
  staticTypes := #[.long, .boolean, (.array (.object "java/io/ObjectStreamField")), .char, (.object "java/util/Comparator"), .byte, .byte]
  resolved := Array.replicate 1451 none
  statics := some 0 }

def pool8 : Array CpInfo := pool [(1, .class_ 2), (0, u "java/lang/String"), (1, .class_ 6), (1, u "java/lang/Object"), (0, u "<init>"), (0, u "()V"), (0, .methodref 1 10), (0, .nameAndType 11 12), (0, u "checkIndex"), (0, u "(II)V"), (1, .class_ 16), (1, u "java/lang/StringLatin1"), (36, u "([BI)C"), (36, u "canEncode"), (14, u "(C)Z"), (15, u "$assertionsDisabled"), (0, u "Z"), (98, .class_ 223), (1, u "java/lang/StringLatin1$LinesSpliterator"), (28, u "charAt"), (28, u "equals"), (0, u "([B[B)Z"), (97, u "toBytes"), (1, u "(C)[B"), (7, .class_ 391), (0, u "java/lang/StringLatin1$CharsSpliterator")] 3

def k8m0 : Method := { name := "<init>", desc := "()V", sig := { parameters := [], returnType := none }, accessFlags := 0, code := none }
def k8c1 : Code := { maxStack := 2, maxLocals := 2, code := jdk_43_method_2_code, exceptionTable := #[], attributes := #[] }
def k8m1 : Method := { name := "charAt", desc := "([BI)C", sig := { parameters := [(.array .byte), .int], returnType := some .char }, accessFlags := 9, code := some k8c1 }
def k8c2 : Code := { maxStack := 2, maxLocals := 1, code := jdk_43_method_3_code, exceptionTable := #[], attributes := #[] }
def k8m2 : Method := { name := "canEncode", desc := "(C)Z", sig := { parameters := [.char], returnType := some .boolean }, accessFlags := 9, code := some k8c2 }
def k8c3 : Code := { maxStack := 3, maxLocals := 3, code := jdk_43_method_13_code, exceptionTable := #[], attributes := #[] }
def k8m3 : Method := { name := "equals", desc := "([B[B)Z", sig := { parameters := [(.array .byte), (.array .byte)], returnType := some .boolean }, accessFlags := 9, code := some k8c3 }
def k8c4 : Code := { maxStack := 4, maxLocals := 1, code := jdk_43_method_46_code, exceptionTable := #[], attributes := #[] }
def k8m4 : Method := { name := "toBytes", desc := "(C)[B", sig := { parameters := [.char], returnType := some (.array .byte) }, accessFlags := 9, code := some k8c4 }
/-- java/lang/StringLatin1 -/
def k8 : Class := { plain "java/lang/StringLatin1" (some 0) with
  accessFlags := 48
  interfaces := #[]
  cf := some (fileOf pool8 14 #[.nestMembers #[390, 221]] #[{ accessFlags := 0, nameIndex := 7, descriptorIndex := 8, attributes := #[] }, { accessFlags := 9, nameIndex := 252, descriptorIndex := 53, attributes := #[] }, { accessFlags := 9, nameIndex := 90, descriptorIndex := 105, attributes := #[] }, { accessFlags := 9, nameIndex := 281, descriptorIndex := 282, attributes := #[] }, { accessFlags := 9, nameIndex := 380, descriptorIndex := 382, attributes := #[] }] 48 4 #[] #[{ accessFlags := 4120, nameIndex := 121, descriptorIndex := 122, attributes := #[] }])
  fields := #[{ name := "$assertionsDisabled", type := .boolean, accessFlags := 4120, slot := 0, constantValue := 0 }]
  methods := #[k8m0, k8m1, k8m2, k8m3, k8m4]
  instanceTypes := #[]
  staticTypes := #[.boolean]
  resolved := Array.replicate 395 none
  statics := none }

def pool9 : Array CpInfo := pool [(6, .class_ 8), (1, u "java/lang/Object"), (0, u "<init>"), (0, u "()V"), (1, .class_ 14), (1, u "java/lang/StringUTF16"), (31, u "$assertionsDisabled"), (0, u "Z"), (13, u "HI_BYTE_SHIFT"), (0, u "I"), (2, u "LO_BYTE_SHIFT"), (49, .methodref 12 116), (0, .nameAndType 117 118), (0, u "compress"), (0, u "([CI[BII)I"), (3, u "([CII)[B"), (138, u "coderFromArrayLen"), (0, u "([BI)B"), (106, .class_ 371), (1, u "java/lang/StringUTF16$LinesSpliterator"), (58, u "MAX_LENGTH"), (196, .class_ 628), (0, u "java/lang/StringUTF16$CodePointsSpliterator"), (0, .class_ 630), (0, u "java/lang/StringUTF16$CharsSpliterator")] 4

def k9m0 : Method := { name := "<init>", desc := "()V", sig := { parameters := [], returnType := none }, accessFlags := 0, code := none }
def k9c1 : Code := { maxStack := 2, maxLocals := 2, code := jdk_52_method_15_code, exceptionTable := #[], attributes := #[] }
def k9m1 : Method := { name := "coderFromArrayLen", desc := "([BI)B", sig := { parameters := [(.array .byte), .int], returnType := some .byte }, accessFlags := 8, code := some k9c1 }
def k9c2 : Code := { maxStack := 5, maxLocals := 6, code := jdk_52_method_16_code, exceptionTable := #[], attributes := #[] }
def k9m2 : Method := { name := "compress", desc := "([CII)[B", sig := { parameters := [(.array .char), .int, .int], returnType := some (.array .byte) }, accessFlags := 9, code := some k9c2 }
def k9c3 : Code := { maxStack := 3, maxLocals := 7, code := jdk_52_method_21_code, exceptionTable := #[], attributes := #[] }
def k9m3 : Method := { name := "compress", desc := "([CI[BII)I", sig := { parameters := [(.array .char), .int, (.array .byte), .int, .int], returnType := some .int }, accessFlags := 9, code := some k9c3 }
/-- java/lang/StringUTF16 -/
def k9 : Class := { plain "java/lang/StringUTF16" (some 0) with
  accessFlags := 48
  interfaces := #[]
  cf := some (fileOf pool9 12 #[.nestMembers #[627, 629, 369]] #[{ accessFlags := 0, nameIndex := 9, descriptorIndex := 10, attributes := #[] }, { accessFlags := 8, nameIndex := 261, descriptorIndex := 262, attributes := #[] }, { accessFlags := 9, nameIndex := 117, descriptorIndex := 122, attributes := #[] }, { accessFlags := 9, nameIndex := 117, descriptorIndex := 118, attributes := #[] }] 48 6 #[] #[{ accessFlags := 26, nameIndex := 61, descriptorIndex := 62, attributes := #[] }, { accessFlags := 26, nameIndex := 65, descriptorIndex := 62, attributes := #[] }, { accessFlags := 24, nameIndex := 430, descriptorIndex := 62, attributes := #[] }, { accessFlags := 4120, nameIndex := 46, descriptorIndex := 47, attributes := #[] }])
  fields := #[{ name := "HI_BYTE_SHIFT", type := .int, accessFlags := 26, slot := 0, constantValue := 0 }, { name := "LO_BYTE_SHIFT", type := .int, accessFlags := 26, slot := 1, constantValue := 0 }, { name := "MAX_LENGTH", type := .int, accessFlags := 24, slot := 2, constantValue := 0 }, { name := "$assertionsDisabled", type := .boolean, accessFlags := 4120, slot := 3, constantValue := 0 }]
  methods := #[k9m0, k9m1, k9m2, k9m3]
  instanceTypes := #[]
  staticTypes := #[.int, .int, .int, .boolean]
  resolved := Array.replicate 635 none
  statics := none }

def pool10 : Array CpInfo := pool [(1, .methodref 2 3), (0, .class_ 4), (0, .nameAndType 5 6), (0, u "java/lang/Object"), (0, u "<init>"), (0, u "()V"), (0, .string 8), (0, u "kind"), (0, .methodref 10 11), (0, .class_ 12), (0, .nameAndType 13 14), (0, u "java/util/Objects"), (0, u "requireNonNull"), (0, u "(Ljava/lang/Object;Ljava/lang/String;)Ljava/lang/Object;"), (0, .class_ 16), (0, u "com/example/muninn/muninn/store/NodeKind"), (0, .methodref 18 19), (0, .class_ 20), (0, .nameAndType 21 22), (0, u "com/example/muninn/muninn/store/Node"), (0, u "checkId"), (0, u "(Ljava/lang/String;Lcom/example/muninn/muninn/store/NodeKind;)Ljava/lang/String;"), (0, .fieldref 18 24), (0, .nameAndType 25 26), (0, u "id"), (0, u "Ljava/lang/String;"), (0, .fieldref 18 28), (0, .nameAndType 8 29), (0, u "Lcom/example/muninn/muninn/store/NodeKind;"), (0, .string 25), (0, .methodref 32 33), (0, .class_ 34), (0, .nameAndType 35 36), (0, u "java/lang/String"), (0, u "isEmpty"), (0, u "()Z"), (0, .methodref 18 38), (0, .nameAndType 39 40), (0, u "holdsBlankOrControl"), (0, u "(Ljava/lang/String;)Z"), (11, u "(Ljava/lang/String;)V"), (0, .string 54), (0, u "sha256:"), (0, .methodref 32 56), (0, .nameAndType 57 40), (0, u "startsWith"), (27, u "(Ljava/lang/String;Lcom/example/muninn/muninn/store/NodeKind;)V"), (0, .methodref 32 87), (0, .nameAndType 88 89), (0, u "length"), (0, u "()I"), (0, .methodref 32 91), (0, .nameAndType 92 93), (0, u "charAt"), (0, u "(I)C"), (53, .methodref 32 148), (0, .nameAndType 149 150), (0, u "equals"), (0, u "(Ljava/lang/Object;)Z"), (8, u "NO_KIND"), (1, u "CONTENT_PREFIX"), (0, u "DELETE"), (0, u "C")] 48

def k10c0 : Code := { maxStack := 4, maxLocals := 3, code := prog_58_method_1_code, exceptionTable := #[], attributes := #[] }
def k10m0 : Method := { name := "<init>", desc := "(Ljava/lang/String;Lcom/example/muninn/muninn/store/NodeKind;)V", sig := { parameters := [(.object "java/lang/String"), (.object "com/example/muninn/muninn/store/NodeKind")], returnType := none }, accessFlags := 1, code := some k10c0 }
def k10c1 : Code := { maxStack := 3, maxLocals := 2, code := prog_58_method_2_code, exceptionTable := #[], attributes := #[] }
def k10m1 : Method := { name := "<init>", desc := "(Ljava/lang/String;)V", sig := { parameters := [(.object "java/lang/String")], returnType := none }, accessFlags := 1, code := some k10c1 }
def k10c2 : Code := { maxStack := 4, maxLocals := 2, code := prog_58_method_3_code, exceptionTable := #[], attributes := #[] }
def k10m2 : Method := { name := "checkId", desc := "(Ljava/lang/String;Lcom/example/muninn/muninn/store/NodeKind;)Ljava/lang/String;", sig := { parameters := [(.object "java/lang/String"), (.object "com/example/muninn/muninn/store/NodeKind")], returnType := some (.object "java/lang/String") }, accessFlags := 8, code := some k10c2 }
def k10c3 : Code := { maxStack := 2, maxLocals := 4, code := prog_58_method_9_code, exceptionTable := #[], attributes := #[] }
def k10m3 : Method := { name := "holdsBlankOrControl", desc := "(Ljava/lang/String;)Z", sig := { parameters := [(.object "java/lang/String")], returnType := some .boolean }, accessFlags := 8, code := some k10c3 }
def k10c4 : Code := { maxStack := 2, maxLocals := 3, code := prog_58_method_14_code, exceptionTable := #[], attributes := #[] }
def k10m4 : Method := { name := "equals", desc := "(Ljava/lang/Object;)Z", sig := { parameters := [(.object "java/lang/Object")], returnType := some .boolean }, accessFlags := 1, code := some k10c4 }
/-- com/example/muninn/muninn/store/Node -/
def k10 : Class := { plain "com/example/muninn/muninn/store/Node" (some 0) with
  accessFlags := 49
  interfaces := #[]
  cf := some (fileOf pool10 18 #[] #[{ accessFlags := 1, nameIndex := 5, descriptorIndex := 85, attributes := #[] }, { accessFlags := 1, nameIndex := 5, descriptorIndex := 52, attributes := #[] }, { accessFlags := 8, nameIndex := 21, descriptorIndex := 22, attributes := #[] }, { accessFlags := 8, nameIndex := 39, descriptorIndex := 40, attributes := #[] }, { accessFlags := 1, nameIndex := 149, descriptorIndex := 150, attributes := #[] }] 49 2 #[] #[{ accessFlags := 24, nameIndex := 159, descriptorIndex := 26, attributes := #[] }, { accessFlags := 26, nameIndex := 161, descriptorIndex := 26, attributes := #[] }, { accessFlags := 26, nameIndex := 162, descriptorIndex := 163, attributes := #[] }, { accessFlags := 18, nameIndex := 25, descriptorIndex := 26, attributes := #[] }, { accessFlags := 18, nameIndex := 8, descriptorIndex := 29, attributes := #[] }])
  fields := #[{ name := "NO_KIND", type := (.object "java/lang/String"), accessFlags := 24, slot := 0, constantValue := 0 }, { name := "CONTENT_PREFIX", type := (.object "java/lang/String"), accessFlags := 26, slot := 1, constantValue := 0 }, { name := "DELETE", type := .char, accessFlags := 26, slot := 2, constantValue := 0 }, { name := "id", type := (.object "java/lang/String"), accessFlags := 18, slot := 0, constantValue := 0 }, { name := "kind", type := (.object "com/example/muninn/muninn/store/NodeKind"), accessFlags := 18, slot := 1, constantValue := 0 }]
  methods := #[k10m0, k10m1, k10m2, k10m3, k10m4]
  instanceTypes := #[(.object "java/lang/String"), (.object "com/example/muninn/muninn/store/NodeKind")]
  staticTypes := #[(.object "java/lang/String"), (.object "java/lang/String"), .char]
  resolved := Array.replicate 212 none
  statics := none }

def pool11 : Array CpInfo := pool [(2, .class_ 4), (1, u "java/lang/Object"), (0, u "<init>"), (0, u "()V"), (35, .class_ 44), (1, u "java/util/Objects"), (0, u "requireNonNull"), (48, u "(Ljava/lang/Object;Ljava/lang/String;)Ljava/lang/Object;")] 89

def k11m0 : Method := { name := "<init>", desc := "()V", sig := { parameters := [], returnType := none }, accessFlags := 2, code := none }
def k11c1 : Code := { maxStack := 3, maxLocals := 2, code := jdk_31_method_11_code, exceptionTable := #[], attributes := #[] }
def k11m1 : Method := { name := "requireNonNull", desc := "(Ljava/lang/Object;Ljava/lang/String;)Ljava/lang/Object;", sig := { parameters := [(.object "java/lang/Object"), (.object "java/lang/String")], returnType := some (.object "java/lang/Object") }, accessFlags := 9, code := some k11c1 }
/-- java/util/Objects -/
def k11 : Class := { plain "java/util/Objects" (some 0) with
  accessFlags := 49
  interfaces := #[]
  cf := some (fileOf pool11 42 #[] #[{ accessFlags := 2, nameIndex := 5, descriptorIndex := 6, attributes := #[] }, { accessFlags := 9, nameIndex := 45, descriptorIndex := 94, attributes := #[] }] 49 2 #[] #[])
  fields := #[]
  methods := #[k11m0, k11m1]
  instanceTypes := #[]
  staticTypes := #[]
  resolved := Array.replicate 184 none
  statics := none }

def pool12 : Array CpInfo := pool [(2, .class_ 4), (1, u "java/lang/Object"), (0, u "<init>"), (0, u "()V"), (17, .class_ 26), (1, u "jdk/internal/util/Preconditions"), (6, u "checkIndex"), (21, .class_ 56), (0, u "jdk/internal/util/Preconditions$4"), (57, .class_ 115), (0, u "jdk/internal/util/Preconditions$1"), (7, u "SIOOBE_FORMATTER"), (0, u "Ljava/util/function/BiFunction;"), (0, .class_ 126), (0, u "jdk/internal/util/Preconditions$2"), (3, u "AIOOBE_FORMATTER"), (0, .class_ 132), (0, u "jdk/internal/util/Preconditions$3"), (3, u "IOOBE_FORMATTER"), (41, u "(IILjava/util/function/BiFunction;)I")] 15

def k12m0 : Method := { name := "<init>", desc := "()V", sig := { parameters := [], returnType := none }, accessFlags := 1, code := none }
def k12c1 : Code := { maxStack := 3, maxLocals := 3, code := jdk_41_method_11_code, exceptionTable := #[], attributes := #[] }
def k12m1 : Method := { name := "checkIndex", desc := "(IILjava/util/function/BiFunction;)I", sig := { parameters := [.int, .int, (.object "java/util/function/BiFunction")], returnType := some .int }, accessFlags := 9, code := some k12c1 }
/-- jdk/internal/util/Preconditions -/
def k12 : Class := { plain "jdk/internal/util/Preconditions" (some 0) with
  accessFlags := 33
  interfaces := #[]
  cf := some (fileOf pool12 24 #[.nestMembers #[55, 131, 125, 114]] #[{ accessFlags := 1, nameIndex := 5, descriptorIndex := 6, attributes := #[] }, { accessFlags := 9, nameIndex := 33, descriptorIndex := 178, attributes := #[] }] 33 2 #[] #[{ accessFlags := 25, nameIndex := 123, descriptorIndex := 124, attributes := #[] }, { accessFlags := 25, nameIndex := 130, descriptorIndex := 124, attributes := #[] }, { accessFlags := 25, nameIndex := 136, descriptorIndex := 124, attributes := #[] }])
  fields := #[{ name := "SIOOBE_FORMATTER", type := (.object "java/util/function/BiFunction"), accessFlags := 25, slot := 0, constantValue := 0 }, { name := "AIOOBE_FORMATTER", type := (.object "java/util/function/BiFunction"), accessFlags := 25, slot := 1, constantValue := 0 }, { name := "IOOBE_FORMATTER", type := (.object "java/util/function/BiFunction"), accessFlags := 25, slot := 2, constantValue := 0 }]
  methods := #[k12m0, k12m1]
  instanceTypes := #[]
  staticTypes := #[(.object "java/util/function/BiFunction"), (.object "java/util/function/BiFunction"), (.object "java/util/function/BiFunction")]
  resolved := Array.replicate 194 none
  statics := some 1 }

def pool13 : Array CpInfo := pool [(2, .class_ 4), (1, u "java/lang/Enum"), (0, u "name"), (0, u "Ljava/lang/String;"), (2, u "ordinal"), (0, u "I"), (1, .class_ 14), (1, u "java/lang/Object"), (4, u "hash"), (86, .class_ 108), (1, u "java/lang/Enum$EnumDesc"), (2, .class_ 112), (0, u "java/lang/constant/Constable"), (0, .class_ 114), (0, u "java/lang/Comparable"), (0, .class_ 116), (0, u "java/io/Serializable")] 87

/-- java/lang/Enum -/
def k13 : Class := { plain "java/lang/Enum" (some 0) with
  accessFlags := 1057
  interfaces := #[5, 3, 2]
  cf := some (fileOf pool13 2 #[.nestMembers #[106]] #[] 1057 12 #[111, 113, 115] #[{ accessFlags := 18, nameIndex := 5, descriptorIndex := 6, attributes := #[] }, { accessFlags := 18, nameIndex := 9, descriptorIndex := 10, attributes := #[] }, { accessFlags := 2, nameIndex := 19, descriptorIndex := 10, attributes := #[] }])
  fields := #[{ name := "name", type := (.object "java/lang/String"), accessFlags := 18, slot := 0, constantValue := 0 }, { name := "ordinal", type := .int, accessFlags := 18, slot := 1, constantValue := 0 }, { name := "hash", type := .int, accessFlags := 2, slot := 2, constantValue := 0 }]
  methods := #[]
  instanceTypes := #[(.object "java/lang/String"), .int, .int]
  staticTypes := #[]
  resolved := Array.replicate 204 none
  statics := none }

def pool14 : Array CpInfo := pool [(1, .class_ 2), (0, u "com/example/muninn/muninn/store/NodeKind"), (2, u "ENTITY"), (0, u "Lcom/example/muninn/muninn/store/NodeKind;"), (2, u "ACTIVITY"), (2, u "AGENT"), (2, u "$VALUES"), (0, u "[Lcom/example/muninn/muninn/store/NodeKind;"), (6, .class_ 25), (1, u "java/lang/Enum"), (8, u "provName"), (0, u "Ljava/lang/String;")] 64

/-- com/example/muninn/muninn/store/NodeKind -/
def k14 : Class := { plain "com/example/muninn/muninn/store/NodeKind" (some 13) with
  accessFlags := 16433
  interfaces := #[]
  cf := some (fileOf pool14 1 #[] #[] 16433 23 #[] #[{ accessFlags := 16409, nameIndex := 5, descriptorIndex := 6, attributes := #[] }, { accessFlags := 16409, nameIndex := 9, descriptorIndex := 6, attributes := #[] }, { accessFlags := 16409, nameIndex := 12, descriptorIndex := 6, attributes := #[] }, { accessFlags := 18, nameIndex := 34, descriptorIndex := 35, attributes := #[] }, { accessFlags := 4122, nameIndex := 15, descriptorIndex := 16, attributes := #[] }])
  fields := #[{ name := "ENTITY", type := (.object "com/example/muninn/muninn/store/NodeKind"), accessFlags := 16409, slot := 0, constantValue := 0 }, { name := "ACTIVITY", type := (.object "com/example/muninn/muninn/store/NodeKind"), accessFlags := 16409, slot := 1, constantValue := 0 }, { name := "AGENT", type := (.object "com/example/muninn/muninn/store/NodeKind"), accessFlags := 16409, slot := 2, constantValue := 0 }, { name := "provName", type := (.object "java/lang/String"), accessFlags := 18, slot := 3, constantValue := 0 }, { name := "$VALUES", type := (.array (.object "com/example/muninn/muninn/store/NodeKind")), accessFlags := 4122, slot := 3, constantValue := 0 }]
  methods := #[]
  instanceTypes := #[(.object "java/lang/String"), .int, .int, (.object "java/lang/String")]
  staticTypes := #[(.object "com/example/muninn/muninn/store/NodeKind"), (.object "com/example/muninn/muninn/store/NodeKind"), (.object "com/example/muninn/muninn/store/NodeKind"), (.array (.object "com/example/muninn/muninn/store/NodeKind"))]
  resolved := Array.replicate 100 none
  statics := some 2 }

def pool15 : Array CpInfo := pool [(9, u "<init>"), (6, .class_ 18), (1, u "java/lang/Object"), (0, u "()V"), (1, .class_ 23), (1, u "jdk/internal/util/ArraysSupport"), (0, u "LOG2_ARRAY_LONG_INDEX_SCALE"), (0, u "I"), (2, u "U"), (0, u "Ljdk/internal/misc/Unsafe;"), (8, u "BIG_ENDIAN"), (0, u "Z"), (8, u "LOG2_BYTE_BIT_SIZE"), (4, u "LOG2_ARRAY_INT_INDEX_SCALE"), (54, u "JLA"), (0, u "Ljdk/internal/access/JavaLangAccess;"), (11, u "LOG2_ARRAY_BOOLEAN_INDEX_SCALE"), (9, u "LOG2_ARRAY_BYTE_INDEX_SCALE"), (5, u "LOG2_ARRAY_CHAR_INDEX_SCALE"), (5, u "LOG2_ARRAY_SHORT_INDEX_SCALE"), (18, u "LOG2_ARRAY_FLOAT_INDEX_SCALE"), (24, u "LOG2_ARRAY_DOUBLE_INDEX_SCALE"), (89, u "T_BOOLEAN"), (2, u "T_CHAR"), (1, u "T_FLOAT"), (1, u "T_DOUBLE"), (1, u "T_BYTE"), (1, u "T_SHORT"), (1, u "T_INT"), (1, u "T_LONG"), (1, u "SOFT_MAX_ARRAY_LENGTH")] 83

def k15m0 : Method := { name := "<init>", desc := "()V", sig := { parameters := [], returnType := none }, accessFlags := 2, code := none }
/-- jdk/internal/util/ArraysSupport -/
def k15 : Class := { plain "jdk/internal/util/ArraysSupport" (some 0) with
  accessFlags := 33
  interfaces := #[]
  cf := some (fileOf pool15 21 #[] #[{ accessFlags := 2, nameIndex := 9, descriptorIndex := 19, attributes := #[] }] 33 16 #[] #[{ accessFlags := 24, nameIndex := 28, descriptorIndex := 29, attributes := #[] }, { accessFlags := 26, nameIndex := 38, descriptorIndex := 39, attributes := #[] }, { accessFlags := 25, nameIndex := 121, descriptorIndex := 25, attributes := #[] }, { accessFlags := 25, nameIndex := 131, descriptorIndex := 25, attributes := #[] }, { accessFlags := 25, nameIndex := 137, descriptorIndex := 25, attributes := #[] }, { accessFlags := 25, nameIndex := 143, descriptorIndex := 25, attributes := #[] }, { accessFlags := 25, nameIndex := 53, descriptorIndex := 25, attributes := #[] }, { accessFlags := 25, nameIndex := 24, descriptorIndex := 25, attributes := #[] }, { accessFlags := 25, nameIndex := 162, descriptorIndex := 25, attributes := #[] }, { accessFlags := 25, nameIndex := 187, descriptorIndex := 25, attributes := #[] }, { accessFlags := 26, nameIndex := 48, descriptorIndex := 25, attributes := #[] }, { accessFlags := 25, nameIndex := 277, descriptorIndex := 25, attributes := #[] }, { accessFlags := 25, nameIndex := 280, descriptorIndex := 25, attributes := #[] }, { accessFlags := 25, nameIndex := 282, descriptorIndex := 25, attributes := #[] }, { accessFlags := 25, nameIndex := 284, descriptorIndex := 25, attributes := #[] }, { accessFlags := 25, nameIndex := 286, descriptorIndex := 25, attributes := #[] }, { accessFlags := 25, nameIndex := 288, descriptorIndex := 25, attributes := #[] }, { accessFlags := 25, nameIndex := 290, descriptorIndex := 25, attributes := #[] }, { accessFlags := 25, nameIndex := 292, descriptorIndex := 25, attributes := #[] }, { accessFlags := 26, nameIndex := 108, descriptorIndex := 109, attributes := #[] }, { accessFlags := 25, nameIndex := 294, descriptorIndex := 25, attributes := #[] }])
  fields := #[{ name := "U", type := (.object "jdk/internal/misc/Unsafe"), accessFlags := 24, slot := 0, constantValue := 0 }, { name := "BIG_ENDIAN", type := .boolean, accessFlags := 26, slot := 1, constantValue := 0 }, { name := "LOG2_ARRAY_BOOLEAN_INDEX_SCALE", type := .int, accessFlags := 25, slot := 2, constantValue := 0 }, { name := "LOG2_ARRAY_BYTE_INDEX_SCALE", type := .int, accessFlags := 25, slot := 3, constantValue := 0 }, { name := "LOG2_ARRAY_CHAR_INDEX_SCALE", type := .int, accessFlags := 25, slot := 4, constantValue := 0 }, { name := "LOG2_ARRAY_SHORT_INDEX_SCALE", type := .int, accessFlags := 25, slot := 5, constantValue := 0 }, { name := "LOG2_ARRAY_INT_INDEX_SCALE", type := .int, accessFlags := 25, slot := 6, constantValue := 0 }, { name := "LOG2_ARRAY_LONG_INDEX_SCALE", type := .int, accessFlags := 25, slot := 7, constantValue := 0 }, { name := "LOG2_ARRAY_FLOAT_INDEX_SCALE", type := .int, accessFlags := 25, slot := 8, constantValue := 0 }, { name := "LOG2_ARRAY_DOUBLE_INDEX_SCALE", type := .int, accessFlags := 25, slot := 9, constantValue := 0 }, { name := "LOG2_BYTE_BIT_SIZE", type := .int, accessFlags := 26, slot := 10, constantValue := 0 }, { name := "T_BOOLEAN", type := .int, accessFlags := 25, slot := 11, constantValue := 0 }, { name := "T_CHAR", type := .int, accessFlags := 25, slot := 12, constantValue := 0 }, { name := "T_FLOAT", type := .int, accessFlags := 25, slot := 13, constantValue := 0 }, { name := "T_DOUBLE", type := .int, accessFlags := 25, slot := 14, constantValue := 0 }, { name := "T_BYTE", type := .int, accessFlags := 25, slot := 15, constantValue := 0 }, { name := "T_SHORT", type := .int, accessFlags := 25, slot := 16, constantValue := 0 }, { name := "T_INT", type := .int, accessFlags := 25, slot := 17, constantValue := 0 }, { name := "T_LONG", type := .int, accessFlags := 25, slot := 18, constantValue := 0 }, { name := "JLA", type := (.object "jdk/internal/access/JavaLangAccess"), accessFlags := 26, slot := 19, constantValue := 0 }, { name := "SOFT_MAX_ARRAY_LENGTH", type := .int, accessFlags := 25, slot := 20, constantValue := 0 }]
  methods := #[k15m0]
  instanceTypes := #[]
  staticTypes := #[(.object "jdk/internal/misc/Unsafe"), .boolean, .int, .int, .int, .int, .int, .int, .int, .int, .int, .int, .int, .int, .int, .int, .int, .int, .int, (.object "jdk/internal/access/JavaLangAccess"), .int]
  resolved := Array.replicate 378 none
  statics := none }

def pool16 : Array CpInfo := pool [(1, u "java/lang/Cloneable"), (0, .class_ 1), (0, u "java/lang/Object"), (0, .class_ 3)] 3

/-- java/lang/Cloneable -/
def k16 : Class := { plain "java/lang/Cloneable" (some 0) with
  accessFlags := 1537
  interfaces := #[]
  cf := some (fileOf pool16 2 #[] #[] 1537 4 #[] #[])
  fields := #[]
  methods := #[]
  instanceTypes := #[]
  staticTypes := #[]
  resolved := Array.replicate 8 none
  statics := none }

/-- the primitive byte -/
def k17 : Class := { plain "byte" none with kind := .primitive 'B', accessFlags := 0x411 }
/-- [B -/
def k18 : Class := { plain "[B" (some 0) with kind := .array 17 .byte, interfaces := #[16, 2], accessFlags := 1041 }

/-- the primitive char -/
def k19 : Class := { plain "char" none with kind := .primitive 'C', accessFlags := 0x411 }
/-- [C -/
def k20 : Class := { plain "[C" (some 0) with kind := .array 19 .char, interfaces := #[16, 2], accessFlags := 1041 }

/-- the primitive int -/
def k21 : Class := { plain "int" none with kind := .primitive 'I', accessFlags := 0x411 }
/-- [I -/
def k22 : Class := { plain "[I" (some 0) with kind := .array 21 .int, interfaces := #[16, 2], accessFlags := 1041 }

def heap : Heap := #[{ cls := 7, slots := #[.long 0, .int 1, .null, .int 0, .null, .int 0, .int 0], vm := .statics 7 },
  { cls := 12, slots := #[.null, .null, .null], vm := .statics 12 },
  { cls := 14, slots := #[.ref 3, .ref 4, .ref 5, .null], vm := .statics 14 },
  { cls := 14, slots := #[.null, .int 0, .int 0, .null], vm := .none },
  { cls := 14, slots := #[.null, .int 1, .int 0, .null], vm := .none },
  { cls := 14, slots := #[.null, .int 2, .int 0, .null], vm := .none }]
def classes : Array Class := #[k0, k1, k2, k3, k4, k5, k6, k7, k8, k9, k10, k11, k12, k13, k14, k15, k16, k17, k18, k19, k20, k21, k22]
def interned : List (Array UInt16 × Addr) := []
def slotsUsed : Nat := 26
def theMethod : MethodId := ⟨1, 3⟩
def args0 : Array Value := #[.int 70000, .int 7, .int 22]
def aboutOver (below : List Frame) : State where
  vm := { classes := classes, interned := interned.toArray }
  heap := heap
  slotsUsed := slotsUsed
  threads := #[{ frames := .invoking theMethod args0 :: below }]
def below0 : List Frame := [.native { method := ⟨0, 0⟩, args := #[] }]
def about1 : State := aboutOver below0
def p0 : Program := .bare "" "" ""
def e0 : Env := launch0.env 0 0 0
theorem w_frames : about1.frames = Frame.invoking theMethod args0 :: below0 := rfl
set_option maxRecDepth 65536 in
theorem w_args : argsFit about1.vm theMethod args0 = true := by decide +kernel
set_option maxRecDepth 65536 in
theorem w_heap : heapFits about1 = true := by decide +kernel
set_option maxRecDepth 65536 in
theorem w_runnable : about1.curStatus? = some .runnable := by decide +kernel
set_option maxRecDepth 65536 in
theorem w_alone : about1.alone = true := by decide +kernel
set_option maxRecDepth 65536 in
theorem w_named : about1.methodNamed? x = some theMethod := by decide +kernel
set_option maxRecDepth 65536 in
theorem w_hears : about1.hears theMethod below0 = true := by decide +kernel
set_option maxRecDepth 65536 in
theorem w_ripe : about1.ripe theMethod args0 below0 = true := by decide +kernel
theorem w_running : about1.status = .running := rfl
set_option maxRecDepth 65536 in
theorem w_room : about1.hasRoom e0.platform room_1 = true :=
  launch0.hasRoom_least _ room_1 (by decide +kernel) (by decide +kernel) (by decide +kernel) (by decide +kernel) (by decide +kernel) (by decide +kernel)
theorem allAtoms_all (ts : List Jvm.Cond) (a : Array Jvm.Value) (st : Jvm.State) : (allAtoms ts).before a st = ts.all (fun c => c.before a st) := by
  induction ts with
  | nil => rfl
  | cons c t ih =>
    show (Jvm.Cond.and c (allAtoms t)).before a st = _
    rw [Jvm.Cond.before_and, ih, List.all_cons]
def words1 : List Jvm.Cond := Jvm.Cond.code x code maxLocals ret :: tables_1
/-- a 'code' word, met by the world's own term for the bytes: nothing is compared byte by byte -/
theorem code_word {y : MethodName} {bytes : ByteArray} {mx : Nat} {rt : Option FieldType} {a : Array Value} {s : State} {m : MethodId} {meth : Method} {c : Code} (h1 : s.methodNamed? y = some m) (h2 : s.vm.method? m = some meth) (h3 : meth.code = some c) (h4 : c.code = bytes)
    (h5 : (c.maxLocals == mx && c.exceptionTable.isEmpty && decide (c.maxStack ≤ mostOperands) && decide (meth.sig.returnType = rt) && !meth.locks && decide (parseMethodDescriptor y.desc = some meth.sig)) = true) : (Jvm.Cond.code y bytes mx rt).before a s = true := by
  simp only [Bool.and_eq_true, beq_iff_eq, Bool.not_eq_true', decide_eq_true_eq] at h5
  obtain ⟨⟨⟨⟨⟨g1, g2⟩, g3⟩, g4⟩, g5⟩, g6⟩ := h5
  simp [Cond.before, Cond.holds, Cond.value, h1, h2, h3, h4, g1, g2, g3, g4, g5, g6]
def isCode : Jvm.Cond → Bool
  | .code _ _ _ _ => true
  | _ => false
theorem all_split {L : List Jvm.Cond} {P : Jvm.Cond → Bool} (h1 : L.all (fun c => isCode c || P c) = true) (h2 : ∀ c ∈ L.filter isCode, P c = true) : L.all P = true := by
  refine List.all_eq_true.mpr fun c hc => ?_
  have h := List.all_eq_true.mp h1 c hc
  rcases Bool.eq_false_or_eq_true (isCode c) with hi | hi
  · exact h2 c (List.mem_filter.mpr ⟨hc, hi⟩)
  · simpa [hi] using h
set_option maxRecDepth 65536 in
theorem w_c0 : (Jvm.Cond.code x code maxLocals ret).before args0 about1 = true := code_word (m := ⟨1, 3⟩) (meth := k1m3) (c := k1c3) (by decide +kernel) rfl rfl rfl (by decide +kernel)
set_option maxRecDepth 65536 in
theorem w_c1 : (Jvm.Cond.code ({ cls := "com/example/muninn/muninn/store/NodeEqualsPinLaw", name := "ch", desc := "(I)C" } : Jvm.MethodName) method_2_code (1 : Nat) (Option.some Jvm.ClassFile.FieldType.char)).before args0 about1 = true := code_word (m := ⟨1, 1⟩) (meth := k1m1) (c := k1c1) (by decide +kernel) rfl rfl rfl (by decide +kernel)
set_option maxRecDepth 65536 in
theorem w_c2 : (Jvm.Cond.code ({ cls := "java/lang/String", name := "valueOf", desc := "(C)Ljava/lang/String;" } : Jvm.MethodName) jdk_42_method_139_code (1 : Nat) (Option.some (Jvm.ClassFile.FieldType.object "java/lang/String"))).before args0 about1 = true := code_word (m := ⟨7, 8⟩) (meth := k7m8) (c := k7c8) (by decide +kernel) rfl rfl rfl (by decide +kernel)
set_option maxRecDepth 65536 in
theorem w_c3 : (Jvm.Cond.code ({ cls := "java/lang/StringLatin1", name := "canEncode", desc := "(C)Z" } : Jvm.MethodName) jdk_43_method_3_code (1 : Nat) (Option.some Jvm.ClassFile.FieldType.boolean)).before args0 about1 = true := code_word (m := ⟨8, 2⟩) (meth := k8m2) (c := k8c2) (by decide +kernel) rfl rfl rfl (by decide +kernel)
set_option maxRecDepth 65536 in
theorem w_c4 : (Jvm.Cond.code ({ cls := "java/lang/StringLatin1", name := "toBytes", desc := "(C)[B" } : Jvm.MethodName) jdk_43_method_46_code (1 : Nat) (Option.some (Jvm.ClassFile.FieldType.array Jvm.ClassFile.FieldType.byte))).before args0 about1 = true := code_word (m := ⟨8, 4⟩) (meth := k8m4) (c := k8c4) (by decide +kernel) rfl rfl rfl (by decide +kernel)
set_option maxRecDepth 65536 in
theorem w_c5 : (Jvm.Cond.code ({ cls := "java/lang/String", name := "<init>", desc := "([BB)V" } : Jvm.MethodName) jdk_42_method_151_code (3 : Nat) (Option.none : Option Jvm.ClassFile.FieldType)).before args0 about1 = true := code_word (m := ⟨7, 10⟩) (meth := k7m10) (c := k7c10) (by decide +kernel) rfl rfl rfl (by decide +kernel)
set_option maxRecDepth 65536 in
theorem w_c6 : (Jvm.Cond.code ({ cls := "java/lang/Object", name := "<init>", desc := "()V" } : Jvm.MethodName) object_method_1_code (1 : Nat) (Option.none : Option Jvm.ClassFile.FieldType)).before args0 about1 = true := code_word (m := ⟨0, 0⟩) (meth := k0m0) (c := k0c0) (by decide +kernel) rfl rfl rfl (by decide +kernel)
set_option maxRecDepth 65536 in
theorem w_c7 : (Jvm.Cond.code ({ cls := "java/lang/String", name := "<init>", desc := "([C)V" } : Jvm.MethodName) jdk_42_method_3_code (2 : Nat) (Option.none : Option Jvm.ClassFile.FieldType)).before args0 about1 = true := code_word (m := ⟨7, 1⟩) (meth := k7m1) (c := k7c1) (by decide +kernel) rfl rfl rfl (by decide +kernel)
set_option maxRecDepth 65536 in
theorem w_c8 : (Jvm.Cond.code ({ cls := "java/lang/String", name := "<init>", desc := "([CIILjava/lang/Void;)V" } : Jvm.MethodName) jdk_42_method_149_code (6 : Nat) (Option.none : Option Jvm.ClassFile.FieldType)).before args0 about1 = true := code_word (m := ⟨7, 9⟩) (meth := k7m9) (c := k7c9) (by decide +kernel) rfl rfl rfl (by decide +kernel)
set_option maxRecDepth 65536 in
theorem w_c9 : (Jvm.Cond.code ({ cls := "java/lang/StringUTF16", name := "compress", desc := "([CII)[B" } : Jvm.MethodName) jdk_52_method_16_code (6 : Nat) (Option.some (Jvm.ClassFile.FieldType.array Jvm.ClassFile.FieldType.byte))).before args0 about1 = true := code_word (m := ⟨9, 2⟩) (meth := k9m2) (c := k9c2) (by decide +kernel) rfl rfl rfl (by decide +kernel)
set_option maxRecDepth 65536 in
theorem w_c10 : (Jvm.Cond.code ({ cls := "java/lang/StringUTF16", name := "compress", desc := "([CI[BII)I" } : Jvm.MethodName) jdk_52_method_21_code (7 : Nat) (Option.some Jvm.ClassFile.FieldType.int)).before args0 about1 = true := code_word (m := ⟨9, 3⟩) (meth := k9m3) (c := k9c3) (by decide +kernel) rfl rfl rfl (by decide +kernel)
set_option maxRecDepth 65536 in
theorem w_c11 : (Jvm.Cond.code ({ cls := "java/lang/StringUTF16", name := "coderFromArrayLen", desc := "([BI)B" } : Jvm.MethodName) jdk_52_method_15_code (2 : Nat) (Option.some Jvm.ClassFile.FieldType.byte)).before args0 about1 = true := code_word (m := ⟨9, 1⟩) (meth := k9m1) (c := k9c1) (by decide +kernel) rfl rfl rfl (by decide +kernel)
set_option maxRecDepth 65536 in
theorem w_c12 : (Jvm.Cond.code ({ cls := "com/example/muninn/muninn/store/NodeEqualsPinLaw", name := "mk", desc := "(Ljava/lang/String;I)Lcom/example/muninn/muninn/store/Node;" } : Jvm.MethodName) method_3_code (2 : Nat) (Option.some (Jvm.ClassFile.FieldType.object "com/example/muninn/muninn/store/Node"))).before args0 about1 = true := code_word (m := ⟨1, 2⟩) (meth := k1m2) (c := k1c2) (by decide +kernel) rfl rfl rfl (by decide +kernel)
set_option maxRecDepth 65536 in
theorem w_c13 : (Jvm.Cond.code ({ cls := "com/example/muninn/muninn/store/Node", name := "<init>", desc := "(Ljava/lang/String;)V" } : Jvm.MethodName) prog_58_method_2_code (2 : Nat) (Option.none : Option Jvm.ClassFile.FieldType)).before args0 about1 = true := code_word (m := ⟨10, 1⟩) (meth := k10m1) (c := k10c1) (by decide +kernel) rfl rfl rfl (by decide +kernel)
set_option maxRecDepth 65536 in
theorem w_c14 : (Jvm.Cond.code ({ cls := "com/example/muninn/muninn/store/Node", name := "checkId", desc := "(Ljava/lang/String;Lcom/example/muninn/muninn/store/NodeKind;)Ljava/lang/String;" } : Jvm.MethodName) prog_58_method_3_code (2 : Nat) (Option.some (Jvm.ClassFile.FieldType.object "java/lang/String"))).before args0 about1 = true := code_word (m := ⟨10, 2⟩) (meth := k10m2) (c := k10c2) (by decide +kernel) rfl rfl rfl (by decide +kernel)
set_option maxRecDepth 65536 in
theorem w_c15 : (Jvm.Cond.code ({ cls := "java/util/Objects", name := "requireNonNull", desc := "(Ljava/lang/Object;Ljava/lang/String;)Ljava/lang/Object;" } : Jvm.MethodName) jdk_31_method_11_code (2 : Nat) (Option.some (Jvm.ClassFile.FieldType.object "java/lang/Object"))).before args0 about1 = true := code_word (m := ⟨11, 1⟩) (meth := k11m1) (c := k11c1) (by decide +kernel) rfl rfl rfl (by decide +kernel)
set_option maxRecDepth 65536 in
theorem w_c16 : (Jvm.Cond.code ({ cls := "java/lang/String", name := "isEmpty", desc := "()Z" } : Jvm.MethodName) jdk_42_method_55_code (1 : Nat) (Option.some Jvm.ClassFile.FieldType.boolean)).before args0 about1 = true := code_word (m := ⟨7, 3⟩) (meth := k7m3) (c := k7c3) (by decide +kernel) rfl rfl rfl (by decide +kernel)
set_option maxRecDepth 65536 in
theorem w_c17 : (Jvm.Cond.code ({ cls := "com/example/muninn/muninn/store/Node", name := "holdsBlankOrControl", desc := "(Ljava/lang/String;)Z" } : Jvm.MethodName) prog_58_method_9_code (4 : Nat) (Option.some Jvm.ClassFile.FieldType.boolean)).before args0 about1 = true := code_word (m := ⟨10, 3⟩) (meth := k10m3) (c := k10c3) (by decide +kernel) rfl rfl rfl (by decide +kernel)
set_option maxRecDepth 65536 in
theorem w_c18 : (Jvm.Cond.code ({ cls := "java/lang/String", name := "length", desc := "()I" } : Jvm.MethodName) jdk_42_method_54_code (1 : Nat) (Option.some Jvm.ClassFile.FieldType.int)).before args0 about1 = true := code_word (m := ⟨7, 2⟩) (meth := k7m2) (c := k7c2) (by decide +kernel) rfl rfl rfl (by decide +kernel)
set_option maxRecDepth 65536 in
theorem w_c19 : (Jvm.Cond.code ({ cls := "java/lang/String", name := "coder", desc := "()B" } : Jvm.MethodName) jdk_42_method_152_code (1 : Nat) (Option.some Jvm.ClassFile.FieldType.byte)).before args0 about1 = true := code_word (m := ⟨7, 11⟩) (meth := k7m11) (c := k7c11) (by decide +kernel) rfl rfl rfl (by decide +kernel)
set_option maxRecDepth 65536 in
theorem w_c20 : (Jvm.Cond.code ({ cls := "java/lang/String", name := "charAt", desc := "(I)C" } : Jvm.MethodName) jdk_42_method_56_code (2 : Nat) (Option.some Jvm.ClassFile.FieldType.char)).before args0 about1 = true := code_word (m := ⟨7, 4⟩) (meth := k7m4) (c := k7c4) (by decide +kernel) rfl rfl rfl (by decide +kernel)
set_option maxRecDepth 65536 in
theorem w_c21 : (Jvm.Cond.code ({ cls := "java/lang/String", name := "isLatin1", desc := "()Z" } : Jvm.MethodName) jdk_42_method_154_code (1 : Nat) (Option.some Jvm.ClassFile.FieldType.boolean)).before args0 about1 = true := code_word (m := ⟨7, 12⟩) (meth := k7m12) (c := k7c12) (by decide +kernel) rfl rfl rfl (by decide +kernel)
set_option maxRecDepth 65536 in
theorem w_c22 : (Jvm.Cond.code ({ cls := "java/lang/StringLatin1", name := "charAt", desc := "([BI)C" } : Jvm.MethodName) jdk_43_method_2_code (2 : Nat) (Option.some Jvm.ClassFile.FieldType.char)).before args0 about1 = true := code_word (m := ⟨8, 1⟩) (meth := k8m1) (c := k8c1) (by decide +kernel) rfl rfl rfl (by decide +kernel)
set_option maxRecDepth 65536 in
theorem w_c23 : (Jvm.Cond.code ({ cls := "java/lang/String", name := "checkIndex", desc := "(II)V" } : Jvm.MethodName) jdk_42_method_155_code (2 : Nat) (Option.none : Option Jvm.ClassFile.FieldType)).before args0 about1 = true := code_word (m := ⟨7, 13⟩) (meth := k7m13) (c := k7c13) (by decide +kernel) rfl rfl rfl (by decide +kernel)
set_option maxRecDepth 65536 in
theorem w_c24 : (Jvm.Cond.code ({ cls := "jdk/internal/util/Preconditions", name := "checkIndex", desc := "(IILjava/util/function/BiFunction;)I" } : Jvm.MethodName) jdk_41_method_11_code (3 : Nat) (Option.some Jvm.ClassFile.FieldType.int)).before args0 about1 = true := code_word (m := ⟨12, 1⟩) (meth := k12m1) (c := k12c1) (by decide +kernel) rfl rfl rfl (by decide +kernel)
set_option maxRecDepth 65536 in
theorem w_c25 : (Jvm.Cond.code ({ cls := "java/lang/String", name := "startsWith", desc := "(Ljava/lang/String;)Z" } : Jvm.MethodName) jdk_42_method_76_code (2 : Nat) (Option.some Jvm.ClassFile.FieldType.boolean)).before args0 about1 = true := code_word (m := ⟨7, 7⟩) (meth := k7m7) (c := k7c7) (by decide +kernel) rfl rfl rfl (by decide +kernel)
set_option maxRecDepth 65536 in
theorem w_c26 : (Jvm.Cond.code ({ cls := "java/lang/String", name := "startsWith", desc := "(Ljava/lang/String;I)Z" } : Jvm.MethodName) jdk_42_method_75_code (8 : Nat) (Option.some Jvm.ClassFile.FieldType.boolean)).before args0 about1 = true := code_word (m := ⟨7, 6⟩) (meth := k7m6) (c := k7c6) (by decide +kernel) rfl rfl rfl (by decide +kernel)
set_option maxRecDepth 65536 in
theorem w_c27 : (Jvm.Cond.code ({ cls := "com/example/muninn/muninn/store/Node", name := "equals", desc := "(Ljava/lang/Object;)Z" } : Jvm.MethodName) prog_58_method_14_code (3 : Nat) (Option.some Jvm.ClassFile.FieldType.boolean)).before args0 about1 = true := code_word (m := ⟨10, 4⟩) (meth := k10m4) (c := k10c4) (by decide +kernel) rfl rfl rfl (by decide +kernel)
set_option maxRecDepth 65536 in
theorem w_c28 : (Jvm.Cond.code ({ cls := "java/lang/String", name := "equals", desc := "(Ljava/lang/Object;)Z" } : Jvm.MethodName) jdk_42_method_66_code (3 : Nat) (Option.some Jvm.ClassFile.FieldType.boolean)).before args0 about1 = true := code_word (m := ⟨7, 5⟩) (meth := k7m5) (c := k7c5) (by decide +kernel) rfl rfl rfl (by decide +kernel)
set_option maxRecDepth 65536 in
theorem w_c29 : (Jvm.Cond.code ({ cls := "java/lang/StringLatin1", name := "equals", desc := "([B[B)Z" } : Jvm.MethodName) jdk_43_method_13_code (3 : Nat) (Option.some Jvm.ClassFile.FieldType.boolean)).before args0 about1 = true := code_word (m := ⟨8, 3⟩) (meth := k8m3) (c := k8c3) (by decide +kernel) rfl rfl rfl (by decide +kernel)
set_option maxRecDepth 65536 in
theorem w_c30 : (Jvm.Cond.code ({ cls := "com/example/muninn/muninn/store/Node", name := "<init>", desc := "(Ljava/lang/String;Lcom/example/muninn/muninn/store/NodeKind;)V" } : Jvm.MethodName) prog_58_method_1_code (3 : Nat) (Option.none : Option Jvm.ClassFile.FieldType)).before args0 about1 = true := code_word (m := ⟨10, 0⟩) (meth := k10m0) (c := k10c0) (by decide +kernel) rfl rfl rfl (by decide +kernel)
def codes1 : List Jvm.Cond := [Jvm.Cond.code x code maxLocals ret, Jvm.Cond.code ({ cls := "com/example/muninn/muninn/store/NodeEqualsPinLaw", name := "ch", desc := "(I)C" } : Jvm.MethodName) method_2_code (1 : Nat) (Option.some Jvm.ClassFile.FieldType.char), Jvm.Cond.code ({ cls := "java/lang/String", name := "valueOf", desc := "(C)Ljava/lang/String;" } : Jvm.MethodName) jdk_42_method_139_code (1 : Nat) (Option.some (Jvm.ClassFile.FieldType.object "java/lang/String")), Jvm.Cond.code ({ cls := "java/lang/StringLatin1", name := "canEncode", desc := "(C)Z" } : Jvm.MethodName) jdk_43_method_3_code (1 : Nat) (Option.some Jvm.ClassFile.FieldType.boolean), Jvm.Cond.code ({ cls := "java/lang/StringLatin1", name := "toBytes", desc := "(C)[B" } : Jvm.MethodName) jdk_43_method_46_code (1 : Nat) (Option.some (Jvm.ClassFile.FieldType.array Jvm.ClassFile.FieldType.byte)), Jvm.Cond.code ({ cls := "java/lang/String", name := "<init>", desc := "([BB)V" } : Jvm.MethodName) jdk_42_method_151_code (3 : Nat) (Option.none : Option Jvm.ClassFile.FieldType), Jvm.Cond.code ({ cls := "java/lang/Object", name := "<init>", desc := "()V" } : Jvm.MethodName) object_method_1_code (1 : Nat) (Option.none : Option Jvm.ClassFile.FieldType), Jvm.Cond.code ({ cls := "java/lang/String", name := "<init>", desc := "([C)V" } : Jvm.MethodName) jdk_42_method_3_code (2 : Nat) (Option.none : Option Jvm.ClassFile.FieldType), Jvm.Cond.code ({ cls := "java/lang/String", name := "<init>", desc := "([CIILjava/lang/Void;)V" } : Jvm.MethodName) jdk_42_method_149_code (6 : Nat) (Option.none : Option Jvm.ClassFile.FieldType), Jvm.Cond.code ({ cls := "java/lang/StringUTF16", name := "compress", desc := "([CII)[B" } : Jvm.MethodName) jdk_52_method_16_code (6 : Nat) (Option.some (Jvm.ClassFile.FieldType.array Jvm.ClassFile.FieldType.byte)), Jvm.Cond.code ({ cls := "java/lang/StringUTF16", name := "compress", desc := "([CI[BII)I" } : Jvm.MethodName) jdk_52_method_21_code (7 : Nat) (Option.some Jvm.ClassFile.FieldType.int), Jvm.Cond.code ({ cls := "java/lang/StringUTF16", name := "coderFromArrayLen", desc := "([BI)B" } : Jvm.MethodName) jdk_52_method_15_code (2 : Nat) (Option.some Jvm.ClassFile.FieldType.byte), Jvm.Cond.code ({ cls := "com/example/muninn/muninn/store/NodeEqualsPinLaw", name := "mk", desc := "(Ljava/lang/String;I)Lcom/example/muninn/muninn/store/Node;" } : Jvm.MethodName) method_3_code (2 : Nat) (Option.some (Jvm.ClassFile.FieldType.object "com/example/muninn/muninn/store/Node")), Jvm.Cond.code ({ cls := "com/example/muninn/muninn/store/Node", name := "<init>", desc := "(Ljava/lang/String;)V" } : Jvm.MethodName) prog_58_method_2_code (2 : Nat) (Option.none : Option Jvm.ClassFile.FieldType), Jvm.Cond.code ({ cls := "com/example/muninn/muninn/store/Node", name := "checkId", desc := "(Ljava/lang/String;Lcom/example/muninn/muninn/store/NodeKind;)Ljava/lang/String;" } : Jvm.MethodName) prog_58_method_3_code (2 : Nat) (Option.some (Jvm.ClassFile.FieldType.object "java/lang/String")), Jvm.Cond.code ({ cls := "java/util/Objects", name := "requireNonNull", desc := "(Ljava/lang/Object;Ljava/lang/String;)Ljava/lang/Object;" } : Jvm.MethodName) jdk_31_method_11_code (2 : Nat) (Option.some (Jvm.ClassFile.FieldType.object "java/lang/Object")), Jvm.Cond.code ({ cls := "java/lang/String", name := "isEmpty", desc := "()Z" } : Jvm.MethodName) jdk_42_method_55_code (1 : Nat) (Option.some Jvm.ClassFile.FieldType.boolean), Jvm.Cond.code ({ cls := "com/example/muninn/muninn/store/Node", name := "holdsBlankOrControl", desc := "(Ljava/lang/String;)Z" } : Jvm.MethodName) prog_58_method_9_code (4 : Nat) (Option.some Jvm.ClassFile.FieldType.boolean), Jvm.Cond.code ({ cls := "java/lang/String", name := "length", desc := "()I" } : Jvm.MethodName) jdk_42_method_54_code (1 : Nat) (Option.some Jvm.ClassFile.FieldType.int), Jvm.Cond.code ({ cls := "java/lang/String", name := "coder", desc := "()B" } : Jvm.MethodName) jdk_42_method_152_code (1 : Nat) (Option.some Jvm.ClassFile.FieldType.byte), Jvm.Cond.code ({ cls := "java/lang/String", name := "charAt", desc := "(I)C" } : Jvm.MethodName) jdk_42_method_56_code (2 : Nat) (Option.some Jvm.ClassFile.FieldType.char), Jvm.Cond.code ({ cls := "java/lang/String", name := "isLatin1", desc := "()Z" } : Jvm.MethodName) jdk_42_method_154_code (1 : Nat) (Option.some Jvm.ClassFile.FieldType.boolean), Jvm.Cond.code ({ cls := "java/lang/StringLatin1", name := "charAt", desc := "([BI)C" } : Jvm.MethodName) jdk_43_method_2_code (2 : Nat) (Option.some Jvm.ClassFile.FieldType.char), Jvm.Cond.code ({ cls := "java/lang/String", name := "checkIndex", desc := "(II)V" } : Jvm.MethodName) jdk_42_method_155_code (2 : Nat) (Option.none : Option Jvm.ClassFile.FieldType), Jvm.Cond.code ({ cls := "jdk/internal/util/Preconditions", name := "checkIndex", desc := "(IILjava/util/function/BiFunction;)I" } : Jvm.MethodName) jdk_41_method_11_code (3 : Nat) (Option.some Jvm.ClassFile.FieldType.int), Jvm.Cond.code ({ cls := "java/lang/String", name := "startsWith", desc := "(Ljava/lang/String;)Z" } : Jvm.MethodName) jdk_42_method_76_code (2 : Nat) (Option.some Jvm.ClassFile.FieldType.boolean), Jvm.Cond.code ({ cls := "java/lang/String", name := "startsWith", desc := "(Ljava/lang/String;I)Z" } : Jvm.MethodName) jdk_42_method_75_code (8 : Nat) (Option.some Jvm.ClassFile.FieldType.boolean), Jvm.Cond.code ({ cls := "com/example/muninn/muninn/store/Node", name := "equals", desc := "(Ljava/lang/Object;)Z" } : Jvm.MethodName) prog_58_method_14_code (3 : Nat) (Option.some Jvm.ClassFile.FieldType.boolean), Jvm.Cond.code ({ cls := "java/lang/String", name := "equals", desc := "(Ljava/lang/Object;)Z" } : Jvm.MethodName) jdk_42_method_66_code (3 : Nat) (Option.some Jvm.ClassFile.FieldType.boolean), Jvm.Cond.code ({ cls := "java/lang/StringLatin1", name := "equals", desc := "([B[B)Z" } : Jvm.MethodName) jdk_43_method_13_code (3 : Nat) (Option.some Jvm.ClassFile.FieldType.boolean), Jvm.Cond.code ({ cls := "com/example/muninn/muninn/store/Node", name := "<init>", desc := "(Ljava/lang/String;Lcom/example/muninn/muninn/store/NodeKind;)V" } : Jvm.MethodName) prog_58_method_1_code (3 : Nat) (Option.none : Option Jvm.ClassFile.FieldType)]
set_option maxRecDepth 65536 in
theorem codes_eq : words1.filter isCode = codes1 := rfl
theorem w_codes : ∀ c ∈ words1.filter isCode, c.before args0 about1 = true := by
  rw [codes_eq]
  intro c hc
  simp only [codes1, List.mem_cons, List.not_mem_nil, or_false] at hc
  rcases hc with rfl | rfl | rfl | rfl | rfl | rfl | rfl | rfl | rfl | rfl | rfl | rfl | rfl | rfl | rfl | rfl | rfl | rfl | rfl | rfl | rfl | rfl | rfl | rfl | rfl | rfl | rfl | rfl | rfl | rfl | rfl
  · exact w_c0
  · exact w_c1
  · exact w_c2
  · exact w_c3
  · exact w_c4
  · exact w_c5
  · exact w_c6
  · exact w_c7
  · exact w_c8
  · exact w_c9
  · exact w_c10
  · exact w_c11
  · exact w_c12
  · exact w_c13
  · exact w_c14
  · exact w_c15
  · exact w_c16
  · exact w_c17
  · exact w_c18
  · exact w_c19
  · exact w_c20
  · exact w_c21
  · exact w_c22
  · exact w_c23
  · exact w_c24
  · exact w_c25
  · exact w_c26
  · exact w_c27
  · exact w_c28
  · exact w_c29
  · exact w_c30
set_option maxRecDepth 65536 in
theorem w_t1 : (words1.take 24).all (fun c => isCode c || c.before args0 about1) = true := by decide +kernel
set_option maxRecDepth 65536 in
theorem w_t2 : ((words1.drop 24).take 24).all (fun c => isCode c || c.before args0 about1) = true := by decide +kernel
set_option maxRecDepth 65536 in
theorem w_t3 : (((words1.drop 24).drop 24).take 24).all (fun c => isCode c || c.before args0 about1) = true := by decide +kernel
set_option maxRecDepth 65536 in
theorem w_t4 : ((((words1.drop 24).drop 24).drop 24).take 24).all (fun c => isCode c || c.before args0 about1) = true := by decide +kernel
set_option maxRecDepth 65536 in
theorem w_t5 : (((((words1.drop 24).drop 24).drop 24).drop 24).take 24).all (fun c => isCode c || c.before args0 about1) = true := by decide +kernel
set_option maxRecDepth 65536 in
theorem w_t6 : ((((((words1.drop 24).drop 24).drop 24).drop 24).drop 24).take 24).all (fun c => isCode c || c.before args0 about1) = true := by decide +kernel
set_option maxRecDepth 65536 in
theorem w_t7 : ((((((words1.drop 24).drop 24).drop 24).drop 24).drop 24).drop 24).all (fun c => isCode c || c.before args0 about1) = true := by decide +kernel
theorem w_tables : (allAtoms (Jvm.Cond.code x code maxLocals ret :: tables_1)).before args0 about1 = true := by
  rw [allAtoms_all]
  show words1.all (fun c => c.before args0 about1) = true
  refine all_split ?_ w_codes
  rw [← List.take_append_drop 24 words1, List.all_append, w_t1, ← List.take_append_drop 24 (words1.drop 24), List.all_append, w_t2, ← List.take_append_drop 24 ((words1.drop 24).drop 24), List.all_append, w_t3, ← List.take_append_drop 24 (((words1.drop 24).drop 24).drop 24), List.all_append, w_t4, ← List.take_append_drop 24 ((((words1.drop 24).drop 24).drop 24).drop 24), List.all_append, w_t5, ← List.take_append_drop 24 (((((words1.drop 24).drop 24).drop 24).drop 24).drop 24), List.all_append, w_t6, w_t7]
  rfl
set_option maxRecDepth 65536 in
theorem w_rest : rest_1_c.before args0 about1 = true := by decide +kernel
set_option maxRecDepth 65536 in
theorem w_case : (Jvm.Cond.and given_1 narrow_1).before args0 about1 = true := by decide +kernel
set_option maxRecDepth 65536 in
theorem w_consts : constsHeld consts_1 about1 := Jvm.Lit.constsHeldB_iff.mp (by decide +kernel)
theorem w_applies : (headSpec (Jvm.Cond.code x code maxLocals ret :: tables_1) room_1).applies x e0.platform about1 = true :=
  (Spec.applies_iff w_frames).mpr ⟨w_running, w_runnable, w_alone, w_named, w_hears, w_ripe, w_room, w_tables⟩
theorem atStart : AtStart classFile x code maxLocals ret World_1 tables_1 room_1 Calls_1 rest_1 Pre_1 launch0 p0 e0 about1 theMethod args0 below0 :=
  ⟨lists_1, trivial, launch0.admits_env _ _ _, launch0.least_env, fairChoices_fair.cas, fairChoices_fair.clock, w_frames, w_args, w_heap, w_applies, ⟨w_consts, trivial⟩, w_rest, w_case⟩
end start1
theorem witness_1 : WitnessClaimed_1 := ⟨start1.p0, start1.e0, start1.about1, start1.theMethod, start1.args0, start1.below0, start1.atStart⟩
end Jvm.Pilot.@@N@@
