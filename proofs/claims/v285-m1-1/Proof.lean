import JvmDerived
import JvmDerived.Pilot.@@N@@Statement
import JvmDerived.Pilot.@@N@@Code
set_option linter.unusedVariables false
set_option linter.unusedSimpArgs false
@@BLOCK:NumsL.lean.txt@@
namespace Jvm.Pilot.@@N@@
open Jvm Jvm.ClassFile Sem Op Lib Jvm.Free Jvm.Stand Jvm.LawKit Jvm.RoadKit Bundle Jvm.Pilot.@@N@@.Jvm.D
theorem d1_0 : decode prog_34_method_10_code 0 = .ok (.aload_n 0, 1) := by decide +kernel
theorem d1_1 : decode prog_34_method_10_code 1 = .ok (.getfield 125, 3) := by decide +kernel
theorem d1_4 : decode prog_34_method_10_code 4 = .ok (.ifnull 7, 3) := by decide +kernel
theorem d1_7 : decode prog_34_method_10_code 7 = .ok (.iconst 1, 1) := by decide +kernel
theorem d1_8 : decode prog_34_method_10_code 8 = .ok (.goto 4, 3) := by decide +kernel
theorem d1_11 : decode prog_34_method_10_code 11 = .ok (.iconst 0, 1) := by decide +kernel
theorem d1_12 : decode prog_34_method_10_code 12 = .ok (.ireturn, 1) := by decide +kernel
theorem pn_0 : plainName "com/example/tetrad/tetrad/description/Type$Primitive" = true := by first | (simp [plainName, overriddenIn]; done) | decide +kernel
theorem pn_1 : plainName "com/example/tetrad/tetrad/description/PrimitiveIsIntegerPinLaw" = true := by first | (simp [plainName, overriddenIn]; done) | decide +kernel
theorem pd_0 : parseMethodDescriptor "()Z" = some ⟨[], some .boolean⟩ := by decide +kernel
theorem own_osz {Z : State} {n0 : Nat} {h : Heap} (O : Old Z n0 h) : n0 ≤ h.size := O.1 ▸ O.2.1

def own_AllP (P : Nat → Value → Prop) : Nat → List Value → Prop
  | _, [] => True
  | i, v :: r => P i v ∧ own_AllP P (i + 1) r
theorem own_allP {P : Nat → Value → Prop} : ∀ (vs : List Value) (i : Nat), own_AllP P i vs → ∀ n, n < vs.length → P (i + n) (vs.getD n .null)
  | [], _, _, _, h => absurd h (Nat.not_lt_zero _)
  | v :: r, i, H, 0, _ => H.1
  | v :: r, i, H, n + 1, h => by
    have q := own_allP r (i + 1) H.2 n (Nat.lt_of_succ_lt_succ h)
    rw [Nat.add_assoc, Nat.add_comm 1 n] at q
    exact q
theorem own_all0 {P : Nat → Value → Prop} {vs : List Value} (H : own_AllP P 0 vs) {n : Nat} (h : n < vs.length) : P n (vs.getD n .null) := by
  have q := own_allP vs 0 H n h
  rw [Nat.zero_add] at q
  exact q
theorem own_num {p k : Int32} (hk : k = ((p &&& (2147483647 : Int32)) % (30 : Int32))) : k.toInt = p.toInt % 2 ^ 31 % 30 := by
  have m1 : (p &&& (2147483647 : Int32)).toInt = p.toInt % 2 ^ 31 := Jvm.Kit.i32_mask _ _ (by decide) (by decide)
  rw [hk, Jvm.Kit.i32_rem_nonneg (by omega), m1]; rfl
theorem own_idx {p k : Int32} (hk : k = ((p &&& (2147483647 : Int32)) % (30 : Int32))) : ∃ n : Nat, k.toNatClampNeg = n ∧ n < 30 := by
  have h1 := own_num hk
  refine ⟨_, rfl, ?_⟩
  have h2 : k.toNatClampNeg = k.toInt.toNat := rfl
  omega
theorem own_in {p k : Int32} (hk : k = ((p &&& (2147483647 : Int32)) % (30 : Int32))) {n : Nat} (hn : n < 30) : ¬ (k < 0 ∨ (30 : Int32).toNatClampNeg ≤ n) := by
  have h1 := own_num hk
  have h3 : (30 : Int32).toNatClampNeg = 30 := by decide
  have h4 : (0 : Int32).toInt = 0 := rfl
  rw [h3, Int32.lt_iff_toInt_lt, h4]
  omega
theorem own_plain {p k e c v : Int32} {fv : Value} {n : Nat} (hk : k = ((p &&& (2147483647 : Int32)) % (30 : Int32))) (hn : k.toNatClampNeg = n) (hf : fv = .null ↔ ¬ n < 25)
    (he : e = (if k < (25 : Int32) then (1 : Int32) else (0 : Int32))) (hc : c = (if fv = .null then (0 : Int32) else (1 : Int32))) (hv : v = (if c = e then (1 : Int32) else (0 : Int32))) : v = 1 := by
  have h1 := own_num hk
  have h2 : k.toNatClampNeg = k.toInt.toNat := rfl
  have h5 : (25 : Int32).toInt = 25 := rfl
  have q : k < (25 : Int32) ↔ n < 25 := by rw [Int32.lt_iff_toInt_lt, h5]; omega
  subst he hc hv
  by_cases g : n < 25
  · simp [q, hf, g]
  · simp [q, hf, g]
theorem own_eqref {s : State} {args : Array Value} {a b : Term} {y : Addr} (h : (Cond.eq a b).value args s none s [] = some true) (hb : b.eval args s none [] s = some (.ref y)) : a.eval args s none [] s = some (.ref y) := by
  cases ha : a.eval args s none [] s with
  | none => simp [Cond.value, ha] at h
  | some x => cases x <;> simp [Cond.value, ha, hb] at h ⊢; exact h

def Q1 (Z : State) (a1 : Addr) (fv : Value) (h0 : Heap) (n0 : Nat) (v : Option Value) (h : Heap) (L : List Loc) : Prop := v = some (.int (if fv = .null then (0 : Int32) else (1 : Int32))) ∧ Fr n0 L ∧ h = h0
theorem ef_1 (m : MethodId) (x0 : Addr) : entryFrame m #[(.ref x0)] 1 = mkF m 0 #[.val (.ref x0)] [] := by first | (simp [entryFrame, mkF, argsToLocals, Value.category]; done) | rfl
set_option maxRecDepth 65536 in
set_option maxHeartbeats 40000000 in
theorem rm1 (l : Launch) (Z : State) (a0 : Array Value) (hw : ∀ d ∈ tables_1, d.before a0 Z = true) (ws : List Jvm.Cond) (a1 : Addr) (fv : Value) (h0 : Heap) (n0 : Nat) (O0 : Old Z n0 h0) (F_m : Fld Z h0 a1 "com/example/tetrad/tetrad/description/Type$Primitive" "minimum" "Ljava/math/BigInteger;" fv) (hfv : fv.isRef = true) :
    MetFree l (⟨"com/example/tetrad/tetrad/description/Type$Primitive", "isInteger", "()Z"⟩ : MethodName) (head1 (Jvm.Cond.code (⟨"com/example/tetrad/tetrad/description/Type$Primitive", "isInteger", "()Z"⟩ : MethodName) prog_34_method_10_code 1 (some .boolean) :: ws) ({ frames := 0, cells := 0, slots := 0, locals := 0 } : Room)) (fun a U => a = #[(.ref a1)] ∧ Z.Warmed39 U.vm ∧ U.heap = h0) (fun _ _ _ _ _ => True) (fun _ U o U' => ∃ v L, o = .returned v ∧ Q1 Z a1 fv h0 n0 v U'.heap L ∧ FrameEnd U o U' L ({ frames := 0, cells := 0, slots := 0, locals := 0 } : Room).cells ({ frames := 0, cells := 0, slots := 0, locals := 0 } : Room).slots) := by
  refine MetFree.of_bodySF (plainFor_of_name pn_0) hisR ?_
  intro p e s m args below meth c s₁ Bd hml0 hP hK
  obtain ⟨rfl, hZ, hh⟩ := hP
  have hx := Bd.exec
  have hby := Bd.bytes
  have hml : c.maxLocals = 1 := hml0
  have hown : s.vm.findClass "com/example/tetrad/tetrad/description/Type$Primitive" = some m.cls := findClass_of_methodNamed Bd.named
  have hnm := (name_of_methodNamed Bd.named Bd.method).1
  have X0 : Stand p l e ({ frames := 0, cells := 0, slots := 0, locals := 0 } : Room) s m #[(.ref a1)] below meth c s₁ [] 0 0 := Stand.of_body Bd
  have e0 : s₁.heap = h0 := by rw [← hh, Bd.state]; rfl
  have N0 := Fr.nil n0
  have pre0 : ∀ t, Steps p.tables e below (s₁.setTop (mkF m 0 #[.val (.ref a1)] [])) t → Steps p.tables e below (s₁.setTop (entryFrame m #[(.ref a1)] 1)) t := fun t k => castTop (ef_1 m a1) k
  obtain ⟨T1, X1, e1, st1⟩ := getF X0 hx hZ hown (host := "") (Or.inl (hw _ (List.mem_of_getElem? (i := 70) rfl))) Via.refl e0 F_m (g := (mkF m 1 #[.val (.ref a1)] [(.ref a1)])) rfl rfl (hb hby d1_1)
  have sg2 : ∀ target, Steps p.tables e below (T1.setTop (mkF m 4 #[.val (.ref a1)] [fv])) target → Steps p.tables e below (s₁.setTop (mkF m 0 #[.val (.ref a1)] [])) target := by
    intro target kt
    show Steps p.tables e below (s₁.setTop (mkF m 0 #[.val (.ref a1)] [])) _
    refine XS.aloadN X0.here hx rfl (hb hby d1_0) rfl rfl ?_
    show Steps p.tables e below (s₁.setTop (mkF m 1 #[.val (.ref a1)] [(.ref a1)])) _
    refine st1 _ ?_
    exact kt
  by_cases hc3 : fv = .null
  · have sg4 : ∀ target, Steps p.tables e below (T1.setTop (mkF m 12 #[.val (.ref a1)] [(.int (0 : Int32))])) target → Steps p.tables e below (T1.setTop (mkF m 4 #[.val (.ref a1)] [fv])) target := by
      intro target kt
      show Steps p.tables e below (T1.setTop (mkF m 4 #[.val (.ref a1)] [fv])) _
      rw [hc3]
      refine XS.ifnullYes X1.here hx rfl (pc0 := 4) (pc' := 11) rfl (hb hby d1_4) rfl (by decide) (by decide) ?_
      show Steps p.tables e below (T1.setTop (mkF m 11 #[.val (.ref a1)] [])) _
      refine XS.iconst X1.here hx rfl (hb hby d1_11) ?_
      exact kt
    obtain ⟨fs, hr, hrun, hended, hW, hsame⟩ := X1.leave (v := some (.int (0 : Int32))) (fun h => by rw [Bd.returns] at h; cases h)
    refine ⟨_, _, pre0 _ (sg2 _ (sg4 _ (?_))), hrun, hended, _, _, rfl, ?_, ⟨_, rfl⟩, hW, hsame.mono (by decide) (by decide)⟩
    · show Steps p.tables e below (T1.setTop (mkF m 12 #[.val (.ref a1)] [(.int (0 : Int32))])) _
      exact retN X1 hx (t := .boolean) Bd.returns (by simp) (hb hby d1_12) hr
    · show Q1 Z a1 fv h0 n0 _ T1.heap _
      rw [e1]
      exact ⟨(by rw [if_pos hc3]), N0, rfl⟩
  · obtain ⟨bn5, hbn5⟩ : ∃ b, fv = .ref b := (ref_cases hfv).resolve_left hc3
    have sg6 : ∀ target, Steps p.tables e below (T1.setTop (mkF m 12 #[.val (.ref a1)] [(.int (1 : Int32))])) target → Steps p.tables e below (T1.setTop (mkF m 4 #[.val (.ref a1)] [fv])) target := by
      intro target kt
      show Steps p.tables e below (T1.setTop (mkF m 4 #[.val (.ref a1)] [fv])) _
      rw [hbn5]
      refine XS.ifnullNo X1.here hx rfl (hb hby d1_4) rfl ?_
      show Steps p.tables e below (T1.setTop (mkF m 7 #[.val (.ref a1)] [])) _
      refine XS.iconst X1.here hx rfl (hb hby d1_7) ?_
      show Steps p.tables e below (T1.setTop (mkF m 8 #[.val (.ref a1)] [(.int (1 : Int32))])) _
      refine XS.goto X1.here hx rfl (pc0 := 8) (pc' := 12) rfl (hb hby d1_8) (by decide) (by decide) ?_
      exact kt
    obtain ⟨fs, hr, hrun, hended, hW, hsame⟩ := X1.leave (v := some (.int (1 : Int32))) (fun h => by rw [Bd.returns] at h; cases h)
    refine ⟨_, _, pre0 _ (sg2 _ (sg6 _ (?_))), hrun, hended, _, _, rfl, ?_, ⟨_, rfl⟩, hW, hsame.mono (by decide) (by decide)⟩
    · show Steps p.tables e below (T1.setTop (mkF m 12 #[.val (.ref a1)] [(.int (1 : Int32))])) _
      exact retN X1 hx (t := .boolean) Bd.returns (by simp) (hb hby d1_12) hr
    · show Q1 Z a1 fv h0 n0 _ T1.heap _
      rw [e1]
      exact ⟨(by rw [if_neg hc3]), N0, rfl⟩
def Q0 (Z : State) (p1 : Int32) (m_INT : Addr) (m_UNSIGNED_INT : Addr) (m_HYPER : Addr) (m_UNSIGNED_HYPER : Addr) (m_CHAR : Addr) (m_SHORT : Addr) (m_LONG : Addr) (m_U_CHAR : Addr) (m_U_SHORT : Addr) (m_U_INT : Addr) (m_U_LONG : Addr) (m_INT8_T : Addr) (m_INT16_T : Addr) (m_INT32_T : Addr) (m_UINT8_T : Addr) (m_UINT16_T : Addr) (m_UINT32_T : Addr) (m_U_INT8_T : Addr) (m_U_INT16_T : Addr) (m_U_INT32_T : Addr) (m_INT64_T : Addr) (m_UINT64_T : Addr) (m_U_INT64_T : Addr) (m_QUAD_T : Addr) (m_U_QUAD_T : Addr) (w_INT : Addr) (w_UNSIGNED_INT : Addr) (w_HYPER : Addr) (w_UNSIGNED_HYPER : Addr) (w_CHAR : Addr) (w_SHORT : Addr) (w_LONG : Addr) (w_U_CHAR : Addr) (w_U_SHORT : Addr) (w_U_INT : Addr) (w_U_LONG : Addr) (w_INT8_T : Addr) (w_INT16_T : Addr) (w_INT32_T : Addr) (w_UINT8_T : Addr) (w_UINT16_T : Addr) (w_UINT32_T : Addr) (w_U_INT8_T : Addr) (w_U_INT16_T : Addr) (w_U_INT32_T : Addr) (w_INT64_T : Addr) (w_UINT64_T : Addr) (w_U_INT64_T : Addr) (w_QUAD_T : Addr) (w_U_QUAD_T : Addr) (w_BOOL : Addr) (w_FLOAT : Addr) (w_DOUBLE : Addr) (w_QUADRUPLE : Addr) (w_VOID : Addr) (h0 : Heap) (n0 : Nat) (v : Option Value) (h : Heap) (L : List Loc) : Prop := v = some (.int (1 : Int32)) ∧ Fr n0 L ∧ Keep h0 h [] ∧ Old Z n0 h
theorem ef_0 (m : MethodId) (x0 : Int32) : entryFrame m #[(.int x0)] maxLocals = mkF m 0 #[.val (.int x0), .unset, .unset, .unset] [] := by first | (simp [entryFrame, mkF, argsToLocals, Value.category, maxLocals]; done) | rfl
set_option maxRecDepth 65536 in
set_option maxHeartbeats 40000000 in
theorem rm0 (l : Launch) (Z : State) (a0 : Array Value) (hw : ∀ d ∈ tables_1, d.before a0 Z = true) (ws : List Jvm.Cond) (p1 : Int32) (m_INT : Addr) (m_UNSIGNED_INT : Addr) (m_HYPER : Addr) (m_UNSIGNED_HYPER : Addr) (m_CHAR : Addr) (m_SHORT : Addr) (m_LONG : Addr) (m_U_CHAR : Addr) (m_U_SHORT : Addr) (m_U_INT : Addr) (m_U_LONG : Addr) (m_INT8_T : Addr) (m_INT16_T : Addr) (m_INT32_T : Addr) (m_UINT8_T : Addr) (m_UINT16_T : Addr) (m_UINT32_T : Addr) (m_U_INT8_T : Addr) (m_U_INT16_T : Addr) (m_U_INT32_T : Addr) (m_INT64_T : Addr) (m_UINT64_T : Addr) (m_U_INT64_T : Addr) (m_QUAD_T : Addr) (m_U_QUAD_T : Addr) (w_INT : Addr) (w_UNSIGNED_INT : Addr) (w_HYPER : Addr) (w_UNSIGNED_HYPER : Addr) (w_CHAR : Addr) (w_SHORT : Addr) (w_LONG : Addr) (w_U_CHAR : Addr) (w_U_SHORT : Addr) (w_U_INT : Addr) (w_U_LONG : Addr) (w_INT8_T : Addr) (w_INT16_T : Addr) (w_INT32_T : Addr) (w_UINT8_T : Addr) (w_UINT16_T : Addr) (w_UINT32_T : Addr) (w_U_INT8_T : Addr) (w_U_INT16_T : Addr) (w_U_INT32_T : Addr) (w_INT64_T : Addr) (w_UINT64_T : Addr) (w_U_INT64_T : Addr) (w_QUAD_T : Addr) (w_U_QUAD_T : Addr) (w_BOOL : Addr) (w_FLOAT : Addr) (w_DOUBLE : Addr) (w_QUADRUPLE : Addr) (w_VOID : Addr) (h0 : Heap) (n0 : Nat) (O0 : Old Z n0 h0) (S_INT : Sta Z Z.heap "com/example/tetrad/tetrad/description/Type$Primitive" "INT" "Lcom/example/tetrad/tetrad/description/Type$Primitive;" (.ref w_INT)) (S_UNSIGNED_INT : Sta Z Z.heap "com/example/tetrad/tetrad/description/Type$Primitive" "UNSIGNED_INT" "Lcom/example/tetrad/tetrad/description/Type$Primitive;" (.ref w_UNSIGNED_INT)) (S_HYPER : Sta Z Z.heap "com/example/tetrad/tetrad/description/Type$Primitive" "HYPER" "Lcom/example/tetrad/tetrad/description/Type$Primitive;" (.ref w_HYPER)) (S_UNSIGNED_HYPER : Sta Z Z.heap "com/example/tetrad/tetrad/description/Type$Primitive" "UNSIGNED_HYPER" "Lcom/example/tetrad/tetrad/description/Type$Primitive;" (.ref w_UNSIGNED_HYPER)) (S_CHAR : Sta Z Z.heap "com/example/tetrad/tetrad/description/Type$Primitive" "CHAR" "Lcom/example/tetrad/tetrad/description/Type$Primitive;" (.ref w_CHAR)) (S_SHORT : Sta Z Z.heap "com/example/tetrad/tetrad/description/Type$Primitive" "SHORT" "Lcom/example/tetrad/tetrad/description/Type$Primitive;" (.ref w_SHORT)) (S_LONG : Sta Z Z.heap "com/example/tetrad/tetrad/description/Type$Primitive" "LONG" "Lcom/example/tetrad/tetrad/description/Type$Primitive;" (.ref w_LONG)) (S_U_CHAR : Sta Z Z.heap "com/example/tetrad/tetrad/description/Type$Primitive" "U_CHAR" "Lcom/example/tetrad/tetrad/description/Type$Primitive;" (.ref w_U_CHAR)) (S_U_SHORT : Sta Z Z.heap "com/example/tetrad/tetrad/description/Type$Primitive" "U_SHORT" "Lcom/example/tetrad/tetrad/description/Type$Primitive;" (.ref w_U_SHORT)) (S_U_INT : Sta Z Z.heap "com/example/tetrad/tetrad/description/Type$Primitive" "U_INT" "Lcom/example/tetrad/tetrad/description/Type$Primitive;" (.ref w_U_INT)) (S_U_LONG : Sta Z Z.heap "com/example/tetrad/tetrad/description/Type$Primitive" "U_LONG" "Lcom/example/tetrad/tetrad/description/Type$Primitive;" (.ref w_U_LONG)) (S_INT8_T : Sta Z Z.heap "com/example/tetrad/tetrad/description/Type$Primitive" "INT8_T" "Lcom/example/tetrad/tetrad/description/Type$Primitive;" (.ref w_INT8_T)) (S_INT16_T : Sta Z Z.heap "com/example/tetrad/tetrad/description/Type$Primitive" "INT16_T" "Lcom/example/tetrad/tetrad/description/Type$Primitive;" (.ref w_INT16_T)) (S_INT32_T : Sta Z Z.heap "com/example/tetrad/tetrad/description/Type$Primitive" "INT32_T" "Lcom/example/tetrad/tetrad/description/Type$Primitive;" (.ref w_INT32_T)) (S_UINT8_T : Sta Z Z.heap "com/example/tetrad/tetrad/description/Type$Primitive" "UINT8_T" "Lcom/example/tetrad/tetrad/description/Type$Primitive;" (.ref w_UINT8_T)) (S_UINT16_T : Sta Z Z.heap "com/example/tetrad/tetrad/description/Type$Primitive" "UINT16_T" "Lcom/example/tetrad/tetrad/description/Type$Primitive;" (.ref w_UINT16_T)) (S_UINT32_T : Sta Z Z.heap "com/example/tetrad/tetrad/description/Type$Primitive" "UINT32_T" "Lcom/example/tetrad/tetrad/description/Type$Primitive;" (.ref w_UINT32_T)) (S_U_INT8_T : Sta Z Z.heap "com/example/tetrad/tetrad/description/Type$Primitive" "U_INT8_T" "Lcom/example/tetrad/tetrad/description/Type$Primitive;" (.ref w_U_INT8_T)) (S_U_INT16_T : Sta Z Z.heap "com/example/tetrad/tetrad/description/Type$Primitive" "U_INT16_T" "Lcom/example/tetrad/tetrad/description/Type$Primitive;" (.ref w_U_INT16_T)) (S_U_INT32_T : Sta Z Z.heap "com/example/tetrad/tetrad/description/Type$Primitive" "U_INT32_T" "Lcom/example/tetrad/tetrad/description/Type$Primitive;" (.ref w_U_INT32_T)) (S_INT64_T : Sta Z Z.heap "com/example/tetrad/tetrad/description/Type$Primitive" "INT64_T" "Lcom/example/tetrad/tetrad/description/Type$Primitive;" (.ref w_INT64_T)) (S_UINT64_T : Sta Z Z.heap "com/example/tetrad/tetrad/description/Type$Primitive" "UINT64_T" "Lcom/example/tetrad/tetrad/description/Type$Primitive;" (.ref w_UINT64_T)) (S_U_INT64_T : Sta Z Z.heap "com/example/tetrad/tetrad/description/Type$Primitive" "U_INT64_T" "Lcom/example/tetrad/tetrad/description/Type$Primitive;" (.ref w_U_INT64_T)) (S_QUAD_T : Sta Z Z.heap "com/example/tetrad/tetrad/description/Type$Primitive" "QUAD_T" "Lcom/example/tetrad/tetrad/description/Type$Primitive;" (.ref w_QUAD_T)) (S_U_QUAD_T : Sta Z Z.heap "com/example/tetrad/tetrad/description/Type$Primitive" "U_QUAD_T" "Lcom/example/tetrad/tetrad/description/Type$Primitive;" (.ref w_U_QUAD_T)) (S_BOOL : Sta Z Z.heap "com/example/tetrad/tetrad/description/Type$Primitive" "BOOL" "Lcom/example/tetrad/tetrad/description/Type$Primitive;" (.ref w_BOOL)) (S_FLOAT : Sta Z Z.heap "com/example/tetrad/tetrad/description/Type$Primitive" "FLOAT" "Lcom/example/tetrad/tetrad/description/Type$Primitive;" (.ref w_FLOAT)) (S_DOUBLE : Sta Z Z.heap "com/example/tetrad/tetrad/description/Type$Primitive" "DOUBLE" "Lcom/example/tetrad/tetrad/description/Type$Primitive;" (.ref w_DOUBLE)) (S_QUADRUPLE : Sta Z Z.heap "com/example/tetrad/tetrad/description/Type$Primitive" "QUADRUPLE" "Lcom/example/tetrad/tetrad/description/Type$Primitive;" (.ref w_QUADRUPLE)) (S_VOID : Sta Z Z.heap "com/example/tetrad/tetrad/description/Type$Primitive" "VOID" "Lcom/example/tetrad/tetrad/description/Type$Primitive;" (.ref w_VOID)) (X_INT : Exa Z Z.heap w_INT "com/example/tetrad/tetrad/description/Type$Primitive") (X_UNSIGNED_INT : Exa Z Z.heap w_UNSIGNED_INT "com/example/tetrad/tetrad/description/Type$Primitive") (X_HYPER : Exa Z Z.heap w_HYPER "com/example/tetrad/tetrad/description/Type$Primitive") (X_UNSIGNED_HYPER : Exa Z Z.heap w_UNSIGNED_HYPER "com/example/tetrad/tetrad/description/Type$Primitive") (X_CHAR : Exa Z Z.heap w_CHAR "com/example/tetrad/tetrad/description/Type$Primitive") (X_SHORT : Exa Z Z.heap w_SHORT "com/example/tetrad/tetrad/description/Type$Primitive") (X_LONG : Exa Z Z.heap w_LONG "com/example/tetrad/tetrad/description/Type$Primitive") (X_U_CHAR : Exa Z Z.heap w_U_CHAR "com/example/tetrad/tetrad/description/Type$Primitive") (X_U_SHORT : Exa Z Z.heap w_U_SHORT "com/example/tetrad/tetrad/description/Type$Primitive") (X_U_INT : Exa Z Z.heap w_U_INT "com/example/tetrad/tetrad/description/Type$Primitive") (X_U_LONG : Exa Z Z.heap w_U_LONG "com/example/tetrad/tetrad/description/Type$Primitive") (X_INT8_T : Exa Z Z.heap w_INT8_T "com/example/tetrad/tetrad/description/Type$Primitive") (X_INT16_T : Exa Z Z.heap w_INT16_T "com/example/tetrad/tetrad/description/Type$Primitive") (X_INT32_T : Exa Z Z.heap w_INT32_T "com/example/tetrad/tetrad/description/Type$Primitive") (X_UINT8_T : Exa Z Z.heap w_UINT8_T "com/example/tetrad/tetrad/description/Type$Primitive") (X_UINT16_T : Exa Z Z.heap w_UINT16_T "com/example/tetrad/tetrad/description/Type$Primitive") (X_UINT32_T : Exa Z Z.heap w_UINT32_T "com/example/tetrad/tetrad/description/Type$Primitive") (X_U_INT8_T : Exa Z Z.heap w_U_INT8_T "com/example/tetrad/tetrad/description/Type$Primitive") (X_U_INT16_T : Exa Z Z.heap w_U_INT16_T "com/example/tetrad/tetrad/description/Type$Primitive") (X_U_INT32_T : Exa Z Z.heap w_U_INT32_T "com/example/tetrad/tetrad/description/Type$Primitive") (X_INT64_T : Exa Z Z.heap w_INT64_T "com/example/tetrad/tetrad/description/Type$Primitive") (X_UINT64_T : Exa Z Z.heap w_UINT64_T "com/example/tetrad/tetrad/description/Type$Primitive") (X_U_INT64_T : Exa Z Z.heap w_U_INT64_T "com/example/tetrad/tetrad/description/Type$Primitive") (X_QUAD_T : Exa Z Z.heap w_QUAD_T "com/example/tetrad/tetrad/description/Type$Primitive") (X_U_QUAD_T : Exa Z Z.heap w_U_QUAD_T "com/example/tetrad/tetrad/description/Type$Primitive") (X_BOOL : Exa Z Z.heap w_BOOL "com/example/tetrad/tetrad/description/Type$Primitive") (X_FLOAT : Exa Z Z.heap w_FLOAT "com/example/tetrad/tetrad/description/Type$Primitive") (X_DOUBLE : Exa Z Z.heap w_DOUBLE "com/example/tetrad/tetrad/description/Type$Primitive") (X_QUADRUPLE : Exa Z Z.heap w_QUADRUPLE "com/example/tetrad/tetrad/description/Type$Primitive") (X_VOID : Exa Z Z.heap w_VOID "com/example/tetrad/tetrad/description/Type$Primitive") (M_INT : Fld Z Z.heap w_INT "com/example/tetrad/tetrad/description/Type$Primitive" "minimum" "Ljava/math/BigInteger;" (.ref m_INT)) (M_UNSIGNED_INT : Fld Z Z.heap w_UNSIGNED_INT "com/example/tetrad/tetrad/description/Type$Primitive" "minimum" "Ljava/math/BigInteger;" (.ref m_UNSIGNED_INT)) (M_HYPER : Fld Z Z.heap w_HYPER "com/example/tetrad/tetrad/description/Type$Primitive" "minimum" "Ljava/math/BigInteger;" (.ref m_HYPER)) (M_UNSIGNED_HYPER : Fld Z Z.heap w_UNSIGNED_HYPER "com/example/tetrad/tetrad/description/Type$Primitive" "minimum" "Ljava/math/BigInteger;" (.ref m_UNSIGNED_HYPER)) (M_CHAR : Fld Z Z.heap w_CHAR "com/example/tetrad/tetrad/description/Type$Primitive" "minimum" "Ljava/math/BigInteger;" (.ref m_CHAR)) (M_SHORT : Fld Z Z.heap w_SHORT "com/example/tetrad/tetrad/description/Type$Primitive" "minimum" "Ljava/math/BigInteger;" (.ref m_SHORT)) (M_LONG : Fld Z Z.heap w_LONG "com/example/tetrad/tetrad/description/Type$Primitive" "minimum" "Ljava/math/BigInteger;" (.ref m_LONG)) (M_U_CHAR : Fld Z Z.heap w_U_CHAR "com/example/tetrad/tetrad/description/Type$Primitive" "minimum" "Ljava/math/BigInteger;" (.ref m_U_CHAR)) (M_U_SHORT : Fld Z Z.heap w_U_SHORT "com/example/tetrad/tetrad/description/Type$Primitive" "minimum" "Ljava/math/BigInteger;" (.ref m_U_SHORT)) (M_U_INT : Fld Z Z.heap w_U_INT "com/example/tetrad/tetrad/description/Type$Primitive" "minimum" "Ljava/math/BigInteger;" (.ref m_U_INT)) (M_U_LONG : Fld Z Z.heap w_U_LONG "com/example/tetrad/tetrad/description/Type$Primitive" "minimum" "Ljava/math/BigInteger;" (.ref m_U_LONG)) (M_INT8_T : Fld Z Z.heap w_INT8_T "com/example/tetrad/tetrad/description/Type$Primitive" "minimum" "Ljava/math/BigInteger;" (.ref m_INT8_T)) (M_INT16_T : Fld Z Z.heap w_INT16_T "com/example/tetrad/tetrad/description/Type$Primitive" "minimum" "Ljava/math/BigInteger;" (.ref m_INT16_T)) (M_INT32_T : Fld Z Z.heap w_INT32_T "com/example/tetrad/tetrad/description/Type$Primitive" "minimum" "Ljava/math/BigInteger;" (.ref m_INT32_T)) (M_UINT8_T : Fld Z Z.heap w_UINT8_T "com/example/tetrad/tetrad/description/Type$Primitive" "minimum" "Ljava/math/BigInteger;" (.ref m_UINT8_T)) (M_UINT16_T : Fld Z Z.heap w_UINT16_T "com/example/tetrad/tetrad/description/Type$Primitive" "minimum" "Ljava/math/BigInteger;" (.ref m_UINT16_T)) (M_UINT32_T : Fld Z Z.heap w_UINT32_T "com/example/tetrad/tetrad/description/Type$Primitive" "minimum" "Ljava/math/BigInteger;" (.ref m_UINT32_T)) (M_U_INT8_T : Fld Z Z.heap w_U_INT8_T "com/example/tetrad/tetrad/description/Type$Primitive" "minimum" "Ljava/math/BigInteger;" (.ref m_U_INT8_T)) (M_U_INT16_T : Fld Z Z.heap w_U_INT16_T "com/example/tetrad/tetrad/description/Type$Primitive" "minimum" "Ljava/math/BigInteger;" (.ref m_U_INT16_T)) (M_U_INT32_T : Fld Z Z.heap w_U_INT32_T "com/example/tetrad/tetrad/description/Type$Primitive" "minimum" "Ljava/math/BigInteger;" (.ref m_U_INT32_T)) (M_INT64_T : Fld Z Z.heap w_INT64_T "com/example/tetrad/tetrad/description/Type$Primitive" "minimum" "Ljava/math/BigInteger;" (.ref m_INT64_T)) (M_UINT64_T : Fld Z Z.heap w_UINT64_T "com/example/tetrad/tetrad/description/Type$Primitive" "minimum" "Ljava/math/BigInteger;" (.ref m_UINT64_T)) (M_U_INT64_T : Fld Z Z.heap w_U_INT64_T "com/example/tetrad/tetrad/description/Type$Primitive" "minimum" "Ljava/math/BigInteger;" (.ref m_U_INT64_T)) (M_QUAD_T : Fld Z Z.heap w_QUAD_T "com/example/tetrad/tetrad/description/Type$Primitive" "minimum" "Ljava/math/BigInteger;" (.ref m_QUAD_T)) (M_U_QUAD_T : Fld Z Z.heap w_U_QUAD_T "com/example/tetrad/tetrad/description/Type$Primitive" "minimum" "Ljava/math/BigInteger;" (.ref m_U_QUAD_T)) (M_BOOL : Fld Z Z.heap w_BOOL "com/example/tetrad/tetrad/description/Type$Primitive" "minimum" "Ljava/math/BigInteger;" .null) (M_FLOAT : Fld Z Z.heap w_FLOAT "com/example/tetrad/tetrad/description/Type$Primitive" "minimum" "Ljava/math/BigInteger;" .null) (M_DOUBLE : Fld Z Z.heap w_DOUBLE "com/example/tetrad/tetrad/description/Type$Primitive" "minimum" "Ljava/math/BigInteger;" .null) (M_QUADRUPLE : Fld Z Z.heap w_QUADRUPLE "com/example/tetrad/tetrad/description/Type$Primitive" "minimum" "Ljava/math/BigInteger;" .null) (M_VOID : Fld Z Z.heap w_VOID "com/example/tetrad/tetrad/description/Type$Primitive" "minimum" "Ljava/math/BigInteger;" .null) :
    MetFree l x (head1 (Jvm.Cond.code x code maxLocals ret :: ws) room_1) (fun a U => a = #[(.int p1)] ∧ Z.Warmed39 U.vm ∧ U.heap = h0) (fun _ _ _ _ _ => True) (fun _ U o U' => ∃ v L, o = .returned v ∧ Q0 Z p1 m_INT m_UNSIGNED_INT m_HYPER m_UNSIGNED_HYPER m_CHAR m_SHORT m_LONG m_U_CHAR m_U_SHORT m_U_INT m_U_LONG m_INT8_T m_INT16_T m_INT32_T m_UINT8_T m_UINT16_T m_UINT32_T m_U_INT8_T m_U_INT16_T m_U_INT32_T m_INT64_T m_UINT64_T m_U_INT64_T m_QUAD_T m_U_QUAD_T w_INT w_UNSIGNED_INT w_HYPER w_UNSIGNED_HYPER w_CHAR w_SHORT w_LONG w_U_CHAR w_U_SHORT w_U_INT w_U_LONG w_INT8_T w_INT16_T w_INT32_T w_UINT8_T w_UINT16_T w_UINT32_T w_U_INT8_T w_U_INT16_T w_U_INT32_T w_INT64_T w_UINT64_T w_U_INT64_T w_QUAD_T w_U_QUAD_T w_BOOL w_FLOAT w_DOUBLE w_QUADRUPLE w_VOID h0 n0 v U'.heap L ∧ FrameEnd U o U' L room_1.cells room_1.slots) := by
  refine MetFree.of_bodySF (plainFor_of_name pn_1) hisR ?_
  intro p e s m args below meth c s₁ Bd hml0 hP hK
  obtain ⟨rfl, hZ, hh⟩ := hP
  have hx := Bd.exec
  have hby := Bd.bytes
  have hml : c.maxLocals = 4 := hml0
  have hown : s.vm.findClass "com/example/tetrad/tetrad/description/PrimitiveIsIntegerPinLaw" = some m.cls := findClass_of_methodNamed Bd.named
  have hnm := (name_of_methodNamed Bd.named Bd.method).1
  have X0 : Stand p l e room_1 s m #[(.int p1)] below meth c s₁ [] 0 0 := Stand.of_body Bd
  have e0 : s₁.heap = h0 := by rw [← hh, Bd.state]; rfl
  have N0 := Fr.nil n0
  have pre0 : ∀ t, Steps p.tables e below (s₁.setTop (mkF m 0 #[.val (.int p1), .unset, .unset, .unset] [])) t → Steps p.tables e below (s₁.setTop (entryFrame m #[(.int p1)] maxLocals)) t := fun t k => castTop (ef_0 m p1) k
  have K0 := Keep.refl h0 []
  obtain ⟨T1, h1, k1, X1, e1, E1, A1, O1v, st1⟩ := newR X0 hx hZ hown (hw _ (List.mem_of_getElem? (i := 0) rfl)) (hw _ (List.mem_of_getElem? (i := 1) rfl)) e0 (g := (mkF m 2 #[.val (.int p1), .unset, .unset, .unset] [(.int (30 : Int32))])) rfl (hb hby at_2) rfl (by decide) (cap := 30) (by decide) (by decide) (by decide) (by decide)
  obtain ⟨b1, g1⟩ : ∃ z, z = h0.size := ⟨_, rfl⟩
  rw [← g1] at A1 st1
  have ge_b1 : n0 ≤ b1 := Nat.le_trans (own_osz O0) (Nat.le_of_eq g1.symm)
  have sz_b1 : h0.size ≤ b1 := Nat.le_trans K0.1 (Nat.le_of_eq g1.symm)
  have O2 := O0.ext E1
  have K1 := K0.ext E1
  have V_b1 : Arv Z h1 b1 k1 (.object "com/example/tetrad/tetrad/description/Type$Primitive") (30 : Int32) [.null, .null, .null, .null, .null, .null, .null, .null, .null, .null, .null, .null, .null, .null, .null, .null, .null, .null, .null, .null, .null, .null, .null, .null, .null, .null, .null, .null, .null, .null] .null := (Arv.new A1 (by decide)).pad (pad_rep [] .null 30)
  obtain ⟨T3, X3, e3, st3⟩ := getS2 X1 hx hZ hown (host := "") (Or.inl (hw _ (List.mem_of_getElem? (i := 2) rfl))) Via.refl e1 (S_INT.ext O2.2) (g := (mkF m 7 #[.val (.int p1), .unset, .unset, .unset] [(.int (0 : Int32)), (.ref b1), (.ref b1)])) rfl (hb hby at_7)
  obtain ⟨cl4, Ar4, q4, Sz4, Nn4, Hh4, Gg4⟩ := V_b1
  have hin4 : ¬ ((0 : Int32) < 0 ∨ cl4.slots.size ≤ ((0 : Int32)).toNatClampNeg) := inb_of Sz4 ⟨by decide, by decide⟩
  obtain ⟨T5, h5, X5, e5, W5, st5⟩ := stR X3 hx hZ e3 Ar4 (j := (0 : Int32)) hin4 rfl (Sto.ofV Ar4 q4 O1v (Ins.self (X_INT.ext O2.2))) (g := (mkF m 10 #[.val (.int p1), .unset, .unset, .unset] [(.ref w_INT), (.int (0 : Int32)), (.ref b1), (.ref b1)])) rfl rfl (hb hby at_10)
  have V5 : Arv Z h5 b1 k1 (.object "com/example/tetrad/tetrad/description/Type$Primitive") (30 : Int32) [(.ref w_INT), .null, .null, .null, .null, .null, .null, .null, .null, .null, .null, .null, .null, .null, .null, .null, .null, .null, .null, .null, .null, .null, .null, .null, .null, .null, .null, .null, .null, .null] .null := Arv.set Ar4 q4 Sz4 Nn4 Hh4 Gg4 rfl W5 0 rfl (Nat.le_of_ble_eq_true rfl)
  have N5 := Fr.snoc X5 N0 ge_b1
  have O6 := O2.wr W5 ge_b1
  have K5 := K1.wr W5 (Or.inr sz_b1)
  obtain ⟨T7, X7, e7, st7⟩ := getS2 X5 hx hZ hown (host := "") (Or.inl (hw _ (List.mem_of_getElem? (i := 6) rfl))) Via.refl e5 (S_UNSIGNED_INT.ext O6.2) (g := (mkF m 13 #[.val (.int p1), .unset, .unset, .unset] [(.int (1 : Int32)), (.ref b1), (.ref b1)])) rfl (hb hby at_13)
  obtain ⟨cl8, Ar8, q8, Sz8, Nn8, Hh8, Gg8⟩ := V5
  have hin8 : ¬ ((1 : Int32) < 0 ∨ cl8.slots.size ≤ ((1 : Int32)).toNatClampNeg) := inb_of Sz8 ⟨by decide, by decide⟩
  obtain ⟨T9, h9, X9, e9, W9, st9⟩ := stR X7 hx hZ e7 Ar8 (j := (1 : Int32)) hin8 rfl (Sto.ofV Ar8 q8 O1v (Ins.self (X_UNSIGNED_INT.ext O6.2))) (g := (mkF m 16 #[.val (.int p1), .unset, .unset, .unset] [(.ref w_UNSIGNED_INT), (.int (1 : Int32)), (.ref b1), (.ref b1)])) rfl rfl (hb hby at_16)
  have V9 : Arv Z h9 b1 k1 (.object "com/example/tetrad/tetrad/description/Type$Primitive") (30 : Int32) [(.ref w_INT), (.ref w_UNSIGNED_INT), .null, .null, .null, .null, .null, .null, .null, .null, .null, .null, .null, .null, .null, .null, .null, .null, .null, .null, .null, .null, .null, .null, .null, .null, .null, .null, .null, .null] .null := Arv.set Ar8 q8 Sz8 Nn8 Hh8 Gg8 rfl W9 1 rfl (Nat.le_of_ble_eq_true rfl)
  have N9 := Fr.snoc X9 N5 ge_b1
  have O10 := O6.wr W9 ge_b1
  have K9 := K5.wr W9 (Or.inr sz_b1)
  obtain ⟨T11, X11, e11, st11⟩ := getS2 X9 hx hZ hown (host := "") (Or.inl (hw _ (List.mem_of_getElem? (i := 8) rfl))) Via.refl e9 (S_HYPER.ext O10.2) (g := (mkF m 19 #[.val (.int p1), .unset, .unset, .unset] [(.int (2 : Int32)), (.ref b1), (.ref b1)])) rfl (hb hby at_19)
  obtain ⟨cl12, Ar12, q12, Sz12, Nn12, Hh12, Gg12⟩ := V9
  have hin12 : ¬ ((2 : Int32) < 0 ∨ cl12.slots.size ≤ ((2 : Int32)).toNatClampNeg) := inb_of Sz12 ⟨by decide, by decide⟩
  obtain ⟨T13, h13, X13, e13, W13, st13⟩ := stR X11 hx hZ e11 Ar12 (j := (2 : Int32)) hin12 rfl (Sto.ofV Ar12 q12 O1v (Ins.self (X_HYPER.ext O10.2))) (g := (mkF m 22 #[.val (.int p1), .unset, .unset, .unset] [(.ref w_HYPER), (.int (2 : Int32)), (.ref b1), (.ref b1)])) rfl rfl (hb hby at_22)
  have V13 : Arv Z h13 b1 k1 (.object "com/example/tetrad/tetrad/description/Type$Primitive") (30 : Int32) [(.ref w_INT), (.ref w_UNSIGNED_INT), (.ref w_HYPER), .null, .null, .null, .null, .null, .null, .null, .null, .null, .null, .null, .null, .null, .null, .null, .null, .null, .null, .null, .null, .null, .null, .null, .null, .null, .null, .null] .null := Arv.set Ar12 q12 Sz12 Nn12 Hh12 Gg12 rfl W13 2 rfl (Nat.le_of_ble_eq_true rfl)
  have N13 := Fr.snoc X13 N9 ge_b1
  have O14 := O10.wr W13 ge_b1
  have K13 := K9.wr W13 (Or.inr sz_b1)
  obtain ⟨T15, X15, e15, st15⟩ := getS2 X13 hx hZ hown (host := "") (Or.inl (hw _ (List.mem_of_getElem? (i := 10) rfl))) Via.refl e13 (S_UNSIGNED_HYPER.ext O14.2) (g := (mkF m 25 #[.val (.int p1), .unset, .unset, .unset] [(.int (3 : Int32)), (.ref b1), (.ref b1)])) rfl (hb hby at_25)
  obtain ⟨cl16, Ar16, q16, Sz16, Nn16, Hh16, Gg16⟩ := V13
  have hin16 : ¬ ((3 : Int32) < 0 ∨ cl16.slots.size ≤ ((3 : Int32)).toNatClampNeg) := inb_of Sz16 ⟨by decide, by decide⟩
  obtain ⟨T17, h17, X17, e17, W17, st17⟩ := stR X15 hx hZ e15 Ar16 (j := (3 : Int32)) hin16 rfl (Sto.ofV Ar16 q16 O1v (Ins.self (X_UNSIGNED_HYPER.ext O14.2))) (g := (mkF m 28 #[.val (.int p1), .unset, .unset, .unset] [(.ref w_UNSIGNED_HYPER), (.int (3 : Int32)), (.ref b1), (.ref b1)])) rfl rfl (hb hby at_28)
  have V17 : Arv Z h17 b1 k1 (.object "com/example/tetrad/tetrad/description/Type$Primitive") (30 : Int32) [(.ref w_INT), (.ref w_UNSIGNED_INT), (.ref w_HYPER), (.ref w_UNSIGNED_HYPER), .null, .null, .null, .null, .null, .null, .null, .null, .null, .null, .null, .null, .null, .null, .null, .null, .null, .null, .null, .null, .null, .null, .null, .null, .null, .null] .null := Arv.set Ar16 q16 Sz16 Nn16 Hh16 Gg16 rfl W17 3 rfl (Nat.le_of_ble_eq_true rfl)
  have N17 := Fr.snoc X17 N13 ge_b1
  have O18 := O14.wr W17 ge_b1
  have K17 := K13.wr W17 (Or.inr sz_b1)
  obtain ⟨T19, X19, e19, st19⟩ := getS2 X17 hx hZ hown (host := "") (Or.inl (hw _ (List.mem_of_getElem? (i := 12) rfl))) Via.refl e17 (S_CHAR.ext O18.2) (g := (mkF m 31 #[.val (.int p1), .unset, .unset, .unset] [(.int (4 : Int32)), (.ref b1), (.ref b1)])) rfl (hb hby at_31)
  obtain ⟨cl20, Ar20, q20, Sz20, Nn20, Hh20, Gg20⟩ := V17
  have hin20 : ¬ ((4 : Int32) < 0 ∨ cl20.slots.size ≤ ((4 : Int32)).toNatClampNeg) := inb_of Sz20 ⟨by decide, by decide⟩
  obtain ⟨T21, h21, X21, e21, W21, st21⟩ := stR X19 hx hZ e19 Ar20 (j := (4 : Int32)) hin20 rfl (Sto.ofV Ar20 q20 O1v (Ins.self (X_CHAR.ext O18.2))) (g := (mkF m 34 #[.val (.int p1), .unset, .unset, .unset] [(.ref w_CHAR), (.int (4 : Int32)), (.ref b1), (.ref b1)])) rfl rfl (hb hby at_34)
  have V21 : Arv Z h21 b1 k1 (.object "com/example/tetrad/tetrad/description/Type$Primitive") (30 : Int32) [(.ref w_INT), (.ref w_UNSIGNED_INT), (.ref w_HYPER), (.ref w_UNSIGNED_HYPER), (.ref w_CHAR), .null, .null, .null, .null, .null, .null, .null, .null, .null, .null, .null, .null, .null, .null, .null, .null, .null, .null, .null, .null, .null, .null, .null, .null, .null] .null := Arv.set Ar20 q20 Sz20 Nn20 Hh20 Gg20 rfl W21 4 rfl (Nat.le_of_ble_eq_true rfl)
  have N21 := Fr.snoc X21 N17 ge_b1
  have O22 := O18.wr W21 ge_b1
  have K21 := K17.wr W21 (Or.inr sz_b1)
  obtain ⟨T23, X23, e23, st23⟩ := getS2 X21 hx hZ hown (host := "") (Or.inl (hw _ (List.mem_of_getElem? (i := 14) rfl))) Via.refl e21 (S_SHORT.ext O22.2) (g := (mkF m 37 #[.val (.int p1), .unset, .unset, .unset] [(.int (5 : Int32)), (.ref b1), (.ref b1)])) rfl (hb hby at_37)
  obtain ⟨cl24, Ar24, q24, Sz24, Nn24, Hh24, Gg24⟩ := V21
  have hin24 : ¬ ((5 : Int32) < 0 ∨ cl24.slots.size ≤ ((5 : Int32)).toNatClampNeg) := inb_of Sz24 ⟨by decide, by decide⟩
  obtain ⟨T25, h25, X25, e25, W25, st25⟩ := stR X23 hx hZ e23 Ar24 (j := (5 : Int32)) hin24 rfl (Sto.ofV Ar24 q24 O1v (Ins.self (X_SHORT.ext O22.2))) (g := (mkF m 40 #[.val (.int p1), .unset, .unset, .unset] [(.ref w_SHORT), (.int (5 : Int32)), (.ref b1), (.ref b1)])) rfl rfl (hb hby at_40)
  have V25 : Arv Z h25 b1 k1 (.object "com/example/tetrad/tetrad/description/Type$Primitive") (30 : Int32) [(.ref w_INT), (.ref w_UNSIGNED_INT), (.ref w_HYPER), (.ref w_UNSIGNED_HYPER), (.ref w_CHAR), (.ref w_SHORT), .null, .null, .null, .null, .null, .null, .null, .null, .null, .null, .null, .null, .null, .null, .null, .null, .null, .null, .null, .null, .null, .null, .null, .null] .null := Arv.set Ar24 q24 Sz24 Nn24 Hh24 Gg24 rfl W25 5 rfl (Nat.le_of_ble_eq_true rfl)
  have N25 := Fr.snoc X25 N21 ge_b1
  have O26 := O22.wr W25 ge_b1
  have K25 := K21.wr W25 (Or.inr sz_b1)
  obtain ⟨T27, X27, e27, st27⟩ := getS2 X25 hx hZ hown (host := "") (Or.inl (hw _ (List.mem_of_getElem? (i := 16) rfl))) Via.refl e25 (S_LONG.ext O26.2) (g := (mkF m 44 #[.val (.int p1), .unset, .unset, .unset] [(.int (6 : Int32)), (.ref b1), (.ref b1)])) rfl (hb hby at_44)
  obtain ⟨cl28, Ar28, q28, Sz28, Nn28, Hh28, Gg28⟩ := V25
  have hin28 : ¬ ((6 : Int32) < 0 ∨ cl28.slots.size ≤ ((6 : Int32)).toNatClampNeg) := inb_of Sz28 ⟨by decide, by decide⟩
  obtain ⟨T29, h29, X29, e29, W29, st29⟩ := stR X27 hx hZ e27 Ar28 (j := (6 : Int32)) hin28 rfl (Sto.ofV Ar28 q28 O1v (Ins.self (X_LONG.ext O26.2))) (g := (mkF m 47 #[.val (.int p1), .unset, .unset, .unset] [(.ref w_LONG), (.int (6 : Int32)), (.ref b1), (.ref b1)])) rfl rfl (hb hby at_47)
  have V29 : Arv Z h29 b1 k1 (.object "com/example/tetrad/tetrad/description/Type$Primitive") (30 : Int32) [(.ref w_INT), (.ref w_UNSIGNED_INT), (.ref w_HYPER), (.ref w_UNSIGNED_HYPER), (.ref w_CHAR), (.ref w_SHORT), (.ref w_LONG), .null, .null, .null, .null, .null, .null, .null, .null, .null, .null, .null, .null, .null, .null, .null, .null, .null, .null, .null, .null, .null, .null, .null] .null := Arv.set Ar28 q28 Sz28 Nn28 Hh28 Gg28 rfl W29 6 rfl (Nat.le_of_ble_eq_true rfl)
  have N29 := Fr.snoc X29 N25 ge_b1
  have O30 := O26.wr W29 ge_b1
  have K29 := K25.wr W29 (Or.inr sz_b1)
  obtain ⟨T31, X31, e31, st31⟩ := getS2 X29 hx hZ hown (host := "") (Or.inl (hw _ (List.mem_of_getElem? (i := 18) rfl))) Via.refl e29 (S_U_CHAR.ext O30.2) (g := (mkF m 51 #[.val (.int p1), .unset, .unset, .unset] [(.int (7 : Int32)), (.ref b1), (.ref b1)])) rfl (hb hby at_51)
  obtain ⟨cl32, Ar32, q32, Sz32, Nn32, Hh32, Gg32⟩ := V29
  have hin32 : ¬ ((7 : Int32) < 0 ∨ cl32.slots.size ≤ ((7 : Int32)).toNatClampNeg) := inb_of Sz32 ⟨by decide, by decide⟩
  obtain ⟨T33, h33, X33, e33, W33, st33⟩ := stR X31 hx hZ e31 Ar32 (j := (7 : Int32)) hin32 rfl (Sto.ofV Ar32 q32 O1v (Ins.self (X_U_CHAR.ext O30.2))) (g := (mkF m 54 #[.val (.int p1), .unset, .unset, .unset] [(.ref w_U_CHAR), (.int (7 : Int32)), (.ref b1), (.ref b1)])) rfl rfl (hb hby at_54)
  have V33 : Arv Z h33 b1 k1 (.object "com/example/tetrad/tetrad/description/Type$Primitive") (30 : Int32) [(.ref w_INT), (.ref w_UNSIGNED_INT), (.ref w_HYPER), (.ref w_UNSIGNED_HYPER), (.ref w_CHAR), (.ref w_SHORT), (.ref w_LONG), (.ref w_U_CHAR), .null, .null, .null, .null, .null, .null, .null, .null, .null, .null, .null, .null, .null, .null, .null, .null, .null, .null, .null, .null, .null, .null] .null := Arv.set Ar32 q32 Sz32 Nn32 Hh32 Gg32 rfl W33 7 rfl (Nat.le_of_ble_eq_true rfl)
  have N33 := Fr.snoc X33 N29 ge_b1
  have O34 := O30.wr W33 ge_b1
  have K33 := K29.wr W33 (Or.inr sz_b1)
  obtain ⟨T35, X35, e35, st35⟩ := getS2 X33 hx hZ hown (host := "") (Or.inl (hw _ (List.mem_of_getElem? (i := 20) rfl))) Via.refl e33 (S_U_SHORT.ext O34.2) (g := (mkF m 58 #[.val (.int p1), .unset, .unset, .unset] [(.int (8 : Int32)), (.ref b1), (.ref b1)])) rfl (hb hby at_58)
  obtain ⟨cl36, Ar36, q36, Sz36, Nn36, Hh36, Gg36⟩ := V33
  have hin36 : ¬ ((8 : Int32) < 0 ∨ cl36.slots.size ≤ ((8 : Int32)).toNatClampNeg) := inb_of Sz36 ⟨by decide, by decide⟩
  obtain ⟨T37, h37, X37, e37, W37, st37⟩ := stR X35 hx hZ e35 Ar36 (j := (8 : Int32)) hin36 rfl (Sto.ofV Ar36 q36 O1v (Ins.self (X_U_SHORT.ext O34.2))) (g := (mkF m 61 #[.val (.int p1), .unset, .unset, .unset] [(.ref w_U_SHORT), (.int (8 : Int32)), (.ref b1), (.ref b1)])) rfl rfl (hb hby at_61)
  have V37 : Arv Z h37 b1 k1 (.object "com/example/tetrad/tetrad/description/Type$Primitive") (30 : Int32) [(.ref w_INT), (.ref w_UNSIGNED_INT), (.ref w_HYPER), (.ref w_UNSIGNED_HYPER), (.ref w_CHAR), (.ref w_SHORT), (.ref w_LONG), (.ref w_U_CHAR), (.ref w_U_SHORT), .null, .null, .null, .null, .null, .null, .null, .null, .null, .null, .null, .null, .null, .null, .null, .null, .null, .null, .null, .null, .null] .null := Arv.set Ar36 q36 Sz36 Nn36 Hh36 Gg36 rfl W37 8 rfl (Nat.le_of_ble_eq_true rfl)
  have N37 := Fr.snoc X37 N33 ge_b1
  have O38 := O34.wr W37 ge_b1
  have K37 := K33.wr W37 (Or.inr sz_b1)
  obtain ⟨T39, X39, e39, st39⟩ := getS2 X37 hx hZ hown (host := "") (Or.inl (hw _ (List.mem_of_getElem? (i := 22) rfl))) Via.refl e37 (S_U_INT.ext O38.2) (g := (mkF m 65 #[.val (.int p1), .unset, .unset, .unset] [(.int (9 : Int32)), (.ref b1), (.ref b1)])) rfl (hb hby at_65)
  obtain ⟨cl40, Ar40, q40, Sz40, Nn40, Hh40, Gg40⟩ := V37
  have hin40 : ¬ ((9 : Int32) < 0 ∨ cl40.slots.size ≤ ((9 : Int32)).toNatClampNeg) := inb_of Sz40 ⟨by decide, by decide⟩
  obtain ⟨T41, h41, X41, e41, W41, st41⟩ := stR X39 hx hZ e39 Ar40 (j := (9 : Int32)) hin40 rfl (Sto.ofV Ar40 q40 O1v (Ins.self (X_U_INT.ext O38.2))) (g := (mkF m 68 #[.val (.int p1), .unset, .unset, .unset] [(.ref w_U_INT), (.int (9 : Int32)), (.ref b1), (.ref b1)])) rfl rfl (hb hby at_68)
  have V41 : Arv Z h41 b1 k1 (.object "com/example/tetrad/tetrad/description/Type$Primitive") (30 : Int32) [(.ref w_INT), (.ref w_UNSIGNED_INT), (.ref w_HYPER), (.ref w_UNSIGNED_HYPER), (.ref w_CHAR), (.ref w_SHORT), (.ref w_LONG), (.ref w_U_CHAR), (.ref w_U_SHORT), (.ref w_U_INT), .null, .null, .null, .null, .null, .null, .null, .null, .null, .null, .null, .null, .null, .null, .null, .null, .null, .null, .null, .null] .null := Arv.set Ar40 q40 Sz40 Nn40 Hh40 Gg40 rfl W41 9 rfl (Nat.le_of_ble_eq_true rfl)
  have N41 := Fr.snoc X41 N37 ge_b1
  have O42 := O38.wr W41 ge_b1
  have K41 := K37.wr W41 (Or.inr sz_b1)
  obtain ⟨T43, X43, e43, st43⟩ := getS2 X41 hx hZ hown (host := "") (Or.inl (hw _ (List.mem_of_getElem? (i := 24) rfl))) Via.refl e41 (S_U_LONG.ext O42.2) (g := (mkF m 72 #[.val (.int p1), .unset, .unset, .unset] [(.int (10 : Int32)), (.ref b1), (.ref b1)])) rfl (hb hby at_72)
  obtain ⟨cl44, Ar44, q44, Sz44, Nn44, Hh44, Gg44⟩ := V41
  have hin44 : ¬ ((10 : Int32) < 0 ∨ cl44.slots.size ≤ ((10 : Int32)).toNatClampNeg) := inb_of Sz44 ⟨by decide, by decide⟩
  obtain ⟨T45, h45, X45, e45, W45, st45⟩ := stR X43 hx hZ e43 Ar44 (j := (10 : Int32)) hin44 rfl (Sto.ofV Ar44 q44 O1v (Ins.self (X_U_LONG.ext O42.2))) (g := (mkF m 75 #[.val (.int p1), .unset, .unset, .unset] [(.ref w_U_LONG), (.int (10 : Int32)), (.ref b1), (.ref b1)])) rfl rfl (hb hby at_75)
  have V45 : Arv Z h45 b1 k1 (.object "com/example/tetrad/tetrad/description/Type$Primitive") (30 : Int32) [(.ref w_INT), (.ref w_UNSIGNED_INT), (.ref w_HYPER), (.ref w_UNSIGNED_HYPER), (.ref w_CHAR), (.ref w_SHORT), (.ref w_LONG), (.ref w_U_CHAR), (.ref w_U_SHORT), (.ref w_U_INT), (.ref w_U_LONG), .null, .null, .null, .null, .null, .null, .null, .null, .null, .null, .null, .null, .null, .null, .null, .null, .null, .null, .null] .null := Arv.set Ar44 q44 Sz44 Nn44 Hh44 Gg44 rfl W45 10 rfl (Nat.le_of_ble_eq_true rfl)
  have N45 := Fr.snoc X45 N41 ge_b1
  have O46 := O42.wr W45 ge_b1
  have K45 := K41.wr W45 (Or.inr sz_b1)
  obtain ⟨T47, X47, e47, st47⟩ := getS2 X45 hx hZ hown (host := "") (Or.inl (hw _ (List.mem_of_getElem? (i := 26) rfl))) Via.refl e45 (S_INT8_T.ext O46.2) (g := (mkF m 79 #[.val (.int p1), .unset, .unset, .unset] [(.int (11 : Int32)), (.ref b1), (.ref b1)])) rfl (hb hby at_79)
  obtain ⟨cl48, Ar48, q48, Sz48, Nn48, Hh48, Gg48⟩ := V45
  have hin48 : ¬ ((11 : Int32) < 0 ∨ cl48.slots.size ≤ ((11 : Int32)).toNatClampNeg) := inb_of Sz48 ⟨by decide, by decide⟩
  obtain ⟨T49, h49, X49, e49, W49, st49⟩ := stR X47 hx hZ e47 Ar48 (j := (11 : Int32)) hin48 rfl (Sto.ofV Ar48 q48 O1v (Ins.self (X_INT8_T.ext O46.2))) (g := (mkF m 82 #[.val (.int p1), .unset, .unset, .unset] [(.ref w_INT8_T), (.int (11 : Int32)), (.ref b1), (.ref b1)])) rfl rfl (hb hby at_82)
  have V49 : Arv Z h49 b1 k1 (.object "com/example/tetrad/tetrad/description/Type$Primitive") (30 : Int32) [(.ref w_INT), (.ref w_UNSIGNED_INT), (.ref w_HYPER), (.ref w_UNSIGNED_HYPER), (.ref w_CHAR), (.ref w_SHORT), (.ref w_LONG), (.ref w_U_CHAR), (.ref w_U_SHORT), (.ref w_U_INT), (.ref w_U_LONG), (.ref w_INT8_T), .null, .null, .null, .null, .null, .null, .null, .null, .null, .null, .null, .null, .null, .null, .null, .null, .null, .null] .null := Arv.set Ar48 q48 Sz48 Nn48 Hh48 Gg48 rfl W49 11 rfl (Nat.le_of_ble_eq_true rfl)
  have N49 := Fr.snoc X49 N45 ge_b1
  have O50 := O46.wr W49 ge_b1
  have K49 := K45.wr W49 (Or.inr sz_b1)
  obtain ⟨T51, X51, e51, st51⟩ := getS2 X49 hx hZ hown (host := "") (Or.inl (hw _ (List.mem_of_getElem? (i := 28) rfl))) Via.refl e49 (S_INT16_T.ext O50.2) (g := (mkF m 86 #[.val (.int p1), .unset, .unset, .unset] [(.int (12 : Int32)), (.ref b1), (.ref b1)])) rfl (hb hby at_86)
  obtain ⟨cl52, Ar52, q52, Sz52, Nn52, Hh52, Gg52⟩ := V49
  have hin52 : ¬ ((12 : Int32) < 0 ∨ cl52.slots.size ≤ ((12 : Int32)).toNatClampNeg) := inb_of Sz52 ⟨by decide, by decide⟩
  obtain ⟨T53, h53, X53, e53, W53, st53⟩ := stR X51 hx hZ e51 Ar52 (j := (12 : Int32)) hin52 rfl (Sto.ofV Ar52 q52 O1v (Ins.self (X_INT16_T.ext O50.2))) (g := (mkF m 89 #[.val (.int p1), .unset, .unset, .unset] [(.ref w_INT16_T), (.int (12 : Int32)), (.ref b1), (.ref b1)])) rfl rfl (hb hby at_89)
  have V53 : Arv Z h53 b1 k1 (.object "com/example/tetrad/tetrad/description/Type$Primitive") (30 : Int32) [(.ref w_INT), (.ref w_UNSIGNED_INT), (.ref w_HYPER), (.ref w_UNSIGNED_HYPER), (.ref w_CHAR), (.ref w_SHORT), (.ref w_LONG), (.ref w_U_CHAR), (.ref w_U_SHORT), (.ref w_U_INT), (.ref w_U_LONG), (.ref w_INT8_T), (.ref w_INT16_T), .null, .null, .null, .null, .null, .null, .null, .null, .null, .null, .null, .null, .null, .null, .null, .null, .null] .null := Arv.set Ar52 q52 Sz52 Nn52 Hh52 Gg52 rfl W53 12 rfl (Nat.le_of_ble_eq_true rfl)
  have N53 := Fr.snoc X53 N49 ge_b1
  have O54 := O50.wr W53 ge_b1
  have K53 := K49.wr W53 (Or.inr sz_b1)
  obtain ⟨T55, X55, e55, st55⟩ := getS2 X53 hx hZ hown (host := "") (Or.inl (hw _ (List.mem_of_getElem? (i := 30) rfl))) Via.refl e53 (S_INT32_T.ext O54.2) (g := (mkF m 93 #[.val (.int p1), .unset, .unset, .unset] [(.int (13 : Int32)), (.ref b1), (.ref b1)])) rfl (hb hby at_93)
  obtain ⟨cl56, Ar56, q56, Sz56, Nn56, Hh56, Gg56⟩ := V53
  have hin56 : ¬ ((13 : Int32) < 0 ∨ cl56.slots.size ≤ ((13 : Int32)).toNatClampNeg) := inb_of Sz56 ⟨by decide, by decide⟩
  obtain ⟨T57, h57, X57, e57, W57, st57⟩ := stR X55 hx hZ e55 Ar56 (j := (13 : Int32)) hin56 rfl (Sto.ofV Ar56 q56 O1v (Ins.self (X_INT32_T.ext O54.2))) (g := (mkF m 96 #[.val (.int p1), .unset, .unset, .unset] [(.ref w_INT32_T), (.int (13 : Int32)), (.ref b1), (.ref b1)])) rfl rfl (hb hby at_96)
  have V57 : Arv Z h57 b1 k1 (.object "com/example/tetrad/tetrad/description/Type$Primitive") (30 : Int32) [(.ref w_INT), (.ref w_UNSIGNED_INT), (.ref w_HYPER), (.ref w_UNSIGNED_HYPER), (.ref w_CHAR), (.ref w_SHORT), (.ref w_LONG), (.ref w_U_CHAR), (.ref w_U_SHORT), (.ref w_U_INT), (.ref w_U_LONG), (.ref w_INT8_T), (.ref w_INT16_T), (.ref w_INT32_T), .null, .null, .null, .null, .null, .null, .null, .null, .null, .null, .null, .null, .null, .null, .null, .null] .null := Arv.set Ar56 q56 Sz56 Nn56 Hh56 Gg56 rfl W57 13 rfl (Nat.le_of_ble_eq_true rfl)
  have N57 := Fr.snoc X57 N53 ge_b1
  have O58 := O54.wr W57 ge_b1
  have K57 := K53.wr W57 (Or.inr sz_b1)
  obtain ⟨T59, X59, e59, st59⟩ := getS2 X57 hx hZ hown (host := "") (Or.inl (hw _ (List.mem_of_getElem? (i := 32) rfl))) Via.refl e57 (S_UINT8_T.ext O58.2) (g := (mkF m 100 #[.val (.int p1), .unset, .unset, .unset] [(.int (14 : Int32)), (.ref b1), (.ref b1)])) rfl (hb hby at_100)
  obtain ⟨cl60, Ar60, q60, Sz60, Nn60, Hh60, Gg60⟩ := V57
  have hin60 : ¬ ((14 : Int32) < 0 ∨ cl60.slots.size ≤ ((14 : Int32)).toNatClampNeg) := inb_of Sz60 ⟨by decide, by decide⟩
  obtain ⟨T61, h61, X61, e61, W61, st61⟩ := stR X59 hx hZ e59 Ar60 (j := (14 : Int32)) hin60 rfl (Sto.ofV Ar60 q60 O1v (Ins.self (X_UINT8_T.ext O58.2))) (g := (mkF m 103 #[.val (.int p1), .unset, .unset, .unset] [(.ref w_UINT8_T), (.int (14 : Int32)), (.ref b1), (.ref b1)])) rfl rfl (hb hby at_103)
  have V61 : Arv Z h61 b1 k1 (.object "com/example/tetrad/tetrad/description/Type$Primitive") (30 : Int32) [(.ref w_INT), (.ref w_UNSIGNED_INT), (.ref w_HYPER), (.ref w_UNSIGNED_HYPER), (.ref w_CHAR), (.ref w_SHORT), (.ref w_LONG), (.ref w_U_CHAR), (.ref w_U_SHORT), (.ref w_U_INT), (.ref w_U_LONG), (.ref w_INT8_T), (.ref w_INT16_T), (.ref w_INT32_T), (.ref w_UINT8_T), .null, .null, .null, .null, .null, .null, .null, .null, .null, .null, .null, .null, .null, .null, .null] .null := Arv.set Ar60 q60 Sz60 Nn60 Hh60 Gg60 rfl W61 14 rfl (Nat.le_of_ble_eq_true rfl)
  have N61 := Fr.snoc X61 N57 ge_b1
  have O62 := O58.wr W61 ge_b1
  have K61 := K57.wr W61 (Or.inr sz_b1)
  obtain ⟨T63, X63, e63, st63⟩ := getS2 X61 hx hZ hown (host := "") (Or.inl (hw _ (List.mem_of_getElem? (i := 34) rfl))) Via.refl e61 (S_UINT16_T.ext O62.2) (g := (mkF m 107 #[.val (.int p1), .unset, .unset, .unset] [(.int (15 : Int32)), (.ref b1), (.ref b1)])) rfl (hb hby at_107)
  obtain ⟨cl64, Ar64, q64, Sz64, Nn64, Hh64, Gg64⟩ := V61
  have hin64 : ¬ ((15 : Int32) < 0 ∨ cl64.slots.size ≤ ((15 : Int32)).toNatClampNeg) := inb_of Sz64 ⟨by decide, by decide⟩
  obtain ⟨T65, h65, X65, e65, W65, st65⟩ := stR X63 hx hZ e63 Ar64 (j := (15 : Int32)) hin64 rfl (Sto.ofV Ar64 q64 O1v (Ins.self (X_UINT16_T.ext O62.2))) (g := (mkF m 110 #[.val (.int p1), .unset, .unset, .unset] [(.ref w_UINT16_T), (.int (15 : Int32)), (.ref b1), (.ref b1)])) rfl rfl (hb hby at_110)
  have V65 : Arv Z h65 b1 k1 (.object "com/example/tetrad/tetrad/description/Type$Primitive") (30 : Int32) [(.ref w_INT), (.ref w_UNSIGNED_INT), (.ref w_HYPER), (.ref w_UNSIGNED_HYPER), (.ref w_CHAR), (.ref w_SHORT), (.ref w_LONG), (.ref w_U_CHAR), (.ref w_U_SHORT), (.ref w_U_INT), (.ref w_U_LONG), (.ref w_INT8_T), (.ref w_INT16_T), (.ref w_INT32_T), (.ref w_UINT8_T), (.ref w_UINT16_T), .null, .null, .null, .null, .null, .null, .null, .null, .null, .null, .null, .null, .null, .null] .null := Arv.set Ar64 q64 Sz64 Nn64 Hh64 Gg64 rfl W65 15 rfl (Nat.le_of_ble_eq_true rfl)
  have N65 := Fr.snoc X65 N61 ge_b1
  have O66 := O62.wr W65 ge_b1
  have K65 := K61.wr W65 (Or.inr sz_b1)
  obtain ⟨T67, X67, e67, st67⟩ := getS2 X65 hx hZ hown (host := "") (Or.inl (hw _ (List.mem_of_getElem? (i := 36) rfl))) Via.refl e65 (S_UINT32_T.ext O66.2) (g := (mkF m 114 #[.val (.int p1), .unset, .unset, .unset] [(.int (16 : Int32)), (.ref b1), (.ref b1)])) rfl (hb hby at_114)
  obtain ⟨cl68, Ar68, q68, Sz68, Nn68, Hh68, Gg68⟩ := V65
  have hin68 : ¬ ((16 : Int32) < 0 ∨ cl68.slots.size ≤ ((16 : Int32)).toNatClampNeg) := inb_of Sz68 ⟨by decide, by decide⟩
  obtain ⟨T69, h69, X69, e69, W69, st69⟩ := stR X67 hx hZ e67 Ar68 (j := (16 : Int32)) hin68 rfl (Sto.ofV Ar68 q68 O1v (Ins.self (X_UINT32_T.ext O66.2))) (g := (mkF m 117 #[.val (.int p1), .unset, .unset, .unset] [(.ref w_UINT32_T), (.int (16 : Int32)), (.ref b1), (.ref b1)])) rfl rfl (hb hby at_117)
  have V69 : Arv Z h69 b1 k1 (.object "com/example/tetrad/tetrad/description/Type$Primitive") (30 : Int32) [(.ref w_INT), (.ref w_UNSIGNED_INT), (.ref w_HYPER), (.ref w_UNSIGNED_HYPER), (.ref w_CHAR), (.ref w_SHORT), (.ref w_LONG), (.ref w_U_CHAR), (.ref w_U_SHORT), (.ref w_U_INT), (.ref w_U_LONG), (.ref w_INT8_T), (.ref w_INT16_T), (.ref w_INT32_T), (.ref w_UINT8_T), (.ref w_UINT16_T), (.ref w_UINT32_T), .null, .null, .null, .null, .null, .null, .null, .null, .null, .null, .null, .null, .null] .null := Arv.set Ar68 q68 Sz68 Nn68 Hh68 Gg68 rfl W69 16 rfl (Nat.le_of_ble_eq_true rfl)
  have N69 := Fr.snoc X69 N65 ge_b1
  have O70 := O66.wr W69 ge_b1
  have K69 := K65.wr W69 (Or.inr sz_b1)
  obtain ⟨T71, X71, e71, st71⟩ := getS2 X69 hx hZ hown (host := "") (Or.inl (hw _ (List.mem_of_getElem? (i := 38) rfl))) Via.refl e69 (S_U_INT8_T.ext O70.2) (g := (mkF m 121 #[.val (.int p1), .unset, .unset, .unset] [(.int (17 : Int32)), (.ref b1), (.ref b1)])) rfl (hb hby at_121)
  obtain ⟨cl72, Ar72, q72, Sz72, Nn72, Hh72, Gg72⟩ := V69
  have hin72 : ¬ ((17 : Int32) < 0 ∨ cl72.slots.size ≤ ((17 : Int32)).toNatClampNeg) := inb_of Sz72 ⟨by decide, by decide⟩
  obtain ⟨T73, h73, X73, e73, W73, st73⟩ := stR X71 hx hZ e71 Ar72 (j := (17 : Int32)) hin72 rfl (Sto.ofV Ar72 q72 O1v (Ins.self (X_U_INT8_T.ext O70.2))) (g := (mkF m 124 #[.val (.int p1), .unset, .unset, .unset] [(.ref w_U_INT8_T), (.int (17 : Int32)), (.ref b1), (.ref b1)])) rfl rfl (hb hby at_124)
  have V73 : Arv Z h73 b1 k1 (.object "com/example/tetrad/tetrad/description/Type$Primitive") (30 : Int32) [(.ref w_INT), (.ref w_UNSIGNED_INT), (.ref w_HYPER), (.ref w_UNSIGNED_HYPER), (.ref w_CHAR), (.ref w_SHORT), (.ref w_LONG), (.ref w_U_CHAR), (.ref w_U_SHORT), (.ref w_U_INT), (.ref w_U_LONG), (.ref w_INT8_T), (.ref w_INT16_T), (.ref w_INT32_T), (.ref w_UINT8_T), (.ref w_UINT16_T), (.ref w_UINT32_T), (.ref w_U_INT8_T), .null, .null, .null, .null, .null, .null, .null, .null, .null, .null, .null, .null] .null := Arv.set Ar72 q72 Sz72 Nn72 Hh72 Gg72 rfl W73 17 rfl (Nat.le_of_ble_eq_true rfl)
  have N73 := Fr.snoc X73 N69 ge_b1
  have O74 := O70.wr W73 ge_b1
  have K73 := K69.wr W73 (Or.inr sz_b1)
  obtain ⟨T75, X75, e75, st75⟩ := getS2 X73 hx hZ hown (host := "") (Or.inl (hw _ (List.mem_of_getElem? (i := 40) rfl))) Via.refl e73 (S_U_INT16_T.ext O74.2) (g := (mkF m 128 #[.val (.int p1), .unset, .unset, .unset] [(.int (18 : Int32)), (.ref b1), (.ref b1)])) rfl (hb hby at_128)
  obtain ⟨cl76, Ar76, q76, Sz76, Nn76, Hh76, Gg76⟩ := V73
  have hin76 : ¬ ((18 : Int32) < 0 ∨ cl76.slots.size ≤ ((18 : Int32)).toNatClampNeg) := inb_of Sz76 ⟨by decide, by decide⟩
  obtain ⟨T77, h77, X77, e77, W77, st77⟩ := stR X75 hx hZ e75 Ar76 (j := (18 : Int32)) hin76 rfl (Sto.ofV Ar76 q76 O1v (Ins.self (X_U_INT16_T.ext O74.2))) (g := (mkF m 131 #[.val (.int p1), .unset, .unset, .unset] [(.ref w_U_INT16_T), (.int (18 : Int32)), (.ref b1), (.ref b1)])) rfl rfl (hb hby at_131)
  have V77 : Arv Z h77 b1 k1 (.object "com/example/tetrad/tetrad/description/Type$Primitive") (30 : Int32) [(.ref w_INT), (.ref w_UNSIGNED_INT), (.ref w_HYPER), (.ref w_UNSIGNED_HYPER), (.ref w_CHAR), (.ref w_SHORT), (.ref w_LONG), (.ref w_U_CHAR), (.ref w_U_SHORT), (.ref w_U_INT), (.ref w_U_LONG), (.ref w_INT8_T), (.ref w_INT16_T), (.ref w_INT32_T), (.ref w_UINT8_T), (.ref w_UINT16_T), (.ref w_UINT32_T), (.ref w_U_INT8_T), (.ref w_U_INT16_T), .null, .null, .null, .null, .null, .null, .null, .null, .null, .null, .null] .null := Arv.set Ar76 q76 Sz76 Nn76 Hh76 Gg76 rfl W77 18 rfl (Nat.le_of_ble_eq_true rfl)
  have N77 := Fr.snoc X77 N73 ge_b1
  have O78 := O74.wr W77 ge_b1
  have K77 := K73.wr W77 (Or.inr sz_b1)
  obtain ⟨T79, X79, e79, st79⟩ := getS2 X77 hx hZ hown (host := "") (Or.inl (hw _ (List.mem_of_getElem? (i := 42) rfl))) Via.refl e77 (S_U_INT32_T.ext O78.2) (g := (mkF m 135 #[.val (.int p1), .unset, .unset, .unset] [(.int (19 : Int32)), (.ref b1), (.ref b1)])) rfl (hb hby at_135)
  obtain ⟨cl80, Ar80, q80, Sz80, Nn80, Hh80, Gg80⟩ := V77
  have hin80 : ¬ ((19 : Int32) < 0 ∨ cl80.slots.size ≤ ((19 : Int32)).toNatClampNeg) := inb_of Sz80 ⟨by decide, by decide⟩
  obtain ⟨T81, h81, X81, e81, W81, st81⟩ := stR X79 hx hZ e79 Ar80 (j := (19 : Int32)) hin80 rfl (Sto.ofV Ar80 q80 O1v (Ins.self (X_U_INT32_T.ext O78.2))) (g := (mkF m 138 #[.val (.int p1), .unset, .unset, .unset] [(.ref w_U_INT32_T), (.int (19 : Int32)), (.ref b1), (.ref b1)])) rfl rfl (hb hby at_138)
  have V81 : Arv Z h81 b1 k1 (.object "com/example/tetrad/tetrad/description/Type$Primitive") (30 : Int32) [(.ref w_INT), (.ref w_UNSIGNED_INT), (.ref w_HYPER), (.ref w_UNSIGNED_HYPER), (.ref w_CHAR), (.ref w_SHORT), (.ref w_LONG), (.ref w_U_CHAR), (.ref w_U_SHORT), (.ref w_U_INT), (.ref w_U_LONG), (.ref w_INT8_T), (.ref w_INT16_T), (.ref w_INT32_T), (.ref w_UINT8_T), (.ref w_UINT16_T), (.ref w_UINT32_T), (.ref w_U_INT8_T), (.ref w_U_INT16_T), (.ref w_U_INT32_T), .null, .null, .null, .null, .null, .null, .null, .null, .null, .null] .null := Arv.set Ar80 q80 Sz80 Nn80 Hh80 Gg80 rfl W81 19 rfl (Nat.le_of_ble_eq_true rfl)
  have N81 := Fr.snoc X81 N77 ge_b1
  have O82 := O78.wr W81 ge_b1
  have K81 := K77.wr W81 (Or.inr sz_b1)
  obtain ⟨T83, X83, e83, st83⟩ := getS2 X81 hx hZ hown (host := "") (Or.inl (hw _ (List.mem_of_getElem? (i := 44) rfl))) Via.refl e81 (S_INT64_T.ext O82.2) (g := (mkF m 142 #[.val (.int p1), .unset, .unset, .unset] [(.int (20 : Int32)), (.ref b1), (.ref b1)])) rfl (hb hby at_142)
  obtain ⟨cl84, Ar84, q84, Sz84, Nn84, Hh84, Gg84⟩ := V81
  have hin84 : ¬ ((20 : Int32) < 0 ∨ cl84.slots.size ≤ ((20 : Int32)).toNatClampNeg) := inb_of Sz84 ⟨by decide, by decide⟩
  obtain ⟨T85, h85, X85, e85, W85, st85⟩ := stR X83 hx hZ e83 Ar84 (j := (20 : Int32)) hin84 rfl (Sto.ofV Ar84 q84 O1v (Ins.self (X_INT64_T.ext O82.2))) (g := (mkF m 145 #[.val (.int p1), .unset, .unset, .unset] [(.ref w_INT64_T), (.int (20 : Int32)), (.ref b1), (.ref b1)])) rfl rfl (hb hby at_145)
  have V85 : Arv Z h85 b1 k1 (.object "com/example/tetrad/tetrad/description/Type$Primitive") (30 : Int32) [(.ref w_INT), (.ref w_UNSIGNED_INT), (.ref w_HYPER), (.ref w_UNSIGNED_HYPER), (.ref w_CHAR), (.ref w_SHORT), (.ref w_LONG), (.ref w_U_CHAR), (.ref w_U_SHORT), (.ref w_U_INT), (.ref w_U_LONG), (.ref w_INT8_T), (.ref w_INT16_T), (.ref w_INT32_T), (.ref w_UINT8_T), (.ref w_UINT16_T), (.ref w_UINT32_T), (.ref w_U_INT8_T), (.ref w_U_INT16_T), (.ref w_U_INT32_T), (.ref w_INT64_T), .null, .null, .null, .null, .null, .null, .null, .null, .null] .null := Arv.set Ar84 q84 Sz84 Nn84 Hh84 Gg84 rfl W85 20 rfl (Nat.le_of_ble_eq_true rfl)
  have N85 := Fr.snoc X85 N81 ge_b1
  have O86 := O82.wr W85 ge_b1
  have K85 := K81.wr W85 (Or.inr sz_b1)
  obtain ⟨T87, X87, e87, st87⟩ := getS2 X85 hx hZ hown (host := "") (Or.inl (hw _ (List.mem_of_getElem? (i := 46) rfl))) Via.refl e85 (S_UINT64_T.ext O86.2) (g := (mkF m 149 #[.val (.int p1), .unset, .unset, .unset] [(.int (21 : Int32)), (.ref b1), (.ref b1)])) rfl (hb hby at_149)
  obtain ⟨cl88, Ar88, q88, Sz88, Nn88, Hh88, Gg88⟩ := V85
  have hin88 : ¬ ((21 : Int32) < 0 ∨ cl88.slots.size ≤ ((21 : Int32)).toNatClampNeg) := inb_of Sz88 ⟨by decide, by decide⟩
  obtain ⟨T89, h89, X89, e89, W89, st89⟩ := stR X87 hx hZ e87 Ar88 (j := (21 : Int32)) hin88 rfl (Sto.ofV Ar88 q88 O1v (Ins.self (X_UINT64_T.ext O86.2))) (g := (mkF m 152 #[.val (.int p1), .unset, .unset, .unset] [(.ref w_UINT64_T), (.int (21 : Int32)), (.ref b1), (.ref b1)])) rfl rfl (hb hby at_152)
  have V89 : Arv Z h89 b1 k1 (.object "com/example/tetrad/tetrad/description/Type$Primitive") (30 : Int32) [(.ref w_INT), (.ref w_UNSIGNED_INT), (.ref w_HYPER), (.ref w_UNSIGNED_HYPER), (.ref w_CHAR), (.ref w_SHORT), (.ref w_LONG), (.ref w_U_CHAR), (.ref w_U_SHORT), (.ref w_U_INT), (.ref w_U_LONG), (.ref w_INT8_T), (.ref w_INT16_T), (.ref w_INT32_T), (.ref w_UINT8_T), (.ref w_UINT16_T), (.ref w_UINT32_T), (.ref w_U_INT8_T), (.ref w_U_INT16_T), (.ref w_U_INT32_T), (.ref w_INT64_T), (.ref w_UINT64_T), .null, .null, .null, .null, .null, .null, .null, .null] .null := Arv.set Ar88 q88 Sz88 Nn88 Hh88 Gg88 rfl W89 21 rfl (Nat.le_of_ble_eq_true rfl)
  have N89 := Fr.snoc X89 N85 ge_b1
  have O90 := O86.wr W89 ge_b1
  have K89 := K85.wr W89 (Or.inr sz_b1)
  obtain ⟨T91, X91, e91, st91⟩ := getS2 X89 hx hZ hown (host := "") (Or.inl (hw _ (List.mem_of_getElem? (i := 48) rfl))) Via.refl e89 (S_U_INT64_T.ext O90.2) (g := (mkF m 156 #[.val (.int p1), .unset, .unset, .unset] [(.int (22 : Int32)), (.ref b1), (.ref b1)])) rfl (hb hby at_156)
  obtain ⟨cl92, Ar92, q92, Sz92, Nn92, Hh92, Gg92⟩ := V89
  have hin92 : ¬ ((22 : Int32) < 0 ∨ cl92.slots.size ≤ ((22 : Int32)).toNatClampNeg) := inb_of Sz92 ⟨by decide, by decide⟩
  obtain ⟨T93, h93, X93, e93, W93, st93⟩ := stR X91 hx hZ e91 Ar92 (j := (22 : Int32)) hin92 rfl (Sto.ofV Ar92 q92 O1v (Ins.self (X_U_INT64_T.ext O90.2))) (g := (mkF m 159 #[.val (.int p1), .unset, .unset, .unset] [(.ref w_U_INT64_T), (.int (22 : Int32)), (.ref b1), (.ref b1)])) rfl rfl (hb hby at_159)
  have V93 : Arv Z h93 b1 k1 (.object "com/example/tetrad/tetrad/description/Type$Primitive") (30 : Int32) [(.ref w_INT), (.ref w_UNSIGNED_INT), (.ref w_HYPER), (.ref w_UNSIGNED_HYPER), (.ref w_CHAR), (.ref w_SHORT), (.ref w_LONG), (.ref w_U_CHAR), (.ref w_U_SHORT), (.ref w_U_INT), (.ref w_U_LONG), (.ref w_INT8_T), (.ref w_INT16_T), (.ref w_INT32_T), (.ref w_UINT8_T), (.ref w_UINT16_T), (.ref w_UINT32_T), (.ref w_U_INT8_T), (.ref w_U_INT16_T), (.ref w_U_INT32_T), (.ref w_INT64_T), (.ref w_UINT64_T), (.ref w_U_INT64_T), .null, .null, .null, .null, .null, .null, .null] .null := Arv.set Ar92 q92 Sz92 Nn92 Hh92 Gg92 rfl W93 22 rfl (Nat.le_of_ble_eq_true rfl)
  have N93 := Fr.snoc X93 N89 ge_b1
  have O94 := O90.wr W93 ge_b1
  have K93 := K89.wr W93 (Or.inr sz_b1)
  obtain ⟨T95, X95, e95, st95⟩ := getS2 X93 hx hZ hown (host := "") (Or.inl (hw _ (List.mem_of_getElem? (i := 50) rfl))) Via.refl e93 (S_QUAD_T.ext O94.2) (g := (mkF m 163 #[.val (.int p1), .unset, .unset, .unset] [(.int (23 : Int32)), (.ref b1), (.ref b1)])) rfl (hb hby at_163)
  obtain ⟨cl96, Ar96, q96, Sz96, Nn96, Hh96, Gg96⟩ := V93
  have hin96 : ¬ ((23 : Int32) < 0 ∨ cl96.slots.size ≤ ((23 : Int32)).toNatClampNeg) := inb_of Sz96 ⟨by decide, by decide⟩
  obtain ⟨T97, h97, X97, e97, W97, st97⟩ := stR X95 hx hZ e95 Ar96 (j := (23 : Int32)) hin96 rfl (Sto.ofV Ar96 q96 O1v (Ins.self (X_QUAD_T.ext O94.2))) (g := (mkF m 166 #[.val (.int p1), .unset, .unset, .unset] [(.ref w_QUAD_T), (.int (23 : Int32)), (.ref b1), (.ref b1)])) rfl rfl (hb hby at_166)
  have V97 : Arv Z h97 b1 k1 (.object "com/example/tetrad/tetrad/description/Type$Primitive") (30 : Int32) [(.ref w_INT), (.ref w_UNSIGNED_INT), (.ref w_HYPER), (.ref w_UNSIGNED_HYPER), (.ref w_CHAR), (.ref w_SHORT), (.ref w_LONG), (.ref w_U_CHAR), (.ref w_U_SHORT), (.ref w_U_INT), (.ref w_U_LONG), (.ref w_INT8_T), (.ref w_INT16_T), (.ref w_INT32_T), (.ref w_UINT8_T), (.ref w_UINT16_T), (.ref w_UINT32_T), (.ref w_U_INT8_T), (.ref w_U_INT16_T), (.ref w_U_INT32_T), (.ref w_INT64_T), (.ref w_UINT64_T), (.ref w_U_INT64_T), (.ref w_QUAD_T), .null, .null, .null, .null, .null, .null] .null := Arv.set Ar96 q96 Sz96 Nn96 Hh96 Gg96 rfl W97 23 rfl (Nat.le_of_ble_eq_true rfl)
  have N97 := Fr.snoc X97 N93 ge_b1
  have O98 := O94.wr W97 ge_b1
  have K97 := K93.wr W97 (Or.inr sz_b1)
  obtain ⟨T99, X99, e99, st99⟩ := getS2 X97 hx hZ hown (host := "") (Or.inl (hw _ (List.mem_of_getElem? (i := 52) rfl))) Via.refl e97 (S_U_QUAD_T.ext O98.2) (g := (mkF m 170 #[.val (.int p1), .unset, .unset, .unset] [(.int (24 : Int32)), (.ref b1), (.ref b1)])) rfl (hb hby at_170)
  obtain ⟨cl100, Ar100, q100, Sz100, Nn100, Hh100, Gg100⟩ := V97
  have hin100 : ¬ ((24 : Int32) < 0 ∨ cl100.slots.size ≤ ((24 : Int32)).toNatClampNeg) := inb_of Sz100 ⟨by decide, by decide⟩
  obtain ⟨T101, h101, X101, e101, W101, st101⟩ := stR X99 hx hZ e99 Ar100 (j := (24 : Int32)) hin100 rfl (Sto.ofV Ar100 q100 O1v (Ins.self (X_U_QUAD_T.ext O98.2))) (g := (mkF m 173 #[.val (.int p1), .unset, .unset, .unset] [(.ref w_U_QUAD_T), (.int (24 : Int32)), (.ref b1), (.ref b1)])) rfl rfl (hb hby at_173)
  have V101 : Arv Z h101 b1 k1 (.object "com/example/tetrad/tetrad/description/Type$Primitive") (30 : Int32) [(.ref w_INT), (.ref w_UNSIGNED_INT), (.ref w_HYPER), (.ref w_UNSIGNED_HYPER), (.ref w_CHAR), (.ref w_SHORT), (.ref w_LONG), (.ref w_U_CHAR), (.ref w_U_SHORT), (.ref w_U_INT), (.ref w_U_LONG), (.ref w_INT8_T), (.ref w_INT16_T), (.ref w_INT32_T), (.ref w_UINT8_T), (.ref w_UINT16_T), (.ref w_UINT32_T), (.ref w_U_INT8_T), (.ref w_U_INT16_T), (.ref w_U_INT32_T), (.ref w_INT64_T), (.ref w_UINT64_T), (.ref w_U_INT64_T), (.ref w_QUAD_T), (.ref w_U_QUAD_T), .null, .null, .null, .null, .null] .null := Arv.set Ar100 q100 Sz100 Nn100 Hh100 Gg100 rfl W101 24 rfl (Nat.le_of_ble_eq_true rfl)
  have N101 := Fr.snoc X101 N97 ge_b1
  have O102 := O98.wr W101 ge_b1
  have K101 := K97.wr W101 (Or.inr sz_b1)
  obtain ⟨T103, X103, e103, st103⟩ := getS2 X101 hx hZ hown (host := "") (Or.inl (hw _ (List.mem_of_getElem? (i := 54) rfl))) Via.refl e101 (S_BOOL.ext O102.2) (g := (mkF m 177 #[.val (.int p1), .unset, .unset, .unset] [(.int (25 : Int32)), (.ref b1), (.ref b1)])) rfl (hb hby at_177)
  obtain ⟨cl104, Ar104, q104, Sz104, Nn104, Hh104, Gg104⟩ := V101
  have hin104 : ¬ ((25 : Int32) < 0 ∨ cl104.slots.size ≤ ((25 : Int32)).toNatClampNeg) := inb_of Sz104 ⟨by decide, by decide⟩
  obtain ⟨T105, h105, X105, e105, W105, st105⟩ := stR X103 hx hZ e103 Ar104 (j := (25 : Int32)) hin104 rfl (Sto.ofV Ar104 q104 O1v (Ins.self (X_BOOL.ext O102.2))) (g := (mkF m 180 #[.val (.int p1), .unset, .unset, .unset] [(.ref w_BOOL), (.int (25 : Int32)), (.ref b1), (.ref b1)])) rfl rfl (hb hby at_180)
  have V105 : Arv Z h105 b1 k1 (.object "com/example/tetrad/tetrad/description/Type$Primitive") (30 : Int32) [(.ref w_INT), (.ref w_UNSIGNED_INT), (.ref w_HYPER), (.ref w_UNSIGNED_HYPER), (.ref w_CHAR), (.ref w_SHORT), (.ref w_LONG), (.ref w_U_CHAR), (.ref w_U_SHORT), (.ref w_U_INT), (.ref w_U_LONG), (.ref w_INT8_T), (.ref w_INT16_T), (.ref w_INT32_T), (.ref w_UINT8_T), (.ref w_UINT16_T), (.ref w_UINT32_T), (.ref w_U_INT8_T), (.ref w_U_INT16_T), (.ref w_U_INT32_T), (.ref w_INT64_T), (.ref w_UINT64_T), (.ref w_U_INT64_T), (.ref w_QUAD_T), (.ref w_U_QUAD_T), (.ref w_BOOL), .null, .null, .null, .null] .null := Arv.set Ar104 q104 Sz104 Nn104 Hh104 Gg104 rfl W105 25 rfl (Nat.le_of_ble_eq_true rfl)
  have N105 := Fr.snoc X105 N101 ge_b1
  have O106 := O102.wr W105 ge_b1
  have K105 := K101.wr W105 (Or.inr sz_b1)
  obtain ⟨T107, X107, e107, st107⟩ := getS2 X105 hx hZ hown (host := "") (Or.inl (hw _ (List.mem_of_getElem? (i := 56) rfl))) Via.refl e105 (S_FLOAT.ext O106.2) (g := (mkF m 184 #[.val (.int p1), .unset, .unset, .unset] [(.int (26 : Int32)), (.ref b1), (.ref b1)])) rfl (hb hby at_184)
  obtain ⟨cl108, Ar108, q108, Sz108, Nn108, Hh108, Gg108⟩ := V105
  have hin108 : ¬ ((26 : Int32) < 0 ∨ cl108.slots.size ≤ ((26 : Int32)).toNatClampNeg) := inb_of Sz108 ⟨by decide, by decide⟩
  obtain ⟨T109, h109, X109, e109, W109, st109⟩ := stR X107 hx hZ e107 Ar108 (j := (26 : Int32)) hin108 rfl (Sto.ofV Ar108 q108 O1v (Ins.self (X_FLOAT.ext O106.2))) (g := (mkF m 187 #[.val (.int p1), .unset, .unset, .unset] [(.ref w_FLOAT), (.int (26 : Int32)), (.ref b1), (.ref b1)])) rfl rfl (hb hby at_187)
  have V109 : Arv Z h109 b1 k1 (.object "com/example/tetrad/tetrad/description/Type$Primitive") (30 : Int32) [(.ref w_INT), (.ref w_UNSIGNED_INT), (.ref w_HYPER), (.ref w_UNSIGNED_HYPER), (.ref w_CHAR), (.ref w_SHORT), (.ref w_LONG), (.ref w_U_CHAR), (.ref w_U_SHORT), (.ref w_U_INT), (.ref w_U_LONG), (.ref w_INT8_T), (.ref w_INT16_T), (.ref w_INT32_T), (.ref w_UINT8_T), (.ref w_UINT16_T), (.ref w_UINT32_T), (.ref w_U_INT8_T), (.ref w_U_INT16_T), (.ref w_U_INT32_T), (.ref w_INT64_T), (.ref w_UINT64_T), (.ref w_U_INT64_T), (.ref w_QUAD_T), (.ref w_U_QUAD_T), (.ref w_BOOL), (.ref w_FLOAT), .null, .null, .null] .null := Arv.set Ar108 q108 Sz108 Nn108 Hh108 Gg108 rfl W109 26 rfl (Nat.le_of_ble_eq_true rfl)
  have N109 := Fr.snoc X109 N105 ge_b1
  have O110 := O106.wr W109 ge_b1
  have K109 := K105.wr W109 (Or.inr sz_b1)
  obtain ⟨T111, X111, e111, st111⟩ := getS2 X109 hx hZ hown (host := "") (Or.inl (hw _ (List.mem_of_getElem? (i := 58) rfl))) Via.refl e109 (S_DOUBLE.ext O110.2) (g := (mkF m 191 #[.val (.int p1), .unset, .unset, .unset] [(.int (27 : Int32)), (.ref b1), (.ref b1)])) rfl (hb hby at_191)
  obtain ⟨cl112, Ar112, q112, Sz112, Nn112, Hh112, Gg112⟩ := V109
  have hin112 : ¬ ((27 : Int32) < 0 ∨ cl112.slots.size ≤ ((27 : Int32)).toNatClampNeg) := inb_of Sz112 ⟨by decide, by decide⟩
  obtain ⟨T113, h113, X113, e113, W113, st113⟩ := stR X111 hx hZ e111 Ar112 (j := (27 : Int32)) hin112 rfl (Sto.ofV Ar112 q112 O1v (Ins.self (X_DOUBLE.ext O110.2))) (g := (mkF m 194 #[.val (.int p1), .unset, .unset, .unset] [(.ref w_DOUBLE), (.int (27 : Int32)), (.ref b1), (.ref b1)])) rfl rfl (hb hby at_194)
  have V113 : Arv Z h113 b1 k1 (.object "com/example/tetrad/tetrad/description/Type$Primitive") (30 : Int32) [(.ref w_INT), (.ref w_UNSIGNED_INT), (.ref w_HYPER), (.ref w_UNSIGNED_HYPER), (.ref w_CHAR), (.ref w_SHORT), (.ref w_LONG), (.ref w_U_CHAR), (.ref w_U_SHORT), (.ref w_U_INT), (.ref w_U_LONG), (.ref w_INT8_T), (.ref w_INT16_T), (.ref w_INT32_T), (.ref w_UINT8_T), (.ref w_UINT16_T), (.ref w_UINT32_T), (.ref w_U_INT8_T), (.ref w_U_INT16_T), (.ref w_U_INT32_T), (.ref w_INT64_T), (.ref w_UINT64_T), (.ref w_U_INT64_T), (.ref w_QUAD_T), (.ref w_U_QUAD_T), (.ref w_BOOL), (.ref w_FLOAT), (.ref w_DOUBLE), .null, .null] .null := Arv.set Ar112 q112 Sz112 Nn112 Hh112 Gg112 rfl W113 27 rfl (Nat.le_of_ble_eq_true rfl)
  have N113 := Fr.snoc X113 N109 ge_b1
  have O114 := O110.wr W113 ge_b1
  have K113 := K109.wr W113 (Or.inr sz_b1)
  obtain ⟨T115, X115, e115, st115⟩ := getS2 X113 hx hZ hown (host := "") (Or.inl (hw _ (List.mem_of_getElem? (i := 60) rfl))) Via.refl e113 (S_QUADRUPLE.ext O114.2) (g := (mkF m 198 #[.val (.int p1), .unset, .unset, .unset] [(.int (28 : Int32)), (.ref b1), (.ref b1)])) rfl (hb hby at_198)
  obtain ⟨cl116, Ar116, q116, Sz116, Nn116, Hh116, Gg116⟩ := V113
  have hin116 : ¬ ((28 : Int32) < 0 ∨ cl116.slots.size ≤ ((28 : Int32)).toNatClampNeg) := inb_of Sz116 ⟨by decide, by decide⟩
  obtain ⟨T117, h117, X117, e117, W117, st117⟩ := stR X115 hx hZ e115 Ar116 (j := (28 : Int32)) hin116 rfl (Sto.ofV Ar116 q116 O1v (Ins.self (X_QUADRUPLE.ext O114.2))) (g := (mkF m 201 #[.val (.int p1), .unset, .unset, .unset] [(.ref w_QUADRUPLE), (.int (28 : Int32)), (.ref b1), (.ref b1)])) rfl rfl (hb hby at_201)
  have V117 : Arv Z h117 b1 k1 (.object "com/example/tetrad/tetrad/description/Type$Primitive") (30 : Int32) [(.ref w_INT), (.ref w_UNSIGNED_INT), (.ref w_HYPER), (.ref w_UNSIGNED_HYPER), (.ref w_CHAR), (.ref w_SHORT), (.ref w_LONG), (.ref w_U_CHAR), (.ref w_U_SHORT), (.ref w_U_INT), (.ref w_U_LONG), (.ref w_INT8_T), (.ref w_INT16_T), (.ref w_INT32_T), (.ref w_UINT8_T), (.ref w_UINT16_T), (.ref w_UINT32_T), (.ref w_U_INT8_T), (.ref w_U_INT16_T), (.ref w_U_INT32_T), (.ref w_INT64_T), (.ref w_UINT64_T), (.ref w_U_INT64_T), (.ref w_QUAD_T), (.ref w_U_QUAD_T), (.ref w_BOOL), (.ref w_FLOAT), (.ref w_DOUBLE), (.ref w_QUADRUPLE), .null] .null := Arv.set Ar116 q116 Sz116 Nn116 Hh116 Gg116 rfl W117 28 rfl (Nat.le_of_ble_eq_true rfl)
  have N117 := Fr.snoc X117 N113 ge_b1
  have O118 := O114.wr W117 ge_b1
  have K117 := K113.wr W117 (Or.inr sz_b1)
  obtain ⟨T119, X119, e119, st119⟩ := getS2 X117 hx hZ hown (host := "") (Or.inl (hw _ (List.mem_of_getElem? (i := 62) rfl))) Via.refl e117 (S_VOID.ext O118.2) (g := (mkF m 205 #[.val (.int p1), .unset, .unset, .unset] [(.int (29 : Int32)), (.ref b1), (.ref b1)])) rfl (hb hby at_205)
  obtain ⟨cl120, Ar120, q120, Sz120, Nn120, Hh120, Gg120⟩ := V117
  have hin120 : ¬ ((29 : Int32) < 0 ∨ cl120.slots.size ≤ ((29 : Int32)).toNatClampNeg) := inb_of Sz120 ⟨by decide, by decide⟩
  obtain ⟨T121, h121, X121, e121, W121, st121⟩ := stR X119 hx hZ e119 Ar120 (j := (29 : Int32)) hin120 rfl (Sto.ofV Ar120 q120 O1v (Ins.self (X_VOID.ext O118.2))) (g := (mkF m 208 #[.val (.int p1), .unset, .unset, .unset] [(.ref w_VOID), (.int (29 : Int32)), (.ref b1), (.ref b1)])) rfl rfl (hb hby at_208)
  have V121 : Arv Z h121 b1 k1 (.object "com/example/tetrad/tetrad/description/Type$Primitive") (30 : Int32) [(.ref w_INT), (.ref w_UNSIGNED_INT), (.ref w_HYPER), (.ref w_UNSIGNED_HYPER), (.ref w_CHAR), (.ref w_SHORT), (.ref w_LONG), (.ref w_U_CHAR), (.ref w_U_SHORT), (.ref w_U_INT), (.ref w_U_LONG), (.ref w_INT8_T), (.ref w_INT16_T), (.ref w_INT32_T), (.ref w_UINT8_T), (.ref w_UINT16_T), (.ref w_UINT32_T), (.ref w_U_INT8_T), (.ref w_U_INT16_T), (.ref w_U_INT32_T), (.ref w_INT64_T), (.ref w_UINT64_T), (.ref w_U_INT64_T), (.ref w_QUAD_T), (.ref w_U_QUAD_T), (.ref w_BOOL), (.ref w_FLOAT), (.ref w_DOUBLE), (.ref w_QUADRUPLE), (.ref w_VOID)] .null := Arv.set Ar120 q120 Sz120 Nn120 Hh120 Gg120 rfl W121 29 rfl (Nat.le_of_ble_eq_true rfl)
  have N121 := Fr.snoc X121 N117 ge_b1
  have O122 := O118.wr W121 ge_b1
  have K121 := K117.wr W121 (Or.inr sz_b1)
  obtain ⟨u123, hu123⟩ : ∃ z, z = ((p1 &&& (2147483647 : Int32)) % (30 : Int32)) := ⟨_, rfl⟩
  have sg124 : ∀ target, Steps p.tables e below (T121.setTop (mkF m 217 #[.val (.int p1), .val (.ref b1), .unset, .unset] [(.int u123)])) target → Steps p.tables e below (s₁.setTop (mkF m 0 #[.val (.int p1), .unset, .unset, .unset] [])) target := by
    intro target kt
    subst hu123
    show Steps p.tables e below (s₁.setTop (mkF m 0 #[.val (.int p1), .unset, .unset, .unset] [])) _
    refine XS.bipush X0.here hx rfl (hb hby at_0) ?_
    show Steps p.tables e below (s₁.setTop (mkF m 2 #[.val (.int p1), .unset, .unset, .unset] [(.int (30 : Int32))])) _
    refine st1 _ ?_
    show Steps p.tables e below (T1.setTop (mkF m 5 #[.val (.int p1), .unset, .unset, .unset] [(.ref b1)])) _
    refine XS.dup X1.here hx rfl (hb hby at_5) rfl rfl ?_
    show Steps p.tables e below (T1.setTop (mkF m 6 #[.val (.int p1), .unset, .unset, .unset] [(.ref b1), (.ref b1)])) _
    refine XS.iconst X1.here hx rfl (hb hby at_6) ?_
    show Steps p.tables e below (T1.setTop (mkF m 7 #[.val (.int p1), .unset, .unset, .unset] [(.int (0 : Int32)), (.ref b1), (.ref b1)])) _
    refine st3 _ ?_
    show Steps p.tables e below (T3.setTop (mkF m 10 #[.val (.int p1), .unset, .unset, .unset] [(.ref w_INT), (.int (0 : Int32)), (.ref b1), (.ref b1)])) _
    refine st5 _ ?_
    show Steps p.tables e below (T5.setTop (mkF m 11 #[.val (.int p1), .unset, .unset, .unset] [(.ref b1)])) _
    refine XS.dup X5.here hx rfl (hb hby at_11) rfl rfl ?_
    show Steps p.tables e below (T5.setTop (mkF m 12 #[.val (.int p1), .unset, .unset, .unset] [(.ref b1), (.ref b1)])) _
    refine XS.iconst X5.here hx rfl (hb hby at_12) ?_
    show Steps p.tables e below (T5.setTop (mkF m 13 #[.val (.int p1), .unset, .unset, .unset] [(.int (1 : Int32)), (.ref b1), (.ref b1)])) _
    refine st7 _ ?_
    show Steps p.tables e below (T7.setTop (mkF m 16 #[.val (.int p1), .unset, .unset, .unset] [(.ref w_UNSIGNED_INT), (.int (1 : Int32)), (.ref b1), (.ref b1)])) _
    refine st9 _ ?_
    show Steps p.tables e below (T9.setTop (mkF m 17 #[.val (.int p1), .unset, .unset, .unset] [(.ref b1)])) _
    refine XS.dup X9.here hx rfl (hb hby at_17) rfl rfl ?_
    show Steps p.tables e below (T9.setTop (mkF m 18 #[.val (.int p1), .unset, .unset, .unset] [(.ref b1), (.ref b1)])) _
    refine XS.iconst X9.here hx rfl (hb hby at_18) ?_
    show Steps p.tables e below (T9.setTop (mkF m 19 #[.val (.int p1), .unset, .unset, .unset] [(.int (2 : Int32)), (.ref b1), (.ref b1)])) _
    refine st11 _ ?_
    show Steps p.tables e below (T11.setTop (mkF m 22 #[.val (.int p1), .unset, .unset, .unset] [(.ref w_HYPER), (.int (2 : Int32)), (.ref b1), (.ref b1)])) _
    refine st13 _ ?_
    show Steps p.tables e below (T13.setTop (mkF m 23 #[.val (.int p1), .unset, .unset, .unset] [(.ref b1)])) _
    refine XS.dup X13.here hx rfl (hb hby at_23) rfl rfl ?_
    show Steps p.tables e below (T13.setTop (mkF m 24 #[.val (.int p1), .unset, .unset, .unset] [(.ref b1), (.ref b1)])) _
    refine XS.iconst X13.here hx rfl (hb hby at_24) ?_
    show Steps p.tables e below (T13.setTop (mkF m 25 #[.val (.int p1), .unset, .unset, .unset] [(.int (3 : Int32)), (.ref b1), (.ref b1)])) _
    refine st15 _ ?_
    show Steps p.tables e below (T15.setTop (mkF m 28 #[.val (.int p1), .unset, .unset, .unset] [(.ref w_UNSIGNED_HYPER), (.int (3 : Int32)), (.ref b1), (.ref b1)])) _
    refine st17 _ ?_
    show Steps p.tables e below (T17.setTop (mkF m 29 #[.val (.int p1), .unset, .unset, .unset] [(.ref b1)])) _
    refine XS.dup X17.here hx rfl (hb hby at_29) rfl rfl ?_
    show Steps p.tables e below (T17.setTop (mkF m 30 #[.val (.int p1), .unset, .unset, .unset] [(.ref b1), (.ref b1)])) _
    refine XS.iconst X17.here hx rfl (hb hby at_30) ?_
    show Steps p.tables e below (T17.setTop (mkF m 31 #[.val (.int p1), .unset, .unset, .unset] [(.int (4 : Int32)), (.ref b1), (.ref b1)])) _
    refine st19 _ ?_
    show Steps p.tables e below (T19.setTop (mkF m 34 #[.val (.int p1), .unset, .unset, .unset] [(.ref w_CHAR), (.int (4 : Int32)), (.ref b1), (.ref b1)])) _
    refine st21 _ ?_
    show Steps p.tables e below (T21.setTop (mkF m 35 #[.val (.int p1), .unset, .unset, .unset] [(.ref b1)])) _
    refine XS.dup X21.here hx rfl (hb hby at_35) rfl rfl ?_
    show Steps p.tables e below (T21.setTop (mkF m 36 #[.val (.int p1), .unset, .unset, .unset] [(.ref b1), (.ref b1)])) _
    refine XS.iconst X21.here hx rfl (hb hby at_36) ?_
    show Steps p.tables e below (T21.setTop (mkF m 37 #[.val (.int p1), .unset, .unset, .unset] [(.int (5 : Int32)), (.ref b1), (.ref b1)])) _
    refine st23 _ ?_
    show Steps p.tables e below (T23.setTop (mkF m 40 #[.val (.int p1), .unset, .unset, .unset] [(.ref w_SHORT), (.int (5 : Int32)), (.ref b1), (.ref b1)])) _
    refine st25 _ ?_
    show Steps p.tables e below (T25.setTop (mkF m 41 #[.val (.int p1), .unset, .unset, .unset] [(.ref b1)])) _
    refine XS.dup X25.here hx rfl (hb hby at_41) rfl rfl ?_
    show Steps p.tables e below (T25.setTop (mkF m 42 #[.val (.int p1), .unset, .unset, .unset] [(.ref b1), (.ref b1)])) _
    refine XS.bipush X25.here hx rfl (hb hby at_42) ?_
    show Steps p.tables e below (T25.setTop (mkF m 44 #[.val (.int p1), .unset, .unset, .unset] [(.int (6 : Int32)), (.ref b1), (.ref b1)])) _
    refine st27 _ ?_
    show Steps p.tables e below (T27.setTop (mkF m 47 #[.val (.int p1), .unset, .unset, .unset] [(.ref w_LONG), (.int (6 : Int32)), (.ref b1), (.ref b1)])) _
    refine st29 _ ?_
    show Steps p.tables e below (T29.setTop (mkF m 48 #[.val (.int p1), .unset, .unset, .unset] [(.ref b1)])) _
    refine XS.dup X29.here hx rfl (hb hby at_48) rfl rfl ?_
    show Steps p.tables e below (T29.setTop (mkF m 49 #[.val (.int p1), .unset, .unset, .unset] [(.ref b1), (.ref b1)])) _
    refine XS.bipush X29.here hx rfl (hb hby at_49) ?_
    show Steps p.tables e below (T29.setTop (mkF m 51 #[.val (.int p1), .unset, .unset, .unset] [(.int (7 : Int32)), (.ref b1), (.ref b1)])) _
    refine st31 _ ?_
    show Steps p.tables e below (T31.setTop (mkF m 54 #[.val (.int p1), .unset, .unset, .unset] [(.ref w_U_CHAR), (.int (7 : Int32)), (.ref b1), (.ref b1)])) _
    refine st33 _ ?_
    show Steps p.tables e below (T33.setTop (mkF m 55 #[.val (.int p1), .unset, .unset, .unset] [(.ref b1)])) _
    refine XS.dup X33.here hx rfl (hb hby at_55) rfl rfl ?_
    show Steps p.tables e below (T33.setTop (mkF m 56 #[.val (.int p1), .unset, .unset, .unset] [(.ref b1), (.ref b1)])) _
    refine XS.bipush X33.here hx rfl (hb hby at_56) ?_
    show Steps p.tables e below (T33.setTop (mkF m 58 #[.val (.int p1), .unset, .unset, .unset] [(.int (8 : Int32)), (.ref b1), (.ref b1)])) _
    refine st35 _ ?_
    show Steps p.tables e below (T35.setTop (mkF m 61 #[.val (.int p1), .unset, .unset, .unset] [(.ref w_U_SHORT), (.int (8 : Int32)), (.ref b1), (.ref b1)])) _
    refine st37 _ ?_
    show Steps p.tables e below (T37.setTop (mkF m 62 #[.val (.int p1), .unset, .unset, .unset] [(.ref b1)])) _
    refine XS.dup X37.here hx rfl (hb hby at_62) rfl rfl ?_
    show Steps p.tables e below (T37.setTop (mkF m 63 #[.val (.int p1), .unset, .unset, .unset] [(.ref b1), (.ref b1)])) _
    refine XS.bipush X37.here hx rfl (hb hby at_63) ?_
    show Steps p.tables e below (T37.setTop (mkF m 65 #[.val (.int p1), .unset, .unset, .unset] [(.int (9 : Int32)), (.ref b1), (.ref b1)])) _
    refine st39 _ ?_
    show Steps p.tables e below (T39.setTop (mkF m 68 #[.val (.int p1), .unset, .unset, .unset] [(.ref w_U_INT), (.int (9 : Int32)), (.ref b1), (.ref b1)])) _
    refine st41 _ ?_
    show Steps p.tables e below (T41.setTop (mkF m 69 #[.val (.int p1), .unset, .unset, .unset] [(.ref b1)])) _
    refine XS.dup X41.here hx rfl (hb hby at_69) rfl rfl ?_
    show Steps p.tables e below (T41.setTop (mkF m 70 #[.val (.int p1), .unset, .unset, .unset] [(.ref b1), (.ref b1)])) _
    refine XS.bipush X41.here hx rfl (hb hby at_70) ?_
    show Steps p.tables e below (T41.setTop (mkF m 72 #[.val (.int p1), .unset, .unset, .unset] [(.int (10 : Int32)), (.ref b1), (.ref b1)])) _
    refine st43 _ ?_
    show Steps p.tables e below (T43.setTop (mkF m 75 #[.val (.int p1), .unset, .unset, .unset] [(.ref w_U_LONG), (.int (10 : Int32)), (.ref b1), (.ref b1)])) _
    refine st45 _ ?_
    show Steps p.tables e below (T45.setTop (mkF m 76 #[.val (.int p1), .unset, .unset, .unset] [(.ref b1)])) _
    refine XS.dup X45.here hx rfl (hb hby at_76) rfl rfl ?_
    show Steps p.tables e below (T45.setTop (mkF m 77 #[.val (.int p1), .unset, .unset, .unset] [(.ref b1), (.ref b1)])) _
    refine XS.bipush X45.here hx rfl (hb hby at_77) ?_
    show Steps p.tables e below (T45.setTop (mkF m 79 #[.val (.int p1), .unset, .unset, .unset] [(.int (11 : Int32)), (.ref b1), (.ref b1)])) _
    refine st47 _ ?_
    show Steps p.tables e below (T47.setTop (mkF m 82 #[.val (.int p1), .unset, .unset, .unset] [(.ref w_INT8_T), (.int (11 : Int32)), (.ref b1), (.ref b1)])) _
    refine st49 _ ?_
    show Steps p.tables e below (T49.setTop (mkF m 83 #[.val (.int p1), .unset, .unset, .unset] [(.ref b1)])) _
    refine XS.dup X49.here hx rfl (hb hby at_83) rfl rfl ?_
    show Steps p.tables e below (T49.setTop (mkF m 84 #[.val (.int p1), .unset, .unset, .unset] [(.ref b1), (.ref b1)])) _
    refine XS.bipush X49.here hx rfl (hb hby at_84) ?_
    show Steps p.tables e below (T49.setTop (mkF m 86 #[.val (.int p1), .unset, .unset, .unset] [(.int (12 : Int32)), (.ref b1), (.ref b1)])) _
    refine st51 _ ?_
    show Steps p.tables e below (T51.setTop (mkF m 89 #[.val (.int p1), .unset, .unset, .unset] [(.ref w_INT16_T), (.int (12 : Int32)), (.ref b1), (.ref b1)])) _
    refine st53 _ ?_
    show Steps p.tables e below (T53.setTop (mkF m 90 #[.val (.int p1), .unset, .unset, .unset] [(.ref b1)])) _
    refine XS.dup X53.here hx rfl (hb hby at_90) rfl rfl ?_
    show Steps p.tables e below (T53.setTop (mkF m 91 #[.val (.int p1), .unset, .unset, .unset] [(.ref b1), (.ref b1)])) _
    refine XS.bipush X53.here hx rfl (hb hby at_91) ?_
    show Steps p.tables e below (T53.setTop (mkF m 93 #[.val (.int p1), .unset, .unset, .unset] [(.int (13 : Int32)), (.ref b1), (.ref b1)])) _
    refine st55 _ ?_
    show Steps p.tables e below (T55.setTop (mkF m 96 #[.val (.int p1), .unset, .unset, .unset] [(.ref w_INT32_T), (.int (13 : Int32)), (.ref b1), (.ref b1)])) _
    refine st57 _ ?_
    show Steps p.tables e below (T57.setTop (mkF m 97 #[.val (.int p1), .unset, .unset, .unset] [(.ref b1)])) _
    refine XS.dup X57.here hx rfl (hb hby at_97) rfl rfl ?_
    show Steps p.tables e below (T57.setTop (mkF m 98 #[.val (.int p1), .unset, .unset, .unset] [(.ref b1), (.ref b1)])) _
    refine XS.bipush X57.here hx rfl (hb hby at_98) ?_
    show Steps p.tables e below (T57.setTop (mkF m 100 #[.val (.int p1), .unset, .unset, .unset] [(.int (14 : Int32)), (.ref b1), (.ref b1)])) _
    refine st59 _ ?_
    show Steps p.tables e below (T59.setTop (mkF m 103 #[.val (.int p1), .unset, .unset, .unset] [(.ref w_UINT8_T), (.int (14 : Int32)), (.ref b1), (.ref b1)])) _
    refine st61 _ ?_
    show Steps p.tables e below (T61.setTop (mkF m 104 #[.val (.int p1), .unset, .unset, .unset] [(.ref b1)])) _
    refine XS.dup X61.here hx rfl (hb hby at_104) rfl rfl ?_
    show Steps p.tables e below (T61.setTop (mkF m 105 #[.val (.int p1), .unset, .unset, .unset] [(.ref b1), (.ref b1)])) _
    refine XS.bipush X61.here hx rfl (hb hby at_105) ?_
    show Steps p.tables e below (T61.setTop (mkF m 107 #[.val (.int p1), .unset, .unset, .unset] [(.int (15 : Int32)), (.ref b1), (.ref b1)])) _
    refine st63 _ ?_
    show Steps p.tables e below (T63.setTop (mkF m 110 #[.val (.int p1), .unset, .unset, .unset] [(.ref w_UINT16_T), (.int (15 : Int32)), (.ref b1), (.ref b1)])) _
    refine st65 _ ?_
    show Steps p.tables e below (T65.setTop (mkF m 111 #[.val (.int p1), .unset, .unset, .unset] [(.ref b1)])) _
    refine XS.dup X65.here hx rfl (hb hby at_111) rfl rfl ?_
    show Steps p.tables e below (T65.setTop (mkF m 112 #[.val (.int p1), .unset, .unset, .unset] [(.ref b1), (.ref b1)])) _
    refine XS.bipush X65.here hx rfl (hb hby at_112) ?_
    show Steps p.tables e below (T65.setTop (mkF m 114 #[.val (.int p1), .unset, .unset, .unset] [(.int (16 : Int32)), (.ref b1), (.ref b1)])) _
    refine st67 _ ?_
    show Steps p.tables e below (T67.setTop (mkF m 117 #[.val (.int p1), .unset, .unset, .unset] [(.ref w_UINT32_T), (.int (16 : Int32)), (.ref b1), (.ref b1)])) _
    refine st69 _ ?_
    show Steps p.tables e below (T69.setTop (mkF m 118 #[.val (.int p1), .unset, .unset, .unset] [(.ref b1)])) _
    refine XS.dup X69.here hx rfl (hb hby at_118) rfl rfl ?_
    show Steps p.tables e below (T69.setTop (mkF m 119 #[.val (.int p1), .unset, .unset, .unset] [(.ref b1), (.ref b1)])) _
    refine XS.bipush X69.here hx rfl (hb hby at_119) ?_
    show Steps p.tables e below (T69.setTop (mkF m 121 #[.val (.int p1), .unset, .unset, .unset] [(.int (17 : Int32)), (.ref b1), (.ref b1)])) _
    refine st71 _ ?_
    show Steps p.tables e below (T71.setTop (mkF m 124 #[.val (.int p1), .unset, .unset, .unset] [(.ref w_U_INT8_T), (.int (17 : Int32)), (.ref b1), (.ref b1)])) _
    refine st73 _ ?_
    show Steps p.tables e below (T73.setTop (mkF m 125 #[.val (.int p1), .unset, .unset, .unset] [(.ref b1)])) _
    refine XS.dup X73.here hx rfl (hb hby at_125) rfl rfl ?_
    show Steps p.tables e below (T73.setTop (mkF m 126 #[.val (.int p1), .unset, .unset, .unset] [(.ref b1), (.ref b1)])) _
    refine XS.bipush X73.here hx rfl (hb hby at_126) ?_
    show Steps p.tables e below (T73.setTop (mkF m 128 #[.val (.int p1), .unset, .unset, .unset] [(.int (18 : Int32)), (.ref b1), (.ref b1)])) _
    refine st75 _ ?_
    show Steps p.tables e below (T75.setTop (mkF m 131 #[.val (.int p1), .unset, .unset, .unset] [(.ref w_U_INT16_T), (.int (18 : Int32)), (.ref b1), (.ref b1)])) _
    refine st77 _ ?_
    show Steps p.tables e below (T77.setTop (mkF m 132 #[.val (.int p1), .unset, .unset, .unset] [(.ref b1)])) _
    refine XS.dup X77.here hx rfl (hb hby at_132) rfl rfl ?_
    show Steps p.tables e below (T77.setTop (mkF m 133 #[.val (.int p1), .unset, .unset, .unset] [(.ref b1), (.ref b1)])) _
    refine XS.bipush X77.here hx rfl (hb hby at_133) ?_
    show Steps p.tables e below (T77.setTop (mkF m 135 #[.val (.int p1), .unset, .unset, .unset] [(.int (19 : Int32)), (.ref b1), (.ref b1)])) _
    refine st79 _ ?_
    show Steps p.tables e below (T79.setTop (mkF m 138 #[.val (.int p1), .unset, .unset, .unset] [(.ref w_U_INT32_T), (.int (19 : Int32)), (.ref b1), (.ref b1)])) _
    refine st81 _ ?_
    show Steps p.tables e below (T81.setTop (mkF m 139 #[.val (.int p1), .unset, .unset, .unset] [(.ref b1)])) _
    refine XS.dup X81.here hx rfl (hb hby at_139) rfl rfl ?_
    show Steps p.tables e below (T81.setTop (mkF m 140 #[.val (.int p1), .unset, .unset, .unset] [(.ref b1), (.ref b1)])) _
    refine XS.bipush X81.here hx rfl (hb hby at_140) ?_
    show Steps p.tables e below (T81.setTop (mkF m 142 #[.val (.int p1), .unset, .unset, .unset] [(.int (20 : Int32)), (.ref b1), (.ref b1)])) _
    refine st83 _ ?_
    show Steps p.tables e below (T83.setTop (mkF m 145 #[.val (.int p1), .unset, .unset, .unset] [(.ref w_INT64_T), (.int (20 : Int32)), (.ref b1), (.ref b1)])) _
    refine st85 _ ?_
    show Steps p.tables e below (T85.setTop (mkF m 146 #[.val (.int p1), .unset, .unset, .unset] [(.ref b1)])) _
    refine XS.dup X85.here hx rfl (hb hby at_146) rfl rfl ?_
    show Steps p.tables e below (T85.setTop (mkF m 147 #[.val (.int p1), .unset, .unset, .unset] [(.ref b1), (.ref b1)])) _
    refine XS.bipush X85.here hx rfl (hb hby at_147) ?_
    show Steps p.tables e below (T85.setTop (mkF m 149 #[.val (.int p1), .unset, .unset, .unset] [(.int (21 : Int32)), (.ref b1), (.ref b1)])) _
    refine st87 _ ?_
    show Steps p.tables e below (T87.setTop (mkF m 152 #[.val (.int p1), .unset, .unset, .unset] [(.ref w_UINT64_T), (.int (21 : Int32)), (.ref b1), (.ref b1)])) _
    refine st89 _ ?_
    show Steps p.tables e below (T89.setTop (mkF m 153 #[.val (.int p1), .unset, .unset, .unset] [(.ref b1)])) _
    refine XS.dup X89.here hx rfl (hb hby at_153) rfl rfl ?_
    show Steps p.tables e below (T89.setTop (mkF m 154 #[.val (.int p1), .unset, .unset, .unset] [(.ref b1), (.ref b1)])) _
    refine XS.bipush X89.here hx rfl (hb hby at_154) ?_
    show Steps p.tables e below (T89.setTop (mkF m 156 #[.val (.int p1), .unset, .unset, .unset] [(.int (22 : Int32)), (.ref b1), (.ref b1)])) _
    refine st91 _ ?_
    show Steps p.tables e below (T91.setTop (mkF m 159 #[.val (.int p1), .unset, .unset, .unset] [(.ref w_U_INT64_T), (.int (22 : Int32)), (.ref b1), (.ref b1)])) _
    refine st93 _ ?_
    show Steps p.tables e below (T93.setTop (mkF m 160 #[.val (.int p1), .unset, .unset, .unset] [(.ref b1)])) _
    refine XS.dup X93.here hx rfl (hb hby at_160) rfl rfl ?_
    show Steps p.tables e below (T93.setTop (mkF m 161 #[.val (.int p1), .unset, .unset, .unset] [(.ref b1), (.ref b1)])) _
    refine XS.bipush X93.here hx rfl (hb hby at_161) ?_
    show Steps p.tables e below (T93.setTop (mkF m 163 #[.val (.int p1), .unset, .unset, .unset] [(.int (23 : Int32)), (.ref b1), (.ref b1)])) _
    refine st95 _ ?_
    show Steps p.tables e below (T95.setTop (mkF m 166 #[.val (.int p1), .unset, .unset, .unset] [(.ref w_QUAD_T), (.int (23 : Int32)), (.ref b1), (.ref b1)])) _
    refine st97 _ ?_
    show Steps p.tables e below (T97.setTop (mkF m 167 #[.val (.int p1), .unset, .unset, .unset] [(.ref b1)])) _
    refine XS.dup X97.here hx rfl (hb hby at_167) rfl rfl ?_
    show Steps p.tables e below (T97.setTop (mkF m 168 #[.val (.int p1), .unset, .unset, .unset] [(.ref b1), (.ref b1)])) _
    refine XS.bipush X97.here hx rfl (hb hby at_168) ?_
    show Steps p.tables e below (T97.setTop (mkF m 170 #[.val (.int p1), .unset, .unset, .unset] [(.int (24 : Int32)), (.ref b1), (.ref b1)])) _
    refine st99 _ ?_
    show Steps p.tables e below (T99.setTop (mkF m 173 #[.val (.int p1), .unset, .unset, .unset] [(.ref w_U_QUAD_T), (.int (24 : Int32)), (.ref b1), (.ref b1)])) _
    refine st101 _ ?_
    show Steps p.tables e below (T101.setTop (mkF m 174 #[.val (.int p1), .unset, .unset, .unset] [(.ref b1)])) _
    refine XS.dup X101.here hx rfl (hb hby at_174) rfl rfl ?_
    show Steps p.tables e below (T101.setTop (mkF m 175 #[.val (.int p1), .unset, .unset, .unset] [(.ref b1), (.ref b1)])) _
    refine XS.bipush X101.here hx rfl (hb hby at_175) ?_
    show Steps p.tables e below (T101.setTop (mkF m 177 #[.val (.int p1), .unset, .unset, .unset] [(.int (25 : Int32)), (.ref b1), (.ref b1)])) _
    refine st103 _ ?_
    show Steps p.tables e below (T103.setTop (mkF m 180 #[.val (.int p1), .unset, .unset, .unset] [(.ref w_BOOL), (.int (25 : Int32)), (.ref b1), (.ref b1)])) _
    refine st105 _ ?_
    show Steps p.tables e below (T105.setTop (mkF m 181 #[.val (.int p1), .unset, .unset, .unset] [(.ref b1)])) _
    refine XS.dup X105.here hx rfl (hb hby at_181) rfl rfl ?_
    show Steps p.tables e below (T105.setTop (mkF m 182 #[.val (.int p1), .unset, .unset, .unset] [(.ref b1), (.ref b1)])) _
    refine XS.bipush X105.here hx rfl (hb hby at_182) ?_
    show Steps p.tables e below (T105.setTop (mkF m 184 #[.val (.int p1), .unset, .unset, .unset] [(.int (26 : Int32)), (.ref b1), (.ref b1)])) _
    refine st107 _ ?_
    show Steps p.tables e below (T107.setTop (mkF m 187 #[.val (.int p1), .unset, .unset, .unset] [(.ref w_FLOAT), (.int (26 : Int32)), (.ref b1), (.ref b1)])) _
    refine st109 _ ?_
    show Steps p.tables e below (T109.setTop (mkF m 188 #[.val (.int p1), .unset, .unset, .unset] [(.ref b1)])) _
    refine XS.dup X109.here hx rfl (hb hby at_188) rfl rfl ?_
    show Steps p.tables e below (T109.setTop (mkF m 189 #[.val (.int p1), .unset, .unset, .unset] [(.ref b1), (.ref b1)])) _
    refine XS.bipush X109.here hx rfl (hb hby at_189) ?_
    show Steps p.tables e below (T109.setTop (mkF m 191 #[.val (.int p1), .unset, .unset, .unset] [(.int (27 : Int32)), (.ref b1), (.ref b1)])) _
    refine st111 _ ?_
    show Steps p.tables e below (T111.setTop (mkF m 194 #[.val (.int p1), .unset, .unset, .unset] [(.ref w_DOUBLE), (.int (27 : Int32)), (.ref b1), (.ref b1)])) _
    refine st113 _ ?_
    show Steps p.tables e below (T113.setTop (mkF m 195 #[.val (.int p1), .unset, .unset, .unset] [(.ref b1)])) _
    refine XS.dup X113.here hx rfl (hb hby at_195) rfl rfl ?_
    show Steps p.tables e below (T113.setTop (mkF m 196 #[.val (.int p1), .unset, .unset, .unset] [(.ref b1), (.ref b1)])) _
    refine XS.bipush X113.here hx rfl (hb hby at_196) ?_
    show Steps p.tables e below (T113.setTop (mkF m 198 #[.val (.int p1), .unset, .unset, .unset] [(.int (28 : Int32)), (.ref b1), (.ref b1)])) _
    refine st115 _ ?_
    show Steps p.tables e below (T115.setTop (mkF m 201 #[.val (.int p1), .unset, .unset, .unset] [(.ref w_QUADRUPLE), (.int (28 : Int32)), (.ref b1), (.ref b1)])) _
    refine st117 _ ?_
    show Steps p.tables e below (T117.setTop (mkF m 202 #[.val (.int p1), .unset, .unset, .unset] [(.ref b1)])) _
    refine XS.dup X117.here hx rfl (hb hby at_202) rfl rfl ?_
    show Steps p.tables e below (T117.setTop (mkF m 203 #[.val (.int p1), .unset, .unset, .unset] [(.ref b1), (.ref b1)])) _
    refine XS.bipush X117.here hx rfl (hb hby at_203) ?_
    show Steps p.tables e below (T117.setTop (mkF m 205 #[.val (.int p1), .unset, .unset, .unset] [(.int (29 : Int32)), (.ref b1), (.ref b1)])) _
    refine st119 _ ?_
    show Steps p.tables e below (T119.setTop (mkF m 208 #[.val (.int p1), .unset, .unset, .unset] [(.ref w_VOID), (.int (29 : Int32)), (.ref b1), (.ref b1)])) _
    refine st121 _ ?_
    show Steps p.tables e below (T121.setTop (mkF m 209 #[.val (.int p1), .unset, .unset, .unset] [(.ref b1)])) _
    refine XS.astoreN X121.here hx rfl (hb hby at_209) rfl rfl (l' := #[.val (.int p1), .val (.ref b1), .unset, .unset]) rfl ?_
    show Steps p.tables e below (T121.setTop (mkF m 210 #[.val (.int p1), .val (.ref b1), .unset, .unset] [])) _
    refine XS.iloadN X121.here hx rfl (hb hby at_210) rfl ?_
    show Steps p.tables e below (T121.setTop (mkF m 211 #[.val (.int p1), .val (.ref b1), .unset, .unset] [(.int p1)])) _
    refine X121.ldcInt hx hown (mvT hZ (hw _ (List.mem_of_getElem? (i := 64) rfl))) (g := (mkF m 211 #[.val (.int p1), .val (.ref b1), .unset, .unset] [(.int p1)])) rfl (hb hby at_211) _ ?_
    show Steps p.tables e below (T121.setTop (mkF m 213 #[.val (.int p1), .val (.ref b1), .unset, .unset] [(.int (2147483647 : Int32)), (.int p1)])) _
    refine XS.iand X121.here hx rfl (hb hby at_213) rfl ?_
    show Steps p.tables e below (T121.setTop (mkF m 214 #[.val (.int p1), .val (.ref b1), .unset, .unset] [(.int (p1 &&& (2147483647 : Int32)))])) _
    refine XS.bipush X121.here hx rfl (hb hby at_214) ?_
    show Steps p.tables e below (T121.setTop (mkF m 216 #[.val (.int p1), .val (.ref b1), .unset, .unset] [(.int (30 : Int32)), (.int (p1 &&& (2147483647 : Int32)))])) _
    refine iremM (g := (mkF m 216 #[.val (.int p1), .val (.ref b1), .unset, .unset] [(.int (30 : Int32)), (.int (p1 &&& (2147483647 : Int32)))])) X121 hx rfl (hb hby at_216) rfl (by decide) ?_
    exact kt
  have sg125 : ∀ target, Steps p.tables e below (T121.setTop (mkF m 218 #[.val (.int p1), .val (.ref b1), .val (.int u123), .unset] [])) target → Steps p.tables e below (T121.setTop (mkF m 217 #[.val (.int p1), .val (.ref b1), .unset, .unset] [(.int u123)])) target := by
    intro target kt
    show Steps p.tables e below (T121.setTop (mkF m 217 #[.val (.int p1), .val (.ref b1), .unset, .unset] [(.int u123)])) _
    refine XS.istoreN X121.here hx rfl (hb hby at_217) rfl (l' := #[.val (.int p1), .val (.ref b1), .val (.int u123), .unset]) rfl ?_
    exact kt
  obtain ⟨T130, L130, v130_t0, X130, e130, N130, hv130_t0, sg130⟩ : ∃ (T' : State) (L' : List Loc) (v130_t0 : Int32), Stand p l e room_1 s m #[(.int p1)] below meth c T' L' 1 30 ∧ T'.heap = h121 ∧ Fr n0 L' ∧ v130_t0 = (if u123 < (25 : Int32) then (1 : Int32) else (0 : Int32)) ∧ ∀ target, Steps p.tables e below (T'.setTop (mkF m 229 #[.val (.int p1), .val (.ref b1), .val (.int u123), .unset] [(.int v130_t0)])) target → Steps p.tables e below (T121.setTop (mkF m 218 #[.val (.int p1), .val (.ref b1), .val (.int u123), .unset] [])) target := by
    have sg126 : ∀ target, Steps p.tables e below (T121.setTop (mkF m 221 #[.val (.int p1), .val (.ref b1), .val (.int u123), .unset] [(.int (25 : Int32)), (.int u123)])) target → Steps p.tables e below (T121.setTop (mkF m 218 #[.val (.int p1), .val (.ref b1), .val (.int u123), .unset] [])) target := by
      intro target kt
      show Steps p.tables e below (T121.setTop (mkF m 218 #[.val (.int p1), .val (.ref b1), .val (.int u123), .unset] [])) _
      refine XS.iloadN X121.here hx rfl (hb hby at_218) rfl ?_
      show Steps p.tables e below (T121.setTop (mkF m 219 #[.val (.int p1), .val (.ref b1), .val (.int u123), .unset] [(.int u123)])) _
      refine XS.bipush X121.here hx rfl (hb hby at_219) ?_
      exact kt
    by_cases hc127 : u123 < (25 : Int32)
    · have sg128 : ∀ target, Steps p.tables e below (T121.setTop (mkF m 229 #[.val (.int p1), .val (.ref b1), .val (.int u123), .unset] [(.int (1 : Int32))])) target → Steps p.tables e below (T121.setTop (mkF m 221 #[.val (.int p1), .val (.ref b1), .val (.int u123), .unset] [(.int (25 : Int32)), (.int u123)])) target := by
        intro target kt
        show Steps p.tables e below (T121.setTop (mkF m 221 #[.val (.int p1), .val (.ref b1), .val (.int u123), .unset] [(.int (25 : Int32)), (.int u123)])) _
        refine XS.icmpNo X121.here hx rfl (hb hby at_221) rfl (tlt hc127).2.1 ?_
        show Steps p.tables e below (T121.setTop (mkF m 224 #[.val (.int p1), .val (.ref b1), .val (.int u123), .unset] [])) _
        refine XS.iconst X121.here hx rfl (hb hby at_224) ?_
        show Steps p.tables e below (T121.setTop (mkF m 225 #[.val (.int p1), .val (.ref b1), .val (.int u123), .unset] [(.int (1 : Int32))])) _
        refine XS.goto X121.here hx rfl (pc0 := 225) (pc' := 229) rfl (hb hby at_225) (by decide) (by decide) ?_
        exact kt
      exact ⟨T121, _, (1 : Int32), X121.mono (by decide) (by decide), e121, N121, (by rw [if_pos hc127]), fun target kt => sg126 _ (sg128 _ (kt))⟩
    · have sg129 : ∀ target, Steps p.tables e below (T121.setTop (mkF m 229 #[.val (.int p1), .val (.ref b1), .val (.int u123), .unset] [(.int (0 : Int32))])) target → Steps p.tables e below (T121.setTop (mkF m 221 #[.val (.int p1), .val (.ref b1), .val (.int u123), .unset] [(.int (25 : Int32)), (.int u123)])) target := by
        intro target kt
        show Steps p.tables e below (T121.setTop (mkF m 221 #[.val (.int p1), .val (.ref b1), .val (.int u123), .unset] [(.int (25 : Int32)), (.int u123)])) _
        refine XS.icmpYes X121.here hx rfl (pc0 := 221) (pc' := 228) rfl (hb hby at_221) rfl (flt hc127).2.1 (by decide) (by decide) ?_
        show Steps p.tables e below (T121.setTop (mkF m 228 #[.val (.int p1), .val (.ref b1), .val (.int u123), .unset] [])) _
        refine XS.iconst X121.here hx rfl (hb hby at_228) ?_
        exact kt
      exact ⟨T121, _, (0 : Int32), X121.mono (by decide) (by decide), e121, N121, (by rw [if_neg hc127]), fun target kt => sg126 _ (sg129 _ (kt))⟩
  obtain ⟨kn, hkn, hkl⟩ := own_idx hu123
  have hall : own_AllP (fun n v => ∃ (wk : Addr) (fv : Value), v = .ref wk ∧ Exa Z Z.heap wk "com/example/tetrad/tetrad/description/Type$Primitive" ∧ Fld Z Z.heap wk "com/example/tetrad/tetrad/description/Type$Primitive" "minimum" "Ljava/math/BigInteger;" fv ∧ fv.isRef = true ∧ (fv = .null ↔ ¬ n < 25)) 0 [(.ref w_INT), (.ref w_UNSIGNED_INT), (.ref w_HYPER), (.ref w_UNSIGNED_HYPER), (.ref w_CHAR), (.ref w_SHORT), (.ref w_LONG), (.ref w_U_CHAR), (.ref w_U_SHORT), (.ref w_U_INT), (.ref w_U_LONG), (.ref w_INT8_T), (.ref w_INT16_T), (.ref w_INT32_T), (.ref w_UINT8_T), (.ref w_UINT16_T), (.ref w_UINT32_T), (.ref w_U_INT8_T), (.ref w_U_INT16_T), (.ref w_U_INT32_T), (.ref w_INT64_T), (.ref w_UINT64_T), (.ref w_U_INT64_T), (.ref w_QUAD_T), (.ref w_U_QUAD_T), (.ref w_BOOL), (.ref w_FLOAT), (.ref w_DOUBLE), (.ref w_QUADRUPLE), (.ref w_VOID)] := ⟨⟨w_INT, (.ref m_INT), rfl, X_INT, M_INT, rfl, by simp⟩, ⟨w_UNSIGNED_INT, (.ref m_UNSIGNED_INT), rfl, X_UNSIGNED_INT, M_UNSIGNED_INT, rfl, by simp⟩, ⟨w_HYPER, (.ref m_HYPER), rfl, X_HYPER, M_HYPER, rfl, by simp⟩, ⟨w_UNSIGNED_HYPER, (.ref m_UNSIGNED_HYPER), rfl, X_UNSIGNED_HYPER, M_UNSIGNED_HYPER, rfl, by simp⟩, ⟨w_CHAR, (.ref m_CHAR), rfl, X_CHAR, M_CHAR, rfl, by simp⟩, ⟨w_SHORT, (.ref m_SHORT), rfl, X_SHORT, M_SHORT, rfl, by simp⟩, ⟨w_LONG, (.ref m_LONG), rfl, X_LONG, M_LONG, rfl, by simp⟩, ⟨w_U_CHAR, (.ref m_U_CHAR), rfl, X_U_CHAR, M_U_CHAR, rfl, by simp⟩, ⟨w_U_SHORT, (.ref m_U_SHORT), rfl, X_U_SHORT, M_U_SHORT, rfl, by simp⟩, ⟨w_U_INT, (.ref m_U_INT), rfl, X_U_INT, M_U_INT, rfl, by simp⟩, ⟨w_U_LONG, (.ref m_U_LONG), rfl, X_U_LONG, M_U_LONG, rfl, by simp⟩, ⟨w_INT8_T, (.ref m_INT8_T), rfl, X_INT8_T, M_INT8_T, rfl, by simp⟩, ⟨w_INT16_T, (.ref m_INT16_T), rfl, X_INT16_T, M_INT16_T, rfl, by simp⟩, ⟨w_INT32_T, (.ref m_INT32_T), rfl, X_INT32_T, M_INT32_T, rfl, by simp⟩, ⟨w_UINT8_T, (.ref m_UINT8_T), rfl, X_UINT8_T, M_UINT8_T, rfl, by simp⟩, ⟨w_UINT16_T, (.ref m_UINT16_T), rfl, X_UINT16_T, M_UINT16_T, rfl, by simp⟩, ⟨w_UINT32_T, (.ref m_UINT32_T), rfl, X_UINT32_T, M_UINT32_T, rfl, by simp⟩, ⟨w_U_INT8_T, (.ref m_U_INT8_T), rfl, X_U_INT8_T, M_U_INT8_T, rfl, by simp⟩, ⟨w_U_INT16_T, (.ref m_U_INT16_T), rfl, X_U_INT16_T, M_U_INT16_T, rfl, by simp⟩, ⟨w_U_INT32_T, (.ref m_U_INT32_T), rfl, X_U_INT32_T, M_U_INT32_T, rfl, by simp⟩, ⟨w_INT64_T, (.ref m_INT64_T), rfl, X_INT64_T, M_INT64_T, rfl, by simp⟩, ⟨w_UINT64_T, (.ref m_UINT64_T), rfl, X_UINT64_T, M_UINT64_T, rfl, by simp⟩, ⟨w_U_INT64_T, (.ref m_U_INT64_T), rfl, X_U_INT64_T, M_U_INT64_T, rfl, by simp⟩, ⟨w_QUAD_T, (.ref m_QUAD_T), rfl, X_QUAD_T, M_QUAD_T, rfl, by simp⟩, ⟨w_U_QUAD_T, (.ref m_U_QUAD_T), rfl, X_U_QUAD_T, M_U_QUAD_T, rfl, by simp⟩, ⟨w_BOOL, .null, rfl, X_BOOL, M_BOOL, rfl, by simp⟩, ⟨w_FLOAT, .null, rfl, X_FLOAT, M_FLOAT, rfl, by simp⟩, ⟨w_DOUBLE, .null, rfl, X_DOUBLE, M_DOUBLE, rfl, by simp⟩, ⟨w_QUADRUPLE, .null, rfl, X_QUADRUPLE, M_QUADRUPLE, rfl, by simp⟩, ⟨w_VOID, .null, rfl, X_VOID, M_VOID, rfl, by simp⟩, trivial⟩
  obtain ⟨wk, fv, hval, hXk, hMk, hfv, hnul⟩ := own_all0 hall hkl
  obtain ⟨clA, ArA, qA, SzA, NnA, HhA, GgA⟩ := V121
  have hinA : ¬ (u123 < 0 ∨ clA.slots.size ≤ (u123).toNatClampNeg) := by rw [SzA, hkn]; exact own_in hu123 hkl
  have hatA : clA.slots[(u123).toNatClampNeg]? = some (.ref wk) := Has.at HhA hinA (by rw [hkn]; exact hval)
  obtain ⟨cq131, kq131, q131a, q131b, q131c⟩ := isOf hZ e130 (hXk.ext O122.2)
  obtain ⟨_, _, ⟨T131, L131, k131, n131⟩, -, X131, ⟨Lc131, hQ131, l131, y131, z131⟩, st131⟩ := X130.virtualBack hx (y := (⟨"com/example/tetrad/tetrad/description/Type$Primitive", "isInteger", "()Z"⟩ : MethodName)) (z := (⟨"com/example/tetrad/tetrad/description/Type$Primitive", "isInteger", "()Z"⟩ : MethodName)) hown (mvT hZ (hw _ (List.mem_of_getElem? (i := 65) rfl))) (mvT hZ (hw _ (List.mem_of_getElem? (i := 66) rfl))) (notFace_of_selects (args := #[]) (mvT hZ (hw _ (List.mem_of_getElem? (i := 68) rfl)))) (mvT hZ (hw _ (List.mem_of_getElem? (i := 68) rfl))) (mvT hZ (hw _ (List.mem_of_getElem? (i := 67) rfl))) (by decide) (backOf (W := 0) (rm1 l Z a0 hw [] wk fv h121 n0 O122 (hMk.ext O122.2) hfv) hZ (hw _ (List.mem_of_getElem? (i := 69) rfl)) (hw _ (List.mem_of_getElem? (i := 3) rfl)) (by decide) (by decide)) q131a q131c (g := (mkF m 233 #[.val (.int p1), .val (.ref b1), .val (.int u123), .val (.int v130_t0)] [(.ref wk)])) rfl (by rw [hml]; rfl) (Steps.refl _) (argsL := []) (rest := []) (lenOf pd_0 rfl) rfl (by show 2 * 0 + _ ≤ _; exact Nat.le_of_eq rfl) (hb hby at_233) (fun _ _ => ⟨rfl, e130, (by decide : 1 + 0 ≤ _), (by decide : 30 + 0 ≤ _)⟩)
  dsimp only [Pt.U, Pt.locs, Pt.cells, Pt.slots] at X131 l131 y131 z131 st131 hQ131
  subst l131 y131 z131
  obtain ⟨rfl, N131q, e131⟩ := hQ131
  have N131 := Fr.app N130 N131q
  obtain ⟨r131, hr131⟩ : ∃ z, z = (if fv = .null then (0 : Int32) else (1 : Int32)) := ⟨_, rfl⟩
  rw [← hr131] at st131
  have sg132 : ∀ target, Steps p.tables e below (T131.setTop (mkF m 236 #[.val (.int p1), .val (.ref b1), .val (.int u123), .val (.int v130_t0)] [(.int r131)])) target → Steps p.tables e below (T130.setTop (mkF m 229 #[.val (.int p1), .val (.ref b1), .val (.int u123), .unset] [(.int v130_t0)])) target := by
    intro target kt
    show Steps p.tables e below (T130.setTop (mkF m 229 #[.val (.int p1), .val (.ref b1), .val (.int u123), .unset] [(.int v130_t0)])) _
    refine XS.istoreN X130.here hx rfl (hb hby at_229) rfl (l' := #[.val (.int p1), .val (.ref b1), .val (.int u123), .val (.int v130_t0)]) rfl ?_
    show Steps p.tables e below (T130.setTop (mkF m 230 #[.val (.int p1), .val (.ref b1), .val (.int u123), .val (.int v130_t0)] [])) _
    refine XS.aloadN X130.here hx rfl (hb hby at_230) rfl rfl ?_
    show Steps p.tables e below (T130.setTop (mkF m 231 #[.val (.int p1), .val (.ref b1), .val (.int u123), .val (.int v130_t0)] [(.ref b1)])) _
    refine XS.iloadN X130.here hx rfl (hb hby at_231) rfl ?_
    show Steps p.tables e below (T130.setTop (mkF m 232 #[.val (.int p1), .val (.ref b1), .val (.int u123), .val (.int v130_t0)] [(.int u123), (.ref b1)])) _
    refine X130.aaload hx (j := u123) (v := (.ref wk)) (by rw [e130]; exact ArA.1) (State.isArrayOf_alike hZ.alike ArA.2.1) rfl ArA.2.2 hinA hatA (g := (mkF m 232 #[.val (.int p1), .val (.ref b1), .val (.int u123), .val (.int v130_t0)] [(.int u123), (.ref b1)])) rfl rfl (hb hby at_232) _ ?_
    show Steps p.tables e below (T130.setTop (mkF m 233 #[.val (.int p1), .val (.ref b1), .val (.int u123), .val (.int v130_t0)] [(.ref wk)])) _
    refine st131.trans ?_
    exact kt
  obtain ⟨T137, L137, v137_t0, X137, e137, N137, hv137_t0, sg137⟩ : ∃ (T' : State) (L' : List Loc) (v137_t0 : Int32), Stand p l e room_1 s m #[(.int p1)] below meth c T' L' 1 30 ∧ T'.heap = h121 ∧ Fr n0 L' ∧ v137_t0 = (if r131 = v130_t0 then (1 : Int32) else (0 : Int32)) ∧ ∀ target, Steps p.tables e below (T'.setTop (mkF m 245 #[.val (.int p1), .val (.ref b1), .val (.int u123), .val (.int v130_t0)] [(.int v137_t0)])) target → Steps p.tables e below (T131.setTop (mkF m 236 #[.val (.int p1), .val (.ref b1), .val (.int u123), .val (.int v130_t0)] [(.int r131)])) target := by
    have sg133 : ∀ target, Steps p.tables e below (T131.setTop (mkF m 237 #[.val (.int p1), .val (.ref b1), .val (.int u123), .val (.int v130_t0)] [(.int v130_t0), (.int r131)])) target → Steps p.tables e below (T131.setTop (mkF m 236 #[.val (.int p1), .val (.ref b1), .val (.int u123), .val (.int v130_t0)] [(.int r131)])) target := by
      intro target kt
      show Steps p.tables e below (T131.setTop (mkF m 236 #[.val (.int p1), .val (.ref b1), .val (.int u123), .val (.int v130_t0)] [(.int r131)])) _
      refine XS.iloadN X131.here hx rfl (hb hby at_236) rfl ?_
      exact kt
    by_cases hc134 : r131 = v130_t0
    · have sg135 : ∀ target, Steps p.tables e below (T131.setTop (mkF m 245 #[.val (.int p1), .val (.ref b1), .val (.int u123), .val (.int v130_t0)] [(.int (1 : Int32))])) target → Steps p.tables e below (T131.setTop (mkF m 237 #[.val (.int p1), .val (.ref b1), .val (.int u123), .val (.int v130_t0)] [(.int v130_t0), (.int r131)])) target := by
        intro target kt
        show Steps p.tables e below (T131.setTop (mkF m 237 #[.val (.int p1), .val (.ref b1), .val (.int u123), .val (.int v130_t0)] [(.int v130_t0), (.int r131)])) _
        refine XS.icmpNo X131.here hx rfl (hb hby at_237) rfl (teq hc134).2 ?_
        show Steps p.tables e below (T131.setTop (mkF m 240 #[.val (.int p1), .val (.ref b1), .val (.int u123), .val (.int v130_t0)] [])) _
        refine XS.iconst X131.here hx rfl (hb hby at_240) ?_
        show Steps p.tables e below (T131.setTop (mkF m 241 #[.val (.int p1), .val (.ref b1), .val (.int u123), .val (.int v130_t0)] [(.int (1 : Int32))])) _
        refine XS.goto X131.here hx rfl (pc0 := 241) (pc' := 245) rfl (hb hby at_241) (by decide) (by decide) ?_
        exact kt
      exact ⟨T131, _, (1 : Int32), X131.mono (by decide) (by decide), e131, N131, (by rw [if_pos hc134]), fun target kt => sg133 _ (sg135 _ (kt))⟩
    · have sg136 : ∀ target, Steps p.tables e below (T131.setTop (mkF m 245 #[.val (.int p1), .val (.ref b1), .val (.int u123), .val (.int v130_t0)] [(.int (0 : Int32))])) target → Steps p.tables e below (T131.setTop (mkF m 237 #[.val (.int p1), .val (.ref b1), .val (.int u123), .val (.int v130_t0)] [(.int v130_t0), (.int r131)])) target := by
        intro target kt
        show Steps p.tables e below (T131.setTop (mkF m 237 #[.val (.int p1), .val (.ref b1), .val (.int u123), .val (.int v130_t0)] [(.int v130_t0), (.int r131)])) _
        refine XS.icmpYes X131.here hx rfl (pc0 := 237) (pc' := 244) rfl (hb hby at_237) rfl (feq hc134).2 (by decide) (by decide) ?_
        show Steps p.tables e below (T131.setTop (mkF m 244 #[.val (.int p1), .val (.ref b1), .val (.int u123), .val (.int v130_t0)] [])) _
        refine XS.iconst X131.here hx rfl (hb hby at_244) ?_
        exact kt
      exact ⟨T131, _, (0 : Int32), X131.mono (by decide) (by decide), e131, N131, (by rw [if_neg hc134]), fun target kt => sg133 _ (sg136 _ (kt))⟩
  have hfin : v137_t0 = 1 := own_plain hu123 hkn hnul hv130_t0 hr131 hv137_t0
  subst hfin
  obtain ⟨fs, hr, hrun, hended, hW, hsame⟩ := X137.leave (v := some (.int (1 : Int32))) (fun h => by rw [Bd.returns] at h; cases h)
  refine ⟨_, _, pre0 _ (sg124 _ (sg125 _ (sg130 _ (sg132 _ (sg137 _ (?_)))))), hrun, hended, _, _, rfl, ?_, ⟨_, rfl⟩, hW, hsame.mono (by decide) (by decide)⟩
  · show Steps p.tables e below (T137.setTop (mkF m 245 #[.val (.int p1), .val (.ref b1), .val (.int u123), .val (.int v130_t0)] [(.int (1 : Int32))])) _
    exact retN X137 hx (t := .boolean) Bd.returns (by simp) (hb hby at_245) hr
  · show Q0 Z p1 m_INT m_UNSIGNED_INT m_HYPER m_UNSIGNED_HYPER m_CHAR m_SHORT m_LONG m_U_CHAR m_U_SHORT m_U_INT m_U_LONG m_INT8_T m_INT16_T m_INT32_T m_UINT8_T m_UINT16_T m_UINT32_T m_U_INT8_T m_U_INT16_T m_U_INT32_T m_INT64_T m_UINT64_T m_U_INT64_T m_QUAD_T m_U_QUAD_T w_INT w_UNSIGNED_INT w_HYPER w_UNSIGNED_HYPER w_CHAR w_SHORT w_LONG w_U_CHAR w_U_SHORT w_U_INT w_U_LONG w_INT8_T w_INT16_T w_INT32_T w_UINT8_T w_UINT16_T w_UINT32_T w_U_INT8_T w_U_INT16_T w_U_INT32_T w_INT64_T w_UINT64_T w_U_INT64_T w_QUAD_T w_U_QUAD_T w_BOOL w_FLOAT w_DOUBLE w_QUADRUPLE w_VOID h0 n0 _ T137.heap _
    rw [e137]
    exact ⟨rfl, N137, K121, O122⟩
set_option maxRecDepth 65536 in
set_option maxHeartbeats 40000000 in
theorem comes_1 {Post : Tables → Env → Array Value → State → Outcome → State → Prop} (hpost : ∀ tb e args s v u, (limb_1_1.after args s (.returned v) u = true ∧ limb_1_2.after args s (.returned v) u = true ∧ True) → FrameEnd s (.returned v) u (Jvm.fieldLocs frame_1_writes args s ++ Jvm.arrayLocs frame_1_arrays args s ++ Jvm.staticLocs frame_1_statics s) 16 128 → Post tb e args s (.returned v) u) :
    ArmFor flags0 classFile x code maxLocals ret World_1 tables_1 room_1 Calls_1 rest_1 Pre_1 Post := by
  intro l hfl _ _ p e ha hc hk s m args below hf hA hF happ hP
  obtain ⟨hcalls, hrest, hpre⟩ := hP
  obtain ⟨-, -, -, hnamed, -, -, -, hat⟩ := (Spec.applies_iff hf).mp happ
  obtain ⟨hg, hn⟩ := and_e (Cond.before_iff.mp (show (Jvm.Cond.and given_1 narrow_1).before args s = true from hpre))
  obtain ⟨g1, g2⟩ := and_e hg
  obtain ⟨n3, n4⟩ := and_e hn
  obtain ⟨n5, n6⟩ := and_e n4
  obtain ⟨n7, n8⟩ := and_e n6
  obtain ⟨n9, n10⟩ := and_e n8
  obtain ⟨n11, n12⟩ := and_e n10
  obtain ⟨n13, n14⟩ := and_e n12
  obtain ⟨n15, n16⟩ := and_e n14
  obtain ⟨n17, n18⟩ := and_e n16
  obtain ⟨n19, n20⟩ := and_e n18
  obtain ⟨n21, n22⟩ := and_e n20
  obtain ⟨n23, n24⟩ := and_e n22
  obtain ⟨n25, n26⟩ := and_e n24
  obtain ⟨n27, n28⟩ := and_e n26
  obtain ⟨n29, n30⟩ := and_e n28
  obtain ⟨n31, n32⟩ := and_e n30
  obtain ⟨n33, n34⟩ := and_e n32
  obtain ⟨n35, n36⟩ := and_e n34
  obtain ⟨n37, n38⟩ := and_e n36
  obtain ⟨n39, n40⟩ := and_e n38
  obtain ⟨n41, n42⟩ := and_e n40
  obtain ⟨n43, n44⟩ := and_e n42
  obtain ⟨n45, n46⟩ := and_e n44
  obtain ⟨n47, n48⟩ := and_e n46
  obtain ⟨n49, n50⟩ := and_e n48
  obtain ⟨n51, n52⟩ := and_e n50
  obtain ⟨n53, n54⟩ := and_e n52
  obtain ⟨n55, n56⟩ := and_e n54
  obtain ⟨n57, n58⟩ := and_e n56
  obtain ⟨n59, n60⟩ := and_e n58
  obtain ⟨n61, n62⟩ := and_e n60
  obtain ⟨n63, n64⟩ := and_e n62
  obtain ⟨n65, n66⟩ := and_e n64
  obtain ⟨n67, n68⟩ := and_e n66
  obtain ⟨n69, n70⟩ := and_e n68
  obtain ⟨n71, n72⟩ := and_e n70
  obtain ⟨n73, n74⟩ := and_e n72
  obtain ⟨n75, n76⟩ := and_e n74
  obtain ⟨n77, n78⟩ := and_e n76
  obtain ⟨n79, n80⟩ := and_e n78
  obtain ⟨n81, n82⟩ := and_e n80
  obtain ⟨n83, n84⟩ := and_e n82
  obtain ⟨n85, n86⟩ := and_e n84
  obtain ⟨n87, n88⟩ := and_e n86
  obtain ⟨n89, n90⟩ := and_e n88
  obtain ⟨n91, n92⟩ := and_e n90
  obtain ⟨n93, n94⟩ := and_e n92
  obtain ⟨n95, n96⟩ := and_e n94
  obtain ⟨n97, n98⟩ := and_e n96
  obtain ⟨n99, n100⟩ := and_e n98
  obtain ⟨n101, n102⟩ := and_e n100
  obtain ⟨n103, n104⟩ := and_e n102
  obtain ⟨n105, n106⟩ := and_e n104
  obtain ⟨n107, n108⟩ := and_e n106
  obtain ⟨n109, n110⟩ := and_e n108
  obtain ⟨n111, n112⟩ := and_e n110
  obtain ⟨n113, n114⟩ := and_e n112
  obtain ⟨n115, n116⟩ := and_e n114
  obtain ⟨n117, n118⟩ := and_e n116
  obtain ⟨n119, n120⟩ := and_e n118
  obtain ⟨w0, rfl⟩ : ∃ w0 : Value, args = #[w0] := by
    have hs : args.size = 1 := by simpa [Cond.value, given_1] using g1
    obtain ⟨L⟩ := args
    match L, hs with
    | [w0], _ => exact ⟨w0, rfl⟩
  have hw := fun d (hd : d ∈ tables_1) => atoms_spec (ws := Jvm.Cond.code x code maxLocals ret :: tables_1) hat d (List.mem_cons_of_mem _ hd)
  have hfit : Fit s := fun {y c} hc i hi => by
    obtain ⟨ha, rfl⟩ := Array.getElem?_eq_some_iff.mp hc
    have q := List.all_eq_true.mp ((Array.all_eq_true_iff_forall_mem.mp hF) _ (Array.getElem_mem ha)) i (List.mem_range.mpr hi)
    simpa [Array.getElem?_eq_getElem hi] using q
  obtain ⟨i0, ei0⟩ := is_v g2
  obtain rfl : w0 = (.int i0) := Option.some.inj ei0
  obtain ⟨w_INT, ev_INT⟩ := exa_v n3
  have EX_INT := Exa.start ev_INT n3
  have SS_INT := Sta.start ev_INT (Or.inr ⟨(hw _ (List.mem_of_getElem? (i := 3) rfl)), (hw _ (List.mem_of_getElem? (i := 4) rfl))⟩)
  obtain ⟨w_UNSIGNED_INT, ev_UNSIGNED_INT⟩ := exa_v n5
  have EX_UNSIGNED_INT := Exa.start ev_UNSIGNED_INT n5
  have SS_UNSIGNED_INT := Sta.start ev_UNSIGNED_INT (Or.inr ⟨(hw _ (List.mem_of_getElem? (i := 3) rfl)), (hw _ (List.mem_of_getElem? (i := 7) rfl))⟩)
  obtain ⟨w_HYPER, ev_HYPER⟩ := exa_v n7
  have EX_HYPER := Exa.start ev_HYPER n7
  have SS_HYPER := Sta.start ev_HYPER (Or.inr ⟨(hw _ (List.mem_of_getElem? (i := 3) rfl)), (hw _ (List.mem_of_getElem? (i := 9) rfl))⟩)
  obtain ⟨w_UNSIGNED_HYPER, ev_UNSIGNED_HYPER⟩ := exa_v n9
  have EX_UNSIGNED_HYPER := Exa.start ev_UNSIGNED_HYPER n9
  have SS_UNSIGNED_HYPER := Sta.start ev_UNSIGNED_HYPER (Or.inr ⟨(hw _ (List.mem_of_getElem? (i := 3) rfl)), (hw _ (List.mem_of_getElem? (i := 11) rfl))⟩)
  obtain ⟨w_CHAR, ev_CHAR⟩ := exa_v n11
  have EX_CHAR := Exa.start ev_CHAR n11
  have SS_CHAR := Sta.start ev_CHAR (Or.inr ⟨(hw _ (List.mem_of_getElem? (i := 3) rfl)), (hw _ (List.mem_of_getElem? (i := 13) rfl))⟩)
  obtain ⟨w_SHORT, ev_SHORT⟩ := exa_v n13
  have EX_SHORT := Exa.start ev_SHORT n13
  have SS_SHORT := Sta.start ev_SHORT (Or.inr ⟨(hw _ (List.mem_of_getElem? (i := 3) rfl)), (hw _ (List.mem_of_getElem? (i := 15) rfl))⟩)
  obtain ⟨w_LONG, ev_LONG⟩ := exa_v n15
  have EX_LONG := Exa.start ev_LONG n15
  have SS_LONG := Sta.start ev_LONG (Or.inr ⟨(hw _ (List.mem_of_getElem? (i := 3) rfl)), (hw _ (List.mem_of_getElem? (i := 17) rfl))⟩)
  obtain ⟨w_U_CHAR, ev_U_CHAR⟩ := exa_v n17
  have EX_U_CHAR := Exa.start ev_U_CHAR n17
  have SS_U_CHAR := Sta.start ev_U_CHAR (Or.inr ⟨(hw _ (List.mem_of_getElem? (i := 3) rfl)), (hw _ (List.mem_of_getElem? (i := 19) rfl))⟩)
  obtain ⟨w_U_SHORT, ev_U_SHORT⟩ := exa_v n19
  have EX_U_SHORT := Exa.start ev_U_SHORT n19
  have SS_U_SHORT := Sta.start ev_U_SHORT (Or.inr ⟨(hw _ (List.mem_of_getElem? (i := 3) rfl)), (hw _ (List.mem_of_getElem? (i := 21) rfl))⟩)
  obtain ⟨w_U_INT, ev_U_INT⟩ := exa_v n21
  have EX_U_INT := Exa.start ev_U_INT n21
  have SS_U_INT := Sta.start ev_U_INT (Or.inr ⟨(hw _ (List.mem_of_getElem? (i := 3) rfl)), (hw _ (List.mem_of_getElem? (i := 23) rfl))⟩)
  obtain ⟨w_U_LONG, ev_U_LONG⟩ := exa_v n23
  have EX_U_LONG := Exa.start ev_U_LONG n23
  have SS_U_LONG := Sta.start ev_U_LONG (Or.inr ⟨(hw _ (List.mem_of_getElem? (i := 3) rfl)), (hw _ (List.mem_of_getElem? (i := 25) rfl))⟩)
  obtain ⟨w_INT8_T, ev_INT8_T⟩ := exa_v n25
  have EX_INT8_T := Exa.start ev_INT8_T n25
  have SS_INT8_T := Sta.start ev_INT8_T (Or.inr ⟨(hw _ (List.mem_of_getElem? (i := 3) rfl)), (hw _ (List.mem_of_getElem? (i := 27) rfl))⟩)
  obtain ⟨w_INT16_T, ev_INT16_T⟩ := exa_v n27
  have EX_INT16_T := Exa.start ev_INT16_T n27
  have SS_INT16_T := Sta.start ev_INT16_T (Or.inr ⟨(hw _ (List.mem_of_getElem? (i := 3) rfl)), (hw _ (List.mem_of_getElem? (i := 29) rfl))⟩)
  obtain ⟨w_INT32_T, ev_INT32_T⟩ := exa_v n29
  have EX_INT32_T := Exa.start ev_INT32_T n29
  have SS_INT32_T := Sta.start ev_INT32_T (Or.inr ⟨(hw _ (List.mem_of_getElem? (i := 3) rfl)), (hw _ (List.mem_of_getElem? (i := 31) rfl))⟩)
  obtain ⟨w_UINT8_T, ev_UINT8_T⟩ := exa_v n31
  have EX_UINT8_T := Exa.start ev_UINT8_T n31
  have SS_UINT8_T := Sta.start ev_UINT8_T (Or.inr ⟨(hw _ (List.mem_of_getElem? (i := 3) rfl)), (hw _ (List.mem_of_getElem? (i := 33) rfl))⟩)
  obtain ⟨w_UINT16_T, ev_UINT16_T⟩ := exa_v n33
  have EX_UINT16_T := Exa.start ev_UINT16_T n33
  have SS_UINT16_T := Sta.start ev_UINT16_T (Or.inr ⟨(hw _ (List.mem_of_getElem? (i := 3) rfl)), (hw _ (List.mem_of_getElem? (i := 35) rfl))⟩)
  obtain ⟨w_UINT32_T, ev_UINT32_T⟩ := exa_v n35
  have EX_UINT32_T := Exa.start ev_UINT32_T n35
  have SS_UINT32_T := Sta.start ev_UINT32_T (Or.inr ⟨(hw _ (List.mem_of_getElem? (i := 3) rfl)), (hw _ (List.mem_of_getElem? (i := 37) rfl))⟩)
  obtain ⟨w_U_INT8_T, ev_U_INT8_T⟩ := exa_v n37
  have EX_U_INT8_T := Exa.start ev_U_INT8_T n37
  have SS_U_INT8_T := Sta.start ev_U_INT8_T (Or.inr ⟨(hw _ (List.mem_of_getElem? (i := 3) rfl)), (hw _ (List.mem_of_getElem? (i := 39) rfl))⟩)
  obtain ⟨w_U_INT16_T, ev_U_INT16_T⟩ := exa_v n39
  have EX_U_INT16_T := Exa.start ev_U_INT16_T n39
  have SS_U_INT16_T := Sta.start ev_U_INT16_T (Or.inr ⟨(hw _ (List.mem_of_getElem? (i := 3) rfl)), (hw _ (List.mem_of_getElem? (i := 41) rfl))⟩)
  obtain ⟨w_U_INT32_T, ev_U_INT32_T⟩ := exa_v n41
  have EX_U_INT32_T := Exa.start ev_U_INT32_T n41
  have SS_U_INT32_T := Sta.start ev_U_INT32_T (Or.inr ⟨(hw _ (List.mem_of_getElem? (i := 3) rfl)), (hw _ (List.mem_of_getElem? (i := 43) rfl))⟩)
  obtain ⟨w_INT64_T, ev_INT64_T⟩ := exa_v n43
  have EX_INT64_T := Exa.start ev_INT64_T n43
  have SS_INT64_T := Sta.start ev_INT64_T (Or.inr ⟨(hw _ (List.mem_of_getElem? (i := 3) rfl)), (hw _ (List.mem_of_getElem? (i := 45) rfl))⟩)
  obtain ⟨w_UINT64_T, ev_UINT64_T⟩ := exa_v n45
  have EX_UINT64_T := Exa.start ev_UINT64_T n45
  have SS_UINT64_T := Sta.start ev_UINT64_T (Or.inr ⟨(hw _ (List.mem_of_getElem? (i := 3) rfl)), (hw _ (List.mem_of_getElem? (i := 47) rfl))⟩)
  obtain ⟨w_U_INT64_T, ev_U_INT64_T⟩ := exa_v n47
  have EX_U_INT64_T := Exa.start ev_U_INT64_T n47
  have SS_U_INT64_T := Sta.start ev_U_INT64_T (Or.inr ⟨(hw _ (List.mem_of_getElem? (i := 3) rfl)), (hw _ (List.mem_of_getElem? (i := 49) rfl))⟩)
  obtain ⟨w_QUAD_T, ev_QUAD_T⟩ := exa_v n49
  have EX_QUAD_T := Exa.start ev_QUAD_T n49
  have SS_QUAD_T := Sta.start ev_QUAD_T (Or.inr ⟨(hw _ (List.mem_of_getElem? (i := 3) rfl)), (hw _ (List.mem_of_getElem? (i := 51) rfl))⟩)
  obtain ⟨w_U_QUAD_T, ev_U_QUAD_T⟩ := exa_v n51
  have EX_U_QUAD_T := Exa.start ev_U_QUAD_T n51
  have SS_U_QUAD_T := Sta.start ev_U_QUAD_T (Or.inr ⟨(hw _ (List.mem_of_getElem? (i := 3) rfl)), (hw _ (List.mem_of_getElem? (i := 53) rfl))⟩)
  obtain ⟨w_BOOL, ev_BOOL⟩ := exa_v n53
  have EX_BOOL := Exa.start ev_BOOL n53
  have SS_BOOL := Sta.start ev_BOOL (Or.inr ⟨(hw _ (List.mem_of_getElem? (i := 3) rfl)), (hw _ (List.mem_of_getElem? (i := 55) rfl))⟩)
  obtain ⟨w_FLOAT, ev_FLOAT⟩ := exa_v n55
  have EX_FLOAT := Exa.start ev_FLOAT n55
  have SS_FLOAT := Sta.start ev_FLOAT (Or.inr ⟨(hw _ (List.mem_of_getElem? (i := 3) rfl)), (hw _ (List.mem_of_getElem? (i := 57) rfl))⟩)
  obtain ⟨w_DOUBLE, ev_DOUBLE⟩ := exa_v n57
  have EX_DOUBLE := Exa.start ev_DOUBLE n57
  have SS_DOUBLE := Sta.start ev_DOUBLE (Or.inr ⟨(hw _ (List.mem_of_getElem? (i := 3) rfl)), (hw _ (List.mem_of_getElem? (i := 59) rfl))⟩)
  obtain ⟨w_QUADRUPLE, ev_QUADRUPLE⟩ := exa_v n59
  have EX_QUADRUPLE := Exa.start ev_QUADRUPLE n59
  have SS_QUADRUPLE := Sta.start ev_QUADRUPLE (Or.inr ⟨(hw _ (List.mem_of_getElem? (i := 3) rfl)), (hw _ (List.mem_of_getElem? (i := 61) rfl))⟩)
  obtain ⟨w_VOID, ev_VOID⟩ := exa_v n61
  have EX_VOID := Exa.start ev_VOID n61
  have SS_VOID := Sta.start ev_VOID (Or.inr ⟨(hw _ (List.mem_of_getElem? (i := 3) rfl)), (hw _ (List.mem_of_getElem? (i := 63) rfl))⟩)
  obtain ⟨m_INT, em_INT⟩ := exa_v n63
  obtain ⟨m_UNSIGNED_HYPER, em_UNSIGNED_HYPER⟩ := exa_v n65
  obtain ⟨m_INT64_T, em_INT64_T⟩ := exa_v n67
  obtain ⟨m_INT8_T, em_INT8_T⟩ := exa_v n79
  obtain ⟨m_INT16_T, em_INT16_T⟩ := exa_v n103
  obtain ⟨m_LONG, em_LONG⟩ := exa_v n107
  have em_INT32_T := own_eqref n69 em_INT
  have em_UINT64_T := own_eqref n71 em_UNSIGNED_HYPER
  have em_UINT8_T := own_eqref n73 em_UNSIGNED_HYPER
  have em_U_CHAR := own_eqref n75 em_UNSIGNED_HYPER
  have em_HYPER := own_eqref n77 em_INT64_T
  have em_U_LONG := own_eqref n81 em_UNSIGNED_HYPER
  have em_U_SHORT := own_eqref n83 em_UNSIGNED_HYPER
  have em_UNSIGNED_INT := own_eqref n85 em_UNSIGNED_HYPER
  have em_VOID := null_v n87
  have em_BOOL := null_v n89
  have em_UINT32_T := own_eqref n91 em_UNSIGNED_HYPER
  have em_DOUBLE := null_v n93
  have em_U_INT32_T := own_eqref n95 em_UNSIGNED_HYPER
  have em_FLOAT := null_v n97
  have em_UINT16_T := own_eqref n99 em_UNSIGNED_HYPER
  have em_U_INT16_T := own_eqref n101 em_UNSIGNED_HYPER
  have em_SHORT := own_eqref n105 em_INT16_T
  have em_U_INT := own_eqref n109 em_UNSIGNED_HYPER
  have em_U_INT8_T := own_eqref n111 em_UNSIGNED_HYPER
  have em_QUADRUPLE := null_v n113
  have em_CHAR := own_eqref n115 em_INT8_T
  have em_U_INT64_T := own_eqref n117 em_UNSIGNED_HYPER
  have em_U_QUAD_T := own_eqref n119 em_UNSIGNED_HYPER
  have em_QUAD_T := own_eqref n120 em_INT64_T
  have MM_INT := Fld.start ((fld_at ev_INT).symm.trans em_INT)
  have MM_UNSIGNED_INT := Fld.start ((fld_at ev_UNSIGNED_INT).symm.trans em_UNSIGNED_INT)
  have MM_HYPER := Fld.start ((fld_at ev_HYPER).symm.trans em_HYPER)
  have MM_UNSIGNED_HYPER := Fld.start ((fld_at ev_UNSIGNED_HYPER).symm.trans em_UNSIGNED_HYPER)
  have MM_CHAR := Fld.start ((fld_at ev_CHAR).symm.trans em_CHAR)
  have MM_SHORT := Fld.start ((fld_at ev_SHORT).symm.trans em_SHORT)
  have MM_LONG := Fld.start ((fld_at ev_LONG).symm.trans em_LONG)
  have MM_U_CHAR := Fld.start ((fld_at ev_U_CHAR).symm.trans em_U_CHAR)
  have MM_U_SHORT := Fld.start ((fld_at ev_U_SHORT).symm.trans em_U_SHORT)
  have MM_U_INT := Fld.start ((fld_at ev_U_INT).symm.trans em_U_INT)
  have MM_U_LONG := Fld.start ((fld_at ev_U_LONG).symm.trans em_U_LONG)
  have MM_INT8_T := Fld.start ((fld_at ev_INT8_T).symm.trans em_INT8_T)
  have MM_INT16_T := Fld.start ((fld_at ev_INT16_T).symm.trans em_INT16_T)
  have MM_INT32_T := Fld.start ((fld_at ev_INT32_T).symm.trans em_INT32_T)
  have MM_UINT8_T := Fld.start ((fld_at ev_UINT8_T).symm.trans em_UINT8_T)
  have MM_UINT16_T := Fld.start ((fld_at ev_UINT16_T).symm.trans em_UINT16_T)
  have MM_UINT32_T := Fld.start ((fld_at ev_UINT32_T).symm.trans em_UINT32_T)
  have MM_U_INT8_T := Fld.start ((fld_at ev_U_INT8_T).symm.trans em_U_INT8_T)
  have MM_U_INT16_T := Fld.start ((fld_at ev_U_INT16_T).symm.trans em_U_INT16_T)
  have MM_U_INT32_T := Fld.start ((fld_at ev_U_INT32_T).symm.trans em_U_INT32_T)
  have MM_INT64_T := Fld.start ((fld_at ev_INT64_T).symm.trans em_INT64_T)
  have MM_UINT64_T := Fld.start ((fld_at ev_UINT64_T).symm.trans em_UINT64_T)
  have MM_U_INT64_T := Fld.start ((fld_at ev_U_INT64_T).symm.trans em_U_INT64_T)
  have MM_QUAD_T := Fld.start ((fld_at ev_QUAD_T).symm.trans em_QUAD_T)
  have MM_U_QUAD_T := Fld.start ((fld_at ev_U_QUAD_T).symm.trans em_U_QUAD_T)
  have MM_BOOL := Fld.start ((fld_at ev_BOOL).symm.trans em_BOOL)
  have MM_FLOAT := Fld.start ((fld_at ev_FLOAT).symm.trans em_FLOAT)
  have MM_DOUBLE := Fld.start ((fld_at ev_DOUBLE).symm.trans em_DOUBLE)
  have MM_QUADRUPLE := Fld.start ((fld_at ev_QUADRUPLE).symm.trans em_QUADRUPLE)
  have MM_VOID := Fld.start ((fld_at ev_VOID).symm.trans em_VOID)
  obtain ⟨n, o, h1, h2, h3, _, L, rfl, ⟨rfl, N, -⟩, hq⟩ := rm0 l s _ hw tables_1 i0 m_INT m_UNSIGNED_HYPER m_INT64_T m_UNSIGNED_HYPER m_INT8_T m_INT16_T m_LONG m_UNSIGNED_HYPER m_UNSIGNED_HYPER m_UNSIGNED_HYPER m_UNSIGNED_HYPER m_INT8_T m_INT16_T m_INT m_UNSIGNED_HYPER m_UNSIGNED_HYPER m_UNSIGNED_HYPER m_UNSIGNED_HYPER m_UNSIGNED_HYPER m_UNSIGNED_HYPER m_INT64_T m_UNSIGNED_HYPER m_UNSIGNED_HYPER m_INT64_T m_UNSIGNED_HYPER w_INT w_UNSIGNED_INT w_HYPER w_UNSIGNED_HYPER w_CHAR w_SHORT w_LONG w_U_CHAR w_U_SHORT w_U_INT w_U_LONG w_INT8_T w_INT16_T w_INT32_T w_UINT8_T w_UINT16_T w_UINT32_T w_U_INT8_T w_U_INT16_T w_U_INT32_T w_INT64_T w_UINT64_T w_U_INT64_T w_QUAD_T w_U_QUAD_T w_BOOL w_FLOAT w_DOUBLE w_QUADRUPLE w_VOID s.heap s.heap.size (Old.start s) SS_INT SS_UNSIGNED_INT SS_HYPER SS_UNSIGNED_HYPER SS_CHAR SS_SHORT SS_LONG SS_U_CHAR SS_U_SHORT SS_U_INT SS_U_LONG SS_INT8_T SS_INT16_T SS_INT32_T SS_UINT8_T SS_UINT16_T SS_UINT32_T SS_U_INT8_T SS_U_INT16_T SS_U_INT32_T SS_INT64_T SS_UINT64_T SS_U_INT64_T SS_QUAD_T SS_U_QUAD_T SS_BOOL SS_FLOAT SS_DOUBLE SS_QUADRUPLE SS_VOID EX_INT EX_UNSIGNED_INT EX_HYPER EX_UNSIGNED_HYPER EX_CHAR EX_SHORT EX_LONG EX_U_CHAR EX_U_SHORT EX_U_INT EX_U_LONG EX_INT8_T EX_INT16_T EX_INT32_T EX_UINT8_T EX_UINT16_T EX_UINT32_T EX_U_INT8_T EX_U_INT16_T EX_U_INT32_T EX_INT64_T EX_UINT64_T EX_U_INT64_T EX_QUAD_T EX_U_QUAD_T EX_BOOL EX_FLOAT EX_DOUBLE EX_QUADRUPLE EX_VOID MM_INT MM_UNSIGNED_INT MM_HYPER MM_UNSIGNED_HYPER MM_CHAR MM_SHORT MM_LONG MM_U_CHAR MM_U_SHORT MM_U_INT MM_U_LONG MM_INT8_T MM_INT16_T MM_INT32_T MM_UINT8_T MM_UINT16_T MM_UINT32_T MM_U_INT8_T MM_U_INT16_T MM_U_INT32_T MM_INT64_T MM_UINT64_T MM_U_INT64_T MM_QUAD_T MM_U_QUAD_T MM_BOOL MM_FLOAT MM_DOUBLE MM_QUADRUPLE MM_VOID p e ha hc hk s m _ below hf ((Spec.applies_iff_loose hf).mp happ).1 ⟨rfl, State.Warmed39.refl s, rfl⟩ trivial
  refine ⟨n, _, h1, h2, h3, hpost _ _ _ _ _ _ ⟨Cond.after_iff.mpr rfl, Cond.after_iff.mpr (eq_i res_at (Term.int_eval (1)) rfl), trivial⟩ ⟨hq.1, hq.2.1, (hq.2.2.sift fun y hy => Or.inr (N y hy)).mono (by decide) (by decide)⟩⟩
theorem main_1_1 : Claimed_1_1 := comes_1 fun _ _ _ _ _ _ h hF => ⟨h.1, hF⟩
theorem main_1_2 : Claimed_1_2 := comes_1 fun _ _ _ _ _ _ h hF => ⟨h.2.1, hF⟩
end Jvm.Pilot.@@N@@
namespace Jvm.Pilot.@@N@@
open Jvm Jvm.ClassFile Sem Op Lib Jvm.Free Jvm.Stand Jvm.Pilot.@@N@@.Jvm.D
/-! MADE BY PROGRAM (witnessworld.py) out of the Statement's table words and the real class files: 16 classes; the members and pool entries that the words name. The judged class is class 1, her method 1. -/
namespace start1
open Jvm.ClassFile
def u (s : String) : CpInfo := .utf8 (stringToUtf16 s)
/-- a pool by its gaps: so many unusable entries, then the entry; so many at the end -/
def gap : Nat → List CpInfo → List CpInfo
  | 0, r => r
  | n + 1, r => .unusable :: gap n r
def poolList (es : List (Nat × CpInfo)) (last : Nat) : List CpInfo := es.foldr (fun e r => gap e.1 (e.2 :: r)) (gap last [])
def pool (es : List (Nat × CpInfo)) (last : Nat) : Array CpInfo := ⟨poolList es last⟩
def fileOf (pool : Array CpInfo) (this : Nat) (attrs : Array Attribute := #[]) (ms : Array MethodInfo := #[]) (fl : Nat := 33) (sup : Nat := 0) (ifs : Array Nat := #[]) (fds : Array FieldInfo := #[]) : ClassFile where
  minorVersion := 0
  majorVersion := 65
  constantPool := pool
  accessFlags := fl
  thisClass := this
  superClass := sup
  interfaces := ifs
  fields := fds
  methods := ms
  attributes := attrs
def plain (name : String) (sup : Option ClassId) : Class where
  name := name
  kind := .ordinary
  loader := none
  accessFlags := 33
  super := sup
  interfaces := #[]
  cf := none
  fields := #[]
  methods := #[]
  instanceTypes := #[]
  staticTypes := #[]
  resolved := #[]
  callSites := []
  init := .initialized
  statics := none
  mirror := none

def pool0 : Array CpInfo := pool [(5, u "<init>"), (0, u "()V"), (1, .class_ 10), (1, u "java/lang/Object")] 113

def k0m0 : Method := { name := "<init>", desc := "()V", sig := { parameters := [], returnType := none }, accessFlags := 1, code := none }
/-- java/lang/Object -/
def k0 : Class := { plain "java/lang/Object" none with
  accessFlags := 33
  interfaces := #[]
  cf := some (fileOf pool0 8 #[] #[{ accessFlags := 1, nameIndex := 5, descriptorIndex := 6, attributes := #[] }] 33 0 #[] #[])
  fields := #[]
  methods := #[k0m0]
  instanceTypes := #[]
  staticTypes := #[]
  resolved := Array.replicate 124 none
  statics := none }

def pool1 : Array CpInfo := pool [(2, .class_ 4), (1, u "java/lang/Object"), (0, u "<init>"), (0, u "()V"), (0, .class_ 8), (0, u "com/example/tetrad/tetrad/description/Type$Primitive"), (0, .fieldref 7 10), (0, .nameAndType 11 12), (0, u "INT"), (0, u "Lcom/example/tetrad/tetrad/description/Type$Primitive;"), (0, .fieldref 7 14), (0, .nameAndType 15 12), (0, u "UNSIGNED_INT"), (0, .fieldref 7 17), (0, .nameAndType 18 12), (0, u "HYPER"), (0, .fieldref 7 20), (0, .nameAndType 21 12), (0, u "UNSIGNED_HYPER"), (0, .fieldref 7 23), (0, .nameAndType 24 12), (0, u "CHAR"), (0, .fieldref 7 26), (0, .nameAndType 27 12), (0, u "SHORT"), (0, .fieldref 7 29), (0, .nameAndType 30 12), (0, u "LONG"), (0, .fieldref 7 32), (0, .nameAndType 33 12), (0, u "U_CHAR"), (0, .fieldref 7 35), (0, .nameAndType 36 12), (0, u "U_SHORT"), (0, .fieldref 7 38), (0, .nameAndType 39 12), (0, u "U_INT"), (0, .fieldref 7 41), (0, .nameAndType 42 12), (0, u "U_LONG"), (0, .fieldref 7 44), (0, .nameAndType 45 12), (0, u "INT8_T"), (0, .fieldref 7 47), (0, .nameAndType 48 12), (0, u "INT16_T"), (0, .fieldref 7 50), (0, .nameAndType 51 12), (0, u "INT32_T"), (0, .fieldref 7 53), (0, .nameAndType 54 12), (0, u "UINT8_T"), (0, .fieldref 7 56), (0, .nameAndType 57 12), (0, u "UINT16_T"), (0, .fieldref 7 59), (0, .nameAndType 60 12), (0, u "UINT32_T"), (0, .fieldref 7 62), (0, .nameAndType 63 12), (0, u "U_INT8_T"), (0, .fieldref 7 65), (0, .nameAndType 66 12), (0, u "U_INT16_T"), (0, .fieldref 7 68), (0, .nameAndType 69 12), (0, u "U_INT32_T"), (0, .fieldref 7 71), (0, .nameAndType 72 12), (0, u "INT64_T"), (0, .fieldref 7 74), (0, .nameAndType 75 12), (0, u "UINT64_T"), (0, .fieldref 7 77), (0, .nameAndType 78 12), (0, u "U_INT64_T"), (0, .fieldref 7 80), (0, .nameAndType 81 12), (0, u "QUAD_T"), (0, .fieldref 7 83), (0, .nameAndType 84 12), (0, u "U_QUAD_T"), (0, .fieldref 7 86), (0, .nameAndType 87 12), (0, u "BOOL"), (0, .fieldref 7 89), (0, .nameAndType 90 12), (0, u "FLOAT"), (0, .fieldref 7 92), (0, .nameAndType 93 12), (0, u "DOUBLE"), (0, .fieldref 7 95), (0, .nameAndType 96 12), (0, u "QUADRUPLE"), (0, .fieldref 7 98), (0, .nameAndType 99 12), (0, u "VOID"), (0, .integer 2147483647), (0, .methodref 7 102), (0, .nameAndType 103 104), (0, u "isInteger"), (0, u "()Z"), (0, .class_ 106), (0, u "com/example/tetrad/tetrad/description/PrimitiveIsIntegerPinLaw"), (2, u "law"), (0, u "(I)Z")] 9

def k1m0 : Method := { name := "<init>", desc := "()V", sig := { parameters := [], returnType := none }, accessFlags := 2, code := none }
def k1c1 : Code := { maxStack := 4, maxLocals := 4, code := code, exceptionTable := #[], attributes := #[] }
def k1m1 : Method := { name := "law", desc := "(I)Z", sig := { parameters := [.int], returnType := some .boolean }, accessFlags := 9, code := some k1c1 }
/-- com/example/tetrad/tetrad/description/PrimitiveIsIntegerPinLaw -/
def k1 : Class := { plain "com/example/tetrad/tetrad/description/PrimitiveIsIntegerPinLaw" (some 0) with
  accessFlags := 49
  interfaces := #[]
  cf := some (fileOf pool1 105 #[] #[{ accessFlags := 2, nameIndex := 5, descriptorIndex := 6, attributes := #[] }, { accessFlags := 9, nameIndex := 109, descriptorIndex := 110, attributes := #[] }] 49 2 #[] #[])
  fields := #[]
  methods := #[k1m0, k1m1]
  instanceTypes := #[]
  staticTypes := #[]
  resolved := Array.replicate 120 none
  statics := none }

def pool2 : Array CpInfo := pool [(1, .class_ 2), (0, u "java/lang/constant/Constable"), (0, .class_ 4), (0, u "java/lang/Object")] 6

/-- java/lang/constant/Constable -/
def k2 : Class := { plain "java/lang/constant/Constable" (some 0) with
  accessFlags := 1537
  interfaces := #[]
  cf := some (fileOf pool2 1 #[] #[] 1537 3 #[] #[])
  fields := #[]
  methods := #[]
  instanceTypes := #[]
  staticTypes := #[]
  resolved := Array.replicate 11 none
  statics := none }

def pool3 : Array CpInfo := pool [(1, .class_ 2), (0, u "java/lang/Comparable"), (0, .class_ 4), (0, u "java/lang/Object")] 7

/-- java/lang/Comparable -/
def k3 : Class := { plain "java/lang/Comparable" (some 0) with
  accessFlags := 1537
  interfaces := #[]
  cf := some (fileOf pool3 1 #[] #[] 1537 3 #[] #[])
  fields := #[]
  methods := #[]
  instanceTypes := #[]
  staticTypes := #[]
  resolved := Array.replicate 12 none
  statics := none }

def pool4 : Array CpInfo := pool [(1, .class_ 2), (0, u "java/io/Serializable"), (0, .class_ 4), (0, u "java/lang/Object")] 2

/-- java/io/Serializable -/
def k4 : Class := { plain "java/io/Serializable" (some 0) with
  accessFlags := 1537
  interfaces := #[]
  cf := some (fileOf pool4 1 #[] #[] 1537 3 #[] #[])
  fields := #[]
  methods := #[]
  instanceTypes := #[]
  staticTypes := #[]
  resolved := Array.replicate 7 none
  statics := none }

def pool5 : Array CpInfo := pool [(2, .class_ 4), (1, u "java/lang/Enum"), (0, u "name"), (0, u "Ljava/lang/String;"), (2, u "ordinal"), (0, u "I"), (1, .class_ 14), (1, u "java/lang/Object"), (4, u "hash"), (86, .class_ 108), (1, u "java/lang/Enum$EnumDesc"), (2, .class_ 112), (0, u "java/lang/constant/Constable"), (0, .class_ 114), (0, u "java/lang/Comparable"), (0, .class_ 116), (0, u "java/io/Serializable")] 87

/-- java/lang/Enum -/
def k5 : Class := { plain "java/lang/Enum" (some 0) with
  accessFlags := 1057
  interfaces := #[2, 3, 4]
  cf := some (fileOf pool5 2 #[.nestMembers #[106]] #[] 1057 12 #[111, 113, 115] #[{ accessFlags := 18, nameIndex := 5, descriptorIndex := 6, attributes := #[] }, { accessFlags := 18, nameIndex := 9, descriptorIndex := 10, attributes := #[] }, { accessFlags := 2, nameIndex := 19, descriptorIndex := 10, attributes := #[] }])
  fields := #[{ name := "name", type := (.object "java/lang/String"), accessFlags := 18, slot := 0, constantValue := 0 }, { name := "ordinal", type := .int, accessFlags := 18, slot := 1, constantValue := 0 }, { name := "hash", type := .int, accessFlags := 2, slot := 2, constantValue := 0 }]
  methods := #[]
  instanceTypes := #[(.object "java/lang/String"), .int, .int]
  staticTypes := #[]
  resolved := Array.replicate 204 none
  statics := none }

def pool6 : Array CpInfo := pool [(1, .class_ 2), (0, u "com/example/tetrad/tetrad/description/Type"), (0, .class_ 4), (0, u "java/lang/Object"), (3, .class_ 9), (0, u "com/example/tetrad/tetrad/description/Type$OptionalData"), (0, .class_ 11), (0, u "com/example/tetrad/tetrad/description/Type$VariableArray"), (0, .class_ 13), (0, u "com/example/tetrad/tetrad/description/Type$FixedArray"), (0, .class_ 15), (0, u "com/example/tetrad/tetrad/description/Type$StringType"), (0, .class_ 17), (0, u "com/example/tetrad/tetrad/description/Type$VariableOpaque"), (0, .class_ 19), (0, u "com/example/tetrad/tetrad/description/Type$FixedOpaque"), (0, .class_ 21), (0, u "com/example/tetrad/tetrad/description/Type$Arm"), (0, .class_ 23), (0, u "com/example/tetrad/tetrad/description/Type$UnionType"), (0, .class_ 25), (0, u "com/example/tetrad/tetrad/description/Type$StructType"), (0, .class_ 27), (0, u "com/example/tetrad/tetrad/description/Type$EnumMember"), (0, .class_ 29), (0, u "com/example/tetrad/tetrad/description/Type$EnumType"), (0, .class_ 31), (0, u "com/example/tetrad/tetrad/description/Type$Named"), (0, .class_ 33), (0, u "com/example/tetrad/tetrad/description/Type$Primitive")] 15

/-- com/example/tetrad/tetrad/description/Type -/
def k6 : Class := { plain "com/example/tetrad/tetrad/description/Type" (some 0) with
  accessFlags := 1537
  interfaces := #[]
  cf := some (fileOf pool6 1 #[.nestMembers #[8, 10, 12, 14, 16, 18, 20, 22, 24, 26, 28, 30, 32]] #[] 1537 3 #[] #[])
  fields := #[]
  methods := #[]
  instanceTypes := #[]
  staticTypes := #[]
  resolved := Array.replicate 49 none
  statics := none }

def pool7 : Array CpInfo := pool [(1, .class_ 2), (0, u "com/example/tetrad/tetrad/description/Type$Primitive"), (2, u "INT"), (0, u "Lcom/example/tetrad/tetrad/description/Type$Primitive;"), (2, u "UNSIGNED_INT"), (2, u "HYPER"), (2, u "UNSIGNED_HYPER"), (2, u "CHAR"), (2, u "SHORT"), (2, u "LONG"), (2, u "U_CHAR"), (2, u "U_SHORT"), (2, u "U_INT"), (2, u "U_LONG"), (2, u "INT8_T"), (2, u "INT16_T"), (2, u "INT32_T"), (2, u "UINT8_T"), (2, u "UINT16_T"), (2, u "UINT32_T"), (2, u "U_INT8_T"), (2, u "U_INT16_T"), (2, u "U_INT32_T"), (2, u "INT64_T"), (2, u "UINT64_T"), (2, u "U_INT64_T"), (2, u "QUAD_T"), (2, u "U_QUAD_T"), (2, u "BOOL"), (2, u "FLOAT"), (2, u "DOUBLE"), (2, u "QUADRUPLE"), (2, u "VOID"), (2, u "$VALUES"), (0, u "[Lcom/example/tetrad/tetrad/description/Type$Primitive;"), (6, .class_ 106), (1, u "java/lang/Enum"), (16, u "size"), (0, u "I"), (0, .fieldref 1 126), (0, .nameAndType 127 128), (0, u "minimum"), (0, u "Ljava/math/BigInteger;"), (2, u "maximum"), (5, u "spelling"), (0, u "Ljava/lang/String;"), (2, u "libraryName"), (0, u "Z"), (12, u "isInteger"), (0, u "()Z"), (143, .class_ 301), (0, u "com/example/tetrad/tetrad/description/Type")] 25

def k7c0 : Code := { maxStack := 1, maxLocals := 1, code := prog_34_method_10_code, exceptionTable := #[], attributes := #[] }
def k7m0 : Method := { name := "isInteger", desc := "()Z", sig := { parameters := [], returnType := some .boolean }, accessFlags := 1, code := some k7c0 }
/-- com/example/tetrad/tetrad/description/Type$Primitive -/
def k7 : Class := { plain "com/example/tetrad/tetrad/description/Type$Primitive" (some 5) with
  accessFlags := 16433
  interfaces := #[6]
  cf := some (fileOf pool7 1 #[.nestHost 300] #[{ accessFlags := 1, nameIndex := 155, descriptorIndex := 156, attributes := #[] }] 16433 104 #[300] #[{ accessFlags := 16409, nameIndex := 5, descriptorIndex := 6, attributes := #[] }, { accessFlags := 16409, nameIndex := 9, descriptorIndex := 6, attributes := #[] }, { accessFlags := 16409, nameIndex := 12, descriptorIndex := 6, attributes := #[] }, { accessFlags := 16409, nameIndex := 15, descriptorIndex := 6, attributes := #[] }, { accessFlags := 16409, nameIndex := 18, descriptorIndex := 6, attributes := #[] }, { accessFlags := 16409, nameIndex := 21, descriptorIndex := 6, attributes := #[] }, { accessFlags := 16409, nameIndex := 24, descriptorIndex := 6, attributes := #[] }, { accessFlags := 16409, nameIndex := 27, descriptorIndex := 6, attributes := #[] }, { accessFlags := 16409, nameIndex := 30, descriptorIndex := 6, attributes := #[] }, { accessFlags := 16409, nameIndex := 33, descriptorIndex := 6, attributes := #[] }, { accessFlags := 16409, nameIndex := 36, descriptorIndex := 6, attributes := #[] }, { accessFlags := 16409, nameIndex := 39, descriptorIndex := 6, attributes := #[] }, { accessFlags := 16409, nameIndex := 42, descriptorIndex := 6, attributes := #[] }, { accessFlags := 16409, nameIndex := 45, descriptorIndex := 6, attributes := #[] }, { accessFlags := 16409, nameIndex := 48, descriptorIndex := 6, attributes := #[] }, { accessFlags := 16409, nameIndex := 51, descriptorIndex := 6, attributes := #[] }, { accessFlags := 16409, nameIndex := 54, descriptorIndex := 6, attributes := #[] }, { accessFlags := 16409, nameIndex := 57, descriptorIndex := 6, attributes := #[] }, { accessFlags := 16409, nameIndex := 60, descriptorIndex := 6, attributes := #[] }, { accessFlags := 16409, nameIndex := 63, descriptorIndex := 6, attributes := #[] }, { accessFlags := 16409, nameIndex := 66, descriptorIndex := 6, attributes := #[] }, { accessFlags := 16409, nameIndex := 69, descriptorIndex := 6, attributes := #[] }, { accessFlags := 16409, nameIndex := 72, descriptorIndex := 6, attributes := #[] }, { accessFlags := 16409, nameIndex := 75, descriptorIndex := 6, attributes := #[] }, { accessFlags := 16409, nameIndex := 78, descriptorIndex := 6, attributes := #[] }, { accessFlags := 16409, nameIndex := 81, descriptorIndex := 6, attributes := #[] }, { accessFlags := 16409, nameIndex := 84, descriptorIndex := 6, attributes := #[] }, { accessFlags := 16409, nameIndex := 87, descriptorIndex := 6, attributes := #[] }, { accessFlags := 16409, nameIndex := 90, descriptorIndex := 6, attributes := #[] }, { accessFlags := 16409, nameIndex := 93, descriptorIndex := 6, attributes := #[] }, { accessFlags := 18, nameIndex := 137, descriptorIndex := 138, attributes := #[] }, { accessFlags := 18, nameIndex := 123, descriptorIndex := 124, attributes := #[] }, { accessFlags := 18, nameIndex := 127, descriptorIndex := 128, attributes := #[] }, { accessFlags := 18, nameIndex := 131, descriptorIndex := 128, attributes := #[] }, { accessFlags := 18, nameIndex := 141, descriptorIndex := 142, attributes := #[] }, { accessFlags := 4122, nameIndex := 96, descriptorIndex := 97, attributes := #[] }])
  fields := #[{ name := "INT", type := (.object "com/example/tetrad/tetrad/description/Type$Primitive"), accessFlags := 16409, slot := 0, constantValue := 0 }, { name := "UNSIGNED_INT", type := (.object "com/example/tetrad/tetrad/description/Type$Primitive"), accessFlags := 16409, slot := 1, constantValue := 0 }, { name := "HYPER", type := (.object "com/example/tetrad/tetrad/description/Type$Primitive"), accessFlags := 16409, slot := 2, constantValue := 0 }, { name := "UNSIGNED_HYPER", type := (.object "com/example/tetrad/tetrad/description/Type$Primitive"), accessFlags := 16409, slot := 3, constantValue := 0 }, { name := "CHAR", type := (.object "com/example/tetrad/tetrad/description/Type$Primitive"), accessFlags := 16409, slot := 4, constantValue := 0 }, { name := "SHORT", type := (.object "com/example/tetrad/tetrad/description/Type$Primitive"), accessFlags := 16409, slot := 5, constantValue := 0 }, { name := "LONG", type := (.object "com/example/tetrad/tetrad/description/Type$Primitive"), accessFlags := 16409, slot := 6, constantValue := 0 }, { name := "U_CHAR", type := (.object "com/example/tetrad/tetrad/description/Type$Primitive"), accessFlags := 16409, slot := 7, constantValue := 0 }, { name := "U_SHORT", type := (.object "com/example/tetrad/tetrad/description/Type$Primitive"), accessFlags := 16409, slot := 8, constantValue := 0 }, { name := "U_INT", type := (.object "com/example/tetrad/tetrad/description/Type$Primitive"), accessFlags := 16409, slot := 9, constantValue := 0 }, { name := "U_LONG", type := (.object "com/example/tetrad/tetrad/description/Type$Primitive"), accessFlags := 16409, slot := 10, constantValue := 0 }, { name := "INT8_T", type := (.object "com/example/tetrad/tetrad/description/Type$Primitive"), accessFlags := 16409, slot := 11, constantValue := 0 }, { name := "INT16_T", type := (.object "com/example/tetrad/tetrad/description/Type$Primitive"), accessFlags := 16409, slot := 12, constantValue := 0 }, { name := "INT32_T", type := (.object "com/example/tetrad/tetrad/description/Type$Primitive"), accessFlags := 16409, slot := 13, constantValue := 0 }, { name := "UINT8_T", type := (.object "com/example/tetrad/tetrad/description/Type$Primitive"), accessFlags := 16409, slot := 14, constantValue := 0 }, { name := "UINT16_T", type := (.object "com/example/tetrad/tetrad/description/Type$Primitive"), accessFlags := 16409, slot := 15, constantValue := 0 }, { name := "UINT32_T", type := (.object "com/example/tetrad/tetrad/description/Type$Primitive"), accessFlags := 16409, slot := 16, constantValue := 0 }, { name := "U_INT8_T", type := (.object "com/example/tetrad/tetrad/description/Type$Primitive"), accessFlags := 16409, slot := 17, constantValue := 0 }, { name := "U_INT16_T", type := (.object "com/example/tetrad/tetrad/description/Type$Primitive"), accessFlags := 16409, slot := 18, constantValue := 0 }, { name := "U_INT32_T", type := (.object "com/example/tetrad/tetrad/description/Type$Primitive"), accessFlags := 16409, slot := 19, constantValue := 0 }, { name := "INT64_T", type := (.object "com/example/tetrad/tetrad/description/Type$Primitive"), accessFlags := 16409, slot := 20, constantValue := 0 }, { name := "UINT64_T", type := (.object "com/example/tetrad/tetrad/description/Type$Primitive"), accessFlags := 16409, slot := 21, constantValue := 0 }, { name := "U_INT64_T", type := (.object "com/example/tetrad/tetrad/description/Type$Primitive"), accessFlags := 16409, slot := 22, constantValue := 0 }, { name := "QUAD_T", type := (.object "com/example/tetrad/tetrad/description/Type$Primitive"), accessFlags := 16409, slot := 23, constantValue := 0 }, { name := "U_QUAD_T", type := (.object "com/example/tetrad/tetrad/description/Type$Primitive"), accessFlags := 16409, slot := 24, constantValue := 0 }, { name := "BOOL", type := (.object "com/example/tetrad/tetrad/description/Type$Primitive"), accessFlags := 16409, slot := 25, constantValue := 0 }, { name := "FLOAT", type := (.object "com/example/tetrad/tetrad/description/Type$Primitive"), accessFlags := 16409, slot := 26, constantValue := 0 }, { name := "DOUBLE", type := (.object "com/example/tetrad/tetrad/description/Type$Primitive"), accessFlags := 16409, slot := 27, constantValue := 0 }, { name := "QUADRUPLE", type := (.object "com/example/tetrad/tetrad/description/Type$Primitive"), accessFlags := 16409, slot := 28, constantValue := 0 }, { name := "VOID", type := (.object "com/example/tetrad/tetrad/description/Type$Primitive"), accessFlags := 16409, slot := 29, constantValue := 0 }, { name := "spelling", type := (.object "java/lang/String"), accessFlags := 18, slot := 3, constantValue := 0 }, { name := "size", type := .int, accessFlags := 18, slot := 4, constantValue := 0 }, { name := "minimum", type := (.object "java/math/BigInteger"), accessFlags := 18, slot := 5, constantValue := 0 }, { name := "maximum", type := (.object "java/math/BigInteger"), accessFlags := 18, slot := 6, constantValue := 0 }, { name := "libraryName", type := .boolean, accessFlags := 18, slot := 7, constantValue := 0 }, { name := "$VALUES", type := (.array (.object "com/example/tetrad/tetrad/description/Type$Primitive")), accessFlags := 4122, slot := 30, constantValue := 0 }]
  methods := #[k7m0]
  instanceTypes := #[(.object "java/lang/String"), .int, .int, (.object "java/lang/String"), .int, (.object "java/math/BigInteger"), (.object "java/math/BigInteger"), .boolean]
  staticTypes := #[(.object "com/example/tetrad/tetrad/description/Type$Primitive"), (.object "com/example/tetrad/tetrad/description/Type$Primitive"), (.object "com/example/tetrad/tetrad/description/Type$Primitive"), (.object "com/example/tetrad/tetrad/description/Type$Primitive"), (.object "com/example/tetrad/tetrad/description/Type$Primitive"), (.object "com/example/tetrad/tetrad/description/Type$Primitive"), (.object "com/example/tetrad/tetrad/description/Type$Primitive"), (.object "com/example/tetrad/tetrad/description/Type$Primitive"), (.object "com/example/tetrad/tetrad/description/Type$Primitive"), (.object "com/example/tetrad/tetrad/description/Type$Primitive"), (.object "com/example/tetrad/tetrad/description/Type$Primitive"), (.object "com/example/tetrad/tetrad/description/Type$Primitive"), (.object "com/example/tetrad/tetrad/description/Type$Primitive"), (.object "com/example/tetrad/tetrad/description/Type$Primitive"), (.object "com/example/tetrad/tetrad/description/Type$Primitive"), (.object "com/example/tetrad/tetrad/description/Type$Primitive"), (.object "com/example/tetrad/tetrad/description/Type$Primitive"), (.object "com/example/tetrad/tetrad/description/Type$Primitive"), (.object "com/example/tetrad/tetrad/description/Type$Primitive"), (.object "com/example/tetrad/tetrad/description/Type$Primitive"), (.object "com/example/tetrad/tetrad/description/Type$Primitive"), (.object "com/example/tetrad/tetrad/description/Type$Primitive"), (.object "com/example/tetrad/tetrad/description/Type$Primitive"), (.object "com/example/tetrad/tetrad/description/Type$Primitive"), (.object "com/example/tetrad/tetrad/description/Type$Primitive"), (.object "com/example/tetrad/tetrad/description/Type$Primitive"), (.object "com/example/tetrad/tetrad/description/Type$Primitive"), (.object "com/example/tetrad/tetrad/description/Type$Primitive"), (.object "com/example/tetrad/tetrad/description/Type$Primitive"), (.object "com/example/tetrad/tetrad/description/Type$Primitive"), (.array (.object "com/example/tetrad/tetrad/description/Type$Primitive"))]
  resolved := Array.replicate 327 none
  statics := some 0 }

def pool8 : Array CpInfo := pool [(2, .class_ 4), (1, u "java/lang/Object"), (0, u "<init>"), (0, u "()V"), (1, .class_ 10), (1, u "java/lang/Number"), (2, .class_ 14), (0, u "java/io/Serializable"), (0, u "serialVersionUID"), (0, u "J")] 20

def k8m0 : Method := { name := "<init>", desc := "()V", sig := { parameters := [], returnType := none }, accessFlags := 1, code := none }
/-- java/lang/Number -/
def k8 : Class := { plain "java/lang/Number" (some 0) with
  accessFlags := 1057
  interfaces := #[4]
  cf := some (fileOf pool8 8 #[] #[{ accessFlags := 1, nameIndex := 5, descriptorIndex := 6, attributes := #[] }] 1057 2 #[13] #[{ accessFlags := 26, nameIndex := 15, descriptorIndex := 16, attributes := #[] }])
  fields := #[{ name := "serialVersionUID", type := .long, accessFlags := 26, slot := 0, constantValue := 0 }]
  methods := #[k8m0]
  instanceTypes := #[]
  staticTypes := #[.long]
  resolved := Array.replicate 37 none
  statics := none }

def pool9 : Array CpInfo := pool [(4, .class_ 6), (1, u "java/lang/Number"), (16, .class_ 25), (1, u "java/math/BigInteger"), (0, u "ZERO"), (0, u "Ljava/math/BigInteger;"), (2, u "mag"), (0, u "[I"), (2, u "signum"), (0, u "I"), (59, u "bitsPerDigit"), (0, u "[J"), (9, u "digitsPerInt"), (12, u "intRadix"), (60, u "SMALL_PRIME_PRODUCT"), (79, u "ONE"), (6, u "TWO"), (43, u "$assertionsDisabled"), (0, u "Z"), (36, u "posConst"), (0, u "[Ljava/math/BigInteger;"), (4, u "negConst"), (116, .class_ 474), (1, u "java/math/BigInteger$RecursiveOp"), (106, u "NEGATIVE_ONE"), (91, u "bnExpModThreshTable"), (72, u "lowestSetBitPlusTwo"), (2, u "bitLengthPlusOne"), (2, u "bitCountPlusOne"), (6, u "LOG_TWO"), (0, u "D"), (2, u "logCache"), (0, u "[D"), (13, u "NUM_ZEROS"), (2, u "ZEROS"), (0, u "Ljava/lang/String;"), (9, u "longRadix"), (5, u "digitsPerLong"), (22, u "powerCache"), (0, u "[[Ljava/math/BigInteger;"), (45, u "firstNonzeroIntNumPlusTwo"), (38, .class_ 909), (1, u "java/math/BigInteger$UnsafeHolder"), (141, u "TEN"), (106, u "serialPersistentFields"), (0, u "[Ljava/io/ObjectStreamField;"), (0, .class_ 1161), (0, u "java/lang/Comparable"), (0, u "LONG_MASK"), (0, u "J"), (1, u "MAX_MAG_LENGTH"), (0, u "PRIME_SEARCH_BIT_LENGTH_LIMIT"), (1, u "KARATSUBA_THRESHOLD"), (1, u "TOOM_COOK_THRESHOLD"), (1, u "KARATSUBA_SQUARE_THRESHOLD"), (1, u "TOOM_COOK_SQUARE_THRESHOLD"), (1, u "BURNIKEL_ZIEGLER_THRESHOLD"), (0, u "BURNIKEL_ZIEGLER_OFFSET"), (1, u "SCHOENHAGE_BASE_CONVERSION_THRESHOLD"), (1, u "MULTIPLY_SQUARE_THRESHOLD"), (0, u "MONTGOMERY_INTRINSIC_THRESHOLD"), (1, u "SMALL_PRIME_THRESHOLD"), (1, u "DEFAULT_PRIME_CERTAINTY"), (1, u "MAX_CONSTANT"), (3, u "serialVersionUID"), (338, .class_ 1532), (0, u "java/math/BigInteger$RecursiveOp$RecursiveSquare"), (0, .class_ 1534), (0, u "java/math/BigInteger$RecursiveOp$RecursiveMultiply")] 7

/-- java/math/BigInteger -/
def k9 : Class := { plain "java/math/BigInteger" (some 8) with
  accessFlags := 33
  interfaces := #[3]
  cf := some (fileOf pool9 23 #[.nestMembers #[907, 472, 1531, 1533]] #[] 33 4 #[1160] #[{ accessFlags := 16, nameIndex := 34, descriptorIndex := 35, attributes := #[] }, { accessFlags := 16, nameIndex := 30, descriptorIndex := 31, attributes := #[] }, { accessFlags := 2, nameIndex := 752, descriptorIndex := 35, attributes := #[] }, { accessFlags := 2, nameIndex := 749, descriptorIndex := 35, attributes := #[] }, { accessFlags := 2, nameIndex := 746, descriptorIndex := 35, attributes := #[] }, { accessFlags := 2, nameIndex := 868, descriptorIndex := 35, attributes := #[] }, { accessFlags := 24, nameIndex := 1162, descriptorIndex := 1163, attributes := #[] }, { accessFlags := 26, nameIndex := 1165, descriptorIndex := 35, attributes := #[] }, { accessFlags := 26, nameIndex := 1166, descriptorIndex := 35, attributes := #[] }, { accessFlags := 26, nameIndex := 1168, descriptorIndex := 35, attributes := #[] }, { accessFlags := 26, nameIndex := 1170, descriptorIndex := 35, attributes := #[] }, { accessFlags := 26, nameIndex := 1172, descriptorIndex := 35, attributes := #[] }, { accessFlags := 26, nameIndex := 1174, descriptorIndex := 35, attributes := #[] }, { accessFlags := 24, nameIndex := 1176, descriptorIndex := 35, attributes := #[] }, { accessFlags := 24, nameIndex := 1177, descriptorIndex := 35, attributes := #[] }, { accessFlags := 26, nameIndex := 1179, descriptorIndex := 35, attributes := #[] }, { accessFlags := 26, nameIndex := 1181, descriptorIndex := 35, attributes := #[] }, { accessFlags := 26, nameIndex := 1182, descriptorIndex := 35, attributes := #[] }, { accessFlags := 10, nameIndex := 95, descriptorIndex := 96, attributes := #[] }, { accessFlags := 26, nameIndex := 1184, descriptorIndex := 35, attributes := #[] }, { accessFlags := 26, nameIndex := 1186, descriptorIndex := 35, attributes := #[] }, { accessFlags := 26, nameIndex := 180, descriptorIndex := 27, attributes := #[] }, { accessFlags := 26, nameIndex := 1188, descriptorIndex := 35, attributes := #[] }, { accessFlags := 26, nameIndex := 349, descriptorIndex := 350, attributes := #[] }, { accessFlags := 26, nameIndex := 355, descriptorIndex := 350, attributes := #[] }, { accessFlags := 74, nameIndex := 821, descriptorIndex := 822, attributes := #[] }, { accessFlags := 26, nameIndex := 763, descriptorIndex := 764, attributes := #[] }, { accessFlags := 26, nameIndex := 759, descriptorIndex := 760, attributes := #[] }, { accessFlags := 25, nameIndex := 26, descriptorIndex := 27, attributes := #[] }, { accessFlags := 25, nameIndex := 260, descriptorIndex := 27, attributes := #[] }, { accessFlags := 25, nameIndex := 267, descriptorIndex := 27, attributes := #[] }, { accessFlags := 26, nameIndex := 581, descriptorIndex := 27, attributes := #[] }, { accessFlags := 25, nameIndex := 1051, descriptorIndex := 27, attributes := #[] }, { accessFlags := 8, nameIndex := 673, descriptorIndex := 31, attributes := #[] }, { accessFlags := 10, nameIndex := 778, descriptorIndex := 35, attributes := #[] }, { accessFlags := 26, nameIndex := 781, descriptorIndex := 782, attributes := #[] }, { accessFlags := 10, nameIndex := 798, descriptorIndex := 31, attributes := #[] }, { accessFlags := 10, nameIndex := 792, descriptorIndex := 350, attributes := #[] }, { accessFlags := 10, nameIndex := 106, descriptorIndex := 31, attributes := #[] }, { accessFlags := 10, nameIndex := 119, descriptorIndex := 31, attributes := #[] }, { accessFlags := 26, nameIndex := 1192, descriptorIndex := 1163, attributes := #[] }, { accessFlags := 26, nameIndex := 1158, descriptorIndex := 1159, attributes := #[] }, { accessFlags := 4120, nameIndex := 311, descriptorIndex := 312, attributes := #[] }])
  fields := #[{ name := "signum", type := .int, accessFlags := 16, slot := 0, constantValue := 0 }, { name := "mag", type := (.array .int), accessFlags := 16, slot := 1, constantValue := 0 }, { name := "bitCountPlusOne", type := .int, accessFlags := 2, slot := 2, constantValue := 0 }, { name := "bitLengthPlusOne", type := .int, accessFlags := 2, slot := 3, constantValue := 0 }, { name := "lowestSetBitPlusTwo", type := .int, accessFlags := 2, slot := 4, constantValue := 0 }, { name := "firstNonzeroIntNumPlusTwo", type := .int, accessFlags := 2, slot := 5, constantValue := 0 }, { name := "LONG_MASK", type := .long, accessFlags := 24, slot := 0, constantValue := 0 }, { name := "MAX_MAG_LENGTH", type := .int, accessFlags := 26, slot := 1, constantValue := 0 }, { name := "PRIME_SEARCH_BIT_LENGTH_LIMIT", type := .int, accessFlags := 26, slot := 2, constantValue := 0 }, { name := "KARATSUBA_THRESHOLD", type := .int, accessFlags := 26, slot := 3, constantValue := 0 }, { name := "TOOM_COOK_THRESHOLD", type := .int, accessFlags := 26, slot := 4, constantValue := 0 }, { name := "KARATSUBA_SQUARE_THRESHOLD", type := .int, accessFlags := 26, slot := 5, constantValue := 0 }, { name := "TOOM_COOK_SQUARE_THRESHOLD", type := .int, accessFlags := 26, slot := 6, constantValue := 0 }, { name := "BURNIKEL_ZIEGLER_THRESHOLD", type := .int, accessFlags := 24, slot := 7, constantValue := 0 }, { name := "BURNIKEL_ZIEGLER_OFFSET", type := .int, accessFlags := 24, slot := 8, constantValue := 0 }, { name := "SCHOENHAGE_BASE_CONVERSION_THRESHOLD", type := .int, accessFlags := 26, slot := 9, constantValue := 0 }, { name := "MULTIPLY_SQUARE_THRESHOLD", type := .int, accessFlags := 26, slot := 10, constantValue := 0 }, { name := "MONTGOMERY_INTRINSIC_THRESHOLD", type := .int, accessFlags := 26, slot := 11, constantValue := 0 }, { name := "bitsPerDigit", type := (.array .long), accessFlags := 10, slot := 12, constantValue := 0 }, { name := "SMALL_PRIME_THRESHOLD", type := .int, accessFlags := 26, slot := 13, constantValue := 0 }, { name := "DEFAULT_PRIME_CERTAINTY", type := .int, accessFlags := 26, slot := 14, constantValue := 0 }, { name := "SMALL_PRIME_PRODUCT", type := (.object "java/math/BigInteger"), accessFlags := 26, slot := 15, constantValue := 0 }, { name := "MAX_CONSTANT", type := .int, accessFlags := 26, slot := 16, constantValue := 0 }, { name := "posConst", type := (.array (.object "java/math/BigInteger")), accessFlags := 26, slot := 17, constantValue := 0 }, { name := "negConst", type := (.array (.object "java/math/BigInteger")), accessFlags := 26, slot := 18, constantValue := 0 }, { name := "powerCache", type := (.array (.array (.object "java/math/BigInteger"))), accessFlags := 74, slot := 19, constantValue := 0 }, { name := "logCache", type := (.array .double), accessFlags := 26, slot := 20, constantValue := 0 }, { name := "LOG_TWO", type := .double, accessFlags := 26, slot := 21, constantValue := 0 }, { name := "ZERO", type := (.object "java/math/BigInteger"), accessFlags := 25, slot := 22, constantValue := 0 }, { name := "ONE", type := (.object "java/math/BigInteger"), accessFlags := 25, slot := 23, constantValue := 0 }, { name := "TWO", type := (.object "java/math/BigInteger"), accessFlags := 25, slot := 24, constantValue := 0 }, { name := "NEGATIVE_ONE", type := (.object "java/math/BigInteger"), accessFlags := 26, slot := 25, constantValue := 0 }, { name := "TEN", type := (.object "java/math/BigInteger"), accessFlags := 25, slot := 26, constantValue := 0 }, { name := "bnExpModThreshTable", type := (.array .int), accessFlags := 8, slot := 27, constantValue := 0 }, { name := "NUM_ZEROS", type := .int, accessFlags := 10, slot := 28, constantValue := 0 }, { name := "ZEROS", type := (.object "java/lang/String"), accessFlags := 26, slot := 29, constantValue := 0 }, { name := "digitsPerLong", type := (.array .int), accessFlags := 10, slot := 30, constantValue := 0 }, { name := "longRadix", type := (.array (.object "java/math/BigInteger")), accessFlags := 10, slot := 31, constantValue := 0 }, { name := "digitsPerInt", type := (.array .int), accessFlags := 10, slot := 32, constantValue := 0 }, { name := "intRadix", type := (.array .int), accessFlags := 10, slot := 33, constantValue := 0 }, { name := "serialVersionUID", type := .long, accessFlags := 26, slot := 34, constantValue := 0 }, { name := "serialPersistentFields", type := (.array (.object "java/io/ObjectStreamField")), accessFlags := 26, slot := 35, constantValue := 0 }, { name := "$assertionsDisabled", type := .boolean, accessFlags := 4120, slot := 36, constantValue := 0 }]
  methods := #[]
  instanceTypes := #[.int, (.array .int), .int, .int, .int, .int]
  staticTypes := #[.long, .int, .int, .int, .int, .int, .int, .int, .int, .int, .int, .int, (.array .long), .int, .int, (.object "java/math/BigInteger"), .int, (.array (.object "java/math/BigInteger")), (.array (.object "java/math/BigInteger")), (.array (.array (.object "java/math/BigInteger"))), (.array .double), .double, (.object "java/math/BigInteger"), (.object "java/math/BigInteger"), (.object "java/math/BigInteger"), (.object "java/math/BigInteger"), (.object "java/math/BigInteger"), (.array .int), .int, (.object "java/lang/String"), (.array .int), (.array (.object "java/math/BigInteger")), (.array .int), (.array .int), .long, (.array (.object "java/io/ObjectStreamField")), .boolean]
  resolved := Array.replicate 1542 none
  statics := none }

def pool10 : Array CpInfo := pool [(1, u "java/lang/Cloneable"), (0, .class_ 1), (0, u "java/lang/Object"), (0, .class_ 3)] 3

/-- java/lang/Cloneable -/
def k10 : Class := { plain "java/lang/Cloneable" (some 0) with
  accessFlags := 1537
  interfaces := #[]
  cf := some (fileOf pool10 2 #[] #[] 1537 4 #[] #[])
  fields := #[]
  methods := #[]
  instanceTypes := #[]
  staticTypes := #[]
  resolved := Array.replicate 8 none
  statics := none }

/-- the primitive byte -/
def k11 : Class := { plain "byte" none with kind := .primitive 'B', accessFlags := 0x411 }
/-- [B -/
def k12 : Class := { plain "[B" (some 0) with kind := .array 11 .byte, interfaces := #[10, 4], accessFlags := 1041 }

/-- the primitive int -/
def k13 : Class := { plain "int" none with kind := .primitive 'I', accessFlags := 0x411 }
/-- [I -/
def k14 : Class := { plain "[I" (some 0) with kind := .array 13 .int, interfaces := #[10, 4], accessFlags := 1041 }

/-- [Lcom/example/tetrad/tetrad/description/Type$Primitive; -/
def k15 : Class := { plain "[Lcom/example/tetrad/tetrad/description/Type$Primitive;" (some 0) with kind := .array 7 (.object "com/example/tetrad/tetrad/description/Type$Primitive"), interfaces := #[10, 4], accessFlags := 1041 }

def heap : Heap := #[{ cls := 7, slots := #[.ref 1, .ref 2, .ref 3, .ref 4, .ref 5, .ref 6, .ref 7, .ref 8, .ref 9, .ref 10, .ref 11, .ref 12, .ref 13, .ref 14, .ref 15, .ref 16, .ref 17, .ref 18, .ref 19, .ref 20, .ref 21, .ref 22, .ref 23, .ref 24, .ref 25, .ref 26, .ref 27, .ref 28, .ref 29, .ref 30, .null], vm := .statics 7 },
  { cls := 7, slots := #[.null, .int 0, .int 0, .null, .int 0, .ref 31, .null, .int 0], vm := .none },
  { cls := 7, slots := #[.null, .int 1, .int 0, .null, .int 0, .ref 31, .null, .int 0], vm := .none },
  { cls := 7, slots := #[.null, .int 2, .int 0, .null, .int 0, .ref 31, .null, .int 0], vm := .none },
  { cls := 7, slots := #[.null, .int 3, .int 0, .null, .int 0, .ref 31, .null, .int 0], vm := .none },
  { cls := 7, slots := #[.null, .int 4, .int 0, .null, .int 0, .ref 31, .null, .int 0], vm := .none },
  { cls := 7, slots := #[.null, .int 5, .int 0, .null, .int 0, .ref 31, .null, .int 0], vm := .none },
  { cls := 7, slots := #[.null, .int 6, .int 0, .null, .int 0, .ref 31, .null, .int 0], vm := .none },
  { cls := 7, slots := #[.null, .int 7, .int 0, .null, .int 0, .ref 31, .null, .int 0], vm := .none },
  { cls := 7, slots := #[.null, .int 8, .int 0, .null, .int 0, .ref 31, .null, .int 0], vm := .none },
  { cls := 7, slots := #[.null, .int 9, .int 0, .null, .int 0, .ref 31, .null, .int 0], vm := .none },
  { cls := 7, slots := #[.null, .int 10, .int 0, .null, .int 0, .ref 31, .null, .int 0], vm := .none },
  { cls := 7, slots := #[.null, .int 11, .int 0, .null, .int 0, .ref 31, .null, .int 0], vm := .none },
  { cls := 7, slots := #[.null, .int 12, .int 0, .null, .int 0, .ref 31, .null, .int 0], vm := .none },
  { cls := 7, slots := #[.null, .int 13, .int 0, .null, .int 0, .ref 31, .null, .int 0], vm := .none },
  { cls := 7, slots := #[.null, .int 14, .int 0, .null, .int 0, .ref 31, .null, .int 0], vm := .none },
  { cls := 7, slots := #[.null, .int 15, .int 0, .null, .int 0, .ref 31, .null, .int 0], vm := .none },
  { cls := 7, slots := #[.null, .int 16, .int 0, .null, .int 0, .ref 31, .null, .int 0], vm := .none },
  { cls := 7, slots := #[.null, .int 17, .int 0, .null, .int 0, .ref 31, .null, .int 0], vm := .none },
  { cls := 7, slots := #[.null, .int 18, .int 0, .null, .int 0, .ref 31, .null, .int 0], vm := .none },
  { cls := 7, slots := #[.null, .int 19, .int 0, .null, .int 0, .ref 31, .null, .int 0], vm := .none },
  { cls := 7, slots := #[.null, .int 20, .int 0, .null, .int 0, .ref 31, .null, .int 0], vm := .none },
  { cls := 7, slots := #[.null, .int 21, .int 0, .null, .int 0, .ref 31, .null, .int 0], vm := .none },
  { cls := 7, slots := #[.null, .int 22, .int 0, .null, .int 0, .ref 31, .null, .int 0], vm := .none },
  { cls := 7, slots := #[.null, .int 23, .int 0, .null, .int 0, .ref 31, .null, .int 0], vm := .none },
  { cls := 7, slots := #[.null, .int 24, .int 0, .null, .int 0, .ref 31, .null, .int 0], vm := .none },
  { cls := 7, slots := #[.null, .int 25, .int 0, .null, .int 0, .null, .null, .int 0], vm := .none },
  { cls := 7, slots := #[.null, .int 26, .int 0, .null, .int 0, .null, .null, .int 0], vm := .none },
  { cls := 7, slots := #[.null, .int 27, .int 0, .null, .int 0, .null, .null, .int 0], vm := .none },
  { cls := 7, slots := #[.null, .int 28, .int 0, .null, .int 0, .null, .null, .int 0], vm := .none },
  { cls := 7, slots := #[.null, .int 29, .int 0, .null, .int 0, .null, .null, .int 0], vm := .none },
  { cls := 9, slots := #[.int 0, .null, .int 0, .int 0, .int 0, .int 0], vm := .none }]
def classes : Array Class := #[k0, k1, k2, k3, k4, k5, k6, k7, k8, k9, k10, k11, k12, k13, k14, k15]
def interned : List (Array UInt16 × Addr) := []
def slotsUsed : Nat := 277
def theMethod : MethodId := ⟨1, 1⟩
def args0 : Array Value := #[.int 5]
def aboutOver (below : List Frame) : State where
  vm := { classes := classes, interned := interned.toArray }
  heap := heap
  slotsUsed := slotsUsed
  threads := #[{ frames := .invoking theMethod args0 :: below }]
def below0 : List Frame := [.native { method := ⟨0, 0⟩, args := #[] }]
def about1 : State := aboutOver below0
def p0 : Program := .bare "" "" ""
def e0 : Env := launch0.env 0 0 0
theorem w_frames : about1.frames = Frame.invoking theMethod args0 :: below0 := rfl
set_option maxRecDepth 65536 in
theorem w_args : argsFit about1.vm theMethod args0 = true := by decide +kernel
set_option maxRecDepth 65536 in
theorem w_heap : heapFits about1 = true := by decide +kernel
set_option maxRecDepth 65536 in
theorem w_runnable : about1.curStatus? = some .runnable := by decide +kernel
set_option maxRecDepth 65536 in
theorem w_alone : about1.alone = true := by decide +kernel
set_option maxRecDepth 65536 in
theorem w_named : about1.methodNamed? x = some theMethod := by decide +kernel
set_option maxRecDepth 65536 in
theorem w_hears : about1.hears theMethod below0 = true := by decide +kernel
set_option maxRecDepth 65536 in
theorem w_ripe : about1.ripe theMethod args0 below0 = true := by decide +kernel
theorem w_running : about1.status = .running := rfl
set_option maxRecDepth 65536 in
theorem w_room : about1.hasRoom e0.platform room_1 = true :=
  launch0.hasRoom_least _ room_1 (by decide +kernel) (by decide +kernel) (by decide +kernel) (by decide +kernel) (by decide +kernel) (by decide +kernel)
theorem allAtoms_all (ts : List Jvm.Cond) (a : Array Jvm.Value) (st : Jvm.State) : (allAtoms ts).before a st = ts.all (fun c => c.before a st) := by
  induction ts with
  | nil => rfl
  | cons c t ih =>
    show (Jvm.Cond.and c (allAtoms t)).before a st = _
    rw [Jvm.Cond.before_and, ih, List.all_cons]
def words1 : List Jvm.Cond := Jvm.Cond.code x code maxLocals ret :: tables_1
/-- a 'code' word, met by the world's own term for the bytes: nothing is compared byte by byte -/
theorem code_word {y : MethodName} {bytes : ByteArray} {mx : Nat} {rt : Option FieldType} {a : Array Value} {s : State} {m : MethodId} {meth : Method} {c : Code} (h1 : s.methodNamed? y = some m) (h2 : s.vm.method? m = some meth) (h3 : meth.code = some c) (h4 : c.code = bytes)
    (h5 : (c.maxLocals == mx && c.exceptionTable.isEmpty && decide (c.maxStack ≤ mostOperands) && decide (meth.sig.returnType = rt) && !meth.locks && decide (parseMethodDescriptor y.desc = some meth.sig)) = true) : (Jvm.Cond.code y bytes mx rt).before a s = true := by
  simp only [Bool.and_eq_true, beq_iff_eq, Bool.not_eq_true', decide_eq_true_eq] at h5
  obtain ⟨⟨⟨⟨⟨g1, g2⟩, g3⟩, g4⟩, g5⟩, g6⟩ := h5
  simp [Cond.before, Cond.holds, Cond.value, h1, h2, h3, h4, g1, g2, g3, g4, g5, g6]
def isCode : Jvm.Cond → Bool
  | .code _ _ _ _ => true
  | _ => false
theorem all_split {L : List Jvm.Cond} {P : Jvm.Cond → Bool} (h1 : L.all (fun c => isCode c || P c) = true) (h2 : ∀ c ∈ L.filter isCode, P c = true) : L.all P = true := by
  refine List.all_eq_true.mpr fun c hc => ?_
  have h := List.all_eq_true.mp h1 c hc
  rcases Bool.eq_false_or_eq_true (isCode c) with hi | hi
  · exact h2 c (List.mem_filter.mpr ⟨hc, hi⟩)
  · simpa [hi] using h
set_option maxRecDepth 65536 in
theorem w_c0 : (Jvm.Cond.code x code maxLocals ret).before args0 about1 = true := code_word (m := ⟨1, 1⟩) (meth := k1m1) (c := k1c1) (by decide +kernel) rfl rfl rfl (by decide +kernel)
set_option maxRecDepth 65536 in
theorem w_c1 : (Jvm.Cond.code ({ cls := "com/example/tetrad/tetrad/description/Type$Primitive", name := "isInteger", desc := "()Z" } : Jvm.MethodName) prog_34_method_10_code (1 : Nat) (Option.some Jvm.ClassFile.FieldType.boolean)).before args0 about1 = true := code_word (m := ⟨7, 0⟩) (meth := k7m0) (c := k7c0) (by decide +kernel) rfl rfl rfl (by decide +kernel)
def codes1 : List Jvm.Cond := [Jvm.Cond.code x code maxLocals ret, Jvm.Cond.code ({ cls := "com/example/tetrad/tetrad/description/Type$Primitive", name := "isInteger", desc := "()Z" } : Jvm.MethodName) prog_34_method_10_code (1 : Nat) (Option.some Jvm.ClassFile.FieldType.boolean)]
set_option maxRecDepth 65536 in
theorem codes_eq : words1.filter isCode = codes1 := rfl
theorem w_codes : ∀ c ∈ words1.filter isCode, c.before args0 about1 = true := by
  rw [codes_eq]
  intro c hc
  simp only [codes1, List.mem_cons, List.not_mem_nil, or_false] at hc
  rcases hc with rfl | rfl
  · exact w_c0
  · exact w_c1
set_option maxRecDepth 65536 in
theorem w_t1 : (words1.take 24).all (fun c => isCode c || c.before args0 about1) = true := by decide +kernel
set_option maxRecDepth 65536 in
theorem w_t2 : ((words1.drop 24).take 24).all (fun c => isCode c || c.before args0 about1) = true := by decide +kernel
set_option maxRecDepth 65536 in
theorem w_t3 : (((words1.drop 24).drop 24).take 24).all (fun c => isCode c || c.before args0 about1) = true := by decide +kernel
set_option maxRecDepth 65536 in
theorem w_t4 : (((words1.drop 24).drop 24).drop 24).all (fun c => isCode c || c.before args0 about1) = true := by decide +kernel
theorem w_tables : (allAtoms (Jvm.Cond.code x code maxLocals ret :: tables_1)).before args0 about1 = true := by
  rw [allAtoms_all]
  show words1.all (fun c => c.before args0 about1) = true
  refine all_split ?_ w_codes
  rw [← List.take_append_drop 24 words1, List.all_append, w_t1, ← List.take_append_drop 24 (words1.drop 24), List.all_append, w_t2, ← List.take_append_drop 24 ((words1.drop 24).drop 24), List.all_append, w_t3, w_t4]
  rfl
set_option maxRecDepth 65536 in
theorem w_case : (Jvm.Cond.and given_1 narrow_1).before args0 about1 = true := by decide +kernel
theorem w_applies : (headSpec (Jvm.Cond.code x code maxLocals ret :: tables_1) room_1).applies x e0.platform about1 = true :=
  (Spec.applies_iff w_frames).mpr ⟨w_running, w_runnable, w_alone, w_named, w_hears, w_ripe, w_room, w_tables⟩
theorem atStart : AtStart classFile x code maxLocals ret World_1 tables_1 room_1 Calls_1 rest_1 Pre_1 launch0 p0 e0 about1 theMethod args0 below0 :=
  ⟨lists_1, trivial, launch0.admits_env _ _ _, launch0.least_env, fairChoices_fair.cas, fairChoices_fair.clock, w_frames, w_args, w_heap, w_applies, trivial, trivial, w_case⟩
end start1
theorem witness_1 : WitnessClaimed_1 := ⟨start1.p0, start1.e0, start1.about1, start1.theMethod, start1.args0, start1.below0, start1.atStart⟩
end Jvm.Pilot.@@N@@
