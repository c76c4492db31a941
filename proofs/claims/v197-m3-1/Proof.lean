import JvmDerived
import JvmDerived.Pilot.@@N@@Statement
import JvmDerived.Pilot.@@N@@Code
set_option linter.unusedVariables false
set_option linter.unusedSimpArgs false
@@BLOCK:NumsL.lean.txt@@
namespace Jvm.RoadKit
open Sem ClassFile Op Lib Jvm.Stand Jvm.Free Jvm.LawKit
theorem retI {p : Program} {l : Launch} {e : Env} {R : Room} {s : State} {m : MethodId} {args : Array Value} {below : List Frame} {meth : Method} {c : Code} {T : State} {locs : List Loc} {cells slots : Nat} (X : Stand p l e R s m args below meth c T locs cells slots) (hx : p.tables.exec = Jvm.exec) {pc : Nat} {Ls : Array Slot} {z : Int32} {rest : List Value} (hret : meth.sig.returnType = some .int) (hd : decode c.code pc = .ok (.ireturn, 1)) {fs : List Frame}
    (hl : ∀ (f : JFrame) (acts : List Action), f.method = m → f.locked = none → f.entered = [] → (doReturn e (T.setTop f) acts (some (.int z))).1 = T.setFrames fs) : Steps p.tables e below (T.setTop (mkF m pc Ls (.int z :: rest))) (T.setFrames fs) :=
  retOut X hx hret rfl (Or.inl ⟨rfl, Or.inl rfl, z, rfl⟩) hd hl
end Jvm.RoadKit

namespace Jvm.Pilot.@@N@@
open Jvm Jvm.ClassFile Sem Op Lib Jvm.Free Jvm.Stand Jvm.LawKit Jvm.RoadKit Bundle Jvm.Pilot.@@N@@.Jvm.D
theorem d1_0 : decode prog_31_method_5_code 0 = .ok (.aload_n 0, 1) := by decide +kernel
theorem d1_1 : decode prog_31_method_5_code 1 = .ok (.invokevirtual 36, 3) := by decide +kernel
theorem d1_4 : decode prog_31_method_5_code 4 = .ok (.tableswitch 28 0 2 #[38, 52, 66], 28) := by decide +kernel
theorem d1_42 : decode prog_31_method_5_code 42 = .ok (.dload_n 1, 1) := by decide +kernel
theorem d1_43 : decode prog_31_method_5_code 43 = .ok (.dconst 0, 1) := by decide +kernel
theorem d1_44 : decode prog_31_method_5_code 44 = .ok (.dcmp .l, 1) := by decide +kernel
theorem d1_45 : decode prog_31_method_5_code 45 = .ok (.ifCond .le 7, 3) := by decide +kernel
theorem d1_48 : decode prog_31_method_5_code 48 = .ok (.iconst 1, 1) := by decide +kernel
theorem d1_49 : decode prog_31_method_5_code 49 = .ok (.goto 33, 3) := by decide +kernel
theorem d1_52 : decode prog_31_method_5_code 52 = .ok (.iconst 0, 1) := by decide +kernel
theorem d1_53 : decode prog_31_method_5_code 53 = .ok (.goto 29, 3) := by decide +kernel
theorem d1_56 : decode prog_31_method_5_code 56 = .ok (.dload_n 1, 1) := by decide +kernel
theorem d1_57 : decode prog_31_method_5_code 57 = .ok (.dload_n 3, 1) := by decide +kernel
theorem d1_58 : decode prog_31_method_5_code 58 = .ok (.dcmp .l, 1) := by decide +kernel
theorem d1_59 : decode prog_31_method_5_code 59 = .ok (.ifCond .le 7, 3) := by decide +kernel
theorem d1_62 : decode prog_31_method_5_code 62 = .ok (.iconst 1, 1) := by decide +kernel
theorem d1_63 : decode prog_31_method_5_code 63 = .ok (.goto 19, 3) := by decide +kernel
theorem d1_66 : decode prog_31_method_5_code 66 = .ok (.iconst 0, 1) := by decide +kernel
theorem d1_67 : decode prog_31_method_5_code 67 = .ok (.goto 15, 3) := by decide +kernel
theorem d1_70 : decode prog_31_method_5_code 70 = .ok (.dload_n 1, 1) := by decide +kernel
theorem d1_71 : decode prog_31_method_5_code 71 = .ok (.dload 5, 2) := by decide +kernel
theorem d1_73 : decode prog_31_method_5_code 73 = .ok (.dcmp .l, 1) := by decide +kernel
theorem d1_74 : decode prog_31_method_5_code 74 = .ok (.ifCond .ne 7, 3) := by decide +kernel
theorem d1_77 : decode prog_31_method_5_code 77 = .ok (.iconst 1, 1) := by decide +kernel
theorem d1_78 : decode prog_31_method_5_code 78 = .ok (.goto 4, 3) := by decide +kernel
theorem d1_81 : decode prog_31_method_5_code 81 = .ok (.iconst 0, 1) := by decide +kernel
theorem d1_82 : decode prog_31_method_5_code 82 = .ok (.istore 7, 2) := by decide +kernel
theorem d1_84 : decode prog_31_method_5_code 84 = .ok (.iload 7, 2) := by decide +kernel
theorem d1_86 : decode prog_31_method_5_code 86 = .ok (.ireturn, 1) := by decide +kernel
theorem d2_0 : decode jdk_37_method_2_code 0 = .ok (.aload_n 0, 1) := by decide +kernel
theorem d2_1 : decode jdk_37_method_2_code 1 = .ok (.getfield 7, 3) := by decide +kernel
theorem d2_4 : decode jdk_37_method_2_code 4 = .ok (.ireturn, 1) := by decide +kernel
theorem pn_0 : plainName "java/lang/Enum" = true := by first | (simp [plainName, overriddenIn]; done) | decide +kernel
theorem pn_1 : plainName "com/example/breakline/breakline/Gdba$Violation" = true := by first | (simp [plainName, overriddenIn]; done) | decide +kernel
theorem pn_2 : plainName "com/example/breakline/breakline/ViolationHoldsPinLaw" = true := by first | (simp [plainName, overriddenIn]; done) | decide +kernel
theorem pd_0 : parseMethodDescriptor "()I" = some ⟨[], some .int⟩ := by decide +kernel
theorem pd_1 : parseMethodDescriptor "(DDD)Z" = some ⟨[.double, .double, .double], some .boolean⟩ := by decide +kernel
theorem own_osz {Z : State} {n0 : Nat} {h : Heap} (O : Old Z n0 h) : n0 ≤ h.size := O.1 ▸ O.2.1
theorem own_fo {s : State} {args : Array Value} {C f d : String} {a : Addr} {k : Int32} (ev : (Term.static C f d).eval args s none [] s = some (.ref a)) (h : (Cond.eq (Term.field (Term.static C f d) "java/lang/Enum" "ordinal" "I") (Term.int k)).value args s none s [] = some true) : s.fieldOf? a "java/lang/Enum" "ordinal" "I" = some (.int k) := by
  obtain ⟨x, y, h1, h2, h3, h4⟩ := cmp_v (Or.inl h)
  rw [fld_at ev] at h1
  have hy : y = .int k := by simpa [Term.eval] using h2.symm
  subst hy
  obtain ⟨z, rfl⟩ := h4
  have : (Cond.eq (Term.field (Term.static C f d) "java/lang/Enum" "ordinal" "I") (Term.int k)).value args s none s [] = some (decide (z = k)) := by simp [Cond.value, fld_at ev, h1, Term.int_eval]
  rw [h1, gotT this h]
theorem own_ne {s : State} {a b : Addr} {k j : Int32} (h1 : s.fieldOf? a "java/lang/Enum" "ordinal" "I" = some (.int k)) (h2 : s.fieldOf? b "java/lang/Enum" "ordinal" "I" = some (.int j)) (hn : k ≠ j) : a ≠ b := fun e => by
  subst e; rw [h1] at h2; exact hn (Value.int.inj (Option.some.inj h2))

theorem own_d0 : FP.dconst0 = FP.l2d 0 := by rw [l2d_zero]; rfl
theorem own_b0 : B53 0 := by constructor <;> decide
theorem own_b53 (x : Int32) : B53 x.toInt64 := by
  have h : x.toInt64.toInt = x.toInt := Jvm.Kit.i64_of_i32 x
  have h1 := x.toInt_lt; have h2 := x.le_toInt
  constructor <;> rw [h] <;> omega
theorem own_nb {z : Int32} (h : z = 0 ∨ z = 1) : nar .boolean z = z := by rcases h with rfl | rfl <;> rfl
theorem own_plain {p1 p2 p3 l a b c g nz nm mx e0 e1 e2 v : Int32} (hl : l = (p1 &&& (65535 : Int32))) (ha : a = (p2 &&& (65535 : Int32))) (hb : b = (p3 &&& (65535 : Int32))) (hc : c = (l + a)) (hg : g = (c + b))
    (h0 : nz = (if (0 : Int32) < (lcmpW c.toInt64 0) then (1 : Int32) else (0 : Int32))) (h1 : nm = (if (0 : Int32) < (lcmpW c.toInt64 l.toInt64) then (1 : Int32) else (0 : Int32))) (h2 : mx = (if (lcmpW c.toInt64 g.toInt64) = (0 : Int32) then (1 : Int32) else (0 : Int32)))
    (k0 : e0 = (if c = (0 : Int32) then (0 : Int32) else (1 : Int32))) (k1 : e1 = (if a = (0 : Int32) then (0 : Int32) else (1 : Int32))) (k2 : e2 = (if b = (0 : Int32) then (1 : Int32) else (0 : Int32)))
    (hv : v = (if nz = e0 then (if nm = e1 then (if mx = e2 then (1 : Int32) else (0 : Int32)) else (0 : Int32)) else (0 : Int32))) : v = 1 := by
  have l1 : l.toInt = p1.toInt % 2 ^ 16 := by rw [hl]; exact Jvm.Kit.i32_mask _ _ (by decide) (by decide)
  have a1 : a.toInt = p2.toInt % 2 ^ 16 := by rw [ha]; exact Jvm.Kit.i32_mask _ _ (by decide) (by decide)
  have b1 : b.toInt = p3.toInt % 2 ^ 16 := by rw [hb]; exact Jvm.Kit.i32_mask _ _ (by decide) (by decide)
  have c1 : c.toInt = l.toInt + a.toInt := by rw [hc, Jvm.Kit.i32_add (by omega) (by omega)]
  have g1 : g.toInt = c.toInt + b.toInt := by rw [hg, Jvm.Kit.i32_add (by omega) (by omega)]
  have z0 : (0 : Int32).toInt = 0 := rfl
  have z1 : (0 : Int64).toInt = 0 := rfl
  simp only [lcW, lc_gt, lc_eq] at h0 h1 h2
  have q0 : (0 : Int64) < c.toInt64 ↔ ¬ c = 0 := by rw [Int64.lt_iff_toInt_lt, Jvm.Kit.i64_of_i32, ← Int32.toInt_inj, z0, z1]; omega
  have q1 : l.toInt64 < c.toInt64 ↔ ¬ a = 0 := by rw [Int64.lt_iff_toInt_lt, Jvm.Kit.i64_of_i32, Jvm.Kit.i64_of_i32, ← Int32.toInt_inj, z0]; omega
  have q2 : c.toInt64 = g.toInt64 ↔ b = 0 := by rw [← Int64.toInt_inj, Jvm.Kit.i64_of_i32, Jvm.Kit.i64_of_i32, ← Int32.toInt_inj, z0]; omega
  have w0 : nz = e0 := by rw [h0, k0]; by_cases q : c = 0 <;> simp [q0, q]
  have w1 : nm = e1 := by rw [h1, k1]; by_cases q : a = 0 <;> simp [q1, q]
  have w2 : mx = e2 := by rw [h2, k2]; by_cases q : b = 0 <;> simp [q2, q]
  rw [hv, if_pos w0, if_pos w1, if_pos w2]

def Q2 (Z : State) (a1 : Addr) (ov : Int32) (h0 : Heap) (n0 : Nat) (v : Option Value) (h : Heap) (L : List Loc) : Prop := v = some (.int ov) ∧ Fr n0 L ∧ h = h0
theorem ef_2 (m : MethodId) (x0 : Addr) : entryFrame m #[(.ref x0)] 1 = mkF m 0 #[.val (.ref x0)] [] := by first | (simp [entryFrame, mkF, argsToLocals, Value.category]; done) | rfl
set_option maxRecDepth 65536 in
set_option maxHeartbeats 40000000 in
theorem rm2 (l : Launch) (Z : State) (a0 : Array Value) (hw : ∀ d ∈ tables_1, d.before a0 Z = true) (ws : List Jvm.Cond) (a1 : Addr) (ov : Int32) (h0 : Heap) (n0 : Nat) (O0 : Old Z n0 h0) (F_o : Fld Z h0 a1 "java/lang/Enum" "ordinal" "I" (.int ov)) :
    MetFree l (⟨"java/lang/Enum", "ordinal", "()I"⟩ : MethodName) (head1 (Jvm.Cond.code (⟨"java/lang/Enum", "ordinal", "()I"⟩ : MethodName) jdk_37_method_2_code 1 (some .int) :: ws) ({ frames := 0, cells := 0, slots := 0, locals := 0 } : Room)) (fun a U => a = #[(.ref a1)] ∧ Z.Warmed39 U.vm ∧ U.heap = h0) (fun _ _ _ _ _ => True) (fun _ U o U' => ∃ v L, o = .returned v ∧ Q2 Z a1 ov h0 n0 v U'.heap L ∧ FrameEnd U o U' L ({ frames := 0, cells := 0, slots := 0, locals := 0 } : Room).cells ({ frames := 0, cells := 0, slots := 0, locals := 0 } : Room).slots) := by
  refine MetFree.of_bodySF (plainFor_of_name pn_0) hisR ?_
  intro p e s m args below meth c s₁ Bd hml0 hP hK
  obtain ⟨rfl, hZ, hh⟩ := hP
  have hx := Bd.exec
  have hby := Bd.bytes
  have hml : c.maxLocals = 1 := hml0
  have hown : s.vm.findClass "java/lang/Enum" = some m.cls := findClass_of_methodNamed Bd.named
  have hnm := (name_of_methodNamed Bd.named Bd.method).1
  have X0 : Stand p l e ({ frames := 0, cells := 0, slots := 0, locals := 0 } : Room) s m #[(.ref a1)] below meth c s₁ [] 0 0 := Stand.of_body Bd
  have e0 : s₁.heap = h0 := by rw [← hh, Bd.state]; rfl
  have N0 := Fr.nil n0
  have pre0 : ∀ t, Steps p.tables e below (s₁.setTop (mkF m 0 #[.val (.ref a1)] [])) t → Steps p.tables e below (s₁.setTop (entryFrame m #[(.ref a1)] 1)) t := fun t k => castTop (ef_2 m a1) k
  obtain ⟨T1, X1, e1, st1⟩ := getF X0 hx hZ hown (host := "") (Or.inl (hw _ (List.mem_of_getElem? (i := 16) rfl))) Via.refl e0 F_o (g := (mkF m 1 #[.val (.ref a1)] [(.ref a1)])) rfl rfl (hb hby d2_1)
  have sg2 : ∀ target, Steps p.tables e below (T1.setTop (mkF m 4 #[.val (.ref a1)] [(.int ov)])) target → Steps p.tables e below (s₁.setTop (mkF m 0 #[.val (.ref a1)] [])) target := by
    intro target kt
    show Steps p.tables e below (s₁.setTop (mkF m 0 #[.val (.ref a1)] [])) _
    refine XS.aloadN X0.here hx rfl (hb hby d2_0) rfl rfl ?_
    show Steps p.tables e below (s₁.setTop (mkF m 1 #[.val (.ref a1)] [(.ref a1)])) _
    refine st1 _ ?_
    exact kt
  obtain ⟨fs, hr, hrun, hended, hW, hsame⟩ := X1.leave (v := some (.int ov)) (fun h => by rw [Bd.returns] at h; cases h)
  refine ⟨_, _, pre0 _ (sg2 _ (?_)), hrun, hended, _, _, rfl, ?_, ⟨_, rfl⟩, hW, hsame.mono (by decide) (by decide)⟩
  · show Steps p.tables e below (T1.setTop (mkF m 4 #[.val (.ref a1)] [(.int ov)])) _
    exact retI X1 hx Bd.returns (hb hby d2_4) hr
  · show Q2 Z a1 ov h0 n0 _ T1.heap _
    rw [e1]
    exact ⟨rfl, N0, rfl⟩
def Q1_0 (Z : State) (a1 : Addr) (x2 : Int64) (x3 : Int64) (x4 : Int64) (h0 : Heap) (n0 : Nat) (v : Option Value) (h : Heap) (L : List Loc) : Prop := v = some (.int (if (0 : Int32) < (lcmpW x2 0) then (1 : Int32) else (0 : Int32))) ∧ Fr n0 L ∧ h = h0
theorem ef_1_0 (m : MethodId) (x0 : Addr) (x1 : UInt64) (x2 : UInt64) (x3 : UInt64) : entryFrame m #[(.ref x0), (.double x1), (.double x2), (.double x3)] 8 = mkF m 0 #[.val (.ref x0), .val (.double x1), .second, .val (.double x2), .second, .val (.double x3), .second, .unset] [] := by first | (simp [entryFrame, mkF, argsToLocals, Value.category]; done) | rfl
set_option maxRecDepth 65536 in
set_option maxHeartbeats 40000000 in
theorem rm1_0 (l : Launch) (Z : State) (a0 : Array Value) (hw : ∀ d ∈ tables_1, d.before a0 Z = true) (ws : List Jvm.Cond) (a1 : Addr) (x2 : Int64) (x3 : Int64) (x4 : Int64) (h0 : Heap) (n0 : Nat) (O0 : Old Z n0 h0) (E_a : Exa Z h0 a1 "com/example/breakline/breakline/Gdba$Violation") (F_o : Fld Z h0 a1 "java/lang/Enum" "ordinal" "I" (.int (0 : Int32))) (hb2 : B53 x2) (hb3 : B53 x3) (hb4 : B53 x4) :
    MetFree l (⟨"com/example/breakline/breakline/Gdba$Violation", "holds", "(DDD)Z"⟩ : MethodName) (head1 (Jvm.Cond.code (⟨"com/example/breakline/breakline/Gdba$Violation", "holds", "(DDD)Z"⟩ : MethodName) prog_31_method_5_code 8 (some .boolean) :: ws) ({ frames := 1, cells := 0, slots := 0, locals := 12 } : Room)) (fun a U => a = #[(.ref a1), (.double (FP.l2d x2)), (.double (FP.l2d x3)), (.double (FP.l2d x4))] ∧ Z.Warmed39 U.vm ∧ U.heap = h0) (fun _ _ _ _ _ => True) (fun _ U o U' => ∃ v L, o = .returned v ∧ Q1_0 Z a1 x2 x3 x4 h0 n0 v U'.heap L ∧ FrameEnd U o U' L ({ frames := 1, cells := 0, slots := 0, locals := 12 } : Room).cells ({ frames := 1, cells := 0, slots := 0, locals := 12 } : Room).slots) := by
  refine MetFree.of_bodySF (plainFor_of_name pn_1) hisR ?_
  intro p e s m args below meth c s₁ Bd hml0 hP hK
  obtain ⟨rfl, hZ, hh⟩ := hP
  have hx := Bd.exec
  have hby := Bd.bytes
  have hml : c.maxLocals = 8 := hml0
  have hown : s.vm.findClass "com/example/breakline/breakline/Gdba$Violation" = some m.cls := findClass_of_methodNamed Bd.named
  have hnm := (name_of_methodNamed Bd.named Bd.method).1
  have X0 : Stand p l e ({ frames := 1, cells := 0, slots := 0, locals := 12 } : Room) s m #[(.ref a1), (.double (FP.l2d x2)), (.double (FP.l2d x3)), (.double (FP.l2d x4))] below meth c s₁ [] 0 0 := Stand.of_body Bd
  have e0 : s₁.heap = h0 := by rw [← hh, Bd.state]; rfl
  have N0 := Fr.nil n0
  have pre0 : ∀ t, Steps p.tables e below (s₁.setTop (mkF m 0 #[.val (.ref a1), .val (.double (FP.l2d x2)), .second, .val (.double (FP.l2d x3)), .second, .val (.double (FP.l2d x4)), .second, .unset] [])) t → Steps p.tables e below (s₁.setTop (entryFrame m #[(.ref a1), (.double (FP.l2d x2)), (.double (FP.l2d x3)), (.double (FP.l2d x4))] 8)) t := fun t k => castTop (ef_1_0 m a1 (FP.l2d x2) (FP.l2d x3) (FP.l2d x4)) k
  obtain ⟨cq1, kq1, q1a, q1b, q1c⟩ := isOf hZ e0 E_a
  obtain ⟨_, _, ⟨T1, L1, k1, n1⟩, -, X1, ⟨Lc1, hQ1, l1, y1, z1⟩, st1⟩ := X0.virtualBackUp hx (x := (⟨"com/example/breakline/breakline/Gdba$Violation", "ordinal", "()I"⟩ : MethodName)) (y := (⟨"java/lang/Enum", "ordinal", "()I"⟩ : MethodName)) (owner := "java/lang/Enum") hown (mvT hZ (hw _ (List.mem_of_getElem? (i := 9) rfl))) (mvT hZ (hw _ (List.mem_of_getElem? (i := 10) rfl))) (mvT hZ (hw _ (List.mem_of_getElem? (i := 11) rfl))) (by decide) (mvT hZ (hw _ (List.mem_of_getElem? (i := 13) rfl))) (mvT hZ (hw _ (List.mem_of_getElem? (i := 12) rfl))) (backOf (W := 0) (rm2 l Z a0 hw [] a1 (0 : Int32) h0 n0 O0 F_o) hZ (hw _ (List.mem_of_getElem? (i := 15) rfl)) (hw _ (List.mem_of_getElem? (i := 14) rfl)) (by decide) (by decide)) q1a q1c (g := (mkF m 1 #[.val (.ref a1), .val (.double (FP.l2d x2)), .second, .val (.double (FP.l2d x3)), .second, .val (.double (FP.l2d x4)), .second, .unset] [(.ref a1)])) rfl (by rw [hml]; rfl) (Steps.refl _) (argsL := []) (rest := []) (lenOf pd_0 rfl) rfl (by show 2 * 0 + _ ≤ _; exact Nat.le_of_eq rfl) (hb hby d1_1) (fun _ _ => ⟨rfl, e0, (by decide : 0 + 0 ≤ _), (by decide : 0 + 0 ≤ _)⟩)
  dsimp only [Pt.U, Pt.locs, Pt.cells, Pt.slots] at X1 l1 y1 z1 st1 hQ1
  subst l1 y1 z1
  obtain ⟨rfl, N1q, e1⟩ := hQ1
  have N1 := Fr.app N0 N1q
  have sg2 : ∀ target, Steps p.tables e below (T1.setTop (mkF m 4 #[.val (.ref a1), .val (.double (FP.l2d x2)), .second, .val (.double (FP.l2d x3)), .second, .val (.double (FP.l2d x4)), .second, .unset] [(.int (0 : Int32))])) target → Steps p.tables e below (s₁.setTop (mkF m 0 #[.val (.ref a1), .val (.double (FP.l2d x2)), .second, .val (.double (FP.l2d x3)), .second, .val (.double (FP.l2d x4)), .second, .unset] [])) target := by
    intro target kt
    show Steps p.tables e below (s₁.setTop (mkF m 0 #[.val (.ref a1), .val (.double (FP.l2d x2)), .second, .val (.double (FP.l2d x3)), .second, .val (.double (FP.l2d x4)), .second, .unset] [])) _
    refine XS.aloadN X0.here hx rfl (hb hby d1_0) rfl rfl ?_
    show Steps p.tables e below (s₁.setTop (mkF m 1 #[.val (.ref a1), .val (.double (FP.l2d x2)), .second, .val (.double (FP.l2d x3)), .second, .val (.double (FP.l2d x4)), .second, .unset] [(.ref a1)])) _
    refine st1.trans ?_
    exact kt
  obtain ⟨T7, L7, v7_t0, X7, e7, N7, hv7_t0, sg7⟩ : ∃ (T' : State) (L' : List Loc) (v7_t0 : Int32), Stand p l e ({ frames := 1, cells := 0, slots := 0, locals := 12 } : Room) s m #[(.ref a1), (.double (FP.l2d x2)), (.double (FP.l2d x3)), (.double (FP.l2d x4))] below meth c T' L' 0 0 ∧ T'.heap = h0 ∧ Fr n0 L' ∧ v7_t0 = (if (0 : Int32) < (lcmpW x2 0) then (1 : Int32) else (0 : Int32)) ∧ ∀ target, Steps p.tables e below (T'.setTop (mkF m 82 #[.val (.ref a1), .val (.double (FP.l2d x2)), .second, .val (.double (FP.l2d x3)), .second, .val (.double (FP.l2d x4)), .second, .unset] [(.int v7_t0)])) target → Steps p.tables e below (T1.setTop (mkF m 4 #[.val (.ref a1), .val (.double (FP.l2d x2)), .second, .val (.double (FP.l2d x3)), .second, .val (.double (FP.l2d x4)), .second, .unset] [(.int (0 : Int32))])) target := by
    have sg3 : ∀ target, Steps p.tables e below (T1.setTop (mkF m 45 #[.val (.ref a1), .val (.double (FP.l2d x2)), .second, .val (.double (FP.l2d x3)), .second, .val (.double (FP.l2d x4)), .second, .unset] [(.int (lcmpW x2 0))])) target → Steps p.tables e below (T1.setTop (mkF m 4 #[.val (.ref a1), .val (.double (FP.l2d x2)), .second, .val (.double (FP.l2d x3)), .second, .val (.double (FP.l2d x4)), .second, .unset] [(.int (0 : Int32))])) target := by
      intro target kt
      show Steps p.tables e below (T1.setTop (mkF m 4 #[.val (.ref a1), .val (.double (FP.l2d x2)), .second, .val (.double (FP.l2d x3)), .second, .val (.double (FP.l2d x4)), .second, .unset] [(.int (0 : Int32))])) _
      refine XS.tswIn X1.here hx rfl (pc0 := 4) (pc' := 42) rfl (hb hby d1_4) rfl (by decide) rfl (by decide) (by decide) ?_
      show Steps p.tables e below (T1.setTop (mkF m 42 #[.val (.ref a1), .val (.double (FP.l2d x2)), .second, .val (.double (FP.l2d x3)), .second, .val (.double (FP.l2d x4)), .second, .unset] [])) _
      refine XS.dloadN X1.here hx rfl (hb hby d1_42) rfl ?_
      show Steps p.tables e below (T1.setTop (mkF m 43 #[.val (.ref a1), .val (.double (FP.l2d x2)), .second, .val (.double (FP.l2d x3)), .second, .val (.double (FP.l2d x4)), .second, .unset] [(.double (FP.l2d x2))])) _
      refine XS.dconst0 X1.here hx rfl (hb hby d1_43) own_d0 ?_
      show Steps p.tables e below (T1.setTop (mkF m 44 #[.val (.ref a1), .val (.double (FP.l2d x2)), .second, .val (.double (FP.l2d x3)), .second, .val (.double (FP.l2d x4)), .second, .unset] [(.double (FP.l2d 0)), (.double (FP.l2d x2))])) _
      refine XS.dcmpS X1.here hx rfl (hb hby d1_44) rfl (dcmpV_w hb2 own_b0 .l) ?_
      exact kt
    by_cases hc4 : (0 : Int32) < (lcmpW x2 0)
    · have sg5 : ∀ target, Steps p.tables e below (T1.setTop (mkF m 82 #[.val (.ref a1), .val (.double (FP.l2d x2)), .second, .val (.double (FP.l2d x3)), .second, .val (.double (FP.l2d x4)), .second, .unset] [(.int (1 : Int32))])) target → Steps p.tables e below (T1.setTop (mkF m 45 #[.val (.ref a1), .val (.double (FP.l2d x2)), .second, .val (.double (FP.l2d x3)), .second, .val (.double (FP.l2d x4)), .second, .unset] [(.int (lcmpW x2 0))])) target := by
        intro target kt
        show Steps p.tables e below (T1.setTop (mkF m 45 #[.val (.ref a1), .val (.double (FP.l2d x2)), .second, .val (.double (FP.l2d x3)), .second, .val (.double (FP.l2d x4)), .second, .unset] [(.int (lcmpW x2 0))])) _
        refine XS.ifNo X1.here hx rfl (hb hby d1_45) rfl ((if0 _ _).trans (tlt hc4).2.2.2) ?_
        show Steps p.tables e below (T1.setTop (mkF m 48 #[.val (.ref a1), .val (.double (FP.l2d x2)), .second, .val (.double (FP.l2d x3)), .second, .val (.double (FP.l2d x4)), .second, .unset] [])) _
        refine XS.iconst X1.here hx rfl (hb hby d1_48) ?_
        show Steps p.tables e below (T1.setTop (mkF m 49 #[.val (.ref a1), .val (.double (FP.l2d x2)), .second, .val (.double (FP.l2d x3)), .second, .val (.double (FP.l2d x4)), .second, .unset] [(.int (1 : Int32))])) _
        refine XS.goto X1.here hx rfl (pc0 := 49) (pc' := 82) rfl (hb hby d1_49) (by decide) (by decide) ?_
        exact kt
      exact ⟨T1, _, (1 : Int32), X1.mono (by decide) (by decide), e1, N1, (by rw [if_pos hc4]), fun target kt => sg3 _ (sg5 _ (kt))⟩
    · have sg6 : ∀ target, Steps p.tables e below (T1.setTop (mkF m 82 #[.val (.ref a1), .val (.double (FP.l2d x2)), .second, .val (.double (FP.l2d x3)), .second, .val (.double (FP.l2d x4)), .second, .unset] [(.int (0 : Int32))])) target → Steps p.tables e below (T1.setTop (mkF m 45 #[.val (.ref a1), .val (.double (FP.l2d x2)), .second, .val (.double (FP.l2d x3)), .second, .val (.double (FP.l2d x4)), .second, .unset] [(.int (lcmpW x2 0))])) target := by
        intro target kt
        show Steps p.tables e below (T1.setTop (mkF m 45 #[.val (.ref a1), .val (.double (FP.l2d x2)), .second, .val (.double (FP.l2d x3)), .second, .val (.double (FP.l2d x4)), .second, .unset] [(.int (lcmpW x2 0))])) _
        refine XS.ifYes X1.here hx rfl (pc0 := 45) (pc' := 52) rfl (hb hby d1_45) rfl ((if0 _ _).trans (flt hc4).2.2.2) (by decide) (by decide) ?_
        show Steps p.tables e below (T1.setTop (mkF m 52 #[.val (.ref a1), .val (.double (FP.l2d x2)), .second, .val (.double (FP.l2d x3)), .second, .val (.double (FP.l2d x4)), .second, .unset] [])) _
        refine XS.iconst X1.here hx rfl (hb hby d1_52) ?_
        show Steps p.tables e below (T1.setTop (mkF m 53 #[.val (.ref a1), .val (.double (FP.l2d x2)), .second, .val (.double (FP.l2d x3)), .second, .val (.double (FP.l2d x4)), .second, .unset] [(.int (0 : Int32))])) _
        refine XS.goto X1.here hx rfl (pc0 := 53) (pc' := 82) rfl (hb hby d1_53) (by decide) (by decide) ?_
        exact kt
      exact ⟨T1, _, (0 : Int32), X1.mono (by decide) (by decide), e1, N1, (by rw [if_neg hc4]), fun target kt => sg3 _ (sg6 _ (kt))⟩
  have sg8 : ∀ target, Steps p.tables e below (T7.setTop (mkF m 86 #[.val (.ref a1), .val (.double (FP.l2d x2)), .second, .val (.double (FP.l2d x3)), .second, .val (.double (FP.l2d x4)), .second, .val (.int v7_t0)] [(.int v7_t0)])) target → Steps p.tables e below (T7.setTop (mkF m 82 #[.val (.ref a1), .val (.double (FP.l2d x2)), .second, .val (.double (FP.l2d x3)), .second, .val (.double (FP.l2d x4)), .second, .unset] [(.int v7_t0)])) target := by
    intro target kt
    show Steps p.tables e below (T7.setTop (mkF m 82 #[.val (.ref a1), .val (.double (FP.l2d x2)), .second, .val (.double (FP.l2d x3)), .second, .val (.double (FP.l2d x4)), .second, .unset] [(.int v7_t0)])) _
    refine XS.istore X7.here hx rfl (hb hby d1_82) rfl (l' := #[.val (.ref a1), .val (.double (FP.l2d x2)), .second, .val (.double (FP.l2d x3)), .second, .val (.double (FP.l2d x4)), .second, .val (.int v7_t0)]) rfl ?_
    show Steps p.tables e below (T7.setTop (mkF m 84 #[.val (.ref a1), .val (.double (FP.l2d x2)), .second, .val (.double (FP.l2d x3)), .second, .val (.double (FP.l2d x4)), .second, .val (.int v7_t0)] [])) _
    refine XS.iload X7.here hx rfl (hb hby d1_84) rfl ?_
    exact kt
  have hnar : nar .boolean v7_t0 = v7_t0 := own_nb (by rw [hv7_t0]; split <;> simp)
  obtain ⟨fs, hr, hrun, hended, hW, hsame⟩ := X7.leave (v := some (.int v7_t0)) (fun h => by rw [Bd.returns] at h; cases h)
  rw [← hnar] at hr
  refine ⟨_, _, pre0 _ (sg2 _ (sg7 _ (sg8 _ (?_)))), hrun, hended, _, _, rfl, ?_, ⟨_, rfl⟩, hW, hsame.mono (by decide) (by decide)⟩
  · show Steps p.tables e below (T7.setTop (mkF m 86 #[.val (.ref a1), .val (.double (FP.l2d x2)), .second, .val (.double (FP.l2d x3)), .second, .val (.double (FP.l2d x4)), .second, .val (.int v7_t0)] [(.int v7_t0)])) _
    exact retN X7 hx (t := .boolean) Bd.returns (by simp) (hb hby d1_86) hr
  · show Q1_0 Z a1 x2 x3 x4 h0 n0 _ T7.heap _
    rw [e7]
    exact ⟨(by rw [hv7_t0]), N7, rfl⟩
def Q1_1 (Z : State) (a1 : Addr) (x2 : Int64) (x3 : Int64) (x4 : Int64) (h0 : Heap) (n0 : Nat) (v : Option Value) (h : Heap) (L : List Loc) : Prop := v = some (.int (if (0 : Int32) < (lcmpW x2 x3) then (1 : Int32) else (0 : Int32))) ∧ Fr n0 L ∧ h = h0
theorem ef_1_1 (m : MethodId) (x0 : Addr) (x1 : UInt64) (x2 : UInt64) (x3 : UInt64) : entryFrame m #[(.ref x0), (.double x1), (.double x2), (.double x3)] 8 = mkF m 0 #[.val (.ref x0), .val (.double x1), .second, .val (.double x2), .second, .val (.double x3), .second, .unset] [] := by first | (simp [entryFrame, mkF, argsToLocals, Value.category]; done) | rfl
set_option maxRecDepth 65536 in
set_option maxHeartbeats 40000000 in
theorem rm1_1 (l : Launch) (Z : State) (a0 : Array Value) (hw : ∀ d ∈ tables_1, d.before a0 Z = true) (ws : List Jvm.Cond) (a1 : Addr) (x2 : Int64) (x3 : Int64) (x4 : Int64) (h0 : Heap) (n0 : Nat) (O0 : Old Z n0 h0) (E_a : Exa Z h0 a1 "com/example/breakline/breakline/Gdba$Violation") (F_o : Fld Z h0 a1 "java/lang/Enum" "ordinal" "I" (.int (1 : Int32))) (hb2 : B53 x2) (hb3 : B53 x3) (hb4 : B53 x4) :
    MetFree l (⟨"com/example/breakline/breakline/Gdba$Violation", "holds", "(DDD)Z"⟩ : MethodName) (head1 (Jvm.Cond.code (⟨"com/example/breakline/breakline/Gdba$Violation", "holds", "(DDD)Z"⟩ : MethodName) prog_31_method_5_code 8 (some .boolean) :: ws) ({ frames := 1, cells := 0, slots := 0, locals := 12 } : Room)) (fun a U => a = #[(.ref a1), (.double (FP.l2d x2)), (.double (FP.l2d x3)), (.double (FP.l2d x4))] ∧ Z.Warmed39 U.vm ∧ U.heap = h0) (fun _ _ _ _ _ => True) (fun _ U o U' => ∃ v L, o = .returned v ∧ Q1_1 Z a1 x2 x3 x4 h0 n0 v U'.heap L ∧ FrameEnd U o U' L ({ frames := 1, cells := 0, slots := 0, locals := 12 } : Room).cells ({ frames := 1, cells := 0, slots := 0, locals := 12 } : Room).slots) := by
  refine MetFree.of_bodySF (plainFor_of_name pn_1) hisR ?_
  intro p e s m args below meth c s₁ Bd hml0 hP hK
  obtain ⟨rfl, hZ, hh⟩ := hP
  have hx := Bd.exec
  have hby := Bd.bytes
  have hml : c.maxLocals = 8 := hml0
  have hown : s.vm.findClass "com/example/breakline/breakline/Gdba$Violation" = some m.cls := findClass_of_methodNamed Bd.named
  have hnm := (name_of_methodNamed Bd.named Bd.method).1
  have X0 : Stand p l e ({ frames := 1, cells := 0, slots := 0, locals := 12 } : Room) s m #[(.ref a1), (.double (FP.l2d x2)), (.double (FP.l2d x3)), (.double (FP.l2d x4))] below meth c s₁ [] 0 0 := Stand.of_body Bd
  have e0 : s₁.heap = h0 := by rw [← hh, Bd.state]; rfl
  have N0 := Fr.nil n0
  have pre0 : ∀ t, Steps p.tables e below (s₁.setTop (mkF m 0 #[.val (.ref a1), .val (.double (FP.l2d x2)), .second, .val (.double (FP.l2d x3)), .second, .val (.double (FP.l2d x4)), .second, .unset] [])) t → Steps p.tables e below (s₁.setTop (entryFrame m #[(.ref a1), (.double (FP.l2d x2)), (.double (FP.l2d x3)), (.double (FP.l2d x4))] 8)) t := fun t k => castTop (ef_1_1 m a1 (FP.l2d x2) (FP.l2d x3) (FP.l2d x4)) k
  obtain ⟨cq1, kq1, q1a, q1b, q1c⟩ := isOf hZ e0 E_a
  obtain ⟨_, _, ⟨T1, L1, k1, n1⟩, -, X1, ⟨Lc1, hQ1, l1, y1, z1⟩, st1⟩ := X0.virtualBackUp hx (x := (⟨"com/example/breakline/breakline/Gdba$Violation", "ordinal", "()I"⟩ : MethodName)) (y := (⟨"java/lang/Enum", "ordinal", "()I"⟩ : MethodName)) (owner := "java/lang/Enum") hown (mvT hZ (hw _ (List.mem_of_getElem? (i := 9) rfl))) (mvT hZ (hw _ (List.mem_of_getElem? (i := 10) rfl))) (mvT hZ (hw _ (List.mem_of_getElem? (i := 11) rfl))) (by decide) (mvT hZ (hw _ (List.mem_of_getElem? (i := 13) rfl))) (mvT hZ (hw _ (List.mem_of_getElem? (i := 12) rfl))) (backOf (W := 0) (rm2 l Z a0 hw [] a1 (1 : Int32) h0 n0 O0 F_o) hZ (hw _ (List.mem_of_getElem? (i := 15) rfl)) (hw _ (List.mem_of_getElem? (i := 14) rfl)) (by decide) (by decide)) q1a q1c (g := (mkF m 1 #[.val (.ref a1), .val (.double (FP.l2d x2)), .second, .val (.double (FP.l2d x3)), .second, .val (.double (FP.l2d x4)), .second, .unset] [(.ref a1)])) rfl (by rw [hml]; rfl) (Steps.refl _) (argsL := []) (rest := []) (lenOf pd_0 rfl) rfl (by show 2 * 0 + _ ≤ _; exact Nat.le_of_eq rfl) (hb hby d1_1) (fun _ _ => ⟨rfl, e0, (by decide : 0 + 0 ≤ _), (by decide : 0 + 0 ≤ _)⟩)
  dsimp only [Pt.U, Pt.locs, Pt.cells, Pt.slots] at X1 l1 y1 z1 st1 hQ1
  subst l1 y1 z1
  obtain ⟨rfl, N1q, e1⟩ := hQ1
  have N1 := Fr.app N0 N1q
  have sg2 : ∀ target, Steps p.tables e below (T1.setTop (mkF m 4 #[.val (.ref a1), .val (.double (FP.l2d x2)), .second, .val (.double (FP.l2d x3)), .second, .val (.double (FP.l2d x4)), .second, .unset] [(.int (1 : Int32))])) target → Steps p.tables e below (s₁.setTop (mkF m 0 #[.val (.ref a1), .val (.double (FP.l2d x2)), .second, .val (.double (FP.l2d x3)), .second, .val (.double (FP.l2d x4)), .second, .unset] [])) target := by
    intro target kt
    show Steps p.tables e below (s₁.setTop (mkF m 0 #[.val (.ref a1), .val (.double (FP.l2d x2)), .second, .val (.double (FP.l2d x3)), .second, .val (.double (FP.l2d x4)), .second, .unset] [])) _
    refine XS.aloadN X0.here hx rfl (hb hby d1_0) rfl rfl ?_
    show Steps p.tables e below (s₁.setTop (mkF m 1 #[.val (.ref a1), .val (.double (FP.l2d x2)), .second, .val (.double (FP.l2d x3)), .second, .val (.double (FP.l2d x4)), .second, .unset] [(.ref a1)])) _
    refine st1.trans ?_
    exact kt
  obtain ⟨T7, L7, v7_t0, X7, e7, N7, hv7_t0, sg7⟩ : ∃ (T' : State) (L' : List Loc) (v7_t0 : Int32), Stand p l e ({ frames := 1, cells := 0, slots := 0, locals := 12 } : Room) s m #[(.ref a1), (.double (FP.l2d x2)), (.double (FP.l2d x3)), (.double (FP.l2d x4))] below meth c T' L' 0 0 ∧ T'.heap = h0 ∧ Fr n0 L' ∧ v7_t0 = (if (0 : Int32) < (lcmpW x2 x3) then (1 : Int32) else (0 : Int32)) ∧ ∀ target, Steps p.tables e below (T'.setTop (mkF m 82 #[.val (.ref a1), .val (.double (FP.l2d x2)), .second, .val (.double (FP.l2d x3)), .second, .val (.double (FP.l2d x4)), .second, .unset] [(.int v7_t0)])) target → Steps p.tables e below (T1.setTop (mkF m 4 #[.val (.ref a1), .val (.double (FP.l2d x2)), .second, .val (.double (FP.l2d x3)), .second, .val (.double (FP.l2d x4)), .second, .unset] [(.int (1 : Int32))])) target := by
    have sg3 : ∀ target, Steps p.tables e below (T1.setTop (mkF m 59 #[.val (.ref a1), .val (.double (FP.l2d x2)), .second, .val (.double (FP.l2d x3)), .second, .val (.double (FP.l2d x4)), .second, .unset] [(.int (lcmpW x2 x3))])) target → Steps p.tables e below (T1.setTop (mkF m 4 #[.val (.ref a1), .val (.double (FP.l2d x2)), .second, .val (.double (FP.l2d x3)), .second, .val (.double (FP.l2d x4)), .second, .unset] [(.int (1 : Int32))])) target := by
      intro target kt
      show Steps p.tables e below (T1.setTop (mkF m 4 #[.val (.ref a1), .val (.double (FP.l2d x2)), .second, .val (.double (FP.l2d x3)), .second, .val (.double (FP.l2d x4)), .second, .unset] [(.int (1 : Int32))])) _
      refine XS.tswIn X1.here hx rfl (pc0 := 4) (pc' := 56) rfl (hb hby d1_4) rfl (by decide) rfl (by decide) (by decide) ?_
      show Steps p.tables e below (T1.setTop (mkF m 56 #[.val (.ref a1), .val (.double (FP.l2d x2)), .second, .val (.double (FP.l2d x3)), .second, .val (.double (FP.l2d x4)), .second, .unset] [])) _
      refine XS.dloadN X1.here hx rfl (hb hby d1_56) rfl ?_
      show Steps p.tables e below (T1.setTop (mkF m 57 #[.val (.ref a1), .val (.double (FP.l2d x2)), .second, .val (.double (FP.l2d x3)), .second, .val (.double (FP.l2d x4)), .second, .unset] [(.double (FP.l2d x2))])) _
      refine XS.dloadN X1.here hx rfl (hb hby d1_57) rfl ?_
      show Steps p.tables e below (T1.setTop (mkF m 58 #[.val (.ref a1), .val (.double (FP.l2d x2)), .second, .val (.double (FP.l2d x3)), .second, .val (.double (FP.l2d x4)), .second, .unset] [(.double (FP.l2d x3)), (.double (FP.l2d x2))])) _
      refine XS.dcmpS X1.here hx rfl (hb hby d1_58) rfl (dcmpV_w hb2 hb3 .l) ?_
      exact kt
    by_cases hc4 : (0 : Int32) < (lcmpW x2 x3)
    · have sg5 : ∀ target, Steps p.tables e below (T1.setTop (mkF m 82 #[.val (.ref a1), .val (.double (FP.l2d x2)), .second, .val (.double (FP.l2d x3)), .second, .val (.double (FP.l2d x4)), .second, .unset] [(.int (1 : Int32))])) target → Steps p.tables e below (T1.setTop (mkF m 59 #[.val (.ref a1), .val (.double (FP.l2d x2)), .second, .val (.double (FP.l2d x3)), .second, .val (.double (FP.l2d x4)), .second, .unset] [(.int (lcmpW x2 x3))])) target := by
        intro target kt
        show Steps p.tables e below (T1.setTop (mkF m 59 #[.val (.ref a1), .val (.double (FP.l2d x2)), .second, .val (.double (FP.l2d x3)), .second, .val (.double (FP.l2d x4)), .second, .unset] [(.int (lcmpW x2 x3))])) _
        refine XS.ifNo X1.here hx rfl (hb hby d1_59) rfl ((if0 _ _).trans (tlt hc4).2.2.2) ?_
        show Steps p.tables e below (T1.setTop (mkF m 62 #[.val (.ref a1), .val (.double (FP.l2d x2)), .second, .val (.double (FP.l2d x3)), .second, .val (.double (FP.l2d x4)), .second, .unset] [])) _
        refine XS.iconst X1.here hx rfl (hb hby d1_62) ?_
        show Steps p.tables e below (T1.setTop (mkF m 63 #[.val (.ref a1), .val (.double (FP.l2d x2)), .second, .val (.double (FP.l2d x3)), .second, .val (.double (FP.l2d x4)), .second, .unset] [(.int (1 : Int32))])) _
        refine XS.goto X1.here hx rfl (pc0 := 63) (pc' := 82) rfl (hb hby d1_63) (by decide) (by decide) ?_
        exact kt
      exact ⟨T1, _, (1 : Int32), X1.mono (by decide) (by decide), e1, N1, (by rw [if_pos hc4]), fun target kt => sg3 _ (sg5 _ (kt))⟩
    · have sg6 : ∀ target, Steps p.tables e below (T1.setTop (mkF m 82 #[.val (.ref a1), .val (.double (FP.l2d x2)), .second, .val (.double (FP.l2d x3)), .second, .val (.double (FP.l2d x4)), .second, .unset] [(.int (0 : Int32))])) target → Steps p.tables e below (T1.setTop (mkF m 59 #[.val (.ref a1), .val (.double (FP.l2d x2)), .second, .val (.double (FP.l2d x3)), .second, .val (.double (FP.l2d x4)), .second, .unset] [(.int (lcmpW x2 x3))])) target := by
        intro target kt
        show Steps p.tables e below (T1.setTop (mkF m 59 #[.val (.ref a1), .val (.double (FP.l2d x2)), .second, .val (.double (FP.l2d x3)), .second, .val (.double (FP.l2d x4)), .second, .unset] [(.int (lcmpW x2 x3))])) _
        refine XS.ifYes X1.here hx rfl (pc0 := 59) (pc' := 66) rfl (hb hby d1_59) rfl ((if0 _ _).trans (flt hc4).2.2.2) (by decide) (by decide) ?_
        show Steps p.tables e below (T1.setTop (mkF m 66 #[.val (.ref a1), .val (.double (FP.l2d x2)), .second, .val (.double (FP.l2d x3)), .second, .val (.double (FP.l2d x4)), .second, .unset] [])) _
        refine XS.iconst X1.here hx rfl (hb hby d1_66) ?_
        show Steps p.tables e below (T1.setTop (mkF m 67 #[.val (.ref a1), .val (.double (FP.l2d x2)), .second, .val (.double (FP.l2d x3)), .second, .val (.double (FP.l2d x4)), .second, .unset] [(.int (0 : Int32))])) _
        refine XS.goto X1.here hx rfl (pc0 := 67) (pc' := 82) rfl (hb hby d1_67) (by decide) (by decide) ?_
        exact kt
      exact ⟨T1, _, (0 : Int32), X1.mono (by decide) (by decide), e1, N1, (by rw [if_neg hc4]), fun target kt => sg3 _ (sg6 _ (kt))⟩
  have sg8 : ∀ target, Steps p.tables e below (T7.setTop (mkF m 86 #[.val (.ref a1), .val (.double (FP.l2d x2)), .second, .val (.double (FP.l2d x3)), .second, .val (.double (FP.l2d x4)), .second, .val (.int v7_t0)] [(.int v7_t0)])) target → Steps p.tables e below (T7.setTop (mkF m 82 #[.val (.ref a1), .val (.double (FP.l2d x2)), .second, .val (.double (FP.l2d x3)), .second, .val (.double (FP.l2d x4)), .second, .unset] [(.int v7_t0)])) target := by
    intro target kt
    show Steps p.tables e below (T7.setTop (mkF m 82 #[.val (.ref a1), .val (.double (FP.l2d x2)), .second, .val (.double (FP.l2d x3)), .second, .val (.double (FP.l2d x4)), .second, .unset] [(.int v7_t0)])) _
    refine XS.istore X7.here hx rfl (hb hby d1_82) rfl (l' := #[.val (.ref a1), .val (.double (FP.l2d x2)), .second, .val (.double (FP.l2d x3)), .second, .val (.double (FP.l2d x4)), .second, .val (.int v7_t0)]) rfl ?_
    show Steps p.tables e below (T7.setTop (mkF m 84 #[.val (.ref a1), .val (.double (FP.l2d x2)), .second, .val (.double (FP.l2d x3)), .second, .val (.double (FP.l2d x4)), .second, .val (.int v7_t0)] [])) _
    refine XS.iload X7.here hx rfl (hb hby d1_84) rfl ?_
    exact kt
  have hnar : nar .boolean v7_t0 = v7_t0 := own_nb (by rw [hv7_t0]; split <;> simp)
  obtain ⟨fs, hr, hrun, hended, hW, hsame⟩ := X7.leave (v := some (.int v7_t0)) (fun h => by rw [Bd.returns] at h; cases h)
  rw [← hnar] at hr
  refine ⟨_, _, pre0 _ (sg2 _ (sg7 _ (sg8 _ (?_)))), hrun, hended, _, _, rfl, ?_, ⟨_, rfl⟩, hW, hsame.mono (by decide) (by decide)⟩
  · show Steps p.tables e below (T7.setTop (mkF m 86 #[.val (.ref a1), .val (.double (FP.l2d x2)), .second, .val (.double (FP.l2d x3)), .second, .val (.double (FP.l2d x4)), .second, .val (.int v7_t0)] [(.int v7_t0)])) _
    exact retN X7 hx (t := .boolean) Bd.returns (by simp) (hb hby d1_86) hr
  · show Q1_1 Z a1 x2 x3 x4 h0 n0 _ T7.heap _
    rw [e7]
    exact ⟨(by rw [hv7_t0]), N7, rfl⟩
def Q1_2 (Z : State) (a1 : Addr) (x2 : Int64) (x3 : Int64) (x4 : Int64) (h0 : Heap) (n0 : Nat) (v : Option Value) (h : Heap) (L : List Loc) : Prop := v = some (.int (if (lcmpW x2 x4) = (0 : Int32) then (1 : Int32) else (0 : Int32))) ∧ Fr n0 L ∧ h = h0
theorem ef_1_2 (m : MethodId) (x0 : Addr) (x1 : UInt64) (x2 : UInt64) (x3 : UInt64) : entryFrame m #[(.ref x0), (.double x1), (.double x2), (.double x3)] 8 = mkF m 0 #[.val (.ref x0), .val (.double x1), .second, .val (.double x2), .second, .val (.double x3), .second, .unset] [] := by first | (simp [entryFrame, mkF, argsToLocals, Value.category]; done) | rfl
set_option maxRecDepth 65536 in
set_option maxHeartbeats 40000000 in
theorem rm1_2 (l : Launch) (Z : State) (a0 : Array Value) (hw : ∀ d ∈ tables_1, d.before a0 Z = true) (ws : List Jvm.Cond) (a1 : Addr) (x2 : Int64) (x3 : Int64) (x4 : Int64) (h0 : Heap) (n0 : Nat) (O0 : Old Z n0 h0) (E_a : Exa Z h0 a1 "com/example/breakline/breakline/Gdba$Violation") (F_o : Fld Z h0 a1 "java/lang/Enum" "ordinal" "I" (.int (2 : Int32))) (hb2 : B53 x2) (hb3 : B53 x3) (hb4 : B53 x4) :
    MetFree l (⟨"com/example/breakline/breakline/Gdba$Violation", "holds", "(DDD)Z"⟩ : MethodName) (head1 (Jvm.Cond.code (⟨"com/example/breakline/breakline/Gdba$Violation", "holds", "(DDD)Z"⟩ : MethodName) prog_31_method_5_code 8 (some .boolean) :: ws) ({ frames := 1, cells := 0, slots := 0, locals := 12 } : Room)) (fun a U => a = #[(.ref a1), (.double (FP.l2d x2)), (.double (FP.l2d x3)), (.double (FP.l2d x4))] ∧ Z.Warmed39 U.vm ∧ U.heap = h0) (fun _ _ _ _ _ => True) (fun _ U o U' => ∃ v L, o = .returned v ∧ Q1_2 Z a1 x2 x3 x4 h0 n0 v U'.heap L ∧ FrameEnd U o U' L ({ frames := 1, cells := 0, slots := 0, locals := 12 } : Room).cells ({ frames := 1, cells := 0, slots := 0, locals := 12 } : Room).slots) := by
  refine MetFree.of_bodySF (plainFor_of_name pn_1) hisR ?_
  intro p e s m args below meth c s₁ Bd hml0 hP hK
  obtain ⟨rfl, hZ, hh⟩ := hP
  have hx := Bd.exec
  have hby := Bd.bytes
  have hml : c.maxLocals = 8 := hml0
  have hown : s.vm.findClass "com/example/breakline/breakline/Gdba$Violation" = some m.cls := findClass_of_methodNamed Bd.named
  have hnm := (name_of_methodNamed Bd.named Bd.method).1
  have X0 : Stand p l e ({ frames := 1, cells := 0, slots := 0, locals := 12 } : Room) s m #[(.ref a1), (.double (FP.l2d x2)), (.double (FP.l2d x3)), (.double (FP.l2d x4))] below meth c s₁ [] 0 0 := Stand.of_body Bd
  have e0 : s₁.heap = h0 := by rw [← hh, Bd.state]; rfl
  have N0 := Fr.nil n0
  have pre0 : ∀ t, Steps p.tables e below (s₁.setTop (mkF m 0 #[.val (.ref a1), .val (.double (FP.l2d x2)), .second, .val (.double (FP.l2d x3)), .second, .val (.double (FP.l2d x4)), .second, .unset] [])) t → Steps p.tables e below (s₁.setTop (entryFrame m #[(.ref a1), (.double (FP.l2d x2)), (.double (FP.l2d x3)), (.double (FP.l2d x4))] 8)) t := fun t k => castTop (ef_1_2 m a1 (FP.l2d x2) (FP.l2d x3) (FP.l2d x4)) k
  obtain ⟨cq1, kq1, q1a, q1b, q1c⟩ := isOf hZ e0 E_a
  obtain ⟨_, _, ⟨T1, L1, k1, n1⟩, -, X1, ⟨Lc1, hQ1, l1, y1, z1⟩, st1⟩ := X0.virtualBackUp hx (x := (⟨"com/example/breakline/breakline/Gdba$Violation", "ordinal", "()I"⟩ : MethodName)) (y := (⟨"java/lang/Enum", "ordinal", "()I"⟩ : MethodName)) (owner := "java/lang/Enum") hown (mvT hZ (hw _ (List.mem_of_getElem? (i := 9) rfl))) (mvT hZ (hw _ (List.mem_of_getElem? (i := 10) rfl))) (mvT hZ (hw _ (List.mem_of_getElem? (i := 11) rfl))) (by decide) (mvT hZ (hw _ (List.mem_of_getElem? (i := 13) rfl))) (mvT hZ (hw _ (List.mem_of_getElem? (i := 12) rfl))) (backOf (W := 0) (rm2 l Z a0 hw [] a1 (2 : Int32) h0 n0 O0 F_o) hZ (hw _ (List.mem_of_getElem? (i := 15) rfl)) (hw _ (List.mem_of_getElem? (i := 14) rfl)) (by decide) (by decide)) q1a q1c (g := (mkF m 1 #[.val (.ref a1), .val (.double (FP.l2d x2)), .second, .val (.double (FP.l2d x3)), .second, .val (.double (FP.l2d x4)), .second, .unset] [(.ref a1)])) rfl (by rw [hml]; rfl) (Steps.refl _) (argsL := []) (rest := []) (lenOf pd_0 rfl) rfl (by show 2 * 0 + _ ≤ _; exact Nat.le_of_eq rfl) (hb hby d1_1) (fun _ _ => ⟨rfl, e0, (by decide : 0 + 0 ≤ _), (by decide : 0 + 0 ≤ _)⟩)
  dsimp only [Pt.U, Pt.locs, Pt.cells, Pt.slots] at X1 l1 y1 z1 st1 hQ1
  subst l1 y1 z1
  obtain ⟨rfl, N1q, e1⟩ := hQ1
  have N1 := Fr.app N0 N1q
  have sg2 : ∀ target, Steps p.tables e below (T1.setTop (mkF m 4 #[.val (.ref a1), .val (.double (FP.l2d x2)), .second, .val (.double (FP.l2d x3)), .second, .val (.double (FP.l2d x4)), .second, .unset] [(.int (2 : Int32))])) target → Steps p.tables e below (s₁.setTop (mkF m 0 #[.val (.ref a1), .val (.double (FP.l2d x2)), .second, .val (.double (FP.l2d x3)), .second, .val (.double (FP.l2d x4)), .second, .unset] [])) target := by
    intro target kt
    show Steps p.tables e below (s₁.setTop (mkF m 0 #[.val (.ref a1), .val (.double (FP.l2d x2)), .second, .val (.double (FP.l2d x3)), .second, .val (.double (FP.l2d x4)), .second, .unset] [])) _
    refine XS.aloadN X0.here hx rfl (hb hby d1_0) rfl rfl ?_
    show Steps p.tables e below (s₁.setTop (mkF m 1 #[.val (.ref a1), .val (.double (FP.l2d x2)), .second, .val (.double (FP.l2d x3)), .second, .val (.double (FP.l2d x4)), .second, .unset] [(.ref a1)])) _
    refine st1.trans ?_
    exact kt
  obtain ⟨T7, L7, v7_t0, X7, e7, N7, hv7_t0, sg7⟩ : ∃ (T' : State) (L' : List Loc) (v7_t0 : Int32), Stand p l e ({ frames := 1, cells := 0, slots := 0, locals := 12 } : Room) s m #[(.ref a1), (.double (FP.l2d x2)), (.double (FP.l2d x3)), (.double (FP.l2d x4))] below meth c T' L' 0 0 ∧ T'.heap = h0 ∧ Fr n0 L' ∧ v7_t0 = (if (lcmpW x2 x4) = (0 : Int32) then (1 : Int32) else (0 : Int32)) ∧ ∀ target, Steps p.tables e below (T'.setTop (mkF m 82 #[.val (.ref a1), .val (.double (FP.l2d x2)), .second, .val (.double (FP.l2d x3)), .second, .val (.double (FP.l2d x4)), .second, .unset] [(.int v7_t0)])) target → Steps p.tables e below (T1.setTop (mkF m 4 #[.val (.ref a1), .val (.double (FP.l2d x2)), .second, .val (.double (FP.l2d x3)), .second, .val (.double (FP.l2d x4)), .second, .unset] [(.int (2 : Int32))])) target := by
    have sg3 : ∀ target, Steps p.tables e below (T1.setTop (mkF m 74 #[.val (.ref a1), .val (.double (FP.l2d x2)), .second, .val (.double (FP.l2d x3)), .second, .val (.double (FP.l2d x4)), .second, .unset] [(.int (lcmpW x2 x4))])) target → Steps p.tables e below (T1.setTop (mkF m 4 #[.val (.ref a1), .val (.double (FP.l2d x2)), .second, .val (.double (FP.l2d x3)), .second, .val (.double (FP.l2d x4)), .second, .unset] [(.int (2 : Int32))])) target := by
      intro target kt
      show Steps p.tables e below (T1.setTop (mkF m 4 #[.val (.ref a1), .val (.double (FP.l2d x2)), .second, .val (.double (FP.l2d x3)), .second, .val (.double (FP.l2d x4)), .second, .unset] [(.int (2 : Int32))])) _
      refine XS.tswIn X1.here hx rfl (pc0 := 4) (pc' := 70) rfl (hb hby d1_4) rfl (by decide) rfl (by decide) (by decide) ?_
      show Steps p.tables e below (T1.setTop (mkF m 70 #[.val (.ref a1), .val (.double (FP.l2d x2)), .second, .val (.double (FP.l2d x3)), .second, .val (.double (FP.l2d x4)), .second, .unset] [])) _
      refine XS.dloadN X1.here hx rfl (hb hby d1_70) rfl ?_
      show Steps p.tables e below (T1.setTop (mkF m 71 #[.val (.ref a1), .val (.double (FP.l2d x2)), .second, .val (.double (FP.l2d x3)), .second, .val (.double (FP.l2d x4)), .second, .unset] [(.double (FP.l2d x2))])) _
      refine XS.dload X1.here hx rfl (hb hby d1_71) rfl ?_
      show Steps p.tables e below (T1.setTop (mkF m 73 #[.val (.ref a1), .val (.double (FP.l2d x2)), .second, .val (.double (FP.l2d x3)), .second, .val (.double (FP.l2d x4)), .second, .unset] [(.double (FP.l2d x4)), (.double (FP.l2d x2))])) _
      refine XS.dcmpS X1.here hx rfl (hb hby d1_73) rfl (dcmpV_w hb2 hb4 .l) ?_
      exact kt
    by_cases hc4 : (lcmpW x2 x4) = (0 : Int32)
    · have sg5 : ∀ target, Steps p.tables e below (T1.setTop (mkF m 82 #[.val (.ref a1), .val (.double (FP.l2d x2)), .second, .val (.double (FP.l2d x3)), .second, .val (.double (FP.l2d x4)), .second, .unset] [(.int (1 : Int32))])) target → Steps p.tables e below (T1.setTop (mkF m 74 #[.val (.ref a1), .val (.double (FP.l2d x2)), .second, .val (.double (FP.l2d x3)), .second, .val (.double (FP.l2d x4)), .second, .unset] [(.int (lcmpW x2 x4))])) target := by
        intro target kt
        show Steps p.tables e below (T1.setTop (mkF m 74 #[.val (.ref a1), .val (.double (FP.l2d x2)), .second, .val (.double (FP.l2d x3)), .second, .val (.double (FP.l2d x4)), .second, .unset] [(.int (lcmpW x2 x4))])) _
        refine XS.ifNo X1.here hx rfl (hb hby d1_74) rfl ((if0 _ _).trans (teq hc4).2) ?_
        show Steps p.tables e below (T1.setTop (mkF m 77 #[.val (.ref a1), .val (.double (FP.l2d x2)), .second, .val (.double (FP.l2d x3)), .second, .val (.double (FP.l2d x4)), .second, .unset] [])) _
        refine XS.iconst X1.here hx rfl (hb hby d1_77) ?_
        show Steps p.tables e below (T1.setTop (mkF m 78 #[.val (.ref a1), .val (.double (FP.l2d x2)), .second, .val (.double (FP.l2d x3)), .second, .val (.double (FP.l2d x4)), .second, .unset] [(.int (1 : Int32))])) _
        refine XS.goto X1.here hx rfl (pc0 := 78) (pc' := 82) rfl (hb hby d1_78) (by decide) (by decide) ?_
        exact kt
      exact ⟨T1, _, (1 : Int32), X1.mono (by decide) (by decide), e1, N1, (by rw [if_pos hc4]), fun target kt => sg3 _ (sg5 _ (kt))⟩
    · have sg6 : ∀ target, Steps p.tables e below (T1.setTop (mkF m 82 #[.val (.ref a1), .val (.double (FP.l2d x2)), .second, .val (.double (FP.l2d x3)), .second, .val (.double (FP.l2d x4)), .second, .unset] [(.int (0 : Int32))])) target → Steps p.tables e below (T1.setTop (mkF m 74 #[.val (.ref a1), .val (.double (FP.l2d x2)), .second, .val (.double (FP.l2d x3)), .second, .val (.double (FP.l2d x4)), .second, .unset] [(.int (lcmpW x2 x4))])) target := by
        intro target kt
        show Steps p.tables e below (T1.setTop (mkF m 74 #[.val (.ref a1), .val (.double (FP.l2d x2)), .second, .val (.double (FP.l2d x3)), .second, .val (.double (FP.l2d x4)), .second, .unset] [(.int (lcmpW x2 x4))])) _
        refine XS.ifYes X1.here hx rfl (pc0 := 74) (pc' := 81) rfl (hb hby d1_74) rfl ((if0 _ _).trans (feq hc4).2) (by decide) (by decide) ?_
        show Steps p.tables e below (T1.setTop (mkF m 81 #[.val (.ref a1), .val (.double (FP.l2d x2)), .second, .val (.double (FP.l2d x3)), .second, .val (.double (FP.l2d x4)), .second, .unset] [])) _
        refine XS.iconst X1.here hx rfl (hb hby d1_81) ?_
        exact kt
      exact ⟨T1, _, (0 : Int32), X1.mono (by decide) (by decide), e1, N1, (by rw [if_neg hc4]), fun target kt => sg3 _ (sg6 _ (kt))⟩
  have sg8 : ∀ target, Steps p.tables e below (T7.setTop (mkF m 86 #[.val (.ref a1), .val (.double (FP.l2d x2)), .second, .val (.double (FP.l2d x3)), .second, .val (.double (FP.l2d x4)), .second, .val (.int v7_t0)] [(.int v7_t0)])) target → Steps p.tables e below (T7.setTop (mkF m 82 #[.val (.ref a1), .val (.double (FP.l2d x2)), .second, .val (.double (FP.l2d x3)), .second, .val (.double (FP.l2d x4)), .second, .unset] [(.int v7_t0)])) target := by
    intro target kt
    show Steps p.tables e below (T7.setTop (mkF m 82 #[.val (.ref a1), .val (.double (FP.l2d x2)), .second, .val (.double (FP.l2d x3)), .second, .val (.double (FP.l2d x4)), .second, .unset] [(.int v7_t0)])) _
    refine XS.istore X7.here hx rfl (hb hby d1_82) rfl (l' := #[.val (.ref a1), .val (.double (FP.l2d x2)), .second, .val (.double (FP.l2d x3)), .second, .val (.double (FP.l2d x4)), .second, .val (.int v7_t0)]) rfl ?_
    show Steps p.tables e below (T7.setTop (mkF m 84 #[.val (.ref a1), .val (.double (FP.l2d x2)), .second, .val (.double (FP.l2d x3)), .second, .val (.double (FP.l2d x4)), .second, .val (.int v7_t0)] [])) _
    refine XS.iload X7.here hx rfl (hb hby d1_84) rfl ?_
    exact kt
  have hnar : nar .boolean v7_t0 = v7_t0 := own_nb (by rw [hv7_t0]; split <;> simp)
  obtain ⟨fs, hr, hrun, hended, hW, hsame⟩ := X7.leave (v := some (.int v7_t0)) (fun h => by rw [Bd.returns] at h; cases h)
  rw [← hnar] at hr
  refine ⟨_, _, pre0 _ (sg2 _ (sg7 _ (sg8 _ (?_)))), hrun, hended, _, _, rfl, ?_, ⟨_, rfl⟩, hW, hsame.mono (by decide) (by decide)⟩
  · show Steps p.tables e below (T7.setTop (mkF m 86 #[.val (.ref a1), .val (.double (FP.l2d x2)), .second, .val (.double (FP.l2d x3)), .second, .val (.double (FP.l2d x4)), .second, .val (.int v7_t0)] [(.int v7_t0)])) _
    exact retN X7 hx (t := .boolean) Bd.returns (by simp) (hb hby d1_86) hr
  · show Q1_2 Z a1 x2 x3 x4 h0 n0 _ T7.heap _
    rw [e7]
    exact ⟨(by rw [hv7_t0]), N7, rfl⟩
def Q0 (Z : State) (p1 : Int32) (p2 : Int32) (p3 : Int32) (wZ : Addr) (wN : Addr) (wM : Addr) (h0 : Heap) (n0 : Nat) (v : Option Value) (h : Heap) (L : List Loc) : Prop := v = some (.int (1 : Int32)) ∧ Fr n0 L ∧ h = h0
theorem ef_0 (m : MethodId) (x0 : Int32) (x1 : Int32) (x2 : Int32) : entryFrame m #[(.int x0), (.int x1), (.int x2)] maxLocals = mkF m 0 #[.val (.int x0), .val (.int x1), .val (.int x2), .unset, .unset, .unset, .unset, .unset, .unset, .unset, .unset, .unset, .unset, .unset, .unset, .unset, .unset, .unset, .unset, .unset] [] := by first | (simp [entryFrame, mkF, argsToLocals, Value.category, maxLocals]; done) | rfl
set_option maxRecDepth 65536 in
set_option maxHeartbeats 40000000 in
theorem rm0 (l : Launch) (Z : State) (a0 : Array Value) (hw : ∀ d ∈ tables_1, d.before a0 Z = true) (ws : List Jvm.Cond) (p1 : Int32) (p2 : Int32) (p3 : Int32) (wZ : Addr) (wN : Addr) (wM : Addr) (h0 : Heap) (n0 : Nat) (O0 : Old Z n0 h0) (S_NON_ZERO : Sta Z Z.heap "com/example/breakline/breakline/Gdba$Violation" "NON_ZERO" "Lcom/example/breakline/breakline/Gdba$Violation;" (.ref wZ)) (S_NON_MINIMUM : Sta Z Z.heap "com/example/breakline/breakline/Gdba$Violation" "NON_MINIMUM" "Lcom/example/breakline/breakline/Gdba$Violation;" (.ref wN)) (S_MAXIMUM : Sta Z Z.heap "com/example/breakline/breakline/Gdba$Violation" "MAXIMUM" "Lcom/example/breakline/breakline/Gdba$Violation;" (.ref wM)) (hXZ : Exa Z Z.heap wZ "com/example/breakline/breakline/Gdba$Violation") (hXN : Exa Z Z.heap wN "com/example/breakline/breakline/Gdba$Violation") (hXM : Exa Z Z.heap wM "com/example/breakline/breakline/Gdba$Violation") (hOZ : Fld Z Z.heap wZ "java/lang/Enum" "ordinal" "I" (.int (0 : Int32))) (hON : Fld Z Z.heap wN "java/lang/Enum" "ordinal" "I" (.int (1 : Int32))) (hOM : Fld Z Z.heap wM "java/lang/Enum" "ordinal" "I" (.int (2 : Int32))) :
    MetFree l x (head1 (Jvm.Cond.code x code maxLocals ret :: ws) room_1) (fun a U => a = #[(.int p1), (.int p2), (.int p3)] ∧ Z.Warmed39 U.vm ∧ U.heap = h0) (fun _ _ _ _ _ => True) (fun _ U o U' => ∃ v L, o = .returned v ∧ Q0 Z p1 p2 p3 wZ wN wM h0 n0 v U'.heap L ∧ FrameEnd U o U' L room_1.cells room_1.slots) := by
  refine MetFree.of_bodySF (plainFor_of_name pn_2) hisR ?_
  intro p e s m args below meth c s₁ Bd hml0 hP hK
  obtain ⟨rfl, hZ, hh⟩ := hP
  have hx := Bd.exec
  have hby := Bd.bytes
  have hml : c.maxLocals = 20 := hml0
  have hown : s.vm.findClass "com/example/breakline/breakline/ViolationHoldsPinLaw" = some m.cls := findClass_of_methodNamed Bd.named
  have hnm := (name_of_methodNamed Bd.named Bd.method).1
  have X0 : Stand p l e room_1 s m #[(.int p1), (.int p2), (.int p3)] below meth c s₁ [] 0 0 := Stand.of_body Bd
  have e0 : s₁.heap = h0 := by rw [← hh, Bd.state]; rfl
  have N0 := Fr.nil n0
  have pre0 : ∀ t, Steps p.tables e below (s₁.setTop (mkF m 0 #[.val (.int p1), .val (.int p2), .val (.int p3), .unset, .unset, .unset, .unset, .unset, .unset, .unset, .unset, .unset, .unset, .unset, .unset, .unset, .unset, .unset, .unset, .unset] [])) t → Steps p.tables e below (s₁.setTop (entryFrame m #[(.int p1), (.int p2), (.int p3)] maxLocals)) t := fun t k => castTop (ef_0 m p1 p2 p3) k
  obtain ⟨u1, hu1⟩ : ∃ z, z = (p1 &&& (65535 : Int32)) := ⟨_, rfl⟩
  have sg2 : ∀ target, Steps p.tables e below (s₁.setTop (mkF m 4 #[.val (.int p1), .val (.int p2), .val (.int p3), .unset, .unset, .unset, .unset, .unset, .unset, .unset, .unset, .unset, .unset, .unset, .unset, .unset, .unset, .unset, .unset, .unset] [(.int u1)])) target → Steps p.tables e below (s₁.setTop (mkF m 0 #[.val (.int p1), .val (.int p2), .val (.int p3), .unset, .unset, .unset, .unset, .unset, .unset, .unset, .unset, .unset, .unset, .unset, .unset, .unset, .unset, .unset, .unset, .unset] [])) target := by
    intro target kt
    subst hu1
    show Steps p.tables e below (s₁.setTop (mkF m 0 #[.val (.int p1), .val (.int p2), .val (.int p3), .unset, .unset, .unset, .unset, .unset, .unset, .unset, .unset, .unset, .unset, .unset, .unset, .unset, .unset, .unset, .unset, .unset] [])) _
    refine XS.iloadN X0.here hx rfl (hb hby at_0) rfl ?_
    show Steps p.tables e below (s₁.setTop (mkF m 1 #[.val (.int p1), .val (.int p2), .val (.int p3), .unset, .unset, .unset, .unset, .unset, .unset, .unset, .unset, .unset, .unset, .unset, .unset, .unset, .unset, .unset, .unset, .unset] [(.int p1)])) _
    refine X0.ldcInt hx hown (mvT hZ (hw _ (List.mem_of_getElem? (i := 0) rfl))) (g := (mkF m 1 #[.val (.int p1), .val (.int p2), .val (.int p3), .unset, .unset, .unset, .unset, .unset, .unset, .unset, .unset, .unset, .unset, .unset, .unset, .unset, .unset, .unset, .unset, .unset] [(.int p1)])) rfl (hb hby at_1) _ ?_
    show Steps p.tables e below (s₁.setTop (mkF m 3 #[.val (.int p1), .val (.int p2), .val (.int p3), .unset, .unset, .unset, .unset, .unset, .unset, .unset, .unset, .unset, .unset, .unset, .unset, .unset, .unset, .unset, .unset, .unset] [(.int (65535 : Int32)), (.int p1)])) _
    refine XS.iand X0.here hx rfl (hb hby at_3) rfl ?_
    exact kt
  obtain ⟨u3, hu3⟩ : ∃ z, z = (p2 &&& (65535 : Int32)) := ⟨_, rfl⟩
  have sg4 : ∀ target, Steps p.tables e below (s₁.setTop (mkF m 9 #[.val (.int p1), .val (.int p2), .val (.int p3), .val (.int u1), .unset, .unset, .unset, .unset, .unset, .unset, .unset, .unset, .unset, .unset, .unset, .unset, .unset, .unset, .unset, .unset] [(.int u3)])) target → Steps p.tables e below (s₁.setTop (mkF m 4 #[.val (.int p1), .val (.int p2), .val (.int p3), .unset, .unset, .unset, .unset, .unset, .unset, .unset, .unset, .unset, .unset, .unset, .unset, .unset, .unset, .unset, .unset, .unset] [(.int u1)])) target := by
    intro target kt
    subst hu3
    show Steps p.tables e below (s₁.setTop (mkF m 4 #[.val (.int p1), .val (.int p2), .val (.int p3), .unset, .unset, .unset, .unset, .unset, .unset, .unset, .unset, .unset, .unset, .unset, .unset, .unset, .unset, .unset, .unset, .unset] [(.int u1)])) _
    refine XS.istoreN X0.here hx rfl (hb hby at_4) rfl (l' := #[.val (.int p1), .val (.int p2), .val (.int p3), .val (.int u1), .unset, .unset, .unset, .unset, .unset, .unset, .unset, .unset, .unset, .unset, .unset, .unset, .unset, .unset, .unset, .unset]) rfl ?_
    show Steps p.tables e below (s₁.setTop (mkF m 5 #[.val (.int p1), .val (.int p2), .val (.int p3), .val (.int u1), .unset, .unset, .unset, .unset, .unset, .unset, .unset, .unset, .unset, .unset, .unset, .unset, .unset, .unset, .unset, .unset] [])) _
    refine XS.iloadN X0.here hx rfl (hb hby at_5) rfl ?_
    show Steps p.tables e below (s₁.setTop (mkF m 6 #[.val (.int p1), .val (.int p2), .val (.int p3), .val (.int u1), .unset, .unset, .unset, .unset, .unset, .unset, .unset, .unset, .unset, .unset, .unset, .unset, .unset, .unset, .unset, .unset] [(.int p2)])) _
    refine X0.ldcInt hx hown (mvT hZ (hw _ (List.mem_of_getElem? (i := 0) rfl))) (g := (mkF m 6 #[.val (.int p1), .val (.int p2), .val (.int p3), .val (.int u1), .unset, .unset, .unset, .unset, .unset, .unset, .unset, .unset, .unset, .unset, .unset, .unset, .unset, .unset, .unset, .unset] [(.int p2)])) rfl (hb hby at_6) _ ?_
    show Steps p.tables e below (s₁.setTop (mkF m 8 #[.val (.int p1), .val (.int p2), .val (.int p3), .val (.int u1), .unset, .unset, .unset, .unset, .unset, .unset, .unset, .unset, .unset, .unset, .unset, .unset, .unset, .unset, .unset, .unset] [(.int (65535 : Int32)), (.int p2)])) _
    refine XS.iand X0.here hx rfl (hb hby at_8) rfl ?_
    exact kt
  obtain ⟨u5, hu5⟩ : ∃ z, z = (p3 &&& (65535 : Int32)) := ⟨_, rfl⟩
  have sg6 : ∀ target, Steps p.tables e below (s₁.setTop (mkF m 15 #[.val (.int p1), .val (.int p2), .val (.int p3), .val (.int u1), .val (.int u3), .unset, .unset, .unset, .unset, .unset, .unset, .unset, .unset, .unset, .unset, .unset, .unset, .unset, .unset, .unset] [(.int u5)])) target → Steps p.tables e below (s₁.setTop (mkF m 9 #[.val (.int p1), .val (.int p2), .val (.int p3), .val (.int u1), .unset, .unset, .unset, .unset, .unset, .unset, .unset, .unset, .unset, .unset, .unset, .unset, .unset, .unset, .unset, .unset] [(.int u3)])) target := by
    intro target kt
    subst hu5
    show Steps p.tables e below (s₁.setTop (mkF m 9 #[.val (.int p1), .val (.int p2), .val (.int p3), .val (.int u1), .unset, .unset, .unset, .unset, .unset, .unset, .unset, .unset, .unset, .unset, .unset, .unset, .unset, .unset, .unset, .unset] [(.int u3)])) _
    refine XS.istore X0.here hx rfl (hb hby at_9) rfl (l' := #[.val (.int p1), .val (.int p2), .val (.int p3), .val (.int u1), .val (.int u3), .unset, .unset, .unset, .unset, .unset, .unset, .unset, .unset, .unset, .unset, .unset, .unset, .unset, .unset, .unset]) rfl ?_
    show Steps p.tables e below (s₁.setTop (mkF m 11 #[.val (.int p1), .val (.int p2), .val (.int p3), .val (.int u1), .val (.int u3), .unset, .unset, .unset, .unset, .unset, .unset, .unset, .unset, .unset, .unset, .unset, .unset, .unset, .unset, .unset] [])) _
    refine XS.iloadN X0.here hx rfl (hb hby at_11) rfl ?_
    show Steps p.tables e below (s₁.setTop (mkF m 12 #[.val (.int p1), .val (.int p2), .val (.int p3), .val (.int u1), .val (.int u3), .unset, .unset, .unset, .unset, .unset, .unset, .unset, .unset, .unset, .unset, .unset, .unset, .unset, .unset, .unset] [(.int p3)])) _
    refine X0.ldcInt hx hown (mvT hZ (hw _ (List.mem_of_getElem? (i := 0) rfl))) (g := (mkF m 12 #[.val (.int p1), .val (.int p2), .val (.int p3), .val (.int u1), .val (.int u3), .unset, .unset, .unset, .unset, .unset, .unset, .unset, .unset, .unset, .unset, .unset, .unset, .unset, .unset, .unset] [(.int p3)])) rfl (hb hby at_12) _ ?_
    show Steps p.tables e below (s₁.setTop (mkF m 14 #[.val (.int p1), .val (.int p2), .val (.int p3), .val (.int u1), .val (.int u3), .unset, .unset, .unset, .unset, .unset, .unset, .unset, .unset, .unset, .unset, .unset, .unset, .unset, .unset, .unset] [(.int (65535 : Int32)), (.int p3)])) _
    refine XS.iand X0.here hx rfl (hb hby at_14) rfl ?_
    exact kt
  obtain ⟨u7, hu7⟩ : ∃ z, z = (u1 + u3) := ⟨_, rfl⟩
  have sg8 : ∀ target, Steps p.tables e below (s₁.setTop (mkF m 21 #[.val (.int p1), .val (.int p2), .val (.int p3), .val (.int u1), .val (.int u3), .val (.int u5), .unset, .unset, .unset, .unset, .unset, .unset, .unset, .unset, .unset, .unset, .unset, .unset, .unset, .unset] [(.int u7)])) target → Steps p.tables e below (s₁.setTop (mkF m 15 #[.val (.int p1), .val (.int p2), .val (.int p3), .val (.int u1), .val (.int u3), .unset, .unset, .unset, .unset, .unset, .unset, .unset, .unset, .unset, .unset, .unset, .unset, .unset, .unset, .unset] [(.int u5)])) target := by
    intro target kt
    subst hu7
    show Steps p.tables e below (s₁.setTop (mkF m 15 #[.val (.int p1), .val (.int p2), .val (.int p3), .val (.int u1), .val (.int u3), .unset, .unset, .unset, .unset, .unset, .unset, .unset, .unset, .unset, .unset, .unset, .unset, .unset, .unset, .unset] [(.int u5)])) _
    refine XS.istore X0.here hx rfl (hb hby at_15) rfl (l' := #[.val (.int p1), .val (.int p2), .val (.int p3), .val (.int u1), .val (.int u3), .val (.int u5), .unset, .unset, .unset, .unset, .unset, .unset, .unset, .unset, .unset, .unset, .unset, .unset, .unset, .unset]) rfl ?_
    show Steps p.tables e below (s₁.setTop (mkF m 17 #[.val (.int p1), .val (.int p2), .val (.int p3), .val (.int u1), .val (.int u3), .val (.int u5), .unset, .unset, .unset, .unset, .unset, .unset, .unset, .unset, .unset, .unset, .unset, .unset, .unset, .unset] [])) _
    refine XS.iloadN X0.here hx rfl (hb hby at_17) rfl ?_
    show Steps p.tables e below (s₁.setTop (mkF m 18 #[.val (.int p1), .val (.int p2), .val (.int p3), .val (.int u1), .val (.int u3), .val (.int u5), .unset, .unset, .unset, .unset, .unset, .unset, .unset, .unset, .unset, .unset, .unset, .unset, .unset, .unset] [(.int u1)])) _
    refine XS.iload X0.here hx rfl (hb hby at_18) rfl ?_
    show Steps p.tables e below (s₁.setTop (mkF m 20 #[.val (.int p1), .val (.int p2), .val (.int p3), .val (.int u1), .val (.int u3), .val (.int u5), .unset, .unset, .unset, .unset, .unset, .unset, .unset, .unset, .unset, .unset, .unset, .unset, .unset, .unset] [(.int u3), (.int u1)])) _
    refine XS.iadd X0.here hx rfl (hb hby at_20) rfl ?_
    exact kt
  obtain ⟨u9, hu9⟩ : ∃ z, z = (u7 + u5) := ⟨_, rfl⟩
  have sg10 : ∀ target, Steps p.tables e below (s₁.setTop (mkF m 28 #[.val (.int p1), .val (.int p2), .val (.int p3), .val (.int u1), .val (.int u3), .val (.int u5), .val (.int u7), .unset, .unset, .unset, .unset, .unset, .unset, .unset, .unset, .unset, .unset, .unset, .unset, .unset] [(.int u9)])) target → Steps p.tables e below (s₁.setTop (mkF m 21 #[.val (.int p1), .val (.int p2), .val (.int p3), .val (.int u1), .val (.int u3), .val (.int u5), .unset, .unset, .unset, .unset, .unset, .unset, .unset, .unset, .unset, .unset, .unset, .unset, .unset, .unset] [(.int u7)])) target := by
    intro target kt
    subst hu9
    show Steps p.tables e below (s₁.setTop (mkF m 21 #[.val (.int p1), .val (.int p2), .val (.int p3), .val (.int u1), .val (.int u3), .val (.int u5), .unset, .unset, .unset, .unset, .unset, .unset, .unset, .unset, .unset, .unset, .unset, .unset, .unset, .unset] [(.int u7)])) _
    refine XS.istore X0.here hx rfl (hb hby at_21) rfl (l' := #[.val (.int p1), .val (.int p2), .val (.int p3), .val (.int u1), .val (.int u3), .val (.int u5), .val (.int u7), .unset, .unset, .unset, .unset, .unset, .unset, .unset, .unset, .unset, .unset, .unset, .unset, .unset]) rfl ?_
    show Steps p.tables e below (s₁.setTop (mkF m 23 #[.val (.int p1), .val (.int p2), .val (.int p3), .val (.int u1), .val (.int u3), .val (.int u5), .val (.int u7), .unset, .unset, .unset, .unset, .unset, .unset, .unset, .unset, .unset, .unset, .unset, .unset, .unset] [])) _
    refine XS.iload X0.here hx rfl (hb hby at_23) rfl ?_
    show Steps p.tables e below (s₁.setTop (mkF m 25 #[.val (.int p1), .val (.int p2), .val (.int p3), .val (.int u1), .val (.int u3), .val (.int u5), .val (.int u7), .unset, .unset, .unset, .unset, .unset, .unset, .unset, .unset, .unset, .unset, .unset, .unset, .unset] [(.int u7)])) _
    refine XS.iload X0.here hx rfl (hb hby at_25) rfl ?_
    show Steps p.tables e below (s₁.setTop (mkF m 27 #[.val (.int p1), .val (.int p2), .val (.int p3), .val (.int u1), .val (.int u3), .val (.int u5), .val (.int u7), .unset, .unset, .unset, .unset, .unset, .unset, .unset, .unset, .unset, .unset, .unset, .unset, .unset] [(.int u5), (.int u7)])) _
    refine XS.iadd X0.here hx rfl (hb hby at_27) rfl ?_
    exact kt
  obtain ⟨T11, X11, e11, st11⟩ := getS2 X0 hx hZ hown (host := "") (Or.inl (hw _ (List.mem_of_getElem? (i := 1) rfl))) Via.refl e0 (S_NON_ZERO.ext O0.2) (g := (mkF m 44 #[.val (.int p1), .val (.int p2), .val (.int p3), .val (.int u1), .val (.int u3), .val (.int u5), .val (.int u7), .val (.int u9), .val (.double (FP.l2d u1.toInt64)), .second, .val (.double (FP.l2d u7.toInt64)), .second, .val (.double (FP.l2d u9.toInt64)), .second, .unset, .unset, .unset, .unset, .unset, .unset] [])) rfl (hb hby at_44)
  obtain ⟨cq12, kq12, q12a, q12b, q12c⟩ := isOf hZ e11 (hXZ.ext O0.2)
  obtain ⟨_, _, ⟨T12, L12, k12, n12⟩, -, X12, ⟨Lc12, hQ12, l12, y12, z12⟩, st12⟩ := X11.virtualBack hx (y := (⟨"com/example/breakline/breakline/Gdba$Violation", "holds", "(DDD)Z"⟩ : MethodName)) (z := (⟨"com/example/breakline/breakline/Gdba$Violation", "holds", "(DDD)Z"⟩ : MethodName)) hown (mvT hZ (hw _ (List.mem_of_getElem? (i := 4) rfl))) (mvT hZ (hw _ (List.mem_of_getElem? (i := 5) rfl))) (notFace_of_selects (args := #[]) (mvT hZ (hw _ (List.mem_of_getElem? (i := 7) rfl)))) (mvT hZ (hw _ (List.mem_of_getElem? (i := 7) rfl))) (mvT hZ (hw _ (List.mem_of_getElem? (i := 6) rfl))) (by decide) (backOf (W := 0) (rm1_0 l Z a0 hw [] wZ u7.toInt64 u1.toInt64 u9.toInt64 h0 n0 O0 (hXZ.ext O0.2) (hOZ.ext O0.2) (own_b53 _) (own_b53 _) (own_b53 _)) hZ (hw _ (List.mem_of_getElem? (i := 8) rfl)) (hw _ (List.mem_of_getElem? (i := 2) rfl)) (by decide) (by decide)) q12a q12c (g := (mkF m 53 #[.val (.int p1), .val (.int p2), .val (.int p3), .val (.int u1), .val (.int u3), .val (.int u5), .val (.int u7), .val (.int u9), .val (.double (FP.l2d u1.toInt64)), .second, .val (.double (FP.l2d u7.toInt64)), .second, .val (.double (FP.l2d u9.toInt64)), .second, .unset, .unset, .unset, .unset, .unset, .unset] [(.double (FP.l2d u9.toInt64)), (.double (FP.l2d u1.toInt64)), (.double (FP.l2d u7.toInt64)), (.ref wZ)])) rfl (by rw [hml]; rfl) (Steps.refl _) (argsL := [(.double (FP.l2d u7.toInt64)), (.double (FP.l2d u1.toInt64)), (.double (FP.l2d u9.toInt64))]) (rest := []) (lenOf pd_1 rfl) rfl (by show 2 * 0 + _ ≤ _; exact Nat.le_of_eq rfl) (hb hby at_53) (fun _ _ => ⟨rfl, e11, (by decide : 0 + 0 ≤ _), (by decide : 0 + 0 ≤ _)⟩)
  dsimp only [Pt.U, Pt.locs, Pt.cells, Pt.slots] at X12 l12 y12 z12 st12 hQ12
  subst l12 y12 z12
  obtain ⟨rfl, N12q, e12⟩ := hQ12
  have N12 := Fr.app N0 N12q
  obtain ⟨r12, hr12⟩ : ∃ z, z = (if (0 : Int32) < (lcmpW u7.toInt64 0) then (1 : Int32) else (0 : Int32)) := ⟨_, rfl⟩
  rw [← hr12] at st12
  obtain ⟨T13, X13, e13, st13⟩ := getS2 X12 hx hZ hown (host := "") (Or.inl (hw _ (List.mem_of_getElem? (i := 18) rfl))) Via.refl e12 (S_NON_MINIMUM.ext O0.2) (g := (mkF m 58 #[.val (.int p1), .val (.int p2), .val (.int p3), .val (.int u1), .val (.int u3), .val (.int u5), .val (.int u7), .val (.int u9), .val (.double (FP.l2d u1.toInt64)), .second, .val (.double (FP.l2d u7.toInt64)), .second, .val (.double (FP.l2d u9.toInt64)), .second, .val (.int r12), .unset, .unset, .unset, .unset, .unset] [])) rfl (hb hby at_58)
  obtain ⟨cq14, kq14, q14a, q14b, q14c⟩ := isOf hZ e13 (hXN.ext O0.2)
  obtain ⟨_, _, ⟨T14, L14, k14, n14⟩, -, X14, ⟨Lc14, hQ14, l14, y14, z14⟩, st14⟩ := X13.virtualBack hx (y := (⟨"com/example/breakline/breakline/Gdba$Violation", "holds", "(DDD)Z"⟩ : MethodName)) (z := (⟨"com/example/breakline/breakline/Gdba$Violation", "holds", "(DDD)Z"⟩ : MethodName)) hown (mvT hZ (hw _ (List.mem_of_getElem? (i := 4) rfl))) (mvT hZ (hw _ (List.mem_of_getElem? (i := 5) rfl))) (notFace_of_selects (args := #[]) (mvT hZ (hw _ (List.mem_of_getElem? (i := 7) rfl)))) (mvT hZ (hw _ (List.mem_of_getElem? (i := 7) rfl))) (mvT hZ (hw _ (List.mem_of_getElem? (i := 6) rfl))) (by decide) (backOf (W := 0) (rm1_1 l Z a0 hw [] wN u7.toInt64 u1.toInt64 u9.toInt64 h0 n0 O0 (hXN.ext O0.2) (hON.ext O0.2) (own_b53 _) (own_b53 _) (own_b53 _)) hZ (hw _ (List.mem_of_getElem? (i := 8) rfl)) (hw _ (List.mem_of_getElem? (i := 2) rfl)) (by decide) (by decide)) q14a q14c (g := (mkF m 67 #[.val (.int p1), .val (.int p2), .val (.int p3), .val (.int u1), .val (.int u3), .val (.int u5), .val (.int u7), .val (.int u9), .val (.double (FP.l2d u1.toInt64)), .second, .val (.double (FP.l2d u7.toInt64)), .second, .val (.double (FP.l2d u9.toInt64)), .second, .val (.int r12), .unset, .unset, .unset, .unset, .unset] [(.double (FP.l2d u9.toInt64)), (.double (FP.l2d u1.toInt64)), (.double (FP.l2d u7.toInt64)), (.ref wN)])) rfl (by rw [hml]; rfl) (Steps.refl _) (argsL := [(.double (FP.l2d u7.toInt64)), (.double (FP.l2d u1.toInt64)), (.double (FP.l2d u9.toInt64))]) (rest := []) (lenOf pd_1 rfl) rfl (by show 2 * 0 + _ ≤ _; exact Nat.le_of_eq rfl) (hb hby at_67) (fun _ _ => ⟨rfl, e13, (by decide : 0 + 0 ≤ _), (by decide : 0 + 0 ≤ _)⟩)
  dsimp only [Pt.U, Pt.locs, Pt.cells, Pt.slots] at X14 l14 y14 z14 st14 hQ14
  subst l14 y14 z14
  obtain ⟨rfl, N14q, e14⟩ := hQ14
  have N14 := Fr.app N12 N14q
  obtain ⟨r14, hr14⟩ : ∃ z, z = (if (0 : Int32) < (lcmpW u7.toInt64 u1.toInt64) then (1 : Int32) else (0 : Int32)) := ⟨_, rfl⟩
  rw [← hr14] at st14
  obtain ⟨T15, X15, e15, st15⟩ := getS2 X14 hx hZ hown (host := "") (Or.inl (hw _ (List.mem_of_getElem? (i := 20) rfl))) Via.refl e14 (S_MAXIMUM.ext O0.2) (g := (mkF m 72 #[.val (.int p1), .val (.int p2), .val (.int p3), .val (.int u1), .val (.int u3), .val (.int u5), .val (.int u7), .val (.int u9), .val (.double (FP.l2d u1.toInt64)), .second, .val (.double (FP.l2d u7.toInt64)), .second, .val (.double (FP.l2d u9.toInt64)), .second, .val (.int r12), .val (.int r14), .unset, .unset, .unset, .unset] [])) rfl (hb hby at_72)
  obtain ⟨cq16, kq16, q16a, q16b, q16c⟩ := isOf hZ e15 (hXM.ext O0.2)
  obtain ⟨_, _, ⟨T16, L16, k16, n16⟩, -, X16, ⟨Lc16, hQ16, l16, y16, z16⟩, st16⟩ := X15.virtualBack hx (y := (⟨"com/example/breakline/breakline/Gdba$Violation", "holds", "(DDD)Z"⟩ : MethodName)) (z := (⟨"com/example/breakline/breakline/Gdba$Violation", "holds", "(DDD)Z"⟩ : MethodName)) hown (mvT hZ (hw _ (List.mem_of_getElem? (i := 4) rfl))) (mvT hZ (hw _ (List.mem_of_getElem? (i := 5) rfl))) (notFace_of_selects (args := #[]) (mvT hZ (hw _ (List.mem_of_getElem? (i := 7) rfl)))) (mvT hZ (hw _ (List.mem_of_getElem? (i := 7) rfl))) (mvT hZ (hw _ (List.mem_of_getElem? (i := 6) rfl))) (by decide) (backOf (W := 0) (rm1_2 l Z a0 hw [] wM u7.toInt64 u1.toInt64 u9.toInt64 h0 n0 O0 (hXM.ext O0.2) (hOM.ext O0.2) (own_b53 _) (own_b53 _) (own_b53 _)) hZ (hw _ (List.mem_of_getElem? (i := 8) rfl)) (hw _ (List.mem_of_getElem? (i := 2) rfl)) (by decide) (by decide)) q16a q16c (g := (mkF m 81 #[.val (.int p1), .val (.int p2), .val (.int p3), .val (.int u1), .val (.int u3), .val (.int u5), .val (.int u7), .val (.int u9), .val (.double (FP.l2d u1.toInt64)), .second, .val (.double (FP.l2d u7.toInt64)), .second, .val (.double (FP.l2d u9.toInt64)), .second, .val (.int r12), .val (.int r14), .unset, .unset, .unset, .unset] [(.double (FP.l2d u9.toInt64)), (.double (FP.l2d u1.toInt64)), (.double (FP.l2d u7.toInt64)), (.ref wM)])) rfl (by rw [hml]; rfl) (Steps.refl _) (argsL := [(.double (FP.l2d u7.toInt64)), (.double (FP.l2d u1.toInt64)), (.double (FP.l2d u9.toInt64))]) (rest := []) (lenOf pd_1 rfl) rfl (by show 2 * 0 + _ ≤ _; exact Nat.le_of_eq rfl) (hb hby at_81) (fun _ _ => ⟨rfl, e15, (by decide : 0 + 0 ≤ _), (by decide : 0 + 0 ≤ _)⟩)
  dsimp only [Pt.U, Pt.locs, Pt.cells, Pt.slots] at X16 l16 y16 z16 st16 hQ16
  subst l16 y16 z16
  obtain ⟨rfl, N16q, e16⟩ := hQ16
  have N16 := Fr.app N14 N16q
  obtain ⟨r16, hr16⟩ : ∃ z, z = (if (lcmpW u7.toInt64 u9.toInt64) = (0 : Int32) then (1 : Int32) else (0 : Int32)) := ⟨_, rfl⟩
  rw [← hr16] at st16
  have sg17 : ∀ target, Steps p.tables e below (T16.setTop (mkF m 86 #[.val (.int p1), .val (.int p2), .val (.int p3), .val (.int u1), .val (.int u3), .val (.int u5), .val (.int u7), .val (.int u9), .val (.double (FP.l2d u1.toInt64)), .second, .val (.double (FP.l2d u7.toInt64)), .second, .val (.double (FP.l2d u9.toInt64)), .second, .val (.int r12), .val (.int r14), .val (.int r16), .unset, .unset, .unset] [])) target → Steps p.tables e below (s₁.setTop (mkF m 28 #[.val (.int p1), .val (.int p2), .val (.int p3), .val (.int u1), .val (.int u3), .val (.int u5), .val (.int u7), .unset, .unset, .unset, .unset, .unset, .unset, .unset, .unset, .unset, .unset, .unset, .unset, .unset] [(.int u9)])) target := by
    intro target kt
    show Steps p.tables e below (s₁.setTop (mkF m 28 #[.val (.int p1), .val (.int p2), .val (.int p3), .val (.int u1), .val (.int u3), .val (.int u5), .val (.int u7), .unset, .unset, .unset, .unset, .unset, .unset, .unset, .unset, .unset, .unset, .unset, .unset, .unset] [(.int u9)])) _
    refine XS.istore X0.here hx rfl (hb hby at_28) rfl (l' := #[.val (.int p1), .val (.int p2), .val (.int p3), .val (.int u1), .val (.int u3), .val (.int u5), .val (.int u7), .val (.int u9), .unset, .unset, .unset, .unset, .unset, .unset, .unset, .unset, .unset, .unset, .unset, .unset]) rfl ?_
    show Steps p.tables e below (s₁.setTop (mkF m 30 #[.val (.int p1), .val (.int p2), .val (.int p3), .val (.int u1), .val (.int u3), .val (.int u5), .val (.int u7), .val (.int u9), .unset, .unset, .unset, .unset, .unset, .unset, .unset, .unset, .unset, .unset, .unset, .unset] [])) _
    refine XS.iloadN X0.here hx rfl (hb hby at_30) rfl ?_
    show Steps p.tables e below (s₁.setTop (mkF m 31 #[.val (.int p1), .val (.int p2), .val (.int p3), .val (.int u1), .val (.int u3), .val (.int u5), .val (.int u7), .val (.int u9), .unset, .unset, .unset, .unset, .unset, .unset, .unset, .unset, .unset, .unset, .unset, .unset] [(.int u1)])) _
    refine XS.i2dS X0.here hx rfl (hb hby at_31) rfl (i2d_w _) ?_
    show Steps p.tables e below (s₁.setTop (mkF m 32 #[.val (.int p1), .val (.int p2), .val (.int p3), .val (.int u1), .val (.int u3), .val (.int u5), .val (.int u7), .val (.int u9), .unset, .unset, .unset, .unset, .unset, .unset, .unset, .unset, .unset, .unset, .unset, .unset] [(.double (FP.l2d u1.toInt64))])) _
    refine XS.dstore X0.here hx rfl (hb hby at_32) rfl (l' := #[.val (.int p1), .val (.int p2), .val (.int p3), .val (.int u1), .val (.int u3), .val (.int u5), .val (.int u7), .val (.int u9), .val (.double (FP.l2d u1.toInt64)), .second, .unset, .unset, .unset, .unset, .unset, .unset, .unset, .unset, .unset, .unset]) rfl ?_
    show Steps p.tables e below (s₁.setTop (mkF m 34 #[.val (.int p1), .val (.int p2), .val (.int p3), .val (.int u1), .val (.int u3), .val (.int u5), .val (.int u7), .val (.int u9), .val (.double (FP.l2d u1.toInt64)), .second, .unset, .unset, .unset, .unset, .unset, .unset, .unset, .unset, .unset, .unset] [])) _
    refine XS.iload X0.here hx rfl (hb hby at_34) rfl ?_
    show Steps p.tables e below (s₁.setTop (mkF m 36 #[.val (.int p1), .val (.int p2), .val (.int p3), .val (.int u1), .val (.int u3), .val (.int u5), .val (.int u7), .val (.int u9), .val (.double (FP.l2d u1.toInt64)), .second, .unset, .unset, .unset, .unset, .unset, .unset, .unset, .unset, .unset, .unset] [(.int u7)])) _
    refine XS.i2dS X0.here hx rfl (hb hby at_36) rfl (i2d_w _) ?_
    show Steps p.tables e below (s₁.setTop (mkF m 37 #[.val (.int p1), .val (.int p2), .val (.int p3), .val (.int u1), .val (.int u3), .val (.int u5), .val (.int u7), .val (.int u9), .val (.double (FP.l2d u1.toInt64)), .second, .unset, .unset, .unset, .unset, .unset, .unset, .unset, .unset, .unset, .unset] [(.double (FP.l2d u7.toInt64))])) _
    refine XS.dstore X0.here hx rfl (hb hby at_37) rfl (l' := #[.val (.int p1), .val (.int p2), .val (.int p3), .val (.int u1), .val (.int u3), .val (.int u5), .val (.int u7), .val (.int u9), .val (.double (FP.l2d u1.toInt64)), .second, .val (.double (FP.l2d u7.toInt64)), .second, .unset, .unset, .unset, .unset, .unset, .unset, .unset, .unset]) rfl ?_
    show Steps p.tables e below (s₁.setTop (mkF m 39 #[.val (.int p1), .val (.int p2), .val (.int p3), .val (.int u1), .val (.int u3), .val (.int u5), .val (.int u7), .val (.int u9), .val (.double (FP.l2d u1.toInt64)), .second, .val (.double (FP.l2d u7.toInt64)), .second, .unset, .unset, .unset, .unset, .unset, .unset, .unset, .unset] [])) _
    refine XS.iload X0.here hx rfl (hb hby at_39) rfl ?_
    show Steps p.tables e below (s₁.setTop (mkF m 41 #[.val (.int p1), .val (.int p2), .val (.int p3), .val (.int u1), .val (.int u3), .val (.int u5), .val (.int u7), .val (.int u9), .val (.double (FP.l2d u1.toInt64)), .second, .val (.double (FP.l2d u7.toInt64)), .second, .unset, .unset, .unset, .unset, .unset, .unset, .unset, .unset] [(.int u9)])) _
    refine XS.i2dS X0.here hx rfl (hb hby at_41) rfl (i2d_w _) ?_
    show Steps p.tables e below (s₁.setTop (mkF m 42 #[.val (.int p1), .val (.int p2), .val (.int p3), .val (.int u1), .val (.int u3), .val (.int u5), .val (.int u7), .val (.int u9), .val (.double (FP.l2d u1.toInt64)), .second, .val (.double (FP.l2d u7.toInt64)), .second, .unset, .unset, .unset, .unset, .unset, .unset, .unset, .unset] [(.double (FP.l2d u9.toInt64))])) _
    refine XS.dstore X0.here hx rfl (hb hby at_42) rfl (l' := #[.val (.int p1), .val (.int p2), .val (.int p3), .val (.int u1), .val (.int u3), .val (.int u5), .val (.int u7), .val (.int u9), .val (.double (FP.l2d u1.toInt64)), .second, .val (.double (FP.l2d u7.toInt64)), .second, .val (.double (FP.l2d u9.toInt64)), .second, .unset, .unset, .unset, .unset, .unset, .unset]) rfl ?_
    show Steps p.tables e below (s₁.setTop (mkF m 44 #[.val (.int p1), .val (.int p2), .val (.int p3), .val (.int u1), .val (.int u3), .val (.int u5), .val (.int u7), .val (.int u9), .val (.double (FP.l2d u1.toInt64)), .second, .val (.double (FP.l2d u7.toInt64)), .second, .val (.double (FP.l2d u9.toInt64)), .second, .unset, .unset, .unset, .unset, .unset, .unset] [])) _
    refine st11 _ ?_
    show Steps p.tables e below (T11.setTop (mkF m 47 #[.val (.int p1), .val (.int p2), .val (.int p3), .val (.int u1), .val (.int u3), .val (.int u5), .val (.int u7), .val (.int u9), .val (.double (FP.l2d u1.toInt64)), .second, .val (.double (FP.l2d u7.toInt64)), .second, .val (.double (FP.l2d u9.toInt64)), .second, .unset, .unset, .unset, .unset, .unset, .unset] [(.ref wZ)])) _
    refine XS.dload X11.here hx rfl (hb hby at_47) rfl ?_
    show Steps p.tables e below (T11.setTop (mkF m 49 #[.val (.int p1), .val (.int p2), .val (.int p3), .val (.int u1), .val (.int u3), .val (.int u5), .val (.int u7), .val (.int u9), .val (.double (FP.l2d u1.toInt64)), .second, .val (.double (FP.l2d u7.toInt64)), .second, .val (.double (FP.l2d u9.toInt64)), .second, .unset, .unset, .unset, .unset, .unset, .unset] [(.double (FP.l2d u7.toInt64)), (.ref wZ)])) _
    refine XS.dload X11.here hx rfl (hb hby at_49) rfl ?_
    show Steps p.tables e below (T11.setTop (mkF m 51 #[.val (.int p1), .val (.int p2), .val (.int p3), .val (.int u1), .val (.int u3), .val (.int u5), .val (.int u7), .val (.int u9), .val (.double (FP.l2d u1.toInt64)), .second, .val (.double (FP.l2d u7.toInt64)), .second, .val (.double (FP.l2d u9.toInt64)), .second, .unset, .unset, .unset, .unset, .unset, .unset] [(.double (FP.l2d u1.toInt64)), (.double (FP.l2d u7.toInt64)), (.ref wZ)])) _
    refine XS.dload X11.here hx rfl (hb hby at_51) rfl ?_
    show Steps p.tables e below (T11.setTop (mkF m 53 #[.val (.int p1), .val (.int p2), .val (.int p3), .val (.int u1), .val (.int u3), .val (.int u5), .val (.int u7), .val (.int u9), .val (.double (FP.l2d u1.toInt64)), .second, .val (.double (FP.l2d u7.toInt64)), .second, .val (.double (FP.l2d u9.toInt64)), .second, .unset, .unset, .unset, .unset, .unset, .unset] [(.double (FP.l2d u9.toInt64)), (.double (FP.l2d u1.toInt64)), (.double (FP.l2d u7.toInt64)), (.ref wZ)])) _
    refine st12.trans ?_
    show Steps p.tables e below (T12.setTop (mkF m 56 #[.val (.int p1), .val (.int p2), .val (.int p3), .val (.int u1), .val (.int u3), .val (.int u5), .val (.int u7), .val (.int u9), .val (.double (FP.l2d u1.toInt64)), .second, .val (.double (FP.l2d u7.toInt64)), .second, .val (.double (FP.l2d u9.toInt64)), .second, .unset, .unset, .unset, .unset, .unset, .unset] [(.int r12)])) _
    refine XS.istore X12.here hx rfl (hb hby at_56) rfl (l' := #[.val (.int p1), .val (.int p2), .val (.int p3), .val (.int u1), .val (.int u3), .val (.int u5), .val (.int u7), .val (.int u9), .val (.double (FP.l2d u1.toInt64)), .second, .val (.double (FP.l2d u7.toInt64)), .second, .val (.double (FP.l2d u9.toInt64)), .second, .val (.int r12), .unset, .unset, .unset, .unset, .unset]) rfl ?_
    show Steps p.tables e below (T12.setTop (mkF m 58 #[.val (.int p1), .val (.int p2), .val (.int p3), .val (.int u1), .val (.int u3), .val (.int u5), .val (.int u7), .val (.int u9), .val (.double (FP.l2d u1.toInt64)), .second, .val (.double (FP.l2d u7.toInt64)), .second, .val (.double (FP.l2d u9.toInt64)), .second, .val (.int r12), .unset, .unset, .unset, .unset, .unset] [])) _
    refine st13 _ ?_
    show Steps p.tables e below (T13.setTop (mkF m 61 #[.val (.int p1), .val (.int p2), .val (.int p3), .val (.int u1), .val (.int u3), .val (.int u5), .val (.int u7), .val (.int u9), .val (.double (FP.l2d u1.toInt64)), .second, .val (.double (FP.l2d u7.toInt64)), .second, .val (.double (FP.l2d u9.toInt64)), .second, .val (.int r12), .unset, .unset, .unset, .unset, .unset] [(.ref wN)])) _
    refine XS.dload X13.here hx rfl (hb hby at_61) rfl ?_
    show Steps p.tables e below (T13.setTop (mkF m 63 #[.val (.int p1), .val (.int p2), .val (.int p3), .val (.int u1), .val (.int u3), .val (.int u5), .val (.int u7), .val (.int u9), .val (.double (FP.l2d u1.toInt64)), .second, .val (.double (FP.l2d u7.toInt64)), .second, .val (.double (FP.l2d u9.toInt64)), .second, .val (.int r12), .unset, .unset, .unset, .unset, .unset] [(.double (FP.l2d u7.toInt64)), (.ref wN)])) _
    refine XS.dload X13.here hx rfl (hb hby at_63) rfl ?_
    show Steps p.tables e below (T13.setTop (mkF m 65 #[.val (.int p1), .val (.int p2), .val (.int p3), .val (.int u1), .val (.int u3), .val (.int u5), .val (.int u7), .val (.int u9), .val (.double (FP.l2d u1.toInt64)), .second, .val (.double (FP.l2d u7.toInt64)), .second, .val (.double (FP.l2d u9.toInt64)), .second, .val (.int r12), .unset, .unset, .unset, .unset, .unset] [(.double (FP.l2d u1.toInt64)), (.double (FP.l2d u7.toInt64)), (.ref wN)])) _
    refine XS.dload X13.here hx rfl (hb hby at_65) rfl ?_
    show Steps p.tables e below (T13.setTop (mkF m 67 #[.val (.int p1), .val (.int p2), .val (.int p3), .val (.int u1), .val (.int u3), .val (.int u5), .val (.int u7), .val (.int u9), .val (.double (FP.l2d u1.toInt64)), .second, .val (.double (FP.l2d u7.toInt64)), .second, .val (.double (FP.l2d u9.toInt64)), .second, .val (.int r12), .unset, .unset, .unset, .unset, .unset] [(.double (FP.l2d u9.toInt64)), (.double (FP.l2d u1.toInt64)), (.double (FP.l2d u7.toInt64)), (.ref wN)])) _
    refine st14.trans ?_
    show Steps p.tables e below (T14.setTop (mkF m 70 #[.val (.int p1), .val (.int p2), .val (.int p3), .val (.int u1), .val (.int u3), .val (.int u5), .val (.int u7), .val (.int u9), .val (.double (FP.l2d u1.toInt64)), .second, .val (.double (FP.l2d u7.toInt64)), .second, .val (.double (FP.l2d u9.toInt64)), .second, .val (.int r12), .unset, .unset, .unset, .unset, .unset] [(.int r14)])) _
    refine XS.istore X14.here hx rfl (hb hby at_70) rfl (l' := #[.val (.int p1), .val (.int p2), .val (.int p3), .val (.int u1), .val (.int u3), .val (.int u5), .val (.int u7), .val (.int u9), .val (.double (FP.l2d u1.toInt64)), .second, .val (.double (FP.l2d u7.toInt64)), .second, .val (.double (FP.l2d u9.toInt64)), .second, .val (.int r12), .val (.int r14), .unset, .unset, .unset, .unset]) rfl ?_
    show Steps p.tables e below (T14.setTop (mkF m 72 #[.val (.int p1), .val (.int p2), .val (.int p3), .val (.int u1), .val (.int u3), .val (.int u5), .val (.int u7), .val (.int u9), .val (.double (FP.l2d u1.toInt64)), .second, .val (.double (FP.l2d u7.toInt64)), .second, .val (.double (FP.l2d u9.toInt64)), .second, .val (.int r12), .val (.int r14), .unset, .unset, .unset, .unset] [])) _
    refine st15 _ ?_
    show Steps p.tables e below (T15.setTop (mkF m 75 #[.val (.int p1), .val (.int p2), .val (.int p3), .val (.int u1), .val (.int u3), .val (.int u5), .val (.int u7), .val (.int u9), .val (.double (FP.l2d u1.toInt64)), .second, .val (.double (FP.l2d u7.toInt64)), .second, .val (.double (FP.l2d u9.toInt64)), .second, .val (.int r12), .val (.int r14), .unset, .unset, .unset, .unset] [(.ref wM)])) _
    refine XS.dload X15.here hx rfl (hb hby at_75) rfl ?_
    show Steps p.tables e below (T15.setTop (mkF m 77 #[.val (.int p1), .val (.int p2), .val (.int p3), .val (.int u1), .val (.int u3), .val (.int u5), .val (.int u7), .val (.int u9), .val (.double (FP.l2d u1.toInt64)), .second, .val (.double (FP.l2d u7.toInt64)), .second, .val (.double (FP.l2d u9.toInt64)), .second, .val (.int r12), .val (.int r14), .unset, .unset, .unset, .unset] [(.double (FP.l2d u7.toInt64)), (.ref wM)])) _
    refine XS.dload X15.here hx rfl (hb hby at_77) rfl ?_
    show Steps p.tables e below (T15.setTop (mkF m 79 #[.val (.int p1), .val (.int p2), .val (.int p3), .val (.int u1), .val (.int u3), .val (.int u5), .val (.int u7), .val (.int u9), .val (.double (FP.l2d u1.toInt64)), .second, .val (.double (FP.l2d u7.toInt64)), .second, .val (.double (FP.l2d u9.toInt64)), .second, .val (.int r12), .val (.int r14), .unset, .unset, .unset, .unset] [(.double (FP.l2d u1.toInt64)), (.double (FP.l2d u7.toInt64)), (.ref wM)])) _
    refine XS.dload X15.here hx rfl (hb hby at_79) rfl ?_
    show Steps p.tables e below (T15.setTop (mkF m 81 #[.val (.int p1), .val (.int p2), .val (.int p3), .val (.int u1), .val (.int u3), .val (.int u5), .val (.int u7), .val (.int u9), .val (.double (FP.l2d u1.toInt64)), .second, .val (.double (FP.l2d u7.toInt64)), .second, .val (.double (FP.l2d u9.toInt64)), .second, .val (.int r12), .val (.int r14), .unset, .unset, .unset, .unset] [(.double (FP.l2d u9.toInt64)), (.double (FP.l2d u1.toInt64)), (.double (FP.l2d u7.toInt64)), (.ref wM)])) _
    refine st16.trans ?_
    show Steps p.tables e below (T16.setTop (mkF m 84 #[.val (.int p1), .val (.int p2), .val (.int p3), .val (.int u1), .val (.int u3), .val (.int u5), .val (.int u7), .val (.int u9), .val (.double (FP.l2d u1.toInt64)), .second, .val (.double (FP.l2d u7.toInt64)), .second, .val (.double (FP.l2d u9.toInt64)), .second, .val (.int r12), .val (.int r14), .unset, .unset, .unset, .unset] [(.int r16)])) _
    refine XS.istore X16.here hx rfl (hb hby at_84) rfl (l' := #[.val (.int p1), .val (.int p2), .val (.int p3), .val (.int u1), .val (.int u3), .val (.int u5), .val (.int u7), .val (.int u9), .val (.double (FP.l2d u1.toInt64)), .second, .val (.double (FP.l2d u7.toInt64)), .second, .val (.double (FP.l2d u9.toInt64)), .second, .val (.int r12), .val (.int r14), .val (.int r16), .unset, .unset, .unset]) rfl ?_
    exact kt
  obtain ⟨T22, L22, v22_t0, X22, e22, N22, hv22_t0, sg22⟩ : ∃ (T' : State) (L' : List Loc) (v22_t0 : Int32), Stand p l e room_1 s m #[(.int p1), (.int p2), (.int p3)] below meth c T' L' 0 0 ∧ T'.heap = h0 ∧ Fr n0 L' ∧ v22_t0 = (if u7 = (0 : Int32) then (0 : Int32) else (1 : Int32)) ∧ ∀ target, Steps p.tables e below (T'.setTop (mkF m 96 #[.val (.int p1), .val (.int p2), .val (.int p3), .val (.int u1), .val (.int u3), .val (.int u5), .val (.int u7), .val (.int u9), .val (.double (FP.l2d u1.toInt64)), .second, .val (.double (FP.l2d u7.toInt64)), .second, .val (.double (FP.l2d u9.toInt64)), .second, .val (.int r12), .val (.int r14), .val (.int r16), .unset, .unset, .unset] [(.int v22_t0)])) target → Steps p.tables e below (T16.setTop (mkF m 86 #[.val (.int p1), .val (.int p2), .val (.int p3), .val (.int u1), .val (.int u3), .val (.int u5), .val (.int u7), .val (.int u9), .val (.double (FP.l2d u1.toInt64)), .second, .val (.double (FP.l2d u7.toInt64)), .second, .val (.double (FP.l2d u9.toInt64)), .second, .val (.int r12), .val (.int r14), .val (.int r16), .unset, .unset, .unset] [])) target := by
    have sg18 : ∀ target, Steps p.tables e below (T16.setTop (mkF m 88 #[.val (.int p1), .val (.int p2), .val (.int p3), .val (.int u1), .val (.int u3), .val (.int u5), .val (.int u7), .val (.int u9), .val (.double (FP.l2d u1.toInt64)), .second, .val (.double (FP.l2d u7.toInt64)), .second, .val (.double (FP.l2d u9.toInt64)), .second, .val (.int r12), .val (.int r14), .val (.int r16), .unset, .unset, .unset] [(.int u7)])) target → Steps p.tables e below (T16.setTop (mkF m 86 #[.val (.int p1), .val (.int p2), .val (.int p3), .val (.int u1), .val (.int u3), .val (.int u5), .val (.int u7), .val (.int u9), .val (.double (FP.l2d u1.toInt64)), .second, .val (.double (FP.l2d u7.toInt64)), .second, .val (.double (FP.l2d u9.toInt64)), .second, .val (.int r12), .val (.int r14), .val (.int r16), .unset, .unset, .unset] [])) target := by
      intro target kt
      show Steps p.tables e below (T16.setTop (mkF m 86 #[.val (.int p1), .val (.int p2), .val (.int p3), .val (.int u1), .val (.int u3), .val (.int u5), .val (.int u7), .val (.int u9), .val (.double (FP.l2d u1.toInt64)), .second, .val (.double (FP.l2d u7.toInt64)), .second, .val (.double (FP.l2d u9.toInt64)), .second, .val (.int r12), .val (.int r14), .val (.int r16), .unset, .unset, .unset] [])) _
      refine XS.iload X16.here hx rfl (hb hby at_86) rfl ?_
      exact kt
    by_cases hc19 : u7 = (0 : Int32)
    · have sg20 : ∀ target, Steps p.tables e below (T16.setTop (mkF m 96 #[.val (.int p1), .val (.int p2), .val (.int p3), .val (.int u1), .val (.int u3), .val (.int u5), .val (.int u7), .val (.int u9), .val (.double (FP.l2d u1.toInt64)), .second, .val (.double (FP.l2d u7.toInt64)), .second, .val (.double (FP.l2d u9.toInt64)), .second, .val (.int r12), .val (.int r14), .val (.int r16), .unset, .unset, .unset] [(.int (0 : Int32))])) target → Steps p.tables e below (T16.setTop (mkF m 88 #[.val (.int p1), .val (.int p2), .val (.int p3), .val (.int u1), .val (.int u3), .val (.int u5), .val (.int u7), .val (.int u9), .val (.double (FP.l2d u1.toInt64)), .second, .val (.double (FP.l2d u7.toInt64)), .second, .val (.double (FP.l2d u9.toInt64)), .second, .val (.int r12), .val (.int r14), .val (.int r16), .unset, .unset, .unset] [(.int u7)])) target := by
        intro target kt
        show Steps p.tables e below (T16.setTop (mkF m 88 #[.val (.int p1), .val (.int p2), .val (.int p3), .val (.int u1), .val (.int u3), .val (.int u5), .val (.int u7), .val (.int u9), .val (.double (FP.l2d u1.toInt64)), .second, .val (.double (FP.l2d u7.toInt64)), .second, .val (.double (FP.l2d u9.toInt64)), .second, .val (.int r12), .val (.int r14), .val (.int r16), .unset, .unset, .unset] [(.int u7)])) _
        refine XS.ifYes X16.here hx rfl (pc0 := 88) (pc' := 95) rfl (hb hby at_88) rfl ((if0 _ _).trans (teq hc19).1) (by decide) (by decide) ?_
        show Steps p.tables e below (T16.setTop (mkF m 95 #[.val (.int p1), .val (.int p2), .val (.int p3), .val (.int u1), .val (.int u3), .val (.int u5), .val (.int u7), .val (.int u9), .val (.double (FP.l2d u1.toInt64)), .second, .val (.double (FP.l2d u7.toInt64)), .second, .val (.double (FP.l2d u9.toInt64)), .second, .val (.int r12), .val (.int r14), .val (.int r16), .unset, .unset, .unset] [])) _
        refine XS.iconst X16.here hx rfl (hb hby at_95) ?_
        exact kt
      exact ⟨T16, _, (0 : Int32), X16.mono (by decide) (by decide), e16, N16, (by rw [if_pos hc19]), fun target kt => sg18 _ (sg20 _ (kt))⟩
    · have sg21 : ∀ target, Steps p.tables e below (T16.setTop (mkF m 96 #[.val (.int p1), .val (.int p2), .val (.int p3), .val (.int u1), .val (.int u3), .val (.int u5), .val (.int u7), .val (.int u9), .val (.double (FP.l2d u1.toInt64)), .second, .val (.double (FP.l2d u7.toInt64)), .second, .val (.double (FP.l2d u9.toInt64)), .second, .val (.int r12), .val (.int r14), .val (.int r16), .unset, .unset, .unset] [(.int (1 : Int32))])) target → Steps p.tables e below (T16.setTop (mkF m 88 #[.val (.int p1), .val (.int p2), .val (.int p3), .val (.int u1), .val (.int u3), .val (.int u5), .val (.int u7), .val (.int u9), .val (.double (FP.l2d u1.toInt64)), .second, .val (.double (FP.l2d u7.toInt64)), .second, .val (.double (FP.l2d u9.toInt64)), .second, .val (.int r12), .val (.int r14), .val (.int r16), .unset, .unset, .unset] [(.int u7)])) target := by
        intro target kt
        show Steps p.tables e below (T16.setTop (mkF m 88 #[.val (.int p1), .val (.int p2), .val (.int p3), .val (.int u1), .val (.int u3), .val (.int u5), .val (.int u7), .val (.int u9), .val (.double (FP.l2d u1.toInt64)), .second, .val (.double (FP.l2d u7.toInt64)), .second, .val (.double (FP.l2d u9.toInt64)), .second, .val (.int r12), .val (.int r14), .val (.int r16), .unset, .unset, .unset] [(.int u7)])) _
        refine XS.ifNo X16.here hx rfl (hb hby at_88) rfl ((if0 _ _).trans (feq hc19).1) ?_
        show Steps p.tables e below (T16.setTop (mkF m 91 #[.val (.int p1), .val (.int p2), .val (.int p3), .val (.int u1), .val (.int u3), .val (.int u5), .val (.int u7), .val (.int u9), .val (.double (FP.l2d u1.toInt64)), .second, .val (.double (FP.l2d u7.toInt64)), .second, .val (.double (FP.l2d u9.toInt64)), .second, .val (.int r12), .val (.int r14), .val (.int r16), .unset, .unset, .unset] [])) _
        refine XS.iconst X16.here hx rfl (hb hby at_91) ?_
        show Steps p.tables e below (T16.setTop (mkF m 92 #[.val (.int p1), .val (.int p2), .val (.int p3), .val (.int u1), .val (.int u3), .val (.int u5), .val (.int u7), .val (.int u9), .val (.double (FP.l2d u1.toInt64)), .second, .val (.double (FP.l2d u7.toInt64)), .second, .val (.double (FP.l2d u9.toInt64)), .second, .val (.int r12), .val (.int r14), .val (.int r16), .unset, .unset, .unset] [(.int (1 : Int32))])) _
        refine XS.goto X16.here hx rfl (pc0 := 92) (pc' := 96) rfl (hb hby at_92) (by decide) (by decide) ?_
        exact kt
      exact ⟨T16, _, (1 : Int32), X16.mono (by decide) (by decide), e16, N16, (by rw [if_neg hc19]), fun target kt => sg18 _ (sg21 _ (kt))⟩
  have sg23 : ∀ target, Steps p.tables e below (T22.setTop (mkF m 98 #[.val (.int p1), .val (.int p2), .val (.int p3), .val (.int u1), .val (.int u3), .val (.int u5), .val (.int u7), .val (.int u9), .val (.double (FP.l2d u1.toInt64)), .second, .val (.double (FP.l2d u7.toInt64)), .second, .val (.double (FP.l2d u9.toInt64)), .second, .val (.int r12), .val (.int r14), .val (.int r16), .val (.int v22_t0), .unset, .unset] [])) target → Steps p.tables e below (T22.setTop (mkF m 96 #[.val (.int p1), .val (.int p2), .val (.int p3), .val (.int u1), .val (.int u3), .val (.int u5), .val (.int u7), .val (.int u9), .val (.double (FP.l2d u1.toInt64)), .second, .val (.double (FP.l2d u7.toInt64)), .second, .val (.double (FP.l2d u9.toInt64)), .second, .val (.int r12), .val (.int r14), .val (.int r16), .unset, .unset, .unset] [(.int v22_t0)])) target := by
    intro target kt
    show Steps p.tables e below (T22.setTop (mkF m 96 #[.val (.int p1), .val (.int p2), .val (.int p3), .val (.int u1), .val (.int u3), .val (.int u5), .val (.int u7), .val (.int u9), .val (.double (FP.l2d u1.toInt64)), .second, .val (.double (FP.l2d u7.toInt64)), .second, .val (.double (FP.l2d u9.toInt64)), .second, .val (.int r12), .val (.int r14), .val (.int r16), .unset, .unset, .unset] [(.int v22_t0)])) _
    refine XS.istore X22.here hx rfl (hb hby at_96) rfl (l' := #[.val (.int p1), .val (.int p2), .val (.int p3), .val (.int u1), .val (.int u3), .val (.int u5), .val (.int u7), .val (.int u9), .val (.double (FP.l2d u1.toInt64)), .second, .val (.double (FP.l2d u7.toInt64)), .second, .val (.double (FP.l2d u9.toInt64)), .second, .val (.int r12), .val (.int r14), .val (.int r16), .val (.int v22_t0), .unset, .unset]) rfl ?_
    exact kt
  obtain ⟨T28, L28, v28_t0, X28, e28, N28, hv28_t0, sg28⟩ : ∃ (T' : State) (L' : List Loc) (v28_t0 : Int32), Stand p l e room_1 s m #[(.int p1), (.int p2), (.int p3)] below meth c T' L' 0 0 ∧ T'.heap = h0 ∧ Fr n0 L' ∧ v28_t0 = (if u3 = (0 : Int32) then (0 : Int32) else (1 : Int32)) ∧ ∀ target, Steps p.tables e below (T'.setTop (mkF m 108 #[.val (.int p1), .val (.int p2), .val (.int p3), .val (.int u1), .val (.int u3), .val (.int u5), .val (.int u7), .val (.int u9), .val (.double (FP.l2d u1.toInt64)), .second, .val (.double (FP.l2d u7.toInt64)), .second, .val (.double (FP.l2d u9.toInt64)), .second, .val (.int r12), .val (.int r14), .val (.int r16), .val (.int v22_t0), .unset, .unset] [(.int v28_t0)])) target → Steps p.tables e below (T22.setTop (mkF m 98 #[.val (.int p1), .val (.int p2), .val (.int p3), .val (.int u1), .val (.int u3), .val (.int u5), .val (.int u7), .val (.int u9), .val (.double (FP.l2d u1.toInt64)), .second, .val (.double (FP.l2d u7.toInt64)), .second, .val (.double (FP.l2d u9.toInt64)), .second, .val (.int r12), .val (.int r14), .val (.int r16), .val (.int v22_t0), .unset, .unset] [])) target := by
    have sg24 : ∀ target, Steps p.tables e below (T22.setTop (mkF m 100 #[.val (.int p1), .val (.int p2), .val (.int p3), .val (.int u1), .val (.int u3), .val (.int u5), .val (.int u7), .val (.int u9), .val (.double (FP.l2d u1.toInt64)), .second, .val (.double (FP.l2d u7.toInt64)), .second, .val (.double (FP.l2d u9.toInt64)), .second, .val (.int r12), .val (.int r14), .val (.int r16), .val (.int v22_t0), .unset, .unset] [(.int u3)])) target → Steps p.tables e below (T22.setTop (mkF m 98 #[.val (.int p1), .val (.int p2), .val (.int p3), .val (.int u1), .val (.int u3), .val (.int u5), .val (.int u7), .val (.int u9), .val (.double (FP.l2d u1.toInt64)), .second, .val (.double (FP.l2d u7.toInt64)), .second, .val (.double (FP.l2d u9.toInt64)), .second, .val (.int r12), .val (.int r14), .val (.int r16), .val (.int v22_t0), .unset, .unset] [])) target := by
      intro target kt
      show Steps p.tables e below (T22.setTop (mkF m 98 #[.val (.int p1), .val (.int p2), .val (.int p3), .val (.int u1), .val (.int u3), .val (.int u5), .val (.int u7), .val (.int u9), .val (.double (FP.l2d u1.toInt64)), .second, .val (.double (FP.l2d u7.toInt64)), .second, .val (.double (FP.l2d u9.toInt64)), .second, .val (.int r12), .val (.int r14), .val (.int r16), .val (.int v22_t0), .unset, .unset] [])) _
      refine XS.iload X22.here hx rfl (hb hby at_98) rfl ?_
      exact kt
    by_cases hc25 : u3 = (0 : Int32)
    · have sg26 : ∀ target, Steps p.tables e below (T22.setTop (mkF m 108 #[.val (.int p1), .val (.int p2), .val (.int p3), .val (.int u1), .val (.int u3), .val (.int u5), .val (.int u7), .val (.int u9), .val (.double (FP.l2d u1.toInt64)), .second, .val (.double (FP.l2d u7.toInt64)), .second, .val (.double (FP.l2d u9.toInt64)), .second, .val (.int r12), .val (.int r14), .val (.int r16), .val (.int v22_t0), .unset, .unset] [(.int (0 : Int32))])) target → Steps p.tables e below (T22.setTop (mkF m 100 #[.val (.int p1), .val (.int p2), .val (.int p3), .val (.int u1), .val (.int u3), .val (.int u5), .val (.int u7), .val (.int u9), .val (.double (FP.l2d u1.toInt64)), .second, .val (.double (FP.l2d u7.toInt64)), .second, .val (.double (FP.l2d u9.toInt64)), .second, .val (.int r12), .val (.int r14), .val (.int r16), .val (.int v22_t0), .unset, .unset] [(.int u3)])) target := by
        intro target kt
        show Steps p.tables e below (T22.setTop (mkF m 100 #[.val (.int p1), .val (.int p2), .val (.int p3), .val (.int u1), .val (.int u3), .val (.int u5), .val (.int u7), .val (.int u9), .val (.double (FP.l2d u1.toInt64)), .second, .val (.double (FP.l2d u7.toInt64)), .second, .val (.double (FP.l2d u9.toInt64)), .second, .val (.int r12), .val (.int r14), .val (.int r16), .val (.int v22_t0), .unset, .unset] [(.int u3)])) _
        refine XS.ifYes X22.here hx rfl (pc0 := 100) (pc' := 107) rfl (hb hby at_100) rfl ((if0 _ _).trans (teq hc25).1) (by decide) (by decide) ?_
        show Steps p.tables e below (T22.setTop (mkF m 107 #[.val (.int p1), .val (.int p2), .val (.int p3), .val (.int u1), .val (.int u3), .val (.int u5), .val (.int u7), .val (.int u9), .val (.double (FP.l2d u1.toInt64)), .second, .val (.double (FP.l2d u7.toInt64)), .second, .val (.double (FP.l2d u9.toInt64)), .second, .val (.int r12), .val (.int r14), .val (.int r16), .val (.int v22_t0), .unset, .unset] [])) _
        refine XS.iconst X22.here hx rfl (hb hby at_107) ?_
        exact kt
      exact ⟨T22, _, (0 : Int32), X22.mono (by decide) (by decide), e22, N22, (by rw [if_pos hc25]), fun target kt => sg24 _ (sg26 _ (kt))⟩
    · have sg27 : ∀ target, Steps p.tables e below (T22.setTop (mkF m 108 #[.val (.int p1), .val (.int p2), .val (.int p3), .val (.int u1), .val (.int u3), .val (.int u5), .val (.int u7), .val (.int u9), .val (.double (FP.l2d u1.toInt64)), .second, .val (.double (FP.l2d u7.toInt64)), .second, .val (.double (FP.l2d u9.toInt64)), .second, .val (.int r12), .val (.int r14), .val (.int r16), .val (.int v22_t0), .unset, .unset] [(.int (1 : Int32))])) target → Steps p.tables e below (T22.setTop (mkF m 100 #[.val (.int p1), .val (.int p2), .val (.int p3), .val (.int u1), .val (.int u3), .val (.int u5), .val (.int u7), .val (.int u9), .val (.double (FP.l2d u1.toInt64)), .second, .val (.double (FP.l2d u7.toInt64)), .second, .val (.double (FP.l2d u9.toInt64)), .second, .val (.int r12), .val (.int r14), .val (.int r16), .val (.int v22_t0), .unset, .unset] [(.int u3)])) target := by
        intro target kt
        show Steps p.tables e below (T22.setTop (mkF m 100 #[.val (.int p1), .val (.int p2), .val (.int p3), .val (.int u1), .val (.int u3), .val (.int u5), .val (.int u7), .val (.int u9), .val (.double (FP.l2d u1.toInt64)), .second, .val (.double (FP.l2d u7.toInt64)), .second, .val (.double (FP.l2d u9.toInt64)), .second, .val (.int r12), .val (.int r14), .val (.int r16), .val (.int v22_t0), .unset, .unset] [(.int u3)])) _
        refine XS.ifNo X22.here hx rfl (hb hby at_100) rfl ((if0 _ _).trans (feq hc25).1) ?_
        show Steps p.tables e below (T22.setTop (mkF m 103 #[.val (.int p1), .val (.int p2), .val (.int p3), .val (.int u1), .val (.int u3), .val (.int u5), .val (.int u7), .val (.int u9), .val (.double (FP.l2d u1.toInt64)), .second, .val (.double (FP.l2d u7.toInt64)), .second, .val (.double (FP.l2d u9.toInt64)), .second, .val (.int r12), .val (.int r14), .val (.int r16), .val (.int v22_t0), .unset, .unset] [])) _
        refine XS.iconst X22.here hx rfl (hb hby at_103) ?_
        show Steps p.tables e below (T22.setTop (mkF m 104 #[.val (.int p1), .val (.int p2), .val (.int p3), .val (.int u1), .val (.int u3), .val (.int u5), .val (.int u7), .val (.int u9), .val (.double (FP.l2d u1.toInt64)), .second, .val (.double (FP.l2d u7.toInt64)), .second, .val (.double (FP.l2d u9.toInt64)), .second, .val (.int r12), .val (.int r14), .val (.int r16), .val (.int v22_t0), .unset, .unset] [(.int (1 : Int32))])) _
        refine XS.goto X22.here hx rfl (pc0 := 104) (pc' := 108) rfl (hb hby at_104) (by decide) (by decide) ?_
        exact kt
      exact ⟨T22, _, (1 : Int32), X22.mono (by decide) (by decide), e22, N22, (by rw [if_neg hc25]), fun target kt => sg24 _ (sg27 _ (kt))⟩
  have sg29 : ∀ target, Steps p.tables e below (T28.setTop (mkF m 110 #[.val (.int p1), .val (.int p2), .val (.int p3), .val (.int u1), .val (.int u3), .val (.int u5), .val (.int u7), .val (.int u9), .val (.double (FP.l2d u1.toInt64)), .second, .val (.double (FP.l2d u7.toInt64)), .second, .val (.double (FP.l2d u9.toInt64)), .second, .val (.int r12), .val (.int r14), .val (.int r16), .val (.int v22_t0), .val (.int v28_t0), .unset] [])) target → Steps p.tables e below (T28.setTop (mkF m 108 #[.val (.int p1), .val (.int p2), .val (.int p3), .val (.int u1), .val (.int u3), .val (.int u5), .val (.int u7), .val (.int u9), .val (.double (FP.l2d u1.toInt64)), .second, .val (.double (FP.l2d u7.toInt64)), .second, .val (.double (FP.l2d u9.toInt64)), .second, .val (.int r12), .val (.int r14), .val (.int r16), .val (.int v22_t0), .unset, .unset] [(.int v28_t0)])) target := by
    intro target kt
    show Steps p.tables e below (T28.setTop (mkF m 108 #[.val (.int p1), .val (.int p2), .val (.int p3), .val (.int u1), .val (.int u3), .val (.int u5), .val (.int u7), .val (.int u9), .val (.double (FP.l2d u1.toInt64)), .second, .val (.double (FP.l2d u7.toInt64)), .second, .val (.double (FP.l2d u9.toInt64)), .second, .val (.int r12), .val (.int r14), .val (.int r16), .val (.int v22_t0), .unset, .unset] [(.int v28_t0)])) _
    refine XS.istore X28.here hx rfl (hb hby at_108) rfl (l' := #[.val (.int p1), .val (.int p2), .val (.int p3), .val (.int u1), .val (.int u3), .val (.int u5), .val (.int u7), .val (.int u9), .val (.double (FP.l2d u1.toInt64)), .second, .val (.double (FP.l2d u7.toInt64)), .second, .val (.double (FP.l2d u9.toInt64)), .second, .val (.int r12), .val (.int r14), .val (.int r16), .val (.int v22_t0), .val (.int v28_t0), .unset]) rfl ?_
    exact kt
  obtain ⟨T34, L34, v34_t0, X34, e34, N34, hv34_t0, sg34⟩ : ∃ (T' : State) (L' : List Loc) (v34_t0 : Int32), Stand p l e room_1 s m #[(.int p1), (.int p2), (.int p3)] below meth c T' L' 0 0 ∧ T'.heap = h0 ∧ Fr n0 L' ∧ v34_t0 = (if u5 = (0 : Int32) then (1 : Int32) else (0 : Int32)) ∧ ∀ target, Steps p.tables e below (T'.setTop (mkF m 120 #[.val (.int p1), .val (.int p2), .val (.int p3), .val (.int u1), .val (.int u3), .val (.int u5), .val (.int u7), .val (.int u9), .val (.double (FP.l2d u1.toInt64)), .second, .val (.double (FP.l2d u7.toInt64)), .second, .val (.double (FP.l2d u9.toInt64)), .second, .val (.int r12), .val (.int r14), .val (.int r16), .val (.int v22_t0), .val (.int v28_t0), .unset] [(.int v34_t0)])) target → Steps p.tables e below (T28.setTop (mkF m 110 #[.val (.int p1), .val (.int p2), .val (.int p3), .val (.int u1), .val (.int u3), .val (.int u5), .val (.int u7), .val (.int u9), .val (.double (FP.l2d u1.toInt64)), .second, .val (.double (FP.l2d u7.toInt64)), .second, .val (.double (FP.l2d u9.toInt64)), .second, .val (.int r12), .val (.int r14), .val (.int r16), .val (.int v22_t0), .val (.int v28_t0), .unset] [])) target := by
    have sg30 : ∀ target, Steps p.tables e below (T28.setTop (mkF m 112 #[.val (.int p1), .val (.int p2), .val (.int p3), .val (.int u1), .val (.int u3), .val (.int u5), .val (.int u7), .val (.int u9), .val (.double (FP.l2d u1.toInt64)), .second, .val (.double (FP.l2d u7.toInt64)), .second, .val (.double (FP.l2d u9.toInt64)), .second, .val (.int r12), .val (.int r14), .val (.int r16), .val (.int v22_t0), .val (.int v28_t0), .unset] [(.int u5)])) target → Steps p.tables e below (T28.setTop (mkF m 110 #[.val (.int p1), .val (.int p2), .val (.int p3), .val (.int u1), .val (.int u3), .val (.int u5), .val (.int u7), .val (.int u9), .val (.double (FP.l2d u1.toInt64)), .second, .val (.double (FP.l2d u7.toInt64)), .second, .val (.double (FP.l2d u9.toInt64)), .second, .val (.int r12), .val (.int r14), .val (.int r16), .val (.int v22_t0), .val (.int v28_t0), .unset] [])) target := by
      intro target kt
      show Steps p.tables e below (T28.setTop (mkF m 110 #[.val (.int p1), .val (.int p2), .val (.int p3), .val (.int u1), .val (.int u3), .val (.int u5), .val (.int u7), .val (.int u9), .val (.double (FP.l2d u1.toInt64)), .second, .val (.double (FP.l2d u7.toInt64)), .second, .val (.double (FP.l2d u9.toInt64)), .second, .val (.int r12), .val (.int r14), .val (.int r16), .val (.int v22_t0), .val (.int v28_t0), .unset] [])) _
      refine XS.iload X28.here hx rfl (hb hby at_110) rfl ?_
      exact kt
    by_cases hc31 : u5 = (0 : Int32)
    · have sg32 : ∀ target, Steps p.tables e below (T28.setTop (mkF m 120 #[.val (.int p1), .val (.int p2), .val (.int p3), .val (.int u1), .val (.int u3), .val (.int u5), .val (.int u7), .val (.int u9), .val (.double (FP.l2d u1.toInt64)), .second, .val (.double (FP.l2d u7.toInt64)), .second, .val (.double (FP.l2d u9.toInt64)), .second, .val (.int r12), .val (.int r14), .val (.int r16), .val (.int v22_t0), .val (.int v28_t0), .unset] [(.int (1 : Int32))])) target → Steps p.tables e below (T28.setTop (mkF m 112 #[.val (.int p1), .val (.int p2), .val (.int p3), .val (.int u1), .val (.int u3), .val (.int u5), .val (.int u7), .val (.int u9), .val (.double (FP.l2d u1.toInt64)), .second, .val (.double (FP.l2d u7.toInt64)), .second, .val (.double (FP.l2d u9.toInt64)), .second, .val (.int r12), .val (.int r14), .val (.int r16), .val (.int v22_t0), .val (.int v28_t0), .unset] [(.int u5)])) target := by
        intro target kt
        show Steps p.tables e below (T28.setTop (mkF m 112 #[.val (.int p1), .val (.int p2), .val (.int p3), .val (.int u1), .val (.int u3), .val (.int u5), .val (.int u7), .val (.int u9), .val (.double (FP.l2d u1.toInt64)), .second, .val (.double (FP.l2d u7.toInt64)), .second, .val (.double (FP.l2d u9.toInt64)), .second, .val (.int r12), .val (.int r14), .val (.int r16), .val (.int v22_t0), .val (.int v28_t0), .unset] [(.int u5)])) _
        refine XS.ifNo X28.here hx rfl (hb hby at_112) rfl ((if0 _ _).trans (teq hc31).2) ?_
        show Steps p.tables e below (T28.setTop (mkF m 115 #[.val (.int p1), .val (.int p2), .val (.int p3), .val (.int u1), .val (.int u3), .val (.int u5), .val (.int u7), .val (.int u9), .val (.double (FP.l2d u1.toInt64)), .second, .val (.double (FP.l2d u7.toInt64)), .second, .val (.double (FP.l2d u9.toInt64)), .second, .val (.int r12), .val (.int r14), .val (.int r16), .val (.int v22_t0), .val (.int v28_t0), .unset] [])) _
        refine XS.iconst X28.here hx rfl (hb hby at_115) ?_
        show Steps p.tables e below (T28.setTop (mkF m 116 #[.val (.int p1), .val (.int p2), .val (.int p3), .val (.int u1), .val (.int u3), .val (.int u5), .val (.int u7), .val (.int u9), .val (.double (FP.l2d u1.toInt64)), .second, .val (.double (FP.l2d u7.toInt64)), .second, .val (.double (FP.l2d u9.toInt64)), .second, .val (.int r12), .val (.int r14), .val (.int r16), .val (.int v22_t0), .val (.int v28_t0), .unset] [(.int (1 : Int32))])) _
        refine XS.goto X28.here hx rfl (pc0 := 116) (pc' := 120) rfl (hb hby at_116) (by decide) (by decide) ?_
        exact kt
      exact ⟨T28, _, (1 : Int32), X28.mono (by decide) (by decide), e28, N28, (by rw [if_pos hc31]), fun target kt => sg30 _ (sg32 _ (kt))⟩
    · have sg33 : ∀ target, Steps p.tables e below (T28.setTop (mkF m 120 #[.val (.int p1), .val (.int p2), .val (.int p3), .val (.int u1), .val (.int u3), .val (.int u5), .val (.int u7), .val (.int u9), .val (.double (FP.l2d u1.toInt64)), .second, .val (.double (FP.l2d u7.toInt64)), .second, .val (.double (FP.l2d u9.toInt64)), .second, .val (.int r12), .val (.int r14), .val (.int r16), .val (.int v22_t0), .val (.int v28_t0), .unset] [(.int (0 : Int32))])) target → Steps p.tables e below (T28.setTop (mkF m 112 #[.val (.int p1), .val (.int p2), .val (.int p3), .val (.int u1), .val (.int u3), .val (.int u5), .val (.int u7), .val (.int u9), .val (.double (FP.l2d u1.toInt64)), .second, .val (.double (FP.l2d u7.toInt64)), .second, .val (.double (FP.l2d u9.toInt64)), .second, .val (.int r12), .val (.int r14), .val (.int r16), .val (.int v22_t0), .val (.int v28_t0), .unset] [(.int u5)])) target := by
        intro target kt
        show Steps p.tables e below (T28.setTop (mkF m 112 #[.val (.int p1), .val (.int p2), .val (.int p3), .val (.int u1), .val (.int u3), .val (.int u5), .val (.int u7), .val (.int u9), .val (.double (FP.l2d u1.toInt64)), .second, .val (.double (FP.l2d u7.toInt64)), .second, .val (.double (FP.l2d u9.toInt64)), .second, .val (.int r12), .val (.int r14), .val (.int r16), .val (.int v22_t0), .val (.int v28_t0), .unset] [(.int u5)])) _
        refine XS.ifYes X28.here hx rfl (pc0 := 112) (pc' := 119) rfl (hb hby at_112) rfl ((if0 _ _).trans (feq hc31).2) (by decide) (by decide) ?_
        show Steps p.tables e below (T28.setTop (mkF m 119 #[.val (.int p1), .val (.int p2), .val (.int p3), .val (.int u1), .val (.int u3), .val (.int u5), .val (.int u7), .val (.int u9), .val (.double (FP.l2d u1.toInt64)), .second, .val (.double (FP.l2d u7.toInt64)), .second, .val (.double (FP.l2d u9.toInt64)), .second, .val (.int r12), .val (.int r14), .val (.int r16), .val (.int v22_t0), .val (.int v28_t0), .unset] [])) _
        refine XS.iconst X28.here hx rfl (hb hby at_119) ?_
        exact kt
      exact ⟨T28, _, (0 : Int32), X28.mono (by decide) (by decide), e28, N28, (by rw [if_neg hc31]), fun target kt => sg30 _ (sg33 _ (kt))⟩
  have sg35 : ∀ target, Steps p.tables e below (T34.setTop (mkF m 122 #[.val (.int p1), .val (.int p2), .val (.int p3), .val (.int u1), .val (.int u3), .val (.int u5), .val (.int u7), .val (.int u9), .val (.double (FP.l2d u1.toInt64)), .second, .val (.double (FP.l2d u7.toInt64)), .second, .val (.double (FP.l2d u9.toInt64)), .second, .val (.int r12), .val (.int r14), .val (.int r16), .val (.int v22_t0), .val (.int v28_t0), .val (.int v34_t0)] [])) target → Steps p.tables e below (T34.setTop (mkF m 120 #[.val (.int p1), .val (.int p2), .val (.int p3), .val (.int u1), .val (.int u3), .val (.int u5), .val (.int u7), .val (.int u9), .val (.double (FP.l2d u1.toInt64)), .second, .val (.double (FP.l2d u7.toInt64)), .second, .val (.double (FP.l2d u9.toInt64)), .second, .val (.int r12), .val (.int r14), .val (.int r16), .val (.int v22_t0), .val (.int v28_t0), .unset] [(.int v34_t0)])) target := by
    intro target kt
    show Steps p.tables e below (T34.setTop (mkF m 120 #[.val (.int p1), .val (.int p2), .val (.int p3), .val (.int u1), .val (.int u3), .val (.int u5), .val (.int u7), .val (.int u9), .val (.double (FP.l2d u1.toInt64)), .second, .val (.double (FP.l2d u7.toInt64)), .second, .val (.double (FP.l2d u9.toInt64)), .second, .val (.int r12), .val (.int r14), .val (.int r16), .val (.int v22_t0), .val (.int v28_t0), .unset] [(.int v34_t0)])) _
    refine XS.istore X34.here hx rfl (hb hby at_120) rfl (l' := #[.val (.int p1), .val (.int p2), .val (.int p3), .val (.int u1), .val (.int u3), .val (.int u5), .val (.int u7), .val (.int u9), .val (.double (FP.l2d u1.toInt64)), .second, .val (.double (FP.l2d u7.toInt64)), .second, .val (.double (FP.l2d u9.toInt64)), .second, .val (.int r12), .val (.int r14), .val (.int r16), .val (.int v22_t0), .val (.int v28_t0), .val (.int v34_t0)]) rfl ?_
    exact kt
  obtain ⟨T46, L46, v46_t0, X46, e46, N46, hv46_t0, sg46⟩ : ∃ (T' : State) (L' : List Loc) (v46_t0 : Int32), Stand p l e room_1 s m #[(.int p1), (.int p2), (.int p3)] below meth c T' L' 0 0 ∧ T'.heap = h0 ∧ Fr n0 L' ∧ v46_t0 = (if r12 = v22_t0 then (if r14 = v28_t0 then (if r16 = v34_t0 then (1 : Int32) else (0 : Int32)) else (0 : Int32)) else (0 : Int32)) ∧ ∀ target, Steps p.tables e below (T'.setTop (mkF m 148 #[.val (.int p1), .val (.int p2), .val (.int p3), .val (.int u1), .val (.int u3), .val (.int u5), .val (.int u7), .val (.int u9), .val (.double (FP.l2d u1.toInt64)), .second, .val (.double (FP.l2d u7.toInt64)), .second, .val (.double (FP.l2d u9.toInt64)), .second, .val (.int r12), .val (.int r14), .val (.int r16), .val (.int v22_t0), .val (.int v28_t0), .val (.int v34_t0)] [(.int v46_t0)])) target → Steps p.tables e below (T34.setTop (mkF m 122 #[.val (.int p1), .val (.int p2), .val (.int p3), .val (.int u1), .val (.int u3), .val (.int u5), .val (.int u7), .val (.int u9), .val (.double (FP.l2d u1.toInt64)), .second, .val (.double (FP.l2d u7.toInt64)), .second, .val (.double (FP.l2d u9.toInt64)), .second, .val (.int r12), .val (.int r14), .val (.int r16), .val (.int v22_t0), .val (.int v28_t0), .val (.int v34_t0)] [])) target := by
    have sg36 : ∀ target, Steps p.tables e below (T34.setTop (mkF m 126 #[.val (.int p1), .val (.int p2), .val (.int p3), .val (.int u1), .val (.int u3), .val (.int u5), .val (.int u7), .val (.int u9), .val (.double (FP.l2d u1.toInt64)), .second, .val (.double (FP.l2d u7.toInt64)), .second, .val (.double (FP.l2d u9.toInt64)), .second, .val (.int r12), .val (.int r14), .val (.int r16), .val (.int v22_t0), .val (.int v28_t0), .val (.int v34_t0)] [(.int v22_t0), (.int r12)])) target → Steps p.tables e below (T34.setTop (mkF m 122 #[.val (.int p1), .val (.int p2), .val (.int p3), .val (.int u1), .val (.int u3), .val (.int u5), .val (.int u7), .val (.int u9), .val (.double (FP.l2d u1.toInt64)), .second, .val (.double (FP.l2d u7.toInt64)), .second, .val (.double (FP.l2d u9.toInt64)), .second, .val (.int r12), .val (.int r14), .val (.int r16), .val (.int v22_t0), .val (.int v28_t0), .val (.int v34_t0)] [])) target := by
      intro target kt
      show Steps p.tables e below (T34.setTop (mkF m 122 #[.val (.int p1), .val (.int p2), .val (.int p3), .val (.int u1), .val (.int u3), .val (.int u5), .val (.int u7), .val (.int u9), .val (.double (FP.l2d u1.toInt64)), .second, .val (.double (FP.l2d u7.toInt64)), .second, .val (.double (FP.l2d u9.toInt64)), .second, .val (.int r12), .val (.int r14), .val (.int r16), .val (.int v22_t0), .val (.int v28_t0), .val (.int v34_t0)] [])) _
      refine XS.iload X34.here hx rfl (hb hby at_122) rfl ?_
      show Steps p.tables e below (T34.setTop (mkF m 124 #[.val (.int p1), .val (.int p2), .val (.int p3), .val (.int u1), .val (.int u3), .val (.int u5), .val (.int u7), .val (.int u9), .val (.double (FP.l2d u1.toInt64)), .second, .val (.double (FP.l2d u7.toInt64)), .second, .val (.double (FP.l2d u9.toInt64)), .second, .val (.int r12), .val (.int r14), .val (.int r16), .val (.int v22_t0), .val (.int v28_t0), .val (.int v34_t0)] [(.int r12)])) _
      refine XS.iload X34.here hx rfl (hb hby at_124) rfl ?_
      exact kt
    by_cases hc37 : r12 = v22_t0
    · have sg38 : ∀ target, Steps p.tables e below (T34.setTop (mkF m 133 #[.val (.int p1), .val (.int p2), .val (.int p3), .val (.int u1), .val (.int u3), .val (.int u5), .val (.int u7), .val (.int u9), .val (.double (FP.l2d u1.toInt64)), .second, .val (.double (FP.l2d u7.toInt64)), .second, .val (.double (FP.l2d u9.toInt64)), .second, .val (.int r12), .val (.int r14), .val (.int r16), .val (.int v22_t0), .val (.int v28_t0), .val (.int v34_t0)] [(.int v28_t0), (.int r14)])) target → Steps p.tables e below (T34.setTop (mkF m 126 #[.val (.int p1), .val (.int p2), .val (.int p3), .val (.int u1), .val (.int u3), .val (.int u5), .val (.int u7), .val (.int u9), .val (.double (FP.l2d u1.toInt64)), .second, .val (.double (FP.l2d u7.toInt64)), .second, .val (.double (FP.l2d u9.toInt64)), .second, .val (.int r12), .val (.int r14), .val (.int r16), .val (.int v22_t0), .val (.int v28_t0), .val (.int v34_t0)] [(.int v22_t0), (.int r12)])) target := by
        intro target kt
        show Steps p.tables e below (T34.setTop (mkF m 126 #[.val (.int p1), .val (.int p2), .val (.int p3), .val (.int u1), .val (.int u3), .val (.int u5), .val (.int u7), .val (.int u9), .val (.double (FP.l2d u1.toInt64)), .second, .val (.double (FP.l2d u7.toInt64)), .second, .val (.double (FP.l2d u9.toInt64)), .second, .val (.int r12), .val (.int r14), .val (.int r16), .val (.int v22_t0), .val (.int v28_t0), .val (.int v34_t0)] [(.int v22_t0), (.int r12)])) _
        refine XS.icmpNo X34.here hx rfl (hb hby at_126) rfl (teq hc37).2 ?_
        show Steps p.tables e below (T34.setTop (mkF m 129 #[.val (.int p1), .val (.int p2), .val (.int p3), .val (.int u1), .val (.int u3), .val (.int u5), .val (.int u7), .val (.int u9), .val (.double (FP.l2d u1.toInt64)), .second, .val (.double (FP.l2d u7.toInt64)), .second, .val (.double (FP.l2d u9.toInt64)), .second, .val (.int r12), .val (.int r14), .val (.int r16), .val (.int v22_t0), .val (.int v28_t0), .val (.int v34_t0)] [])) _
        refine XS.iload X34.here hx rfl (hb hby at_129) rfl ?_
        show Steps p.tables e below (T34.setTop (mkF m 131 #[.val (.int p1), .val (.int p2), .val (.int p3), .val (.int u1), .val (.int u3), .val (.int u5), .val (.int u7), .val (.int u9), .val (.double (FP.l2d u1.toInt64)), .second, .val (.double (FP.l2d u7.toInt64)), .second, .val (.double (FP.l2d u9.toInt64)), .second, .val (.int r12), .val (.int r14), .val (.int r16), .val (.int v22_t0), .val (.int v28_t0), .val (.int v34_t0)] [(.int r14)])) _
        refine XS.iload X34.here hx rfl (hb hby at_131) rfl ?_
        exact kt
      by_cases hc39 : r14 = v28_t0
      · have sg40 : ∀ target, Steps p.tables e below (T34.setTop (mkF m 140 #[.val (.int p1), .val (.int p2), .val (.int p3), .val (.int u1), .val (.int u3), .val (.int u5), .val (.int u7), .val (.int u9), .val (.double (FP.l2d u1.toInt64)), .second, .val (.double (FP.l2d u7.toInt64)), .second, .val (.double (FP.l2d u9.toInt64)), .second, .val (.int r12), .val (.int r14), .val (.int r16), .val (.int v22_t0), .val (.int v28_t0), .val (.int v34_t0)] [(.int v34_t0), (.int r16)])) target → Steps p.tables e below (T34.setTop (mkF m 133 #[.val (.int p1), .val (.int p2), .val (.int p3), .val (.int u1), .val (.int u3), .val (.int u5), .val (.int u7), .val (.int u9), .val (.double (FP.l2d u1.toInt64)), .second, .val (.double (FP.l2d u7.toInt64)), .second, .val (.double (FP.l2d u9.toInt64)), .second, .val (.int r12), .val (.int r14), .val (.int r16), .val (.int v22_t0), .val (.int v28_t0), .val (.int v34_t0)] [(.int v28_t0), (.int r14)])) target := by
          intro target kt
          show Steps p.tables e below (T34.setTop (mkF m 133 #[.val (.int p1), .val (.int p2), .val (.int p3), .val (.int u1), .val (.int u3), .val (.int u5), .val (.int u7), .val (.int u9), .val (.double (FP.l2d u1.toInt64)), .second, .val (.double (FP.l2d u7.toInt64)), .second, .val (.double (FP.l2d u9.toInt64)), .second, .val (.int r12), .val (.int r14), .val (.int r16), .val (.int v22_t0), .val (.int v28_t0), .val (.int v34_t0)] [(.int v28_t0), (.int r14)])) _
          refine XS.icmpNo X34.here hx rfl (hb hby at_133) rfl (teq hc39).2 ?_
          show Steps p.tables e below (T34.setTop (mkF m 136 #[.val (.int p1), .val (.int p2), .val (.int p3), .val (.int u1), .val (.int u3), .val (.int u5), .val (.int u7), .val (.int u9), .val (.double (FP.l2d u1.toInt64)), .second, .val (.double (FP.l2d u7.toInt64)), .second, .val (.double (FP.l2d u9.toInt64)), .second, .val (.int r12), .val (.int r14), .val (.int r16), .val (.int v22_t0), .val (.int v28_t0), .val (.int v34_t0)] [])) _
          refine XS.iload X34.here hx rfl (hb hby at_136) rfl ?_
          show Steps p.tables e below (T34.setTop (mkF m 138 #[.val (.int p1), .val (.int p2), .val (.int p3), .val (.int u1), .val (.int u3), .val (.int u5), .val (.int u7), .val (.int u9), .val (.double (FP.l2d u1.toInt64)), .second, .val (.double (FP.l2d u7.toInt64)), .second, .val (.double (FP.l2d u9.toInt64)), .second, .val (.int r12), .val (.int r14), .val (.int r16), .val (.int v22_t0), .val (.int v28_t0), .val (.int v34_t0)] [(.int r16)])) _
          refine XS.iload X34.here hx rfl (hb hby at_138) rfl ?_
          exact kt
        by_cases hc41 : r16 = v34_t0
        · have sg42 : ∀ target, Steps p.tables e below (T34.setTop (mkF m 148 #[.val (.int p1), .val (.int p2), .val (.int p3), .val (.int u1), .val (.int u3), .val (.int u5), .val (.int u7), .val (.int u9), .val (.double (FP.l2d u1.toInt64)), .second, .val (.double (FP.l2d u7.toInt64)), .second, .val (.double (FP.l2d u9.toInt64)), .second, .val (.int r12), .val (.int r14), .val (.int r16), .val (.int v22_t0), .val (.int v28_t0), .val (.int v34_t0)] [(.int (1 : Int32))])) target → Steps p.tables e below (T34.setTop (mkF m 140 #[.val (.int p1), .val (.int p2), .val (.int p3), .val (.int u1), .val (.int u3), .val (.int u5), .val (.int u7), .val (.int u9), .val (.double (FP.l2d u1.toInt64)), .second, .val (.double (FP.l2d u7.toInt64)), .second, .val (.double (FP.l2d u9.toInt64)), .second, .val (.int r12), .val (.int r14), .val (.int r16), .val (.int v22_t0), .val (.int v28_t0), .val (.int v34_t0)] [(.int v34_t0), (.int r16)])) target := by
            intro target kt
            show Steps p.tables e below (T34.setTop (mkF m 140 #[.val (.int p1), .val (.int p2), .val (.int p3), .val (.int u1), .val (.int u3), .val (.int u5), .val (.int u7), .val (.int u9), .val (.double (FP.l2d u1.toInt64)), .second, .val (.double (FP.l2d u7.toInt64)), .second, .val (.double (FP.l2d u9.toInt64)), .second, .val (.int r12), .val (.int r14), .val (.int r16), .val (.int v22_t0), .val (.int v28_t0), .val (.int v34_t0)] [(.int v34_t0), (.int r16)])) _
            refine XS.icmpNo X34.here hx rfl (hb hby at_140) rfl (teq hc41).2 ?_
            show Steps p.tables e below (T34.setTop (mkF m 143 #[.val (.int p1), .val (.int p2), .val (.int p3), .val (.int u1), .val (.int u3), .val (.int u5), .val (.int u7), .val (.int u9), .val (.double (FP.l2d u1.toInt64)), .second, .val (.double (FP.l2d u7.toInt64)), .second, .val (.double (FP.l2d u9.toInt64)), .second, .val (.int r12), .val (.int r14), .val (.int r16), .val (.int v22_t0), .val (.int v28_t0), .val (.int v34_t0)] [])) _
            refine XS.iconst X34.here hx rfl (hb hby at_143) ?_
            show Steps p.tables e below (T34.setTop (mkF m 144 #[.val (.int p1), .val (.int p2), .val (.int p3), .val (.int u1), .val (.int u3), .val (.int u5), .val (.int u7), .val (.int u9), .val (.double (FP.l2d u1.toInt64)), .second, .val (.double (FP.l2d u7.toInt64)), .second, .val (.double (FP.l2d u9.toInt64)), .second, .val (.int r12), .val (.int r14), .val (.int r16), .val (.int v22_t0), .val (.int v28_t0), .val (.int v34_t0)] [(.int (1 : Int32))])) _
            refine XS.goto X34.here hx rfl (pc0 := 144) (pc' := 148) rfl (hb hby at_144) (by decide) (by decide) ?_
            exact kt
          exact ⟨T34, _, (1 : Int32), X34.mono (by decide) (by decide), e34, N34, (by rw [if_pos hc37, if_pos hc39, if_pos hc41]), fun target kt => sg36 _ (sg38 _ (sg40 _ (sg42 _ (kt))))⟩
        · have sg43 : ∀ target, Steps p.tables e below (T34.setTop (mkF m 148 #[.val (.int p1), .val (.int p2), .val (.int p3), .val (.int u1), .val (.int u3), .val (.int u5), .val (.int u7), .val (.int u9), .val (.double (FP.l2d u1.toInt64)), .second, .val (.double (FP.l2d u7.toInt64)), .second, .val (.double (FP.l2d u9.toInt64)), .second, .val (.int r12), .val (.int r14), .val (.int r16), .val (.int v22_t0), .val (.int v28_t0), .val (.int v34_t0)] [(.int (0 : Int32))])) target → Steps p.tables e below (T34.setTop (mkF m 140 #[.val (.int p1), .val (.int p2), .val (.int p3), .val (.int u1), .val (.int u3), .val (.int u5), .val (.int u7), .val (.int u9), .val (.double (FP.l2d u1.toInt64)), .second, .val (.double (FP.l2d u7.toInt64)), .second, .val (.double (FP.l2d u9.toInt64)), .second, .val (.int r12), .val (.int r14), .val (.int r16), .val (.int v22_t0), .val (.int v28_t0), .val (.int v34_t0)] [(.int v34_t0), (.int r16)])) target := by
            intro target kt
            show Steps p.tables e below (T34.setTop (mkF m 140 #[.val (.int p1), .val (.int p2), .val (.int p3), .val (.int u1), .val (.int u3), .val (.int u5), .val (.int u7), .val (.int u9), .val (.double (FP.l2d u1.toInt64)), .second, .val (.double (FP.l2d u7.toInt64)), .second, .val (.double (FP.l2d u9.toInt64)), .second, .val (.int r12), .val (.int r14), .val (.int r16), .val (.int v22_t0), .val (.int v28_t0), .val (.int v34_t0)] [(.int v34_t0), (.int r16)])) _
            refine XS.icmpYes X34.here hx rfl (pc0 := 140) (pc' := 147) rfl (hb hby at_140) rfl (feq hc41).2 (by decide) (by decide) ?_
            show Steps p.tables e below (T34.setTop (mkF m 147 #[.val (.int p1), .val (.int p2), .val (.int p3), .val (.int u1), .val (.int u3), .val (.int u5), .val (.int u7), .val (.int u9), .val (.double (FP.l2d u1.toInt64)), .second, .val (.double (FP.l2d u7.toInt64)), .second, .val (.double (FP.l2d u9.toInt64)), .second, .val (.int r12), .val (.int r14), .val (.int r16), .val (.int v22_t0), .val (.int v28_t0), .val (.int v34_t0)] [])) _
            refine XS.iconst X34.here hx rfl (hb hby at_147) ?_
            exact kt
          exact ⟨T34, _, (0 : Int32), X34.mono (by decide) (by decide), e34, N34, (by rw [if_pos hc37, if_pos hc39, if_neg hc41]), fun target kt => sg36 _ (sg38 _ (sg40 _ (sg43 _ (kt))))⟩
      · have sg44 : ∀ target, Steps p.tables e below (T34.setTop (mkF m 148 #[.val (.int p1), .val (.int p2), .val (.int p3), .val (.int u1), .val (.int u3), .val (.int u5), .val (.int u7), .val (.int u9), .val (.double (FP.l2d u1.toInt64)), .second, .val (.double (FP.l2d u7.toInt64)), .second, .val (.double (FP.l2d u9.toInt64)), .second, .val (.int r12), .val (.int r14), .val (.int r16), .val (.int v22_t0), .val (.int v28_t0), .val (.int v34_t0)] [(.int (0 : Int32))])) target → Steps p.tables e below (T34.setTop (mkF m 133 #[.val (.int p1), .val (.int p2), .val (.int p3), .val (.int u1), .val (.int u3), .val (.int u5), .val (.int u7), .val (.int u9), .val (.double (FP.l2d u1.toInt64)), .second, .val (.double (FP.l2d u7.toInt64)), .second, .val (.double (FP.l2d u9.toInt64)), .second, .val (.int r12), .val (.int r14), .val (.int r16), .val (.int v22_t0), .val (.int v28_t0), .val (.int v34_t0)] [(.int v28_t0), (.int r14)])) target := by
          intro target kt
          show Steps p.tables e below (T34.setTop (mkF m 133 #[.val (.int p1), .val (.int p2), .val (.int p3), .val (.int u1), .val (.int u3), .val (.int u5), .val (.int u7), .val (.int u9), .val (.double (FP.l2d u1.toInt64)), .second, .val (.double (FP.l2d u7.toInt64)), .second, .val (.double (FP.l2d u9.toInt64)), .second, .val (.int r12), .val (.int r14), .val (.int r16), .val (.int v22_t0), .val (.int v28_t0), .val (.int v34_t0)] [(.int v28_t0), (.int r14)])) _
          refine XS.icmpYes X34.here hx rfl (pc0 := 133) (pc' := 147) rfl (hb hby at_133) rfl (feq hc39).2 (by decide) (by decide) ?_
          show Steps p.tables e below (T34.setTop (mkF m 147 #[.val (.int p1), .val (.int p2), .val (.int p3), .val (.int u1), .val (.int u3), .val (.int u5), .val (.int u7), .val (.int u9), .val (.double (FP.l2d u1.toInt64)), .second, .val (.double (FP.l2d u7.toInt64)), .second, .val (.double (FP.l2d u9.toInt64)), .second, .val (.int r12), .val (.int r14), .val (.int r16), .val (.int v22_t0), .val (.int v28_t0), .val (.int v34_t0)] [])) _
          refine XS.iconst X34.here hx rfl (hb hby at_147) ?_
          exact kt
        exact ⟨T34, _, (0 : Int32), X34.mono (by decide) (by decide), e34, N34, (by rw [if_pos hc37, if_neg hc39]), fun target kt => sg36 _ (sg38 _ (sg44 _ (kt)))⟩
    · have sg45 : ∀ target, Steps p.tables e below (T34.setTop (mkF m 148 #[.val (.int p1), .val (.int p2), .val (.int p3), .val (.int u1), .val (.int u3), .val (.int u5), .val (.int u7), .val (.int u9), .val (.double (FP.l2d u1.toInt64)), .second, .val (.double (FP.l2d u7.toInt64)), .second, .val (.double (FP.l2d u9.toInt64)), .second, .val (.int r12), .val (.int r14), .val (.int r16), .val (.int v22_t0), .val (.int v28_t0), .val (.int v34_t0)] [(.int (0 : Int32))])) target → Steps p.tables e below (T34.setTop (mkF m 126 #[.val (.int p1), .val (.int p2), .val (.int p3), .val (.int u1), .val (.int u3), .val (.int u5), .val (.int u7), .val (.int u9), .val (.double (FP.l2d u1.toInt64)), .second, .val (.double (FP.l2d u7.toInt64)), .second, .val (.double (FP.l2d u9.toInt64)), .second, .val (.int r12), .val (.int r14), .val (.int r16), .val (.int v22_t0), .val (.int v28_t0), .val (.int v34_t0)] [(.int v22_t0), (.int r12)])) target := by
        intro target kt
        show Steps p.tables e below (T34.setTop (mkF m 126 #[.val (.int p1), .val (.int p2), .val (.int p3), .val (.int u1), .val (.int u3), .val (.int u5), .val (.int u7), .val (.int u9), .val (.double (FP.l2d u1.toInt64)), .second, .val (.double (FP.l2d u7.toInt64)), .second, .val (.double (FP.l2d u9.toInt64)), .second, .val (.int r12), .val (.int r14), .val (.int r16), .val (.int v22_t0), .val (.int v28_t0), .val (.int v34_t0)] [(.int v22_t0), (.int r12)])) _
        refine XS.icmpYes X34.here hx rfl (pc0 := 126) (pc' := 147) rfl (hb hby at_126) rfl (feq hc37).2 (by decide) (by decide) ?_
        show Steps p.tables e below (T34.setTop (mkF m 147 #[.val (.int p1), .val (.int p2), .val (.int p3), .val (.int u1), .val (.int u3), .val (.int u5), .val (.int u7), .val (.int u9), .val (.double (FP.l2d u1.toInt64)), .second, .val (.double (FP.l2d u7.toInt64)), .second, .val (.double (FP.l2d u9.toInt64)), .second, .val (.int r12), .val (.int r14), .val (.int r16), .val (.int v22_t0), .val (.int v28_t0), .val (.int v34_t0)] [])) _
        refine XS.iconst X34.here hx rfl (hb hby at_147) ?_
        exact kt
      exact ⟨T34, _, (0 : Int32), X34.mono (by decide) (by decide), e34, N34, (by rw [if_neg hc37]), fun target kt => sg36 _ (sg45 _ (kt))⟩
  have hfin : v46_t0 = 1 := own_plain hu1 hu3 hu5 hu7 hu9 hr12 hr14 hr16 hv22_t0 hv28_t0 hv34_t0 hv46_t0
  subst hfin
  obtain ⟨fs, hr, hrun, hended, hW, hsame⟩ := X46.leave (v := some (.int (1 : Int32))) (fun h => by rw [Bd.returns] at h; cases h)
  refine ⟨_, _, pre0 _ (sg2 _ (sg4 _ (sg6 _ (sg8 _ (sg10 _ (sg17 _ (sg22 _ (sg23 _ (sg28 _ (sg29 _ (sg34 _ (sg35 _ (sg46 _ (?_)))))))))))))), hrun, hended, _, _, rfl, ?_, ⟨_, rfl⟩, hW, hsame.mono (by decide) (by decide)⟩
  · show Steps p.tables e below (T46.setTop (mkF m 148 #[.val (.int p1), .val (.int p2), .val (.int p3), .val (.int u1), .val (.int u3), .val (.int u5), .val (.int u7), .val (.int u9), .val (.double (FP.l2d u1.toInt64)), .second, .val (.double (FP.l2d u7.toInt64)), .second, .val (.double (FP.l2d u9.toInt64)), .second, .val (.int r12), .val (.int r14), .val (.int r16), .val (.int v22_t0), .val (.int v28_t0), .val (.int v34_t0)] [(.int (1 : Int32))])) _
    exact retN X46 hx (t := .boolean) Bd.returns (by simp) (hb hby at_148) hr
  · show Q0 Z p1 p2 p3 wZ wN wM h0 n0 _ T46.heap _
    rw [e46]
    exact ⟨rfl, N46, rfl⟩
set_option maxRecDepth 65536 in
set_option maxHeartbeats 40000000 in
theorem comes_1 {Post : Tables → Env → Array Value → State → Outcome → State → Prop} (hpost : ∀ tb e args s v u, (limb_1_1.after args s (.returned v) u = true ∧ limb_1_2.after args s (.returned v) u = true ∧ True) → FrameEnd s (.returned v) u (Jvm.fieldLocs frame_1_writes args s ++ Jvm.arrayLocs frame_1_arrays args s ++ Jvm.staticLocs frame_1_statics s) 0 0 → Post tb e args s (.returned v) u) :
    ArmFor flags0 classFile x code maxLocals ret World_1 tables_1 room_1 Calls_1 rest_1 Pre_1 Post := by
  intro l hfl _ _ p e ha hc hk s m args below hf hA hF happ hP
  obtain ⟨hcalls, hrest, hpre⟩ := hP
  obtain ⟨-, -, -, hnamed, -, -, -, hat⟩ := (Spec.applies_iff hf).mp happ
  obtain ⟨hg, hn⟩ := and_e (Cond.before_iff.mp (show (Jvm.Cond.and given_1 narrow_1).before args s = true from hpre))
  obtain ⟨g1, g2⟩ := and_e hg
  obtain ⟨g3, g4⟩ := and_e g2
  obtain ⟨g5, g6⟩ := and_e g4
  obtain ⟨n7, n8⟩ := and_e hn
  obtain ⟨n9, n10⟩ := and_e n8
  obtain ⟨n11, n12⟩ := and_e n10
  obtain ⟨n13, n14⟩ := and_e n12
  obtain ⟨n15, n16⟩ := and_e n14
  obtain ⟨w0, w1, w2, rfl⟩ : ∃ w0 w1 w2 : Value, args = #[w0, w1, w2] := by
    have hs : args.size = 3 := by simpa [Cond.value, given_1] using g1
    obtain ⟨L⟩ := args
    match L, hs with
    | [w0, w1, w2], _ => exact ⟨w0, w1, w2, rfl⟩
  have hw := fun d (hd : d ∈ tables_1) => atoms_spec (ws := Jvm.Cond.code x code maxLocals ret :: tables_1) hat d (List.mem_cons_of_mem _ hd)
  have hfit : Fit s := fun {y c} hc i hi => by
    obtain ⟨ha, rfl⟩ := Array.getElem?_eq_some_iff.mp hc
    have q := List.all_eq_true.mp ((Array.all_eq_true_iff_forall_mem.mp hF) _ (Array.getElem_mem ha)) i (List.mem_range.mpr hi)
    simpa [Array.getElem?_eq_getElem hi] using q
  obtain ⟨i0, ei0⟩ := is_v g3
  obtain rfl : w0 = (.int i0) := Option.some.inj ei0
  obtain ⟨i1, ei1⟩ := is_v g5
  obtain rfl : w1 = (.int i1) := Option.some.inj ei1
  obtain ⟨i2, ei2⟩ := is_v g6
  obtain rfl : w2 = (.int i2) := Option.some.inj ei2
  obtain ⟨wZ, ev_NON_ZERO⟩ := exa_v n7
  have EX_NON_ZERO := Exa.start ev_NON_ZERO n7
  have SS_NON_ZERO := Sta.start ev_NON_ZERO (Or.inr ⟨(hw _ (List.mem_of_getElem? (i := 2) rfl)), (hw _ (List.mem_of_getElem? (i := 3) rfl))⟩)
  obtain ⟨wN, ev_NON_MINIMUM⟩ := exa_v n11
  have EX_NON_MINIMUM := Exa.start ev_NON_MINIMUM n11
  have SS_NON_MINIMUM := Sta.start ev_NON_MINIMUM (Or.inr ⟨(hw _ (List.mem_of_getElem? (i := 2) rfl)), (hw _ (List.mem_of_getElem? (i := 19) rfl))⟩)
  obtain ⟨wM, ev_MAXIMUM⟩ := exa_v n15
  have EX_MAXIMUM := Exa.start ev_MAXIMUM n15
  have SS_MAXIMUM := Sta.start ev_MAXIMUM (Or.inr ⟨(hw _ (List.mem_of_getElem? (i := 2) rfl)), (hw _ (List.mem_of_getElem? (i := 21) rfl))⟩)
  have oo_NON_ZERO := own_fo ev_NON_ZERO n9
  have oo_NON_MINIMUM := own_fo ev_NON_MINIMUM n13
  have oo_MAXIMUM := own_fo ev_MAXIMUM n16
  have MM_NON_ZERO := Fld.start oo_NON_ZERO
  have MM_NON_MINIMUM := Fld.start oo_NON_MINIMUM
  have MM_MAXIMUM := Fld.start oo_MAXIMUM
  obtain ⟨n, o, h1, h2, h3, _, L, rfl, ⟨rfl, N, -⟩, hq⟩ := rm0 l s _ hw tables_1 i0 i1 i2 wZ wN wM s.heap s.heap.size (Old.start s) SS_NON_ZERO SS_NON_MINIMUM SS_MAXIMUM EX_NON_ZERO EX_NON_MINIMUM EX_MAXIMUM MM_NON_ZERO MM_NON_MINIMUM MM_MAXIMUM p e ha hc hk s m _ below hf ((Spec.applies_iff_loose hf).mp happ).1 ⟨rfl, State.Warmed39.refl s, rfl⟩ trivial
  refine ⟨n, _, h1, h2, h3, hpost _ _ _ _ _ _ ⟨Cond.after_iff.mpr rfl, Cond.after_iff.mpr (eq_i res_at (Term.int_eval (1)) rfl), trivial⟩ ⟨hq.1, hq.2.1, (hq.2.2.sift fun y hy => Or.inr (N y hy)).mono (by decide) (by decide)⟩⟩
theorem main_1_1 : Claimed_1_1 := comes_1 fun _ _ _ _ _ _ h hF => ⟨h.1, hF⟩
theorem main_1_2 : Claimed_1_2 := comes_1 fun _ _ _ _ _ _ h hF => ⟨h.2.1, hF⟩
end Jvm.Pilot.@@N@@
namespace Jvm.Pilot.@@N@@
open Jvm Jvm.ClassFile Sem Op Lib Jvm.Free Jvm.Stand Jvm.Pilot.@@N@@.Jvm.D
/-! MADE BY PROGRAM (witnessworld.py) out of the Statement's table words and the real class files: 13 classes; the members and pool entries that the words name. The judged class is class 1, her method 1. -/
namespace start1
open Jvm.ClassFile
def u (s : String) : CpInfo := .utf8 (stringToUtf16 s)
/-- a pool by its gaps: so many unusable entries, then the entry; so many at the end -/
def gap : Nat → List CpInfo → List CpInfo
  | 0, r => r
  | n + 1, r => .unusable :: gap n r
def poolList (es : List (Nat × CpInfo)) (last : Nat) : List CpInfo := es.foldr (fun e r => gap e.1 (e.2 :: r)) (gap last [])
def pool (es : List (Nat × CpInfo)) (last : Nat) : Array CpInfo := ⟨poolList es last⟩
def fileOf (pool : Array CpInfo) (this : Nat) (attrs : Array Attribute := #[]) (ms : Array MethodInfo := #[]) (fl : Nat := 33) (sup : Nat := 0) (ifs : Array Nat := #[]) (fds : Array FieldInfo := #[]) : ClassFile where
  minorVersion := 0
  majorVersion := 65
  constantPool := pool
  accessFlags := fl
  thisClass := this
  superClass := sup
  interfaces := ifs
  fields := fds
  methods := ms
  attributes := attrs
def plain (name : String) (sup : Option ClassId) : Class where
  name := name
  kind := .ordinary
  loader := none
  accessFlags := 33
  super := sup
  interfaces := #[]
  cf := none
  fields := #[]
  methods := #[]
  instanceTypes := #[]
  staticTypes := #[]
  resolved := #[]
  callSites := []
  init := .initialized
  statics := none
  mirror := none

def pool0 : Array CpInfo := pool [(5, u "<init>"), (0, u "()V"), (1, .class_ 10), (1, u "java/lang/Object")] 113

def k0m0 : Method := { name := "<init>", desc := "()V", sig := { parameters := [], returnType := none }, accessFlags := 1, code := none }
/-- java/lang/Object -/
def k0 : Class := { plain "java/lang/Object" none with
  accessFlags := 33
  interfaces := #[]
  cf := some (fileOf pool0 8 #[] #[{ accessFlags := 1, nameIndex := 5, descriptorIndex := 6, attributes := #[] }] 33 0 #[] #[])
  fields := #[]
  methods := #[k0m0]
  instanceTypes := #[]
  staticTypes := #[]
  resolved := Array.replicate 124 none
  statics := none }

def pool1 : Array CpInfo := pool [(2, .class_ 4), (1, u "java/lang/Object"), (0, u "<init>"), (0, u "()V"), (0, .integer 65535), (0, .fieldref 9 10), (0, .class_ 11), (0, .nameAndType 12 13), (0, u "com/example/breakline/breakline/Gdba$Violation"), (0, u "NON_ZERO"), (0, u "Lcom/example/breakline/breakline/Gdba$Violation;"), (0, .methodref 9 15), (0, .nameAndType 16 17), (0, u "holds"), (0, u "(DDD)Z"), (0, .fieldref 9 19), (0, .nameAndType 20 13), (0, u "NON_MINIMUM"), (0, .fieldref 9 22), (0, .nameAndType 23 13), (0, u "MAXIMUM"), (0, .class_ 25), (0, u "com/example/breakline/breakline/ViolationHoldsPinLaw"), (2, u "law"), (0, u "(III)Z")] 7

def k1m0 : Method := { name := "<init>", desc := "()V", sig := { parameters := [], returnType := none }, accessFlags := 1, code := none }
def k1c1 : Code := { maxStack := 7, maxLocals := 20, code := code, exceptionTable := #[], attributes := #[] }
def k1m1 : Method := { name := "law", desc := "(III)Z", sig := { parameters := [.int, .int, .int], returnType := some .boolean }, accessFlags := 9, code := some k1c1 }
/-- com/example/breakline/breakline/ViolationHoldsPinLaw -/
def k1 : Class := { plain "com/example/breakline/breakline/ViolationHoldsPinLaw" (some 0) with
  accessFlags := 49
  interfaces := #[]
  cf := some (fileOf pool1 24 #[] #[{ accessFlags := 1, nameIndex := 5, descriptorIndex := 6, attributes := #[] }, { accessFlags := 9, nameIndex := 28, descriptorIndex := 29, attributes := #[] }] 49 2 #[] #[])
  fields := #[]
  methods := #[k1m0, k1m1]
  instanceTypes := #[]
  staticTypes := #[]
  resolved := Array.replicate 37 none
  statics := none }

def pool2 : Array CpInfo := pool [(1, .class_ 2), (0, u "java/lang/constant/Constable"), (0, .class_ 4), (0, u "java/lang/Object")] 6

/-- java/lang/constant/Constable -/
def k2 : Class := { plain "java/lang/constant/Constable" (some 0) with
  accessFlags := 1537
  interfaces := #[]
  cf := some (fileOf pool2 1 #[] #[] 1537 3 #[] #[])
  fields := #[]
  methods := #[]
  instanceTypes := #[]
  staticTypes := #[]
  resolved := Array.replicate 11 none
  statics := none }

def pool3 : Array CpInfo := pool [(1, .class_ 2), (0, u "java/lang/Comparable"), (0, .class_ 4), (0, u "java/lang/Object")] 7

/-- java/lang/Comparable -/
def k3 : Class := { plain "java/lang/Comparable" (some 0) with
  accessFlags := 1537
  interfaces := #[]
  cf := some (fileOf pool3 1 #[] #[] 1537 3 #[] #[])
  fields := #[]
  methods := #[]
  instanceTypes := #[]
  staticTypes := #[]
  resolved := Array.replicate 12 none
  statics := none }

def pool4 : Array CpInfo := pool [(1, .class_ 2), (0, u "java/io/Serializable"), (0, .class_ 4), (0, u "java/lang/Object")] 2

/-- java/io/Serializable -/
def k4 : Class := { plain "java/io/Serializable" (some 0) with
  accessFlags := 1537
  interfaces := #[]
  cf := some (fileOf pool4 1 #[] #[] 1537 3 #[] #[])
  fields := #[]
  methods := #[]
  instanceTypes := #[]
  staticTypes := #[]
  resolved := Array.replicate 7 none
  statics := none }

def pool5 : Array CpInfo := pool [(2, .class_ 4), (1, u "java/lang/Enum"), (0, u "name"), (0, u "Ljava/lang/String;"), (0, .fieldref 2 8), (0, .nameAndType 9 10), (0, u "ordinal"), (0, u "I"), (1, .class_ 14), (1, u "java/lang/Object"), (4, u "hash"), (86, .class_ 108), (1, u "java/lang/Enum$EnumDesc"), (2, .class_ 112), (0, u "java/lang/constant/Constable"), (0, .class_ 114), (0, u "java/lang/Comparable"), (0, .class_ 116), (0, u "java/io/Serializable"), (9, u "()I")] 77

def k5c0 : Code := { maxStack := 1, maxLocals := 1, code := jdk_37_method_2_code, exceptionTable := #[], attributes := #[] }
def k5m0 : Method := { name := "ordinal", desc := "()I", sig := { parameters := [], returnType := some .int }, accessFlags := 17, code := some k5c0 }
/-- java/lang/Enum -/
def k5 : Class := { plain "java/lang/Enum" (some 0) with
  accessFlags := 1057
  interfaces := #[2, 3, 4]
  cf := some (fileOf pool5 2 #[.nestMembers #[106]] #[{ accessFlags := 17, nameIndex := 9, descriptorIndex := 126, attributes := #[] }] 1057 12 #[111, 113, 115] #[{ accessFlags := 18, nameIndex := 5, descriptorIndex := 6, attributes := #[] }, { accessFlags := 18, nameIndex := 9, descriptorIndex := 10, attributes := #[] }, { accessFlags := 2, nameIndex := 19, descriptorIndex := 10, attributes := #[] }])
  fields := #[{ name := "name", type := (.object "java/lang/String"), accessFlags := 18, slot := 0, constantValue := 0 }, { name := "ordinal", type := .int, accessFlags := 18, slot := 1, constantValue := 0 }, { name := "hash", type := .int, accessFlags := 2, slot := 2, constantValue := 0 }]
  methods := #[k5m0]
  instanceTypes := #[(.object "java/lang/String"), .int, .int]
  staticTypes := #[]
  resolved := Array.replicate 204 none
  statics := none }

def pool6 : Array CpInfo := pool [(1, .class_ 2), (0, u "com/example/breakline/breakline/Specification$Choice"), (0, .class_ 4), (0, u "java/lang/Object"), (5, .class_ 11), (0, u "com/example/breakline/breakline/Specification")] 2

/-- com/example/breakline/breakline/Specification$Choice -/
def k6 : Class := { plain "com/example/breakline/breakline/Specification$Choice" (some 0) with
  accessFlags := 1536
  interfaces := #[]
  cf := some (fileOf pool6 1 #[.nestHost 10] #[] 1536 3 #[] #[])
  fields := #[]
  methods := #[]
  instanceTypes := #[]
  staticTypes := #[]
  resolved := Array.replicate 14 none
  statics := none }

def pool7 : Array CpInfo := pool [(1, .class_ 2), (0, u "com/example/breakline/breakline/Gdba$Violation"), (2, u "NON_ZERO"), (0, u "Lcom/example/breakline/breakline/Gdba$Violation;"), (2, u "NON_MINIMUM"), (2, u "MAXIMUM"), (2, u "$VALUES"), (0, u "[Lcom/example/breakline/breakline/Gdba$Violation;"), (6, .class_ 25), (1, u "java/lang/Enum"), (8, u "code"), (0, u "Ljava/lang/String;"), (0, .methodref 1 37), (0, .nameAndType 38 39), (0, u "ordinal"), (0, u "()I"), (21, .class_ 62), (0, u "com/example/breakline/breakline/Specification$Choice"), (8, u "holds"), (0, u "(DDD)Z"), (7, .class_ 81), (0, u "com/example/breakline/breakline/Gdba")] 5

def k7c0 : Code := { maxStack := 4, maxLocals := 8, code := prog_31_method_5_code, exceptionTable := #[], attributes := #[] }
def k7m0 : Method := { name := "holds", desc := "(DDD)Z", sig := { parameters := [.double, .double, .double], returnType := some .boolean }, accessFlags := 0, code := some k7c0 }
/-- com/example/breakline/breakline/Gdba$Violation -/
def k7 : Class := { plain "com/example/breakline/breakline/Gdba$Violation" (some 5) with
  accessFlags := 16432
  interfaces := #[6]
  cf := some (fileOf pool7 1 #[.nestHost 80] #[{ accessFlags := 0, nameIndex := 71, descriptorIndex := 72, attributes := #[] }] 16432 23 #[61] #[{ accessFlags := 16409, nameIndex := 5, descriptorIndex := 6, attributes := #[] }, { accessFlags := 16409, nameIndex := 9, descriptorIndex := 6, attributes := #[] }, { accessFlags := 16409, nameIndex := 12, descriptorIndex := 6, attributes := #[] }, { accessFlags := 18, nameIndex := 34, descriptorIndex := 35, attributes := #[] }, { accessFlags := 4122, nameIndex := 15, descriptorIndex := 16, attributes := #[] }])
  fields := #[{ name := "NON_ZERO", type := (.object "com/example/breakline/breakline/Gdba$Violation"), accessFlags := 16409, slot := 0, constantValue := 0 }, { name := "NON_MINIMUM", type := (.object "com/example/breakline/breakline/Gdba$Violation"), accessFlags := 16409, slot := 1, constantValue := 0 }, { name := "MAXIMUM", type := (.object "com/example/breakline/breakline/Gdba$Violation"), accessFlags := 16409, slot := 2, constantValue := 0 }, { name := "code", type := (.object "java/lang/String"), accessFlags := 18, slot := 3, constantValue := 0 }, { name := "$VALUES", type := (.array (.object "com/example/breakline/breakline/Gdba$Violation")), accessFlags := 4122, slot := 3, constantValue := 0 }]
  methods := #[k7m0]
  instanceTypes := #[(.object "java/lang/String"), .int, .int, (.object "java/lang/String")]
  staticTypes := #[(.object "com/example/breakline/breakline/Gdba$Violation"), (.object "com/example/breakline/breakline/Gdba$Violation"), (.object "com/example/breakline/breakline/Gdba$Violation"), (.array (.object "com/example/breakline/breakline/Gdba$Violation"))]
  resolved := Array.replicate 87 none
  statics := some 0 }

def pool8 : Array CpInfo := pool [(1, u "java/lang/Cloneable"), (0, .class_ 1), (0, u "java/lang/Object"), (0, .class_ 3)] 3

/-- java/lang/Cloneable -/
def k8 : Class := { plain "java/lang/Cloneable" (some 0) with
  accessFlags := 1537
  interfaces := #[]
  cf := some (fileOf pool8 2 #[] #[] 1537 4 #[] #[])
  fields := #[]
  methods := #[]
  instanceTypes := #[]
  staticTypes := #[]
  resolved := Array.replicate 8 none
  statics := none }

/-- the primitive byte -/
def k9 : Class := { plain "byte" none with kind := .primitive 'B', accessFlags := 0x411 }
/-- [B -/
def k10 : Class := { plain "[B" (some 0) with kind := .array 9 .byte, interfaces := #[8, 4], accessFlags := 1041 }

/-- the primitive int -/
def k11 : Class := { plain "int" none with kind := .primitive 'I', accessFlags := 0x411 }
/-- [I -/
def k12 : Class := { plain "[I" (some 0) with kind := .array 11 .int, interfaces := #[8, 4], accessFlags := 1041 }

def heap : Heap := #[{ cls := 7, slots := #[.ref 1, .ref 2, .ref 3, .null], vm := .statics 7 },
  { cls := 7, slots := #[.null, .int 0, .int 0, .null], vm := .none },
  { cls := 7, slots := #[.null, .int 1, .int 0, .null], vm := .none },
  { cls := 7, slots := #[.null, .int 2, .int 0, .null], vm := .none }]
def classes : Array Class := #[k0, k1, k2, k3, k4, k5, k6, k7, k8, k9, k10, k11, k12]
def interned : List (Array UInt16 × Addr) := []
def slotsUsed : Nat := 16
def theMethod : MethodId := ⟨1, 1⟩
def args0 : Array Value := #[.int 5, .int 7, .int 3]
def aboutOver (below : List Frame) : State where
  vm := { classes := classes, interned := interned.toArray }
  heap := heap
  slotsUsed := slotsUsed
  threads := #[{ frames := .invoking theMethod args0 :: below }]
def below0 : List Frame := [.native { method := ⟨0, 0⟩, args := #[] }]
def about1 : State := aboutOver below0
def p0 : Program := .bare "" "" ""
def e0 : Env := launch0.env 0 0 0
theorem w_frames : about1.frames = Frame.invoking theMethod args0 :: below0 := rfl
set_option maxRecDepth 65536 in
theorem w_args : argsFit about1.vm theMethod args0 = true := by decide +kernel
set_option maxRecDepth 65536 in
theorem w_heap : heapFits about1 = true := by decide +kernel
set_option maxRecDepth 65536 in
theorem w_runnable : about1.curStatus? = some .runnable := by decide +kernel
set_option maxRecDepth 65536 in
theorem w_alone : about1.alone = true := by decide +kernel
set_option maxRecDepth 65536 in
theorem w_named : about1.methodNamed? x = some theMethod := by decide +kernel
set_option maxRecDepth 65536 in
theorem w_hears : about1.hears theMethod below0 = true := by decide +kernel
set_option maxRecDepth 65536 in
theorem w_ripe : about1.ripe theMethod args0 below0 = true := by decide +kernel
theorem w_running : about1.status = .running := rfl
set_option maxRecDepth 65536 in
theorem w_room : about1.hasRoom e0.platform room_1 = true :=
  launch0.hasRoom_least _ room_1 (by decide +kernel) (by decide +kernel) (by decide +kernel) (by decide +kernel) (by decide +kernel) (by decide +kernel)
theorem allAtoms_all (ts : List Jvm.Cond) (a : Array Jvm.Value) (st : Jvm.State) : (allAtoms ts).before a st = ts.all (fun c => c.before a st) := by
  induction ts with
  | nil => rfl
  | cons c t ih =>
    show (Jvm.Cond.and c (allAtoms t)).before a st = _
    rw [Jvm.Cond.before_and, ih, List.all_cons]
def words1 : List Jvm.Cond := Jvm.Cond.code x code maxLocals ret :: tables_1
/-- a 'code' word, met by the world's own term for the bytes: nothing is compared byte by byte -/
theorem code_word {y : MethodName} {bytes : ByteArray} {mx : Nat} {rt : Option FieldType} {a : Array Value} {s : State} {m : MethodId} {meth : Method} {c : Code} (h1 : s.methodNamed? y = some m) (h2 : s.vm.method? m = some meth) (h3 : meth.code = some c) (h4 : c.code = bytes)
    (h5 : (c.maxLocals == mx && c.exceptionTable.isEmpty && decide (c.maxStack ≤ mostOperands) && decide (meth.sig.returnType = rt) && !meth.locks && decide (parseMethodDescriptor y.desc = some meth.sig)) = true) : (Jvm.Cond.code y bytes mx rt).before a s = true := by
  simp only [Bool.and_eq_true, beq_iff_eq, Bool.not_eq_true', decide_eq_true_eq] at h5
  obtain ⟨⟨⟨⟨⟨g1, g2⟩, g3⟩, g4⟩, g5⟩, g6⟩ := h5
  simp [Cond.before, Cond.holds, Cond.value, h1, h2, h3, h4, g1, g2, g3, g4, g5, g6]
def isCode : Jvm.Cond → Bool
  | .code _ _ _ _ => true
  | _ => false
theorem all_split {L : List Jvm.Cond} {P : Jvm.Cond → Bool} (h1 : L.all (fun c => isCode c || P c) = true) (h2 : ∀ c ∈ L.filter isCode, P c = true) : L.all P = true := by
  refine List.all_eq_true.mpr fun c hc => ?_
  have h := List.all_eq_true.mp h1 c hc
  rcases Bool.eq_false_or_eq_true (isCode c) with hi | hi
  · exact h2 c (List.mem_filter.mpr ⟨hc, hi⟩)
  · simpa [hi] using h
set_option maxRecDepth 65536 in
theorem w_c0 : (Jvm.Cond.code x code maxLocals ret).before args0 about1 = true := code_word (m := ⟨1, 1⟩) (meth := k1m1) (c := k1c1) (by decide +kernel) rfl rfl rfl (by decide +kernel)
set_option maxRecDepth 65536 in
theorem w_c1 : (Jvm.Cond.code ({ cls := "com/example/breakline/breakline/Gdba$Violation", name := "holds", desc := "(DDD)Z" } : Jvm.MethodName) prog_31_method_5_code (8 : Nat) (Option.some Jvm.ClassFile.FieldType.boolean)).before args0 about1 = true := code_word (m := ⟨7, 0⟩) (meth := k7m0) (c := k7c0) (by decide +kernel) rfl rfl rfl (by decide +kernel)
set_option maxRecDepth 65536 in
theorem w_c2 : (Jvm.Cond.code ({ cls := "java/lang/Enum", name := "ordinal", desc := "()I" } : Jvm.MethodName) jdk_37_method_2_code (1 : Nat) (Option.some Jvm.ClassFile.FieldType.int)).before args0 about1 = true := code_word (m := ⟨5, 0⟩) (meth := k5m0) (c := k5c0) (by decide +kernel) rfl rfl rfl (by decide +kernel)
def codes1 : List Jvm.Cond := [Jvm.Cond.code x code maxLocals ret, Jvm.Cond.code ({ cls := "com/example/breakline/breakline/Gdba$Violation", name := "holds", desc := "(DDD)Z" } : Jvm.MethodName) prog_31_method_5_code (8 : Nat) (Option.some Jvm.ClassFile.FieldType.boolean), Jvm.Cond.code ({ cls := "java/lang/Enum", name := "ordinal", desc := "()I" } : Jvm.MethodName) jdk_37_method_2_code (1 : Nat) (Option.some Jvm.ClassFile.FieldType.int)]
set_option maxRecDepth 65536 in
theorem codes_eq : words1.filter isCode = codes1 := rfl
theorem w_codes : ∀ c ∈ words1.filter isCode, c.before args0 about1 = true := by
  rw [codes_eq]
  intro c hc
  simp only [codes1, List.mem_cons, List.not_mem_nil, or_false] at hc
  rcases hc with rfl | rfl | rfl
  · exact w_c0
  · exact w_c1
  · exact w_c2
set_option maxRecDepth 65536 in
theorem w_t1 : words1.all (fun c => isCode c || c.before args0 about1) = true := by decide +kernel
theorem w_tables : (allAtoms (Jvm.Cond.code x code maxLocals ret :: tables_1)).before args0 about1 = true := by
  rw [allAtoms_all]
  show words1.all (fun c => c.before args0 about1) = true
  refine all_split ?_ w_codes
  rw [w_t1]
set_option maxRecDepth 65536 in
theorem w_case : (Jvm.Cond.and given_1 narrow_1).before args0 about1 = true := by decide +kernel
theorem w_applies : (headSpec (Jvm.Cond.code x code maxLocals ret :: tables_1) room_1).applies x e0.platform about1 = true :=
  (Spec.applies_iff w_frames).mpr ⟨w_running, w_runnable, w_alone, w_named, w_hears, w_ripe, w_room, w_tables⟩
theorem atStart : AtStart classFile x code maxLocals ret World_1 tables_1 room_1 Calls_1 rest_1 Pre_1 launch0 p0 e0 about1 theMethod args0 below0 :=
  ⟨lists_1, trivial, launch0.admits_env _ _ _, launch0.least_env, fairChoices_fair.cas, fairChoices_fair.clock, w_frames, w_args, w_heap, w_applies, trivial, trivial, w_case⟩
end start1
theorem witness_1 : WitnessClaimed_1 := ⟨start1.p0, start1.e0, start1.about1, start1.theMethod, start1.args0, start1.below0, start1.atStart⟩
end Jvm.Pilot.@@N@@
