import JvmDerived
import JvmDerived.Pilot.@@N@@Statement
import JvmDerived.Pilot.@@N@@Code
set_option linter.unusedVariables false
set_option linter.unusedSimpArgs false
@@BLOCK:NumsL.lean.txt@@
namespace Jvm.Pilot.@@N@@
open Jvm Jvm.ClassFile Sem Op Lib Jvm.Free Jvm.Stand Jvm.LawKit Jvm.RoadKit Bundle Jvm.Pilot.@@N@@.Jvm.D
theorem d1_0 : decode prog_19_method_1_code 0 = .ok (.aload_n 0, 1) := by decide +kernel
theorem d1_1 : decode prog_19_method_1_code 1 = .ok (.invokespecial 1, 3) := by decide +kernel
theorem d1_4 : decode prog_19_method_1_code 4 = .ok (.aload_n 0, 1) := by decide +kernel
theorem d1_5 : decode prog_19_method_1_code 5 = .ok (.aload_n 1, 1) := by decide +kernel
theorem d1_6 : decode prog_19_method_1_code 6 = .ok (.putfield 7, 3) := by decide +kernel
theorem d1_9 : decode prog_19_method_1_code 9 = .ok (.aload_n 0, 1) := by decide +kernel
theorem d1_10 : decode prog_19_method_1_code 10 = .ok (.dload_n 2, 1) := by decide +kernel
theorem d1_11 : decode prog_19_method_1_code 11 = .ok (.putfield 13, 3) := by decide +kernel
theorem d1_14 : decode prog_19_method_1_code 14 = .ok (.aload_n 0, 1) := by decide +kernel
theorem d1_15 : decode prog_19_method_1_code 15 = .ok (.aload 4, 2) := by decide +kernel
theorem d1_17 : decode prog_19_method_1_code 17 = .ok (.putfield 17, 3) := by decide +kernel
theorem d1_20 : decode prog_19_method_1_code 20 = .ok (.return_, 1) := by decide +kernel
theorem d3_0 : decode prog_19_method_6_code 0 = .ok (.iload_n 1, 1) := by decide +kernel
theorem d3_1 : decode prog_19_method_6_code 1 = .ok (.iconst 3, 1) := by decide +kernel
theorem d3_2 : decode prog_19_method_6_code 2 = .ok (.irem, 1) := by decide +kernel
theorem d3_3 : decode prog_19_method_6_code 3 = .ok (.iconst 2, 1) := by decide +kernel
theorem d3_4 : decode prog_19_method_6_code 4 = .ok (.if_icmp .eq 7, 3) := by decide +kernel
theorem d3_7 : decode prog_19_method_6_code 7 = .ok (.iconst 1, 1) := by decide +kernel
theorem d3_8 : decode prog_19_method_6_code 8 = .ok (.goto 4, 3) := by decide +kernel
theorem d3_11 : decode prog_19_method_6_code 11 = .ok (.iconst 0, 1) := by decide +kernel
theorem d3_12 : decode prog_19_method_6_code 12 = .ok (.ireturn, 1) := by decide +kernel
theorem pn_0 : plainName "com/example/breakline/breakline/Dgls" = true := by first | (simp [plainName, overriddenIn]; done) | decide +kernel
theorem pn_1 : plainName "com/example/breakline/breakline/DglsMessagesEveryNeighbourInPinLaw" = true := by first | (simp [plainName, overriddenIn]; done) | decide +kernel
theorem pd_0 : parseMethodDescriptor "(Lcom/example/breakline/breakline/Manner;DLcom/example/breakline/breakline/Dgls$Scope;)V" = some ⟨[(.object "com/example/breakline/breakline/Manner"), .double, (.object "com/example/breakline/breakline/Dgls$Scope")], none⟩ := by decide +kernel
theorem pd_1 : parseMethodDescriptor "(I)Z" = some ⟨[.int], some .boolean⟩ := by decide +kernel
theorem own_osz {Z : State} {n0 : Nat} {h : Heap} (O : Old Z n0 h) : n0 ≤ h.size := O.1 ▸ O.2.1

theorem own_plain {p1 p2 k r s e c v : Int32} (hk : k = ((p1 &&& (2147483647 : Int32)) % (715827882 : Int32))) (hr : r = ((p2 &&& (2147483647 : Int32)) % (3 : Int32)))
    (hs : s = (((3 : Int32) * k) + r)) (he : e = (if r = (2 : Int32) then (0 : Int32) else (1 : Int32))) (hc : c = (if (s % (3 : Int32)) = (2 : Int32) then (0 : Int32) else (1 : Int32)))
    (hv : v = (if c = e then (1 : Int32) else (0 : Int32))) : v = 1 := by
  have m1 : (p1 &&& (2147483647 : Int32)).toInt = p1.toInt % 2 ^ 31 := Jvm.Kit.i32_mask _ _ (by decide) (by decide)
  have m2 : (p2 &&& (2147483647 : Int32)).toInt = p2.toInt % 2 ^ 31 := Jvm.Kit.i32_mask _ _ (by decide) (by decide)
  have k1 : k.toInt = p1.toInt % 2 ^ 31 % 715827882 := by rw [hk, Jvm.Kit.i32_rem_nonneg (by omega), m1]; rfl
  have r1 : r.toInt = p2.toInt % 2 ^ 31 % 3 := by rw [hr, Jvm.Kit.i32_rem_nonneg (by omega), m2]; rfl
  have t3 : (3 : Int32).toInt = 3 := rfl
  have s1 : s.toInt = 3 * k.toInt + r.toInt := by
    have q : ((3 : Int32) * k).toInt = 3 * k.toInt := by rw [Jvm.Kit.i32_mul (by rw [t3]; omega) (by rw [t3]; omega), t3]
    rw [hs, Jvm.Kit.i32_add (by rw [q]; omega) (by rw [q]; omega), q]
  have s2 : s % (3 : Int32) = r := by
    apply Int32.toInt_inj.mp
    rw [Jvm.Kit.i32_rem_nonneg (by omega), t3]; omega
  rw [s2] at hc
  rw [hv, hc, he, if_pos rfl]

def Q1 (Z : State) (a1 : Addr) (a2 : Addr) (d3 : UInt64) (a4 : Addr) (h0 : Heap) (n0 : Nat) (v : Option Value) (h : Heap) (L : List Loc) : Prop := v = none ∧ Fr n0 L ∧ Keep h0 h [a1] ∧ Old Z n0 h
theorem ef_1 (m : MethodId) (x0 : Addr) (x1 : Addr) (x2 : UInt64) (x3 : Addr) : entryFrame m #[(.ref x0), (.ref x1), (.double x2), (.ref x3)] 5 = mkF m 0 #[.val (.ref x0), .val (.ref x1), .val (.double x2), .second, .val (.ref x3)] [] := by first | (simp [entryFrame, mkF, argsToLocals, Value.category]; done) | rfl
set_option maxRecDepth 65536 in
set_option maxHeartbeats 40000000 in
theorem rm1 (l : Launch) (Z : State) (a0 : Array Value) (hw : ∀ d ∈ tables_1, d.before a0 Z = true) (ws : List Jvm.Cond) (a1 : Addr) (a2 : Addr) (d3 : UInt64) (a4 : Addr) (h0 : Heap) (n0 : Nat) (O0 : Old Z n0 h0) (E_a1 : Exa Z h0 a1 "com/example/breakline/breakline/Dgls") (F_manner_a1 : Fld Z h0 a1 "com/example/breakline/breakline/Dgls" "manner" "Lcom/example/breakline/breakline/Manner;" .null) (F_gamma_a1 : Fld Z h0 a1 "com/example/breakline/breakline/Dgls" "gamma" "D" (.double (0 : UInt64))) (F_scope_a1 : Fld Z h0 a1 "com/example/breakline/breakline/Dgls" "scope" "Lcom/example/breakline/breakline/Dgls$Scope;" .null) (ge_a1 : n0 ≤ a1) :
    MetFree l (⟨"com/example/breakline/breakline/Dgls", "<init>", "(Lcom/example/breakline/breakline/Manner;DLcom/example/breakline/breakline/Dgls$Scope;)V"⟩ : MethodName) (head1 (Jvm.Cond.code (⟨"com/example/breakline/breakline/Dgls", "<init>", "(Lcom/example/breakline/breakline/Manner;DLcom/example/breakline/breakline/Dgls$Scope;)V"⟩ : MethodName) prog_19_method_1_code 5 none :: ws) ({ frames := 1, cells := 0, slots := 0, locals := 12 } : Room)) (fun a U => a = #[(.ref a1), (.ref a2), (.double d3), (.ref a4)] ∧ Z.Warmed39 U.vm ∧ U.heap = h0) (fun _ _ _ _ _ => True) (fun _ U o U' => ∃ v L, o = .returned v ∧ Q1 Z a1 a2 d3 a4 h0 n0 v U'.heap L ∧ FrameEnd U o U' L ({ frames := 1, cells := 0, slots := 0, locals := 12 } : Room).cells ({ frames := 1, cells := 0, slots := 0, locals := 12 } : Room).slots) := by
  refine MetFree.of_bodySF (plainFor_of_name pn_0) hisR ?_
  intro p e s m args below meth c s₁ Bd hml0 hP hK
  obtain ⟨rfl, hZ, hh⟩ := hP
  have hx := Bd.exec
  have hby := Bd.bytes
  have hml : c.maxLocals = 5 := hml0
  have hown : s.vm.findClass "com/example/breakline/breakline/Dgls" = some m.cls := findClass_of_methodNamed Bd.named
  have hnm := (name_of_methodNamed Bd.named Bd.method).1
  have X0 : Stand p l e ({ frames := 1, cells := 0, slots := 0, locals := 12 } : Room) s m #[(.ref a1), (.ref a2), (.double d3), (.ref a4)] below meth c s₁ [] 0 0 := Stand.of_body Bd
  have e0 : s₁.heap = h0 := by rw [← hh, Bd.state]; rfl
  have N0 := Fr.nil n0
  have pre0 : ∀ t, Steps p.tables e below (s₁.setTop (mkF m 0 #[.val (.ref a1), .val (.ref a2), .val (.double d3), .second, .val (.ref a4)] [])) t → Steps p.tables e below (s₁.setTop (entryFrame m #[(.ref a1), (.ref a2), (.double d3), (.ref a4)] 5)) t := fun t k => castTop (ef_1 m a1 a2 d3 a4) k
  have K0 := Keep.refl h0 [a1]
  obtain ⟨T1, X1, e1, st1⟩ := initO X0 hx hZ hown (hw _ (List.mem_of_getElem? (i := 15) rfl)) (hw _ (List.mem_of_getElem? (i := 16) rfl)) (hw _ (List.mem_of_getElem? (i := 17) rfl)) e0 (g := (mkF m 1 #[.val (.ref a1), .val (.ref a2), .val (.double d3), .second, .val (.ref a4)] [(.ref a1)])) rfl (by rw [hml]; rfl) rfl (hb hby d1_1) (by decide) (W := 0) (by show 2 * 0 + _ ≤ _; exact Nat.le_of_eq rfl) (by decide)
  obtain ⟨T2, h2, X2, e2, W2, st2⟩ := putF X1 hx hZ hown (host := "") (Or.inl (hw _ (List.mem_of_getElem? (i := 18) rfl))) Via.refl e1 F_manner_a1 E_a1 (Or.inr ⟨(hw _ (List.mem_of_getElem? (i := 19) rfl)), rfl, hnm⟩) (hw _ (List.mem_of_getElem? (i := 9) rfl)) (ty := (.object "com/example/breakline/breakline/Manner")) (by decide) rfl rfl (g := (mkF m 6 #[.val (.ref a1), .val (.ref a2), .val (.double d3), .second, .val (.ref a4)] [(.ref a2), (.ref a1)])) rfl rfl (hb hby d1_6)
  have Fw2 := F_manner_a1.same W2
  have N2 := Fr.snoc X2 N0 ge_a1
  have O3 := O0.wr W2 ge_a1
  have K2 := K0.wr W2 (Or.inl (List.mem_of_getElem? (i := 0) rfl))
  obtain ⟨T4, h4, X4, e4, W4, st4⟩ := putF X2 hx hZ hown (host := "") (Or.inl (hw _ (List.mem_of_getElem? (i := 20) rfl))) Via.refl e2 (F_gamma_a1.other W2 (Or.inr (slot_ne (Or.inr (hw _ (List.mem_of_getElem? (i := 21) rfl))) (Or.inr (hw _ (List.mem_of_getElem? (i := 19) rfl))) (by decide) (t := .double) (t' := (.object "com/example/breakline/breakline/Manner")) (by decide) (by decide)))) (E_a1.wr W2) (Or.inr ⟨(hw _ (List.mem_of_getElem? (i := 21) rfl)), rfl, hnm⟩) (hw _ (List.mem_of_getElem? (i := 9) rfl)) (ty := .double) (by decide) rfl rfl (g := (mkF m 11 #[.val (.ref a1), .val (.ref a2), .val (.double d3), .second, .val (.ref a4)] [(.double d3), (.ref a1)])) rfl rfl (hb hby d1_11)
  have Fw4 := (F_gamma_a1.other W2 (Or.inr (slot_ne (Or.inr (hw _ (List.mem_of_getElem? (i := 21) rfl))) (Or.inr (hw _ (List.mem_of_getElem? (i := 19) rfl))) (by decide) (t := .double) (t' := (.object "com/example/breakline/breakline/Manner")) (by decide) (by decide)))).same W4
  have N4 := Fr.snoc X4 N2 ge_a1
  have O5 := O3.wr W4 ge_a1
  have K4 := K2.wr W4 (Or.inl (List.mem_of_getElem? (i := 0) rfl))
  obtain ⟨T6, h6, X6, e6, W6, st6⟩ := putF X4 hx hZ hown (host := "") (Or.inl (hw _ (List.mem_of_getElem? (i := 22) rfl))) Via.refl e4 ((F_scope_a1.other W2 (Or.inr (slot_ne (Or.inr (hw _ (List.mem_of_getElem? (i := 23) rfl))) (Or.inr (hw _ (List.mem_of_getElem? (i := 19) rfl))) (by decide) (t := (.object "com/example/breakline/breakline/Dgls$Scope")) (t' := (.object "com/example/breakline/breakline/Manner")) (by decide) (by decide)))).other W4 (Or.inr (slot_ne (Or.inr (hw _ (List.mem_of_getElem? (i := 23) rfl))) (Or.inr (hw _ (List.mem_of_getElem? (i := 21) rfl))) (by decide) (t := (.object "com/example/breakline/breakline/Dgls$Scope")) (t' := .double) (by decide) (by decide)))) ((E_a1.wr W2).wr W4) (Or.inr ⟨(hw _ (List.mem_of_getElem? (i := 23) rfl)), rfl, hnm⟩) (hw _ (List.mem_of_getElem? (i := 9) rfl)) (ty := (.object "com/example/breakline/breakline/Dgls$Scope")) (by decide) rfl rfl (g := (mkF m 17 #[.val (.ref a1), .val (.ref a2), .val (.double d3), .second, .val (.ref a4)] [(.ref a4), (.ref a1)])) rfl rfl (hb hby d1_17)
  have Fw6 := ((F_scope_a1.other W2 (Or.inr (slot_ne (Or.inr (hw _ (List.mem_of_getElem? (i := 23) rfl))) (Or.inr (hw _ (List.mem_of_getElem? (i := 19) rfl))) (by decide) (t := (.object "com/example/breakline/breakline/Dgls$Scope")) (t' := (.object "com/example/breakline/breakline/Manner")) (by decide) (by decide)))).other W4 (Or.inr (slot_ne (Or.inr (hw _ (List.mem_of_getElem? (i := 23) rfl))) (Or.inr (hw _ (List.mem_of_getElem? (i := 21) rfl))) (by decide) (t := (.object "com/example/breakline/breakline/Dgls$Scope")) (t' := .double) (by decide) (by decide)))).same W6
  have N6 := Fr.snoc X6 N4 ge_a1
  have O7 := O5.wr W6 ge_a1
  have K6 := K4.wr W6 (Or.inl (List.mem_of_getElem? (i := 0) rfl))
  have sg8 : ∀ target, Steps p.tables e below (T6.setTop (mkF m 20 #[.val (.ref a1), .val (.ref a2), .val (.double d3), .second, .val (.ref a4)] [])) target → Steps p.tables e below (s₁.setTop (mkF m 0 #[.val (.ref a1), .val (.ref a2), .val (.double d3), .second, .val (.ref a4)] [])) target := by
    intro target kt
    show Steps p.tables e below (s₁.setTop (mkF m 0 #[.val (.ref a1), .val (.ref a2), .val (.double d3), .second, .val (.ref a4)] [])) _
    refine XS.aloadN X0.here hx rfl (hb hby d1_0) rfl rfl ?_
    show Steps p.tables e below (s₁.setTop (mkF m 1 #[.val (.ref a1), .val (.ref a2), .val (.double d3), .second, .val (.ref a4)] [(.ref a1)])) _
    refine st1 _ ?_
    show Steps p.tables e below (T1.setTop (mkF m 4 #[.val (.ref a1), .val (.ref a2), .val (.double d3), .second, .val (.ref a4)] [])) _
    refine XS.aloadN X1.here hx rfl (hb hby d1_4) rfl rfl ?_
    show Steps p.tables e below (T1.setTop (mkF m 5 #[.val (.ref a1), .val (.ref a2), .val (.double d3), .second, .val (.ref a4)] [(.ref a1)])) _
    refine XS.aloadN X1.here hx rfl (hb hby d1_5) rfl rfl ?_
    show Steps p.tables e below (T1.setTop (mkF m 6 #[.val (.ref a1), .val (.ref a2), .val (.double d3), .second, .val (.ref a4)] [(.ref a2), (.ref a1)])) _
    refine st2 _ ?_
    show Steps p.tables e below (T2.setTop (mkF m 9 #[.val (.ref a1), .val (.ref a2), .val (.double d3), .second, .val (.ref a4)] [])) _
    refine XS.aloadN X2.here hx rfl (hb hby d1_9) rfl rfl ?_
    show Steps p.tables e below (T2.setTop (mkF m 10 #[.val (.ref a1), .val (.ref a2), .val (.double d3), .second, .val (.ref a4)] [(.ref a1)])) _
    refine XS.dloadN X2.here hx rfl (hb hby d1_10) rfl ?_
    show Steps p.tables e below (T2.setTop (mkF m 11 #[.val (.ref a1), .val (.ref a2), .val (.double d3), .second, .val (.ref a4)] [(.double d3), (.ref a1)])) _
    refine st4 _ ?_
    show Steps p.tables e below (T4.setTop (mkF m 14 #[.val (.ref a1), .val (.ref a2), .val (.double d3), .second, .val (.ref a4)] [])) _
    refine XS.aloadN X4.here hx rfl (hb hby d1_14) rfl rfl ?_
    show Steps p.tables e below (T4.setTop (mkF m 15 #[.val (.ref a1), .val (.ref a2), .val (.double d3), .second, .val (.ref a4)] [(.ref a1)])) _
    refine XS.aload X4.here hx rfl (hb hby d1_15) rfl rfl ?_
    show Steps p.tables e below (T4.setTop (mkF m 17 #[.val (.ref a1), .val (.ref a2), .val (.double d3), .second, .val (.ref a4)] [(.ref a4), (.ref a1)])) _
    refine st6 _ ?_
    exact kt
  obtain ⟨fs, hr, hrun, hended, hW, hsame⟩ := X6.leave (v := none) (fun _ => rfl)
  refine ⟨_, _, pre0 _ (sg8 _ (?_)), hrun, hended, _, _, rfl, ?_, ⟨_, rfl⟩, hW, hsame.mono (by decide) (by decide)⟩
  · show Steps p.tables e below (T6.setTop (mkF m 20 #[.val (.ref a1), .val (.ref a2), .val (.double d3), .second, .val (.ref a4)] [])) _
    exact X6.returnOut hx Bd.returns (hb hby d1_20) hr
  · show Q1 Z a1 a2 d3 a4 h0 n0 _ T6.heap _
    rw [e6]
    exact ⟨rfl, N6, K6, O7⟩
def Q3 (Z : State) (a1 : Addr) (p2 : Int32) (h0 : Heap) (n0 : Nat) (v : Option Value) (h : Heap) (L : List Loc) : Prop := v = some (.int (if (p2 % (3 : Int32)) = (2 : Int32) then (0 : Int32) else (1 : Int32))) ∧ Fr n0 L ∧ h = h0
theorem ef_3 (m : MethodId) (x0 : Addr) (x1 : Int32) : entryFrame m #[(.ref x0), (.int x1)] 2 = mkF m 0 #[.val (.ref x0), .val (.int x1)] [] := by first | (simp [entryFrame, mkF, argsToLocals, Value.category]; done) | rfl
set_option maxRecDepth 65536 in
set_option maxHeartbeats 40000000 in
theorem rm3 (l : Launch) (Z : State) (a0 : Array Value) (hw : ∀ d ∈ tables_1, d.before a0 Z = true) (ws : List Jvm.Cond) (a1 : Addr) (p2 : Int32) (h0 : Heap) (n0 : Nat) (O0 : Old Z n0 h0) :
    MetFree l (⟨"com/example/breakline/breakline/Dgls", "messagesEveryNeighbourIn", "(I)Z"⟩ : MethodName) (head1 (Jvm.Cond.code (⟨"com/example/breakline/breakline/Dgls", "messagesEveryNeighbourIn", "(I)Z"⟩ : MethodName) prog_19_method_6_code 2 (some .boolean) :: ws) ({ frames := 0, cells := 0, slots := 0, locals := 0 } : Room)) (fun a U => a = #[(.ref a1), (.int p2)] ∧ Z.Warmed39 U.vm ∧ U.heap = h0) (fun _ _ _ _ _ => True) (fun _ U o U' => ∃ v L, o = .returned v ∧ Q3 Z a1 p2 h0 n0 v U'.heap L ∧ FrameEnd U o U' L ({ frames := 0, cells := 0, slots := 0, locals := 0 } : Room).cells ({ frames := 0, cells := 0, slots := 0, locals := 0 } : Room).slots) := by
  refine MetFree.of_bodySF (plainFor_of_name pn_0) hisR ?_
  intro p e s m args below meth c s₁ Bd hml0 hP hK
  obtain ⟨rfl, hZ, hh⟩ := hP
  have hx := Bd.exec
  have hby := Bd.bytes
  have hml : c.maxLocals = 2 := hml0
  have hown : s.vm.findClass "com/example/breakline/breakline/Dgls" = some m.cls := findClass_of_methodNamed Bd.named
  have hnm := (name_of_methodNamed Bd.named Bd.method).1
  have X0 : Stand p l e ({ frames := 0, cells := 0, slots := 0, locals := 0 } : Room) s m #[(.ref a1), (.int p2)] below meth c s₁ [] 0 0 := Stand.of_body Bd
  have e0 : s₁.heap = h0 := by rw [← hh, Bd.state]; rfl
  have N0 := Fr.nil n0
  have pre0 : ∀ t, Steps p.tables e below (s₁.setTop (mkF m 0 #[.val (.ref a1), .val (.int p2)] [])) t → Steps p.tables e below (s₁.setTop (entryFrame m #[(.ref a1), (.int p2)] 2)) t := fun t k => castTop (ef_3 m a1 p2) k
  have sg1 : ∀ target, Steps p.tables e below (s₁.setTop (mkF m 4 #[.val (.ref a1), .val (.int p2)] [(.int (2 : Int32)), (.int (p2 % (3 : Int32)))])) target → Steps p.tables e below (s₁.setTop (mkF m 0 #[.val (.ref a1), .val (.int p2)] [])) target := by
    intro target kt
    show Steps p.tables e below (s₁.setTop (mkF m 0 #[.val (.ref a1), .val (.int p2)] [])) _
    refine XS.iloadN X0.here hx rfl (hb hby d3_0) rfl ?_
    show Steps p.tables e below (s₁.setTop (mkF m 1 #[.val (.ref a1), .val (.int p2)] [(.int p2)])) _
    refine XS.iconst X0.here hx rfl (hb hby d3_1) ?_
    show Steps p.tables e below (s₁.setTop (mkF m 2 #[.val (.ref a1), .val (.int p2)] [(.int (3 : Int32)), (.int p2)])) _
    refine iremM (g := (mkF m 2 #[.val (.ref a1), .val (.int p2)] [(.int (3 : Int32)), (.int p2)])) X0 hx rfl (hb hby d3_2) rfl (by decide) ?_
    show Steps p.tables e below (s₁.setTop (mkF m 3 #[.val (.ref a1), .val (.int p2)] [(.int (p2 % (3 : Int32)))])) _
    refine XS.iconst X0.here hx rfl (hb hby d3_3) ?_
    exact kt
  by_cases hc2 : (p2 % (3 : Int32)) = (2 : Int32)
  · have sg3 : ∀ target, Steps p.tables e below (s₁.setTop (mkF m 12 #[.val (.ref a1), .val (.int p2)] [(.int (0 : Int32))])) target → Steps p.tables e below (s₁.setTop (mkF m 4 #[.val (.ref a1), .val (.int p2)] [(.int (2 : Int32)), (.int (p2 % (3 : Int32)))])) target := by
      intro target kt
      show Steps p.tables e below (s₁.setTop (mkF m 4 #[.val (.ref a1), .val (.int p2)] [(.int (2 : Int32)), (.int (p2 % (3 : Int32)))])) _
      refine XS.icmpYes X0.here hx rfl (pc0 := 4) (pc' := 11) rfl (hb hby d3_4) rfl (teq hc2).1 (by decide) (by decide) ?_
      show Steps p.tables e below (s₁.setTop (mkF m 11 #[.val (.ref a1), .val (.int p2)] [])) _
      refine XS.iconst X0.here hx rfl (hb hby d3_11) ?_
      exact kt
    obtain ⟨fs, hr, hrun, hended, hW, hsame⟩ := X0.leave (v := some (.int (0 : Int32))) (fun h => by rw [Bd.returns] at h; cases h)
    refine ⟨_, _, pre0 _ (sg1 _ (sg3 _ (?_))), hrun, hended, _, _, rfl, ?_, ⟨_, rfl⟩, hW, hsame.mono (by decide) (by decide)⟩
    · show Steps p.tables e below (s₁.setTop (mkF m 12 #[.val (.ref a1), .val (.int p2)] [(.int (0 : Int32))])) _
      exact retN X0 hx (t := .boolean) Bd.returns (by simp) (hb hby d3_12) hr
    · show Q3 Z a1 p2 h0 n0 _ s₁.heap _
      rw [e0]
      exact ⟨(by rw [if_pos hc2]), N0, rfl⟩
  · have sg4 : ∀ target, Steps p.tables e below (s₁.setTop (mkF m 12 #[.val (.ref a1), .val (.int p2)] [(.int (1 : Int32))])) target → Steps p.tables e below (s₁.setTop (mkF m 4 #[.val (.ref a1), .val (.int p2)] [(.int (2 : Int32)), (.int (p2 % (3 : Int32)))])) target := by
      intro target kt
      show Steps p.tables e below (s₁.setTop (mkF m 4 #[.val (.ref a1), .val (.int p2)] [(.int (2 : Int32)), (.int (p2 % (3 : Int32)))])) _
      refine XS.icmpNo X0.here hx rfl (hb hby d3_4) rfl (feq hc2).1 ?_
      show Steps p.tables e below (s₁.setTop (mkF m 7 #[.val (.ref a1), .val (.int p2)] [])) _
      refine XS.iconst X0.here hx rfl (hb hby d3_7) ?_
      show Steps p.tables e below (s₁.setTop (mkF m 8 #[.val (.ref a1), .val (.int p2)] [(.int (1 : Int32))])) _
      refine XS.goto X0.here hx rfl (pc0 := 8) (pc' := 12) rfl (hb hby d3_8) (by decide) (by decide) ?_
      exact kt
    obtain ⟨fs, hr, hrun, hended, hW, hsame⟩ := X0.leave (v := some (.int (1 : Int32))) (fun h => by rw [Bd.returns] at h; cases h)
    refine ⟨_, _, pre0 _ (sg1 _ (sg4 _ (?_))), hrun, hended, _, _, rfl, ?_, ⟨_, rfl⟩, hW, hsame.mono (by decide) (by decide)⟩
    · show Steps p.tables e below (s₁.setTop (mkF m 12 #[.val (.ref a1), .val (.int p2)] [(.int (1 : Int32))])) _
      exact retN X0 hx (t := .boolean) Bd.returns (by simp) (hb hby d3_12) hr
    · show Q3 Z a1 p2 h0 n0 _ s₁.heap _
      rw [e0]
      exact ⟨(by rw [if_neg hc2]), N0, rfl⟩
def Q0 (Z : State) (p1 : Int32) (p2 : Int32) (p3 : Int32) (wM : Addr) (wA : Addr) (wC : Addr) (wT : Addr) (wR : Addr) (wL : Addr) (h0 : Heap) (n0 : Nat) (v : Option Value) (h : Heap) (L : List Loc) : Prop := v = some (.int (1 : Int32)) ∧ Fr n0 L ∧ Keep h0 h [] ∧ Old Z n0 h
theorem ef_0 (m : MethodId) (x0 : Int32) (x1 : Int32) (x2 : Int32) : entryFrame m #[(.int x0), (.int x1), (.int x2)] maxLocals = mkF m 0 #[.val (.int x0), .val (.int x1), .val (.int x2), .unset, .unset, .unset, .unset, .unset, .unset, .unset, .unset] [] := by first | (simp [entryFrame, mkF, argsToLocals, Value.category, maxLocals]; done) | rfl
set_option maxRecDepth 65536 in
set_option maxHeartbeats 40000000 in
theorem rm0 (l : Launch) (Z : State) (a0 : Array Value) (hw : ∀ d ∈ tables_1, d.before a0 Z = true) (ws : List Jvm.Cond) (p1 : Int32) (p2 : Int32) (p3 : Int32) (wM : Addr) (wA : Addr) (wC : Addr) (wT : Addr) (wR : Addr) (wL : Addr) (h0 : Heap) (n0 : Nat) (O0 : Old Z n0 h0) (S_MULTIPLICATIVE : Sta Z Z.heap "com/example/breakline/breakline/Manner" "MULTIPLICATIVE" "Lcom/example/breakline/breakline/Manner;" (.ref wM)) (S_ADDITIVE : Sta Z Z.heap "com/example/breakline/breakline/Manner" "ADDITIVE" "Lcom/example/breakline/breakline/Manner;" (.ref wA)) (S_CELL : Sta Z Z.heap "com/example/breakline/breakline/Dgls$Scope" "CELL" "Lcom/example/breakline/breakline/Dgls$Scope;" (.ref wC)) (S_TABLE : Sta Z Z.heap "com/example/breakline/breakline/Dgls$Scope" "TABLE" "Lcom/example/breakline/breakline/Dgls$Scope;" (.ref wT)) (S_ROW : Sta Z Z.heap "com/example/breakline/breakline/Dgls$Scope" "ROW" "Lcom/example/breakline/breakline/Dgls$Scope;" (.ref wR)) (S_COLUMN : Sta Z Z.heap "com/example/breakline/breakline/Dgls$Scope" "COLUMN" "Lcom/example/breakline/breakline/Dgls$Scope;" (.ref wL)) :
    MetFree l x (head1 (Jvm.Cond.code x code maxLocals ret :: ws) room_1) (fun a U => a = #[(.int p1), (.int p2), (.int p3)] ∧ Z.Warmed39 U.vm ∧ U.heap = h0) (fun _ _ _ _ _ => True) (fun _ U o U' => ∃ v L, o = .returned v ∧ Q0 Z p1 p2 p3 wM wA wC wT wR wL h0 n0 v U'.heap L ∧ FrameEnd U o U' L room_1.cells room_1.slots) := by
  refine MetFree.of_bodySF (plainFor_of_name pn_1) hisR ?_
  intro p e s m args below meth c s₁ Bd hml0 hP hK
  obtain ⟨rfl, hZ, hh⟩ := hP
  have hx := Bd.exec
  have hby := Bd.bytes
  have hml : c.maxLocals = 11 := hml0
  have hown : s.vm.findClass "com/example/breakline/breakline/DglsMessagesEveryNeighbourInPinLaw" = some m.cls := findClass_of_methodNamed Bd.named
  have hnm := (name_of_methodNamed Bd.named Bd.method).1
  have X0 : Stand p l e room_1 s m #[(.int p1), (.int p2), (.int p3)] below meth c s₁ [] 0 0 := Stand.of_body Bd
  have e0 : s₁.heap = h0 := by rw [← hh, Bd.state]; rfl
  have N0 := Fr.nil n0
  have pre0 : ∀ t, Steps p.tables e below (s₁.setTop (mkF m 0 #[.val (.int p1), .val (.int p2), .val (.int p3), .unset, .unset, .unset, .unset, .unset, .unset, .unset, .unset] [])) t → Steps p.tables e below (s₁.setTop (entryFrame m #[(.int p1), (.int p2), (.int p3)] maxLocals)) t := fun t k => castTop (ef_0 m p1 p2 p3) k
  have K0 := Keep.refl h0 []
  obtain ⟨u1, hu1⟩ : ∃ z, z = ((p1 &&& (2147483647 : Int32)) % (715827882 : Int32)) := ⟨_, rfl⟩
  have sg2 : ∀ target, Steps p.tables e below (s₁.setTop (mkF m 7 #[.val (.int p1), .val (.int p2), .val (.int p3), .unset, .unset, .unset, .unset, .unset, .unset, .unset, .unset] [(.int u1)])) target → Steps p.tables e below (s₁.setTop (mkF m 0 #[.val (.int p1), .val (.int p2), .val (.int p3), .unset, .unset, .unset, .unset, .unset, .unset, .unset, .unset] [])) target := by
    intro target kt
    subst hu1
    show Steps p.tables e below (s₁.setTop (mkF m 0 #[.val (.int p1), .val (.int p2), .val (.int p3), .unset, .unset, .unset, .unset, .unset, .unset, .unset, .unset] [])) _
    refine XS.iloadN X0.here hx rfl (hb hby at_0) rfl ?_
    show Steps p.tables e below (s₁.setTop (mkF m 1 #[.val (.int p1), .val (.int p2), .val (.int p3), .unset, .unset, .unset, .unset, .unset, .unset, .unset, .unset] [(.int p1)])) _
    refine X0.ldcInt hx hown (mvT hZ (hw _ (List.mem_of_getElem? (i := 0) rfl))) (g := (mkF m 1 #[.val (.int p1), .val (.int p2), .val (.int p3), .unset, .unset, .unset, .unset, .unset, .unset, .unset, .unset] [(.int p1)])) rfl (hb hby at_1) _ ?_
    show Steps p.tables e below (s₁.setTop (mkF m 3 #[.val (.int p1), .val (.int p2), .val (.int p3), .unset, .unset, .unset, .unset, .unset, .unset, .unset, .unset] [(.int (2147483647 : Int32)), (.int p1)])) _
    refine XS.iand X0.here hx rfl (hb hby at_3) rfl ?_
    show Steps p.tables e below (s₁.setTop (mkF m 4 #[.val (.int p1), .val (.int p2), .val (.int p3), .unset, .unset, .unset, .unset, .unset, .unset, .unset, .unset] [(.int (p1 &&& (2147483647 : Int32)))])) _
    refine X0.ldcInt hx hown (mvT hZ (hw _ (List.mem_of_getElem? (i := 1) rfl))) (g := (mkF m 4 #[.val (.int p1), .val (.int p2), .val (.int p3), .unset, .unset, .unset, .unset, .unset, .unset, .unset, .unset] [(.int (p1 &&& (2147483647 : Int32)))])) rfl (hb hby at_4) _ ?_
    show Steps p.tables e below (s₁.setTop (mkF m 6 #[.val (.int p1), .val (.int p2), .val (.int p3), .unset, .unset, .unset, .unset, .unset, .unset, .unset, .unset] [(.int (715827882 : Int32)), (.int (p1 &&& (2147483647 : Int32)))])) _
    refine iremM (g := (mkF m 6 #[.val (.int p1), .val (.int p2), .val (.int p3), .unset, .unset, .unset, .unset, .unset, .unset, .unset, .unset] [(.int (715827882 : Int32)), (.int (p1 &&& (2147483647 : Int32)))])) X0 hx rfl (hb hby at_6) rfl (by decide) ?_
    exact kt
  obtain ⟨u3, hu3⟩ : ∃ z, z = ((p2 &&& (2147483647 : Int32)) % (3 : Int32)) := ⟨_, rfl⟩
  have sg4 : ∀ target, Steps p.tables e below (s₁.setTop (mkF m 14 #[.val (.int p1), .val (.int p2), .val (.int p3), .val (.int u1), .unset, .unset, .unset, .unset, .unset, .unset, .unset] [(.int u3)])) target → Steps p.tables e below (s₁.setTop (mkF m 7 #[.val (.int p1), .val (.int p2), .val (.int p3), .unset, .unset, .unset, .unset, .unset, .unset, .unset, .unset] [(.int u1)])) target := by
    intro target kt
    subst hu3
    show Steps p.tables e below (s₁.setTop (mkF m 7 #[.val (.int p1), .val (.int p2), .val (.int p3), .unset, .unset, .unset, .unset, .unset, .unset, .unset, .unset] [(.int u1)])) _
    refine XS.istoreN X0.here hx rfl (hb hby at_7) rfl (l' := #[.val (.int p1), .val (.int p2), .val (.int p3), .val (.int u1), .unset, .unset, .unset, .unset, .unset, .unset, .unset]) rfl ?_
    show Steps p.tables e below (s₁.setTop (mkF m 8 #[.val (.int p1), .val (.int p2), .val (.int p3), .val (.int u1), .unset, .unset, .unset, .unset, .unset, .unset, .unset] [])) _
    refine XS.iloadN X0.here hx rfl (hb hby at_8) rfl ?_
    show Steps p.tables e below (s₁.setTop (mkF m 9 #[.val (.int p1), .val (.int p2), .val (.int p3), .val (.int u1), .unset, .unset, .unset, .unset, .unset, .unset, .unset] [(.int p2)])) _
    refine X0.ldcInt hx hown (mvT hZ (hw _ (List.mem_of_getElem? (i := 0) rfl))) (g := (mkF m 9 #[.val (.int p1), .val (.int p2), .val (.int p3), .val (.int u1), .unset, .unset, .unset, .unset, .unset, .unset, .unset] [(.int p2)])) rfl (hb hby at_9) _ ?_
    show Steps p.tables e below (s₁.setTop (mkF m 11 #[.val (.int p1), .val (.int p2), .val (.int p3), .val (.int u1), .unset, .unset, .unset, .unset, .unset, .unset, .unset] [(.int (2147483647 : Int32)), (.int p2)])) _
    refine XS.iand X0.here hx rfl (hb hby at_11) rfl ?_
    show Steps p.tables e below (s₁.setTop (mkF m 12 #[.val (.int p1), .val (.int p2), .val (.int p3), .val (.int u1), .unset, .unset, .unset, .unset, .unset, .unset, .unset] [(.int (p2 &&& (2147483647 : Int32)))])) _
    refine XS.iconst X0.here hx rfl (hb hby at_12) ?_
    show Steps p.tables e below (s₁.setTop (mkF m 13 #[.val (.int p1), .val (.int p2), .val (.int p3), .val (.int u1), .unset, .unset, .unset, .unset, .unset, .unset, .unset] [(.int (3 : Int32)), (.int (p2 &&& (2147483647 : Int32)))])) _
    refine iremM (g := (mkF m 13 #[.val (.int p1), .val (.int p2), .val (.int p3), .val (.int u1), .unset, .unset, .unset, .unset, .unset, .unset, .unset] [(.int (3 : Int32)), (.int (p2 &&& (2147483647 : Int32)))])) X0 hx rfl (hb hby at_13) rfl (by decide) ?_
    exact kt
  obtain ⟨u5, hu5⟩ : ∃ z, z = (((3 : Int32) * u1) + u3) := ⟨_, rfl⟩
  have sg6 : ∀ target, Steps p.tables e below (s₁.setTop (mkF m 22 #[.val (.int p1), .val (.int p2), .val (.int p3), .val (.int u1), .val (.int u3), .unset, .unset, .unset, .unset, .unset, .unset] [(.int u5)])) target → Steps p.tables e below (s₁.setTop (mkF m 14 #[.val (.int p1), .val (.int p2), .val (.int p3), .val (.int u1), .unset, .unset, .unset, .unset, .unset, .unset, .unset] [(.int u3)])) target := by
    intro target kt
    subst hu5
    show Steps p.tables e below (s₁.setTop (mkF m 14 #[.val (.int p1), .val (.int p2), .val (.int p3), .val (.int u1), .unset, .unset, .unset, .unset, .unset, .unset, .unset] [(.int u3)])) _
    refine XS.istore X0.here hx rfl (hb hby at_14) rfl (l' := #[.val (.int p1), .val (.int p2), .val (.int p3), .val (.int u1), .val (.int u3), .unset, .unset, .unset, .unset, .unset, .unset]) rfl ?_
    show Steps p.tables e below (s₁.setTop (mkF m 16 #[.val (.int p1), .val (.int p2), .val (.int p3), .val (.int u1), .val (.int u3), .unset, .unset, .unset, .unset, .unset, .unset] [])) _
    refine XS.iconst X0.here hx rfl (hb hby at_16) ?_
    show Steps p.tables e below (s₁.setTop (mkF m 17 #[.val (.int p1), .val (.int p2), .val (.int p3), .val (.int u1), .val (.int u3), .unset, .unset, .unset, .unset, .unset, .unset] [(.int (3 : Int32))])) _
    refine XS.iloadN X0.here hx rfl (hb hby at_17) rfl ?_
    show Steps p.tables e below (s₁.setTop (mkF m 18 #[.val (.int p1), .val (.int p2), .val (.int p3), .val (.int u1), .val (.int u3), .unset, .unset, .unset, .unset, .unset, .unset] [(.int u1), (.int (3 : Int32))])) _
    refine XS.imul X0.here hx rfl (hb hby at_18) rfl ?_
    show Steps p.tables e below (s₁.setTop (mkF m 19 #[.val (.int p1), .val (.int p2), .val (.int p3), .val (.int u1), .val (.int u3), .unset, .unset, .unset, .unset, .unset, .unset] [(.int ((3 : Int32) * u1))])) _
    refine XS.iload X0.here hx rfl (hb hby at_19) rfl ?_
    show Steps p.tables e below (s₁.setTop (mkF m 21 #[.val (.int p1), .val (.int p2), .val (.int p3), .val (.int u1), .val (.int u3), .unset, .unset, .unset, .unset, .unset, .unset] [(.int u3), (.int ((3 : Int32) * u1))])) _
    refine XS.iadd X0.here hx rfl (hb hby at_21) rfl ?_
    exact kt
  obtain ⟨T7, X7, e7, st7⟩ := getS2 X0 hx hZ hown (host := "") (Or.inl (hw _ (List.mem_of_getElem? (i := 2) rfl))) Via.refl e0 (S_MULTIPLICATIVE.ext O0.2) (g := (mkF m 24 #[.val (.int p1), .val (.int p2), .val (.int p3), .val (.int u1), .val (.int u3), .val (.int u5), .unset, .unset, .unset, .unset, .unset] [])) rfl (hb hby at_24)
  have sg8 : ∀ target, Steps p.tables e below (T7.setTop (mkF m 29 #[.val (.int p1), .val (.int p2), .val (.int p3), .val (.int u1), .val (.int u3), .val (.int u5), .val (.ref wM), .unset, .unset, .unset, .unset] [])) target → Steps p.tables e below (s₁.setTop (mkF m 22 #[.val (.int p1), .val (.int p2), .val (.int p3), .val (.int u1), .val (.int u3), .unset, .unset, .unset, .unset, .unset, .unset] [(.int u5)])) target := by
    intro target kt
    show Steps p.tables e below (s₁.setTop (mkF m 22 #[.val (.int p1), .val (.int p2), .val (.int p3), .val (.int u1), .val (.int u3), .unset, .unset, .unset, .unset, .unset, .unset] [(.int u5)])) _
    refine XS.istore X0.here hx rfl (hb hby at_22) rfl (l' := #[.val (.int p1), .val (.int p2), .val (.int p3), .val (.int u1), .val (.int u3), .val (.int u5), .unset, .unset, .unset, .unset, .unset]) rfl ?_
    show Steps p.tables e below (s₁.setTop (mkF m 24 #[.val (.int p1), .val (.int p2), .val (.int p3), .val (.int u1), .val (.int u3), .val (.int u5), .unset, .unset, .unset, .unset, .unset] [])) _
    refine st7 _ ?_
    show Steps p.tables e below (T7.setTop (mkF m 27 #[.val (.int p1), .val (.int p2), .val (.int p3), .val (.int u1), .val (.int u3), .val (.int u5), .unset, .unset, .unset, .unset, .unset] [(.ref wM)])) _
    refine XS.astore X7.here hx rfl (hb hby at_27) rfl rfl (l' := #[.val (.int p1), .val (.int p2), .val (.int p3), .val (.int u1), .val (.int u3), .val (.int u5), .val (.ref wM), .unset, .unset, .unset, .unset]) rfl ?_
    exact kt
  obtain ⟨T14, L14, v14_l6, X14, e14, N14, hv14_l6, sg14⟩ : ∃ (T' : State) (L' : List Loc) (v14_l6 : Addr), Stand p l e room_1 s m #[(.int p1), (.int p2), (.int p3)] below meth c T' L' 0 0 ∧ T'.heap = h0 ∧ Fr n0 L' ∧ v14_l6 = (if (p3 &&& (1 : Int32)) = (0 : Int32) then wM else wA) ∧ ∀ target, Steps p.tables e below (T'.setTop (mkF m 40 #[.val (.int p1), .val (.int p2), .val (.int p3), .val (.int u1), .val (.int u3), .val (.int u5), .val (.ref v14_l6), .unset, .unset, .unset, .unset] [])) target → Steps p.tables e below (T7.setTop (mkF m 29 #[.val (.int p1), .val (.int p2), .val (.int p3), .val (.int u1), .val (.int u3), .val (.int u5), .val (.ref wM), .unset, .unset, .unset, .unset] [])) target := by
    have sg9 : ∀ target, Steps p.tables e below (T7.setTop (mkF m 32 #[.val (.int p1), .val (.int p2), .val (.int p3), .val (.int u1), .val (.int u3), .val (.int u5), .val (.ref wM), .unset, .unset, .unset, .unset] [(.int (p3 &&& (1 : Int32)))])) target → Steps p.tables e below (T7.setTop (mkF m 29 #[.val (.int p1), .val (.int p2), .val (.int p3), .val (.int u1), .val (.int u3), .val (.int u5), .val (.ref wM), .unset, .unset, .unset, .unset] [])) target := by
      intro target kt
      show Steps p.tables e below (T7.setTop (mkF m 29 #[.val (.int p1), .val (.int p2), .val (.int p3), .val (.int u1), .val (.int u3), .val (.int u5), .val (.ref wM), .unset, .unset, .unset, .unset] [])) _
      refine XS.iloadN X7.here hx rfl (hb hby at_29) rfl ?_
      show Steps p.tables e below (T7.setTop (mkF m 30 #[.val (.int p1), .val (.int p2), .val (.int p3), .val (.int u1), .val (.int u3), .val (.int u5), .val (.ref wM), .unset, .unset, .unset, .unset] [(.int p3)])) _
      refine XS.iconst X7.here hx rfl (hb hby at_30) ?_
      show Steps p.tables e below (T7.setTop (mkF m 31 #[.val (.int p1), .val (.int p2), .val (.int p3), .val (.int u1), .val (.int u3), .val (.int u5), .val (.ref wM), .unset, .unset, .unset, .unset] [(.int (1 : Int32)), (.int p3)])) _
      refine XS.iand X7.here hx rfl (hb hby at_31) rfl ?_
      exact kt
    by_cases hc10 : (p3 &&& (1 : Int32)) = (0 : Int32)
    · have sg11 : ∀ target, Steps p.tables e below (T7.setTop (mkF m 40 #[.val (.int p1), .val (.int p2), .val (.int p3), .val (.int u1), .val (.int u3), .val (.int u5), .val (.ref wM), .unset, .unset, .unset, .unset] [])) target → Steps p.tables e below (T7.setTop (mkF m 32 #[.val (.int p1), .val (.int p2), .val (.int p3), .val (.int u1), .val (.int u3), .val (.int u5), .val (.ref wM), .unset, .unset, .unset, .unset] [(.int (p3 &&& (1 : Int32)))])) target := by
        intro target kt
        show Steps p.tables e below (T7.setTop (mkF m 32 #[.val (.int p1), .val (.int p2), .val (.int p3), .val (.int u1), .val (.int u3), .val (.int u5), .val (.ref wM), .unset, .unset, .unset, .unset] [(.int (p3 &&& (1 : Int32)))])) _
        refine XS.ifYes X7.here hx rfl (pc0 := 32) (pc' := 40) rfl (hb hby at_32) rfl ((if0 _ _).trans (teq hc10).1) (by decide) (by decide) ?_
        exact kt
      exact ⟨T7, _, wM, X7.mono (by decide) (by decide), e7, N0, (by rw [if_pos hc10]), fun target kt => sg9 _ (sg11 _ (kt))⟩
    · obtain ⟨T12, X12, e12, st12⟩ := getS2 X7 hx hZ hown (host := "") (Or.inl (hw _ (List.mem_of_getElem? (i := 29) rfl))) Via.refl e7 (S_ADDITIVE.ext O0.2) (g := (mkF m 35 #[.val (.int p1), .val (.int p2), .val (.int p3), .val (.int u1), .val (.int u3), .val (.int u5), .val (.ref wM), .unset, .unset, .unset, .unset] [])) rfl (hb hby at_35)
      have sg13 : ∀ target, Steps p.tables e below (T12.setTop (mkF m 40 #[.val (.int p1), .val (.int p2), .val (.int p3), .val (.int u1), .val (.int u3), .val (.int u5), .val (.ref wA), .unset, .unset, .unset, .unset] [])) target → Steps p.tables e below (T7.setTop (mkF m 32 #[.val (.int p1), .val (.int p2), .val (.int p3), .val (.int u1), .val (.int u3), .val (.int u5), .val (.ref wM), .unset, .unset, .unset, .unset] [(.int (p3 &&& (1 : Int32)))])) target := by
        intro target kt
        show Steps p.tables e below (T7.setTop (mkF m 32 #[.val (.int p1), .val (.int p2), .val (.int p3), .val (.int u1), .val (.int u3), .val (.int u5), .val (.ref wM), .unset, .unset, .unset, .unset] [(.int (p3 &&& (1 : Int32)))])) _
        refine XS.ifNo X7.here hx rfl (hb hby at_32) rfl ((if0 _ _).trans (feq hc10).1) ?_
        show Steps p.tables e below (T7.setTop (mkF m 35 #[.val (.int p1), .val (.int p2), .val (.int p3), .val (.int u1), .val (.int u3), .val (.int u5), .val (.ref wM), .unset, .unset, .unset, .unset] [])) _
        refine st12 _ ?_
        show Steps p.tables e below (T12.setTop (mkF m 38 #[.val (.int p1), .val (.int p2), .val (.int p3), .val (.int u1), .val (.int u3), .val (.int u5), .val (.ref wM), .unset, .unset, .unset, .unset] [(.ref wA)])) _
        refine XS.astore X12.here hx rfl (hb hby at_38) rfl rfl (l' := #[.val (.int p1), .val (.int p2), .val (.int p3), .val (.int u1), .val (.int u3), .val (.int u5), .val (.ref wA), .unset, .unset, .unset, .unset]) rfl ?_
        exact kt
      exact ⟨T12, _, wA, X12.mono (by decide) (by decide), e12, N0, (by rw [if_neg hc10]), fun target kt => sg9 _ (sg13 _ (kt))⟩
  have sg15 : ∀ target, Steps p.tables e below (T14.setTop (mkF m 47 #[.val (.int p1), .val (.int p2), .val (.int p3), .val (.int u1), .val (.int u3), .val (.int u5), .val (.ref v14_l6), .val (.int (((p3.toUInt32 >>> ((1 : Int32) &&& 31).toUInt32).toInt32) &&& (3 : Int32))), .unset, .unset, .unset] [])) target → Steps p.tables e below (T14.setTop (mkF m 40 #[.val (.int p1), .val (.int p2), .val (.int p3), .val (.int u1), .val (.int u3), .val (.int u5), .val (.ref v14_l6), .unset, .unset, .unset, .unset] [])) target := by
    intro target kt
    show Steps p.tables e below (T14.setTop (mkF m 40 #[.val (.int p1), .val (.int p2), .val (.int p3), .val (.int u1), .val (.int u3), .val (.int u5), .val (.ref v14_l6), .unset, .unset, .unset, .unset] [])) _
    refine XS.iloadN X14.here hx rfl (hb hby at_40) rfl ?_
    show Steps p.tables e below (T14.setTop (mkF m 41 #[.val (.int p1), .val (.int p2), .val (.int p3), .val (.int u1), .val (.int u3), .val (.int u5), .val (.ref v14_l6), .unset, .unset, .unset, .unset] [(.int p3)])) _
    refine XS.iconst X14.here hx rfl (hb hby at_41) ?_
    show Steps p.tables e below (T14.setTop (mkF m 42 #[.val (.int p1), .val (.int p2), .val (.int p3), .val (.int u1), .val (.int u3), .val (.int u5), .val (.ref v14_l6), .unset, .unset, .unset, .unset] [(.int (1 : Int32)), (.int p3)])) _
    refine XS.iushr X14.here hx rfl (hb hby at_42) rfl ?_
    show Steps p.tables e below (T14.setTop (mkF m 43 #[.val (.int p1), .val (.int p2), .val (.int p3), .val (.int u1), .val (.int u3), .val (.int u5), .val (.ref v14_l6), .unset, .unset, .unset, .unset] [(.int ((p3.toUInt32 >>> ((1 : Int32) &&& 31).toUInt32).toInt32))])) _
    refine XS.iconst X14.here hx rfl (hb hby at_43) ?_
    show Steps p.tables e below (T14.setTop (mkF m 44 #[.val (.int p1), .val (.int p2), .val (.int p3), .val (.int u1), .val (.int u3), .val (.int u5), .val (.ref v14_l6), .unset, .unset, .unset, .unset] [(.int (3 : Int32)), (.int ((p3.toUInt32 >>> ((1 : Int32) &&& 31).toUInt32).toInt32))])) _
    refine XS.iand X14.here hx rfl (hb hby at_44) rfl ?_
    show Steps p.tables e below (T14.setTop (mkF m 45 #[.val (.int p1), .val (.int p2), .val (.int p3), .val (.int u1), .val (.int u3), .val (.int u5), .val (.ref v14_l6), .unset, .unset, .unset, .unset] [(.int (((p3.toUInt32 >>> ((1 : Int32) &&& 31).toUInt32).toInt32) &&& (3 : Int32)))])) _
    refine XS.istore X14.here hx rfl (hb hby at_45) rfl (l' := #[.val (.int p1), .val (.int p2), .val (.int p3), .val (.int u1), .val (.int u3), .val (.int u5), .val (.ref v14_l6), .val (.int (((p3.toUInt32 >>> ((1 : Int32) &&& 31).toUInt32).toInt32) &&& (3 : Int32))), .unset, .unset, .unset]) rfl ?_
    exact kt
  obtain ⟨T30, L30, v30_l8, X30, e30, N30, hv30_l8, sg30⟩ : ∃ (T' : State) (L' : List Loc) (v30_l8 : Addr), Stand p l e room_1 s m #[(.int p1), (.int p2), (.int p3)] below meth c T' L' 0 0 ∧ T'.heap = h0 ∧ Fr n0 L' ∧ v30_l8 = (if (((p3.toUInt32 >>> ((1 : Int32) &&& 31).toUInt32).toInt32) &&& (3 : Int32)) = (0 : Int32) then wC else (if (((p3.toUInt32 >>> ((1 : Int32) &&& 31).toUInt32).toInt32) &&& (3 : Int32)) = (1 : Int32) then wT else (if (((p3.toUInt32 >>> ((1 : Int32) &&& 31).toUInt32).toInt32) &&& (3 : Int32)) = (2 : Int32) then wR else wL))) ∧ ∀ target, Steps p.tables e below (T'.setTop (mkF m 93 #[.val (.int p1), .val (.int p2), .val (.int p3), .val (.int u1), .val (.int u3), .val (.int u5), .val (.ref v14_l6), .val (.int (((p3.toUInt32 >>> ((1 : Int32) &&& 31).toUInt32).toInt32) &&& (3 : Int32))), .val (.ref v30_l8), .unset, .unset] [])) target → Steps p.tables e below (T14.setTop (mkF m 47 #[.val (.int p1), .val (.int p2), .val (.int p3), .val (.int u1), .val (.int u3), .val (.int u5), .val (.ref v14_l6), .val (.int (((p3.toUInt32 >>> ((1 : Int32) &&& 31).toUInt32).toInt32) &&& (3 : Int32))), .unset, .unset, .unset] [])) target := by
    have sg16 : ∀ target, Steps p.tables e below (T14.setTop (mkF m 49 #[.val (.int p1), .val (.int p2), .val (.int p3), .val (.int u1), .val (.int u3), .val (.int u5), .val (.ref v14_l6), .val (.int (((p3.toUInt32 >>> ((1 : Int32) &&& 31).toUInt32).toInt32) &&& (3 : Int32))), .unset, .unset, .unset] [(.int (((p3.toUInt32 >>> ((1 : Int32) &&& 31).toUInt32).toInt32) &&& (3 : Int32)))])) target → Steps p.tables e below (T14.setTop (mkF m 47 #[.val (.int p1), .val (.int p2), .val (.int p3), .val (.int u1), .val (.int u3), .val (.int u5), .val (.ref v14_l6), .val (.int (((p3.toUInt32 >>> ((1 : Int32) &&& 31).toUInt32).toInt32) &&& (3 : Int32))), .unset, .unset, .unset] [])) target := by
      intro target kt
      show Steps p.tables e below (T14.setTop (mkF m 47 #[.val (.int p1), .val (.int p2), .val (.int p3), .val (.int u1), .val (.int u3), .val (.int u5), .val (.ref v14_l6), .val (.int (((p3.toUInt32 >>> ((1 : Int32) &&& 31).toUInt32).toInt32) &&& (3 : Int32))), .unset, .unset, .unset] [])) _
      refine XS.iload X14.here hx rfl (hb hby at_47) rfl ?_
      exact kt
    by_cases hc17 : (((p3.toUInt32 >>> ((1 : Int32) &&& 31).toUInt32).toInt32) &&& (3 : Int32)) = (0 : Int32)
    · obtain ⟨T18, X18, e18, st18⟩ := getS2 X14 hx hZ hown (host := "") (Or.inl (hw _ (List.mem_of_getElem? (i := 35) rfl))) Via.refl e14 (S_CELL.ext O0.2) (g := (mkF m 52 #[.val (.int p1), .val (.int p2), .val (.int p3), .val (.int u1), .val (.int u3), .val (.int u5), .val (.ref v14_l6), .val (.int (((p3.toUInt32 >>> ((1 : Int32) &&& 31).toUInt32).toInt32) &&& (3 : Int32))), .unset, .unset, .unset] [])) rfl (hb hby at_52)
      have sg19 : ∀ target, Steps p.tables e below (T18.setTop (mkF m 93 #[.val (.int p1), .val (.int p2), .val (.int p3), .val (.int u1), .val (.int u3), .val (.int u5), .val (.ref v14_l6), .val (.int (((p3.toUInt32 >>> ((1 : Int32) &&& 31).toUInt32).toInt32) &&& (3 : Int32))), .val (.ref wC), .unset, .unset] [])) target → Steps p.tables e below (T14.setTop (mkF m 49 #[.val (.int p1), .val (.int p2), .val (.int p3), .val (.int u1), .val (.int u3), .val (.int u5), .val (.ref v14_l6), .val (.int (((p3.toUInt32 >>> ((1 : Int32) &&& 31).toUInt32).toInt32) &&& (3 : Int32))), .unset, .unset, .unset] [(.int (((p3.toUInt32 >>> ((1 : Int32) &&& 31).toUInt32).toInt32) &&& (3 : Int32)))])) target := by
        intro target kt
        show Steps p.tables e below (T14.setTop (mkF m 49 #[.val (.int p1), .val (.int p2), .val (.int p3), .val (.int u1), .val (.int u3), .val (.int u5), .val (.ref v14_l6), .val (.int (((p3.toUInt32 >>> ((1 : Int32) &&& 31).toUInt32).toInt32) &&& (3 : Int32))), .unset, .unset, .unset] [(.int (((p3.toUInt32 >>> ((1 : Int32) &&& 31).toUInt32).toInt32) &&& (3 : Int32)))])) _
        refine XS.ifNo X14.here hx rfl (hb hby at_49) rfl ((if0 _ _).trans (teq hc17).2) ?_
        show Steps p.tables e below (T14.setTop (mkF m 52 #[.val (.int p1), .val (.int p2), .val (.int p3), .val (.int u1), .val (.int u3), .val (.int u5), .val (.ref v14_l6), .val (.int (((p3.toUInt32 >>> ((1 : Int32) &&& 31).toUInt32).toInt32) &&& (3 : Int32))), .unset, .unset, .unset] [])) _
        refine st18 _ ?_
        show Steps p.tables e below (T18.setTop (mkF m 55 #[.val (.int p1), .val (.int p2), .val (.int p3), .val (.int u1), .val (.int u3), .val (.int u5), .val (.ref v14_l6), .val (.int (((p3.toUInt32 >>> ((1 : Int32) &&& 31).toUInt32).toInt32) &&& (3 : Int32))), .unset, .unset, .unset] [(.ref wC)])) _
        refine XS.astore X18.here hx rfl (hb hby at_55) rfl rfl (l' := #[.val (.int p1), .val (.int p2), .val (.int p3), .val (.int u1), .val (.int u3), .val (.int u5), .val (.ref v14_l6), .val (.int (((p3.toUInt32 >>> ((1 : Int32) &&& 31).toUInt32).toInt32) &&& (3 : Int32))), .val (.ref wC), .unset, .unset]) rfl ?_
        show Steps p.tables e below (T18.setTop (mkF m 57 #[.val (.int p1), .val (.int p2), .val (.int p3), .val (.int u1), .val (.int u3), .val (.int u5), .val (.ref v14_l6), .val (.int (((p3.toUInt32 >>> ((1 : Int32) &&& 31).toUInt32).toInt32) &&& (3 : Int32))), .val (.ref wC), .unset, .unset] [])) _
        refine XS.goto X18.here hx rfl (pc0 := 57) (pc' := 93) rfl (hb hby at_57) (by decide) (by decide) ?_
        exact kt
      exact ⟨T18, _, wC, X18.mono (by decide) (by decide), e18, N14, (by rw [if_pos hc17]), fun target kt => sg16 _ (sg19 _ (kt))⟩
    · have sg20 : ∀ target, Steps p.tables e below (T14.setTop (mkF m 63 #[.val (.int p1), .val (.int p2), .val (.int p3), .val (.int u1), .val (.int u3), .val (.int u5), .val (.ref v14_l6), .val (.int (((p3.toUInt32 >>> ((1 : Int32) &&& 31).toUInt32).toInt32) &&& (3 : Int32))), .unset, .unset, .unset] [(.int (1 : Int32)), (.int (((p3.toUInt32 >>> ((1 : Int32) &&& 31).toUInt32).toInt32) &&& (3 : Int32)))])) target → Steps p.tables e below (T14.setTop (mkF m 49 #[.val (.int p1), .val (.int p2), .val (.int p3), .val (.int u1), .val (.int u3), .val (.int u5), .val (.ref v14_l6), .val (.int (((p3.toUInt32 >>> ((1 : Int32) &&& 31).toUInt32).toInt32) &&& (3 : Int32))), .unset, .unset, .unset] [(.int (((p3.toUInt32 >>> ((1 : Int32) &&& 31).toUInt32).toInt32) &&& (3 : Int32)))])) target := by
        intro target kt
        show Steps p.tables e below (T14.setTop (mkF m 49 #[.val (.int p1), .val (.int p2), .val (.int p3), .val (.int u1), .val (.int u3), .val (.int u5), .val (.ref v14_l6), .val (.int (((p3.toUInt32 >>> ((1 : Int32) &&& 31).toUInt32).toInt32) &&& (3 : Int32))), .unset, .unset, .unset] [(.int (((p3.toUInt32 >>> ((1 : Int32) &&& 31).toUInt32).toInt32) &&& (3 : Int32)))])) _
        refine XS.ifYes X14.here hx rfl (pc0 := 49) (pc' := 60) rfl (hb hby at_49) rfl ((if0 _ _).trans (feq hc17).2) (by decide) (by decide) ?_
        show Steps p.tables e below (T14.setTop (mkF m 60 #[.val (.int p1), .val (.int p2), .val (.int p3), .val (.int u1), .val (.int u3), .val (.int u5), .val (.ref v14_l6), .val (.int (((p3.toUInt32 >>> ((1 : Int32) &&& 31).toUInt32).toInt32) &&& (3 : Int32))), .unset, .unset, .unset] [])) _
        refine XS.iload X14.here hx rfl (hb hby at_60) rfl ?_
        show Steps p.tables e below (T14.setTop (mkF m 62 #[.val (.int p1), .val (.int p2), .val (.int p3), .val (.int u1), .val (.int u3), .val (.int u5), .val (.ref v14_l6), .val (.int (((p3.toUInt32 >>> ((1 : Int32) &&& 31).toUInt32).toInt32) &&& (3 : Int32))), .unset, .unset, .unset] [(.int (((p3.toUInt32 >>> ((1 : Int32) &&& 31).toUInt32).toInt32) &&& (3 : Int32)))])) _
        refine XS.iconst X14.here hx rfl (hb hby at_62) ?_
        exact kt
      by_cases hc21 : (((p3.toUInt32 >>> ((1 : Int32) &&& 31).toUInt32).toInt32) &&& (3 : Int32)) = (1 : Int32)
      · obtain ⟨T22, X22, e22, st22⟩ := getS2 X14 hx hZ hown (host := "") (Or.inl (hw _ (List.mem_of_getElem? (i := 5) rfl))) Via.refl e14 (S_TABLE.ext O0.2) (g := (mkF m 66 #[.val (.int p1), .val (.int p2), .val (.int p3), .val (.int u1), .val (.int u3), .val (.int u5), .val (.ref v14_l6), .val (.int (((p3.toUInt32 >>> ((1 : Int32) &&& 31).toUInt32).toInt32) &&& (3 : Int32))), .unset, .unset, .unset] [])) rfl (hb hby at_66)
        have sg23 : ∀ target, Steps p.tables e below (T22.setTop (mkF m 93 #[.val (.int p1), .val (.int p2), .val (.int p3), .val (.int u1), .val (.int u3), .val (.int u5), .val (.ref v14_l6), .val (.int (((p3.toUInt32 >>> ((1 : Int32) &&& 31).toUInt32).toInt32) &&& (3 : Int32))), .val (.ref wT), .unset, .unset] [])) target → Steps p.tables e below (T14.setTop (mkF m 63 #[.val (.int p1), .val (.int p2), .val (.int p3), .val (.int u1), .val (.int u3), .val (.int u5), .val (.ref v14_l6), .val (.int (((p3.toUInt32 >>> ((1 : Int32) &&& 31).toUInt32).toInt32) &&& (3 : Int32))), .unset, .unset, .unset] [(.int (1 : Int32)), (.int (((p3.toUInt32 >>> ((1 : Int32) &&& 31).toUInt32).toInt32) &&& (3 : Int32)))])) target := by
          intro target kt
          show Steps p.tables e below (T14.setTop (mkF m 63 #[.val (.int p1), .val (.int p2), .val (.int p3), .val (.int u1), .val (.int u3), .val (.int u5), .val (.ref v14_l6), .val (.int (((p3.toUInt32 >>> ((1 : Int32) &&& 31).toUInt32).toInt32) &&& (3 : Int32))), .unset, .unset, .unset] [(.int (1 : Int32)), (.int (((p3.toUInt32 >>> ((1 : Int32) &&& 31).toUInt32).toInt32) &&& (3 : Int32)))])) _
          refine XS.icmpNo X14.here hx rfl (hb hby at_63) rfl (teq hc21).2 ?_
          show Steps p.tables e below (T14.setTop (mkF m 66 #[.val (.int p1), .val (.int p2), .val (.int p3), .val (.int u1), .val (.int u3), .val (.int u5), .val (.ref v14_l6), .val (.int (((p3.toUInt32 >>> ((1 : Int32) &&& 31).toUInt32).toInt32) &&& (3 : Int32))), .unset, .unset, .unset] [])) _
          refine st22 _ ?_
          show Steps p.tables e below (T22.setTop (mkF m 69 #[.val (.int p1), .val (.int p2), .val (.int p3), .val (.int u1), .val (.int u3), .val (.int u5), .val (.ref v14_l6), .val (.int (((p3.toUInt32 >>> ((1 : Int32) &&& 31).toUInt32).toInt32) &&& (3 : Int32))), .unset, .unset, .unset] [(.ref wT)])) _
          refine XS.astore X22.here hx rfl (hb hby at_69) rfl rfl (l' := #[.val (.int p1), .val (.int p2), .val (.int p3), .val (.int u1), .val (.int u3), .val (.int u5), .val (.ref v14_l6), .val (.int (((p3.toUInt32 >>> ((1 : Int32) &&& 31).toUInt32).toInt32) &&& (3 : Int32))), .val (.ref wT), .unset, .unset]) rfl ?_
          show Steps p.tables e below (T22.setTop (mkF m 71 #[.val (.int p1), .val (.int p2), .val (.int p3), .val (.int u1), .val (.int u3), .val (.int u5), .val (.ref v14_l6), .val (.int (((p3.toUInt32 >>> ((1 : Int32) &&& 31).toUInt32).toInt32) &&& (3 : Int32))), .val (.ref wT), .unset, .unset] [])) _
          refine XS.goto X22.here hx rfl (pc0 := 71) (pc' := 93) rfl (hb hby at_71) (by decide) (by decide) ?_
          exact kt
        exact ⟨T22, _, wT, X22.mono (by decide) (by decide), e22, N14, (by rw [if_neg hc17, if_pos hc21]), fun target kt => sg16 _ (sg20 _ (sg23 _ (kt)))⟩
      · have sg24 : ∀ target, Steps p.tables e below (T14.setTop (mkF m 77 #[.val (.int p1), .val (.int p2), .val (.int p3), .val (.int u1), .val (.int u3), .val (.int u5), .val (.ref v14_l6), .val (.int (((p3.toUInt32 >>> ((1 : Int32) &&& 31).toUInt32).toInt32) &&& (3 : Int32))), .unset, .unset, .unset] [(.int (2 : Int32)), (.int (((p3.toUInt32 >>> ((1 : Int32) &&& 31).toUInt32).toInt32) &&& (3 : Int32)))])) target → Steps p.tables e below (T14.setTop (mkF m 63 #[.val (.int p1), .val (.int p2), .val (.int p3), .val (.int u1), .val (.int u3), .val (.int u5), .val (.ref v14_l6), .val (.int (((p3.toUInt32 >>> ((1 : Int32) &&& 31).toUInt32).toInt32) &&& (3 : Int32))), .unset, .unset, .unset] [(.int (1 : Int32)), (.int (((p3.toUInt32 >>> ((1 : Int32) &&& 31).toUInt32).toInt32) &&& (3 : Int32)))])) target := by
          intro target kt
          show Steps p.tables e below (T14.setTop (mkF m 63 #[.val (.int p1), .val (.int p2), .val (.int p3), .val (.int u1), .val (.int u3), .val (.int u5), .val (.ref v14_l6), .val (.int (((p3.toUInt32 >>> ((1 : Int32) &&& 31).toUInt32).toInt32) &&& (3 : Int32))), .unset, .unset, .unset] [(.int (1 : Int32)), (.int (((p3.toUInt32 >>> ((1 : Int32) &&& 31).toUInt32).toInt32) &&& (3 : Int32)))])) _
          refine XS.icmpYes X14.here hx rfl (pc0 := 63) (pc' := 74) rfl (hb hby at_63) rfl (feq hc21).2 (by decide) (by decide) ?_
          show Steps p.tables e below (T14.setTop (mkF m 74 #[.val (.int p1), .val (.int p2), .val (.int p3), .val (.int u1), .val (.int u3), .val (.int u5), .val (.ref v14_l6), .val (.int (((p3.toUInt32 >>> ((1 : Int32) &&& 31).toUInt32).toInt32) &&& (3 : Int32))), .unset, .unset, .unset] [])) _
          refine XS.iload X14.here hx rfl (hb hby at_74) rfl ?_
          show Steps p.tables e below (T14.setTop (mkF m 76 #[.val (.int p1), .val (.int p2), .val (.int p3), .val (.int u1), .val (.int u3), .val (.int u5), .val (.ref v14_l6), .val (.int (((p3.toUInt32 >>> ((1 : Int32) &&& 31).toUInt32).toInt32) &&& (3 : Int32))), .unset, .unset, .unset] [(.int (((p3.toUInt32 >>> ((1 : Int32) &&& 31).toUInt32).toInt32) &&& (3 : Int32)))])) _
          refine XS.iconst X14.here hx rfl (hb hby at_76) ?_
          exact kt
        by_cases hc25 : (((p3.toUInt32 >>> ((1 : Int32) &&& 31).toUInt32).toInt32) &&& (3 : Int32)) = (2 : Int32)
        · obtain ⟨T26, X26, e26, st26⟩ := getS2 X14 hx hZ hown (host := "") (Or.inl (hw _ (List.mem_of_getElem? (i := 33) rfl))) Via.refl e14 (S_ROW.ext O0.2) (g := (mkF m 80 #[.val (.int p1), .val (.int p2), .val (.int p3), .val (.int u1), .val (.int u3), .val (.int u5), .val (.ref v14_l6), .val (.int (((p3.toUInt32 >>> ((1 : Int32) &&& 31).toUInt32).toInt32) &&& (3 : Int32))), .unset, .unset, .unset] [])) rfl (hb hby at_80)
          have sg27 : ∀ target, Steps p.tables e below (T26.setTop (mkF m 93 #[.val (.int p1), .val (.int p2), .val (.int p3), .val (.int u1), .val (.int u3), .val (.int u5), .val (.ref v14_l6), .val (.int (((p3.toUInt32 >>> ((1 : Int32) &&& 31).toUInt32).toInt32) &&& (3 : Int32))), .val (.ref wR), .unset, .unset] [])) target → Steps p.tables e below (T14.setTop (mkF m 77 #[.val (.int p1), .val (.int p2), .val (.int p3), .val (.int u1), .val (.int u3), .val (.int u5), .val (.ref v14_l6), .val (.int (((p3.toUInt32 >>> ((1 : Int32) &&& 31).toUInt32).toInt32) &&& (3 : Int32))), .unset, .unset, .unset] [(.int (2 : Int32)), (.int (((p3.toUInt32 >>> ((1 : Int32) &&& 31).toUInt32).toInt32) &&& (3 : Int32)))])) target := by
            intro target kt
            show Steps p.tables e below (T14.setTop (mkF m 77 #[.val (.int p1), .val (.int p2), .val (.int p3), .val (.int u1), .val (.int u3), .val (.int u5), .val (.ref v14_l6), .val (.int (((p3.toUInt32 >>> ((1 : Int32) &&& 31).toUInt32).toInt32) &&& (3 : Int32))), .unset, .unset, .unset] [(.int (2 : Int32)), (.int (((p3.toUInt32 >>> ((1 : Int32) &&& 31).toUInt32).toInt32) &&& (3 : Int32)))])) _
            refine XS.icmpNo X14.here hx rfl (hb hby at_77) rfl (teq hc25).2 ?_
            show Steps p.tables e below (T14.setTop (mkF m 80 #[.val (.int p1), .val (.int p2), .val (.int p3), .val (.int u1), .val (.int u3), .val (.int u5), .val (.ref v14_l6), .val (.int (((p3.toUInt32 >>> ((1 : Int32) &&& 31).toUInt32).toInt32) &&& (3 : Int32))), .unset, .unset, .unset] [])) _
            refine st26 _ ?_
            show Steps p.tables e below (T26.setTop (mkF m 83 #[.val (.int p1), .val (.int p2), .val (.int p3), .val (.int u1), .val (.int u3), .val (.int u5), .val (.ref v14_l6), .val (.int (((p3.toUInt32 >>> ((1 : Int32) &&& 31).toUInt32).toInt32) &&& (3 : Int32))), .unset, .unset, .unset] [(.ref wR)])) _
            refine XS.astore X26.here hx rfl (hb hby at_83) rfl rfl (l' := #[.val (.int p1), .val (.int p2), .val (.int p3), .val (.int u1), .val (.int u3), .val (.int u5), .val (.ref v14_l6), .val (.int (((p3.toUInt32 >>> ((1 : Int32) &&& 31).toUInt32).toInt32) &&& (3 : Int32))), .val (.ref wR), .unset, .unset]) rfl ?_
            show Steps p.tables e below (T26.setTop (mkF m 85 #[.val (.int p1), .val (.int p2), .val (.int p3), .val (.int u1), .val (.int u3), .val (.int u5), .val (.ref v14_l6), .val (.int (((p3.toUInt32 >>> ((1 : Int32) &&& 31).toUInt32).toInt32) &&& (3 : Int32))), .val (.ref wR), .unset, .unset] [])) _
            refine XS.goto X26.here hx rfl (pc0 := 85) (pc' := 93) rfl (hb hby at_85) (by decide) (by decide) ?_
            exact kt
          exact ⟨T26, _, wR, X26.mono (by decide) (by decide), e26, N14, (by rw [if_neg hc17, if_neg hc21, if_pos hc25]), fun target kt => sg16 _ (sg20 _ (sg24 _ (sg27 _ (kt))))⟩
        · obtain ⟨T28, X28, e28, st28⟩ := getS2 X14 hx hZ hown (host := "") (Or.inl (hw _ (List.mem_of_getElem? (i := 31) rfl))) Via.refl e14 (S_COLUMN.ext O0.2) (g := (mkF m 88 #[.val (.int p1), .val (.int p2), .val (.int p3), .val (.int u1), .val (.int u3), .val (.int u5), .val (.ref v14_l6), .val (.int (((p3.toUInt32 >>> ((1 : Int32) &&& 31).toUInt32).toInt32) &&& (3 : Int32))), .unset, .unset, .unset] [])) rfl (hb hby at_88)
          have sg29 : ∀ target, Steps p.tables e below (T28.setTop (mkF m 93 #[.val (.int p1), .val (.int p2), .val (.int p3), .val (.int u1), .val (.int u3), .val (.int u5), .val (.ref v14_l6), .val (.int (((p3.toUInt32 >>> ((1 : Int32) &&& 31).toUInt32).toInt32) &&& (3 : Int32))), .val (.ref wL), .unset, .unset] [])) target → Steps p.tables e below (T14.setTop (mkF m 77 #[.val (.int p1), .val (.int p2), .val (.int p3), .val (.int u1), .val (.int u3), .val (.int u5), .val (.ref v14_l6), .val (.int (((p3.toUInt32 >>> ((1 : Int32) &&& 31).toUInt32).toInt32) &&& (3 : Int32))), .unset, .unset, .unset] [(.int (2 : Int32)), (.int (((p3.toUInt32 >>> ((1 : Int32) &&& 31).toUInt32).toInt32) &&& (3 : Int32)))])) target := by
            intro target kt
            show Steps p.tables e below (T14.setTop (mkF m 77 #[.val (.int p1), .val (.int p2), .val (.int p3), .val (.int u1), .val (.int u3), .val (.int u5), .val (.ref v14_l6), .val (.int (((p3.toUInt32 >>> ((1 : Int32) &&& 31).toUInt32).toInt32) &&& (3 : Int32))), .unset, .unset, .unset] [(.int (2 : Int32)), (.int (((p3.toUInt32 >>> ((1 : Int32) &&& 31).toUInt32).toInt32) &&& (3 : Int32)))])) _
            refine XS.icmpYes X14.here hx rfl (pc0 := 77) (pc' := 88) rfl (hb hby at_77) rfl (feq hc25).2 (by decide) (by decide) ?_
            show Steps p.tables e below (T14.setTop (mkF m 88 #[.val (.int p1), .val (.int p2), .val (.int p3), .val (.int u1), .val (.int u3), .val (.int u5), .val (.ref v14_l6), .val (.int (((p3.toUInt32 >>> ((1 : Int32) &&& 31).toUInt32).toInt32) &&& (3 : Int32))), .unset, .unset, .unset] [])) _
            refine st28 _ ?_
            show Steps p.tables e below (T28.setTop (mkF m 91 #[.val (.int p1), .val (.int p2), .val (.int p3), .val (.int u1), .val (.int u3), .val (.int u5), .val (.ref v14_l6), .val (.int (((p3.toUInt32 >>> ((1 : Int32) &&& 31).toUInt32).toInt32) &&& (3 : Int32))), .unset, .unset, .unset] [(.ref wL)])) _
            refine XS.astore X28.here hx rfl (hb hby at_91) rfl rfl (l' := #[.val (.int p1), .val (.int p2), .val (.int p3), .val (.int u1), .val (.int u3), .val (.int u5), .val (.ref v14_l6), .val (.int (((p3.toUInt32 >>> ((1 : Int32) &&& 31).toUInt32).toInt32) &&& (3 : Int32))), .val (.ref wL), .unset, .unset]) rfl ?_
            exact kt
          exact ⟨T28, _, wL, X28.mono (by decide) (by decide), e28, N14, (by rw [if_neg hc17, if_neg hc21, if_neg hc25]), fun target kt => sg16 _ (sg20 _ (sg24 _ (sg29 _ (kt))))⟩
  obtain ⟨T31, h31, X31, e31, E31, A31, D31, -, st31⟩ := newO X30 hx hZ hown (hw _ (List.mem_of_getElem? (i := 8) rfl)) (hw _ (List.mem_of_getElem? (i := 9) rfl)) (hw _ (List.mem_of_getElem? (i := 10) rfl)) e30 (g := (mkF m 93 #[.val (.int p1), .val (.int p2), .val (.int p3), .val (.int u1), .val (.int u3), .val (.int u5), .val (.ref v14_l6), .val (.int (((p3.toUInt32 >>> ((1 : Int32) &&& 31).toUInt32).toInt32) &&& (3 : Int32))), .val (.ref v30_l8), .unset, .unset] [])) rfl (hb hby at_93) (by decide) (by decide)
  obtain ⟨b31, g31⟩ : ∃ z, z = h0.size := ⟨_, rfl⟩
  rw [← g31] at A31 D31 st31
  have ge_b31 : n0 ≤ b31 := Nat.le_trans (own_osz O0) (Nat.le_of_eq g31.symm)
  have sz_b31 : h0.size ≤ b31 := Nat.le_trans K0.1 (Nat.le_of_eq g31.symm)
  have O32 := O0.ext E31
  have K31 := K0.ext E31
  have F_manner_b31 : Fld Z h31 b31 "com/example/breakline/breakline/Dgls" "manner" "Lcom/example/breakline/breakline/Manner;" .null := D31 (Or.inr (hw _ (List.mem_of_getElem? (i := 19) rfl))) (ty := (.object "com/example/breakline/breakline/Manner")) (by decide)
  have F_gamma_b31 : Fld Z h31 b31 "com/example/breakline/breakline/Dgls" "gamma" "D" (.double (0 : UInt64)) := D31 (Or.inr (hw _ (List.mem_of_getElem? (i := 21) rfl))) (ty := .double) (by decide)
  have F_scope_b31 : Fld Z h31 b31 "com/example/breakline/breakline/Dgls" "scope" "Lcom/example/breakline/breakline/Dgls$Scope;" .null := D31 (Or.inr (hw _ (List.mem_of_getElem? (i := 23) rfl))) (ty := (.object "com/example/breakline/breakline/Dgls$Scope")) (by decide)
  obtain ⟨_, _, ⟨T33, L33, k33, n33⟩, -, X33, ⟨Lc33, hQ33, l33, y33, z33⟩, st33⟩ := X31.specialBack hx (y := (⟨"com/example/breakline/breakline/Dgls", "<init>", "(Lcom/example/breakline/breakline/Manner;DLcom/example/breakline/breakline/Dgls$Scope;)V"⟩ : MethodName)) rfl hown (mvT hZ (hw _ (List.mem_of_getElem? (i := 12) rfl))) (mvT hZ (hw _ (List.mem_of_getElem? (i := 13) rfl))) (mvT hZ (hw _ (List.mem_of_getElem? (i := 14) rfl))) (by decide) (backOf (W := 1) (rm1 l Z a0 hw [] b31 v14_l6 (4602678819172646912 : UInt64) v30_l8 h31 n0 O32 A31 F_manner_b31 F_gamma_b31 F_scope_b31 ge_b31) hZ (hw _ (List.mem_of_getElem? (i := 14) rfl)) (hw _ (List.mem_of_getElem? (i := 10) rfl)) (by decide) (by decide)) (g := (mkF m 104 #[.val (.int p1), .val (.int p2), .val (.int p3), .val (.int u1), .val (.int u3), .val (.int u5), .val (.ref v14_l6), .val (.int (((p3.toUInt32 >>> ((1 : Int32) &&& 31).toUInt32).toInt32) &&& (3 : Int32))), .val (.ref v30_l8), .unset, .unset] [(.ref v30_l8), (.double (4602678819172646912 : UInt64)), (.ref v14_l6), (.ref b31), (.ref b31)])) rfl (by rw [hml]; rfl) (Steps.refl _) (a := b31) (argsL := [(.ref v14_l6), (.double (4602678819172646912 : UInt64)), (.ref v30_l8)]) (rest := [(.ref b31)]) (lenOf pd_0 rfl) rfl (by show 2 * 0 + _ ≤ _; exact Nat.le_of_eq rfl) (hb hby at_104) (fun _ _ => ⟨rfl, e31, (by decide : 1 + 0 ≤ _), (by decide : 3 + 0 ≤ _)⟩)
  dsimp only [Pt.U, Pt.locs, Pt.cells, Pt.slots] at X33 l33 y33 z33 st33 hQ33
  subst l33 y33 z33
  obtain ⟨rfl, N33q, K33q, O33⟩ := hQ33
  have N33 := Fr.app N30 N33q
  have K33 := K31.trans K33q (allS (Or.inr sz_b31) all0)
  have sg34 : ∀ target, Steps p.tables e below (T33.setTop (mkF m 109 #[.val (.int p1), .val (.int p2), .val (.int p3), .val (.int u1), .val (.int u3), .val (.int u5), .val (.ref v14_l6), .val (.int (((p3.toUInt32 >>> ((1 : Int32) &&& 31).toUInt32).toInt32) &&& (3 : Int32))), .val (.ref v30_l8), .val (.ref b31), .unset] [])) target → Steps p.tables e below (T30.setTop (mkF m 93 #[.val (.int p1), .val (.int p2), .val (.int p3), .val (.int u1), .val (.int u3), .val (.int u5), .val (.ref v14_l6), .val (.int (((p3.toUInt32 >>> ((1 : Int32) &&& 31).toUInt32).toInt32) &&& (3 : Int32))), .val (.ref v30_l8), .unset, .unset] [])) target := by
    intro target kt
    show Steps p.tables e below (T30.setTop (mkF m 93 #[.val (.int p1), .val (.int p2), .val (.int p3), .val (.int u1), .val (.int u3), .val (.int u5), .val (.ref v14_l6), .val (.int (((p3.toUInt32 >>> ((1 : Int32) &&& 31).toUInt32).toInt32) &&& (3 : Int32))), .val (.ref v30_l8), .unset, .unset] [])) _
    refine st31 _ ?_
    show Steps p.tables e below (T31.setTop (mkF m 96 #[.val (.int p1), .val (.int p2), .val (.int p3), .val (.int u1), .val (.int u3), .val (.int u5), .val (.ref v14_l6), .val (.int (((p3.toUInt32 >>> ((1 : Int32) &&& 31).toUInt32).toInt32) &&& (3 : Int32))), .val (.ref v30_l8), .unset, .unset] [(.ref b31)])) _
    refine XS.dup X31.here hx rfl (hb hby at_96) rfl rfl ?_
    show Steps p.tables e below (T31.setTop (mkF m 97 #[.val (.int p1), .val (.int p2), .val (.int p3), .val (.int u1), .val (.int u3), .val (.int u5), .val (.ref v14_l6), .val (.int (((p3.toUInt32 >>> ((1 : Int32) &&& 31).toUInt32).toInt32) &&& (3 : Int32))), .val (.ref v30_l8), .unset, .unset] [(.ref b31), (.ref b31)])) _
    refine XS.aload X31.here hx rfl (hb hby at_97) rfl rfl ?_
    show Steps p.tables e below (T31.setTop (mkF m 99 #[.val (.int p1), .val (.int p2), .val (.int p3), .val (.int u1), .val (.int u3), .val (.int u5), .val (.ref v14_l6), .val (.int (((p3.toUInt32 >>> ((1 : Int32) &&& 31).toUInt32).toInt32) &&& (3 : Int32))), .val (.ref v30_l8), .unset, .unset] [(.ref v14_l6), (.ref b31), (.ref b31)])) _
    refine X31.ldc2DoubleC hx hown (mvT hZ (hw _ (List.mem_of_getElem? (i := 11) rfl))) (g := (mkF m 99 #[.val (.int p1), .val (.int p2), .val (.int p3), .val (.int u1), .val (.int u3), .val (.int u5), .val (.ref v14_l6), .val (.int (((p3.toUInt32 >>> ((1 : Int32) &&& 31).toUInt32).toInt32) &&& (3 : Int32))), .val (.ref v30_l8), .unset, .unset] [(.ref v14_l6), (.ref b31), (.ref b31)])) rfl (hb hby at_99) _ ?_
    show Steps p.tables e below (T31.setTop (mkF m 102 #[.val (.int p1), .val (.int p2), .val (.int p3), .val (.int u1), .val (.int u3), .val (.int u5), .val (.ref v14_l6), .val (.int (((p3.toUInt32 >>> ((1 : Int32) &&& 31).toUInt32).toInt32) &&& (3 : Int32))), .val (.ref v30_l8), .unset, .unset] [(.double (4602678819172646912 : UInt64)), (.ref v14_l6), (.ref b31), (.ref b31)])) _
    refine XS.aload X31.here hx rfl (hb hby at_102) rfl rfl ?_
    show Steps p.tables e below (T31.setTop (mkF m 104 #[.val (.int p1), .val (.int p2), .val (.int p3), .val (.int u1), .val (.int u3), .val (.int u5), .val (.ref v14_l6), .val (.int (((p3.toUInt32 >>> ((1 : Int32) &&& 31).toUInt32).toInt32) &&& (3 : Int32))), .val (.ref v30_l8), .unset, .unset] [(.ref v30_l8), (.double (4602678819172646912 : UInt64)), (.ref v14_l6), (.ref b31), (.ref b31)])) _
    refine st33.trans ?_
    show Steps p.tables e below (T33.setTop (mkF m 107 #[.val (.int p1), .val (.int p2), .val (.int p3), .val (.int u1), .val (.int u3), .val (.int u5), .val (.ref v14_l6), .val (.int (((p3.toUInt32 >>> ((1 : Int32) &&& 31).toUInt32).toInt32) &&& (3 : Int32))), .val (.ref v30_l8), .unset, .unset] [(.ref b31)])) _
    refine XS.astore X33.here hx rfl (hb hby at_107) rfl rfl (l' := #[.val (.int p1), .val (.int p2), .val (.int p3), .val (.int u1), .val (.int u3), .val (.int u5), .val (.ref v14_l6), .val (.int (((p3.toUInt32 >>> ((1 : Int32) &&& 31).toUInt32).toInt32) &&& (3 : Int32))), .val (.ref v30_l8), .val (.ref b31), .unset]) rfl ?_
    exact kt
  obtain ⟨T39, L39, v39_t0, X39, e39, N39, hv39_t0, sg39⟩ : ∃ (T' : State) (L' : List Loc) (v39_t0 : Int32), Stand p l e room_1 s m #[(.int p1), (.int p2), (.int p3)] below meth c T' L' 1 3 ∧ T'.heap = T33.heap ∧ Fr n0 L' ∧ v39_t0 = (if u3 = (2 : Int32) then (0 : Int32) else (1 : Int32)) ∧ ∀ target, Steps p.tables e below (T'.setTop (mkF m 120 #[.val (.int p1), .val (.int p2), .val (.int p3), .val (.int u1), .val (.int u3), .val (.int u5), .val (.ref v14_l6), .val (.int (((p3.toUInt32 >>> ((1 : Int32) &&& 31).toUInt32).toInt32) &&& (3 : Int32))), .val (.ref v30_l8), .val (.ref b31), .unset] [(.int v39_t0)])) target → Steps p.tables e below (T33.setTop (mkF m 109 #[.val (.int p1), .val (.int p2), .val (.int p3), .val (.int u1), .val (.int u3), .val (.int u5), .val (.ref v14_l6), .val (.int (((p3.toUInt32 >>> ((1 : Int32) &&& 31).toUInt32).toInt32) &&& (3 : Int32))), .val (.ref v30_l8), .val (.ref b31), .unset] [])) target := by
    have sg35 : ∀ target, Steps p.tables e below (T33.setTop (mkF m 112 #[.val (.int p1), .val (.int p2), .val (.int p3), .val (.int u1), .val (.int u3), .val (.int u5), .val (.ref v14_l6), .val (.int (((p3.toUInt32 >>> ((1 : Int32) &&& 31).toUInt32).toInt32) &&& (3 : Int32))), .val (.ref v30_l8), .val (.ref b31), .unset] [(.int (2 : Int32)), (.int u3)])) target → Steps p.tables e below (T33.setTop (mkF m 109 #[.val (.int p1), .val (.int p2), .val (.int p3), .val (.int u1), .val (.int u3), .val (.int u5), .val (.ref v14_l6), .val (.int (((p3.toUInt32 >>> ((1 : Int32) &&& 31).toUInt32).toInt32) &&& (3 : Int32))), .val (.ref v30_l8), .val (.ref b31), .unset] [])) target := by
      intro target kt
      show Steps p.tables e below (T33.setTop (mkF m 109 #[.val (.int p1), .val (.int p2), .val (.int p3), .val (.int u1), .val (.int u3), .val (.int u5), .val (.ref v14_l6), .val (.int (((p3.toUInt32 >>> ((1 : Int32) &&& 31).toUInt32).toInt32) &&& (3 : Int32))), .val (.ref v30_l8), .val (.ref b31), .unset] [])) _
      refine XS.iload X33.here hx rfl (hb hby at_109) rfl ?_
      show Steps p.tables e below (T33.setTop (mkF m 111 #[.val (.int p1), .val (.int p2), .val (.int p3), .val (.int u1), .val (.int u3), .val (.int u5), .val (.ref v14_l6), .val (.int (((p3.toUInt32 >>> ((1 : Int32) &&& 31).toUInt32).toInt32) &&& (3 : Int32))), .val (.ref v30_l8), .val (.ref b31), .unset] [(.int u3)])) _
      refine XS.iconst X33.here hx rfl (hb hby at_111) ?_
      exact kt
    by_cases hc36 : u3 = (2 : Int32)
    · have sg37 : ∀ target, Steps p.tables e below (T33.setTop (mkF m 120 #[.val (.int p1), .val (.int p2), .val (.int p3), .val (.int u1), .val (.int u3), .val (.int u5), .val (.ref v14_l6), .val (.int (((p3.toUInt32 >>> ((1 : Int32) &&& 31).toUInt32).toInt32) &&& (3 : Int32))), .val (.ref v30_l8), .val (.ref b31), .unset] [(.int (0 : Int32))])) target → Steps p.tables e below (T33.setTop (mkF m 112 #[.val (.int p1), .val (.int p2), .val (.int p3), .val (.int u1), .val (.int u3), .val (.int u5), .val (.ref v14_l6), .val (.int (((p3.toUInt32 >>> ((1 : Int32) &&& 31).toUInt32).toInt32) &&& (3 : Int32))), .val (.ref v30_l8), .val (.ref b31), .unset] [(.int (2 : Int32)), (.int u3)])) target := by
        intro target kt
        show Steps p.tables e below (T33.setTop (mkF m 112 #[.val (.int p1), .val (.int p2), .val (.int p3), .val (.int u1), .val (.int u3), .val (.int u5), .val (.ref v14_l6), .val (.int (((p3.toUInt32 >>> ((1 : Int32) &&& 31).toUInt32).toInt32) &&& (3 : Int32))), .val (.ref v30_l8), .val (.ref b31), .unset] [(.int (2 : Int32)), (.int u3)])) _
        refine XS.icmpYes X33.here hx rfl (pc0 := 112) (pc' := 119) rfl (hb hby at_112) rfl (teq hc36).1 (by decide) (by decide) ?_
        show Steps p.tables e below (T33.setTop (mkF m 119 #[.val (.int p1), .val (.int p2), .val (.int p3), .val (.int u1), .val (.int u3), .val (.int u5), .val (.ref v14_l6), .val (.int (((p3.toUInt32 >>> ((1 : Int32) &&& 31).toUInt32).toInt32) &&& (3 : Int32))), .val (.ref v30_l8), .val (.ref b31), .unset] [])) _
        refine XS.iconst X33.here hx rfl (hb hby at_119) ?_
        exact kt
      exact ⟨T33, _, (0 : Int32), X33.mono (by decide) (by decide), rfl, N33, (by rw [if_pos hc36]), fun target kt => sg35 _ (sg37 _ (kt))⟩
    · have sg38 : ∀ target, Steps p.tables e below (T33.setTop (mkF m 120 #[.val (.int p1), .val (.int p2), .val (.int p3), .val (.int u1), .val (.int u3), .val (.int u5), .val (.ref v14_l6), .val (.int (((p3.toUInt32 >>> ((1 : Int32) &&& 31).toUInt32).toInt32) &&& (3 : Int32))), .val (.ref v30_l8), .val (.ref b31), .unset] [(.int (1 : Int32))])) target → Steps p.tables e below (T33.setTop (mkF m 112 #[.val (.int p1), .val (.int p2), .val (.int p3), .val (.int u1), .val (.int u3), .val (.int u5), .val (.ref v14_l6), .val (.int (((p3.toUInt32 >>> ((1 : Int32) &&& 31).toUInt32).toInt32) &&& (3 : Int32))), .val (.ref v30_l8), .val (.ref b31), .unset] [(.int (2 : Int32)), (.int u3)])) target := by
        intro target kt
        show Steps p.tables e below (T33.setTop (mkF m 112 #[.val (.int p1), .val (.int p2), .val (.int p3), .val (.int u1), .val (.int u3), .val (.int u5), .val (.ref v14_l6), .val (.int (((p3.toUInt32 >>> ((1 : Int32) &&& 31).toUInt32).toInt32) &&& (3 : Int32))), .val (.ref v30_l8), .val (.ref b31), .unset] [(.int (2 : Int32)), (.int u3)])) _
        refine XS.icmpNo X33.here hx rfl (hb hby at_112) rfl (feq hc36).1 ?_
        show Steps p.tables e below (T33.setTop (mkF m 115 #[.val (.int p1), .val (.int p2), .val (.int p3), .val (.int u1), .val (.int u3), .val (.int u5), .val (.ref v14_l6), .val (.int (((p3.toUInt32 >>> ((1 : Int32) &&& 31).toUInt32).toInt32) &&& (3 : Int32))), .val (.ref v30_l8), .val (.ref b31), .unset] [])) _
        refine XS.iconst X33.here hx rfl (hb hby at_115) ?_
        show Steps p.tables e below (T33.setTop (mkF m 116 #[.val (.int p1), .val (.int p2), .val (.int p3), .val (.int u1), .val (.int u3), .val (.int u5), .val (.ref v14_l6), .val (.int (((p3.toUInt32 >>> ((1 : Int32) &&& 31).toUInt32).toInt32) &&& (3 : Int32))), .val (.ref v30_l8), .val (.ref b31), .unset] [(.int (1 : Int32))])) _
        refine XS.goto X33.here hx rfl (pc0 := 116) (pc' := 120) rfl (hb hby at_116) (by decide) (by decide) ?_
        exact kt
      exact ⟨T33, _, (1 : Int32), X33.mono (by decide) (by decide), rfl, N33, (by rw [if_neg hc36]), fun target kt => sg35 _ (sg38 _ (kt))⟩
  obtain ⟨cq40, kq40, q40a, q40b, q40c⟩ := isOf hZ e39 (A31.keep K33q)
  obtain ⟨_, _, ⟨T40, L40, k40, n40⟩, -, X40, ⟨Lc40, hQ40, l40, y40, z40⟩, st40⟩ := X39.virtualBack hx (y := (⟨"com/example/breakline/breakline/Dgls", "messagesEveryNeighbourIn", "(I)Z"⟩ : MethodName)) (z := (⟨"com/example/breakline/breakline/Dgls", "messagesEveryNeighbourIn", "(I)Z"⟩ : MethodName)) hown (mvT hZ (hw _ (List.mem_of_getElem? (i := 24) rfl))) (mvT hZ (hw _ (List.mem_of_getElem? (i := 25) rfl))) (notFace_of_selects (args := #[]) (mvT hZ (hw _ (List.mem_of_getElem? (i := 27) rfl)))) (mvT hZ (hw _ (List.mem_of_getElem? (i := 27) rfl))) (mvT hZ (hw _ (List.mem_of_getElem? (i := 26) rfl))) (by decide) (backOf (W := 0) (rm3 l Z a0 hw [] b31 u5 T33.heap n0 O33 ) hZ (hw _ (List.mem_of_getElem? (i := 28) rfl)) (hw _ (List.mem_of_getElem? (i := 10) rfl)) (by decide) (by decide)) q40a q40c (g := (mkF m 126 #[.val (.int p1), .val (.int p2), .val (.int p3), .val (.int u1), .val (.int u3), .val (.int u5), .val (.ref v14_l6), .val (.int (((p3.toUInt32 >>> ((1 : Int32) &&& 31).toUInt32).toInt32) &&& (3 : Int32))), .val (.ref v30_l8), .val (.ref b31), .val (.int v39_t0)] [(.int u5), (.ref b31)])) rfl (by rw [hml]; rfl) (Steps.refl _) (argsL := [(.int u5)]) (rest := []) (lenOf pd_1 rfl) rfl (by show 2 * 0 + _ ≤ _; exact Nat.le_of_eq rfl) (hb hby at_126) (fun _ _ => ⟨rfl, e39, (by decide : 1 + 0 ≤ _), (by decide : 3 + 0 ≤ _)⟩)
  dsimp only [Pt.U, Pt.locs, Pt.cells, Pt.slots] at X40 l40 y40 z40 st40 hQ40
  subst l40 y40 z40
  obtain ⟨rfl, N40q, e40⟩ := hQ40
  have N40 := Fr.app N39 N40q
  obtain ⟨r40, hr40⟩ : ∃ z, z = (if (u5 % (3 : Int32)) = (2 : Int32) then (0 : Int32) else (1 : Int32)) := ⟨_, rfl⟩
  rw [← hr40] at st40
  have sg41 : ∀ target, Steps p.tables e below (T40.setTop (mkF m 129 #[.val (.int p1), .val (.int p2), .val (.int p3), .val (.int u1), .val (.int u3), .val (.int u5), .val (.ref v14_l6), .val (.int (((p3.toUInt32 >>> ((1 : Int32) &&& 31).toUInt32).toInt32) &&& (3 : Int32))), .val (.ref v30_l8), .val (.ref b31), .val (.int v39_t0)] [(.int r40)])) target → Steps p.tables e below (T39.setTop (mkF m 120 #[.val (.int p1), .val (.int p2), .val (.int p3), .val (.int u1), .val (.int u3), .val (.int u5), .val (.ref v14_l6), .val (.int (((p3.toUInt32 >>> ((1 : Int32) &&& 31).toUInt32).toInt32) &&& (3 : Int32))), .val (.ref v30_l8), .val (.ref b31), .unset] [(.int v39_t0)])) target := by
    intro target kt
    show Steps p.tables e below (T39.setTop (mkF m 120 #[.val (.int p1), .val (.int p2), .val (.int p3), .val (.int u1), .val (.int u3), .val (.int u5), .val (.ref v14_l6), .val (.int (((p3.toUInt32 >>> ((1 : Int32) &&& 31).toUInt32).toInt32) &&& (3 : Int32))), .val (.ref v30_l8), .val (.ref b31), .unset] [(.int v39_t0)])) _
    refine XS.istore X39.here hx rfl (hb hby at_120) rfl (l' := #[.val (.int p1), .val (.int p2), .val (.int p3), .val (.int u1), .val (.int u3), .val (.int u5), .val (.ref v14_l6), .val (.int (((p3.toUInt32 >>> ((1 : Int32) &&& 31).toUInt32).toInt32) &&& (3 : Int32))), .val (.ref v30_l8), .val (.ref b31), .val (.int v39_t0)]) rfl ?_
    show Steps p.tables e below (T39.setTop (mkF m 122 #[.val (.int p1), .val (.int p2), .val (.int p3), .val (.int u1), .val (.int u3), .val (.int u5), .val (.ref v14_l6), .val (.int (((p3.toUInt32 >>> ((1 : Int32) &&& 31).toUInt32).toInt32) &&& (3 : Int32))), .val (.ref v30_l8), .val (.ref b31), .val (.int v39_t0)] [])) _
    refine XS.aload X39.here hx rfl (hb hby at_122) rfl rfl ?_
    show Steps p.tables e below (T39.setTop (mkF m 124 #[.val (.int p1), .val (.int p2), .val (.int p3), .val (.int u1), .val (.int u3), .val (.int u5), .val (.ref v14_l6), .val (.int (((p3.toUInt32 >>> ((1 : Int32) &&& 31).toUInt32).toInt32) &&& (3 : Int32))), .val (.ref v30_l8), .val (.ref b31), .val (.int v39_t0)] [(.ref b31)])) _
    refine XS.iload X39.here hx rfl (hb hby at_124) rfl ?_
    show Steps p.tables e below (T39.setTop (mkF m 126 #[.val (.int p1), .val (.int p2), .val (.int p3), .val (.int u1), .val (.int u3), .val (.int u5), .val (.ref v14_l6), .val (.int (((p3.toUInt32 >>> ((1 : Int32) &&& 31).toUInt32).toInt32) &&& (3 : Int32))), .val (.ref v30_l8), .val (.ref b31), .val (.int v39_t0)] [(.int u5), (.ref b31)])) _
    refine st40.trans ?_
    exact kt
  obtain ⟨T46, L46, v46_t0, X46, e46, N46, hv46_t0, sg46⟩ : ∃ (T' : State) (L' : List Loc) (v46_t0 : Int32), Stand p l e room_1 s m #[(.int p1), (.int p2), (.int p3)] below meth c T' L' 1 3 ∧ T'.heap = T33.heap ∧ Fr n0 L' ∧ v46_t0 = (if r40 = v39_t0 then (1 : Int32) else (0 : Int32)) ∧ ∀ target, Steps p.tables e below (T'.setTop (mkF m 139 #[.val (.int p1), .val (.int p2), .val (.int p3), .val (.int u1), .val (.int u3), .val (.int u5), .val (.ref v14_l6), .val (.int (((p3.toUInt32 >>> ((1 : Int32) &&& 31).toUInt32).toInt32) &&& (3 : Int32))), .val (.ref v30_l8), .val (.ref b31), .val (.int v39_t0)] [(.int v46_t0)])) target → Steps p.tables e below (T40.setTop (mkF m 129 #[.val (.int p1), .val (.int p2), .val (.int p3), .val (.int u1), .val (.int u3), .val (.int u5), .val (.ref v14_l6), .val (.int (((p3.toUInt32 >>> ((1 : Int32) &&& 31).toUInt32).toInt32) &&& (3 : Int32))), .val (.ref v30_l8), .val (.ref b31), .val (.int v39_t0)] [(.int r40)])) target := by
    have sg42 : ∀ target, Steps p.tables e below (T40.setTop (mkF m 131 #[.val (.int p1), .val (.int p2), .val (.int p3), .val (.int u1), .val (.int u3), .val (.int u5), .val (.ref v14_l6), .val (.int (((p3.toUInt32 >>> ((1 : Int32) &&& 31).toUInt32).toInt32) &&& (3 : Int32))), .val (.ref v30_l8), .val (.ref b31), .val (.int v39_t0)] [(.int v39_t0), (.int r40)])) target → Steps p.tables e below (T40.setTop (mkF m 129 #[.val (.int p1), .val (.int p2), .val (.int p3), .val (.int u1), .val (.int u3), .val (.int u5), .val (.ref v14_l6), .val (.int (((p3.toUInt32 >>> ((1 : Int32) &&& 31).toUInt32).toInt32) &&& (3 : Int32))), .val (.ref v30_l8), .val (.ref b31), .val (.int v39_t0)] [(.int r40)])) target := by
      intro target kt
      show Steps p.tables e below (T40.setTop (mkF m 129 #[.val (.int p1), .val (.int p2), .val (.int p3), .val (.int u1), .val (.int u3), .val (.int u5), .val (.ref v14_l6), .val (.int (((p3.toUInt32 >>> ((1 : Int32) &&& 31).toUInt32).toInt32) &&& (3 : Int32))), .val (.ref v30_l8), .val (.ref b31), .val (.int v39_t0)] [(.int r40)])) _
      refine XS.iload X40.here hx rfl (hb hby at_129) rfl ?_
      exact kt
    by_cases hc43 : r40 = v39_t0
    · have sg44 : ∀ target, Steps p.tables e below (T40.setTop (mkF m 139 #[.val (.int p1), .val (.int p2), .val (.int p3), .val (.int u1), .val (.int u3), .val (.int u5), .val (.ref v14_l6), .val (.int (((p3.toUInt32 >>> ((1 : Int32) &&& 31).toUInt32).toInt32) &&& (3 : Int32))), .val (.ref v30_l8), .val (.ref b31), .val (.int v39_t0)] [(.int (1 : Int32))])) target → Steps p.tables e below (T40.setTop (mkF m 131 #[.val (.int p1), .val (.int p2), .val (.int p3), .val (.int u1), .val (.int u3), .val (.int u5), .val (.ref v14_l6), .val (.int (((p3.toUInt32 >>> ((1 : Int32) &&& 31).toUInt32).toInt32) &&& (3 : Int32))), .val (.ref v30_l8), .val (.ref b31), .val (.int v39_t0)] [(.int v39_t0), (.int r40)])) target := by
        intro target kt
        show Steps p.tables e below (T40.setTop (mkF m 131 #[.val (.int p1), .val (.int p2), .val (.int p3), .val (.int u1), .val (.int u3), .val (.int u5), .val (.ref v14_l6), .val (.int (((p3.toUInt32 >>> ((1 : Int32) &&& 31).toUInt32).toInt32) &&& (3 : Int32))), .val (.ref v30_l8), .val (.ref b31), .val (.int v39_t0)] [(.int v39_t0), (.int r40)])) _
        refine XS.icmpNo X40.here hx rfl (hb hby at_131) rfl (teq hc43).2 ?_
        show Steps p.tables e below (T40.setTop (mkF m 134 #[.val (.int p1), .val (.int p2), .val (.int p3), .val (.int u1), .val (.int u3), .val (.int u5), .val (.ref v14_l6), .val (.int (((p3.toUInt32 >>> ((1 : Int32) &&& 31).toUInt32).toInt32) &&& (3 : Int32))), .val (.ref v30_l8), .val (.ref b31), .val (.int v39_t0)] [])) _
        refine XS.iconst X40.here hx rfl (hb hby at_134) ?_
        show Steps p.tables e below (T40.setTop (mkF m 135 #[.val (.int p1), .val (.int p2), .val (.int p3), .val (.int u1), .val (.int u3), .val (.int u5), .val (.ref v14_l6), .val (.int (((p3.toUInt32 >>> ((1 : Int32) &&& 31).toUInt32).toInt32) &&& (3 : Int32))), .val (.ref v30_l8), .val (.ref b31), .val (.int v39_t0)] [(.int (1 : Int32))])) _
        refine XS.goto X40.here hx rfl (pc0 := 135) (pc' := 139) rfl (hb hby at_135) (by decide) (by decide) ?_
        exact kt
      exact ⟨T40, _, (1 : Int32), X40.mono (by decide) (by decide), e40, N40, (by rw [if_pos hc43]), fun target kt => sg42 _ (sg44 _ (kt))⟩
    · have sg45 : ∀ target, Steps p.tables e below (T40.setTop (mkF m 139 #[.val (.int p1), .val (.int p2), .val (.int p3), .val (.int u1), .val (.int u3), .val (.int u5), .val (.ref v14_l6), .val (.int (((p3.toUInt32 >>> ((1 : Int32) &&& 31).toUInt32).toInt32) &&& (3 : Int32))), .val (.ref v30_l8), .val (.ref b31), .val (.int v39_t0)] [(.int (0 : Int32))])) target → Steps p.tables e below (T40.setTop (mkF m 131 #[.val (.int p1), .val (.int p2), .val (.int p3), .val (.int u1), .val (.int u3), .val (.int u5), .val (.ref v14_l6), .val (.int (((p3.toUInt32 >>> ((1 : Int32) &&& 31).toUInt32).toInt32) &&& (3 : Int32))), .val (.ref v30_l8), .val (.ref b31), .val (.int v39_t0)] [(.int v39_t0), (.int r40)])) target := by
        intro target kt
        show Steps p.tables e below (T40.setTop (mkF m 131 #[.val (.int p1), .val (.int p2), .val (.int p3), .val (.int u1), .val (.int u3), .val (.int u5), .val (.ref v14_l6), .val (.int (((p3.toUInt32 >>> ((1 : Int32) &&& 31).toUInt32).toInt32) &&& (3 : Int32))), .val (.ref v30_l8), .val (.ref b31), .val (.int v39_t0)] [(.int v39_t0), (.int r40)])) _
        refine XS.icmpYes X40.here hx rfl (pc0 := 131) (pc' := 138) rfl (hb hby at_131) rfl (feq hc43).2 (by decide) (by decide) ?_
        show Steps p.tables e below (T40.setTop (mkF m 138 #[.val (.int p1), .val (.int p2), .val (.int p3), .val (.int u1), .val (.int u3), .val (.int u5), .val (.ref v14_l6), .val (.int (((p3.toUInt32 >>> ((1 : Int32) &&& 31).toUInt32).toInt32) &&& (3 : Int32))), .val (.ref v30_l8), .val (.ref b31), .val (.int v39_t0)] [])) _
        refine XS.iconst X40.here hx rfl (hb hby at_138) ?_
        exact kt
      exact ⟨T40, _, (0 : Int32), X40.mono (by decide) (by decide), e40, N40, (by rw [if_neg hc43]), fun target kt => sg42 _ (sg45 _ (kt))⟩
  have hfin : v46_t0 = 1 := own_plain hu1 hu3 hu5 hv39_t0 hr40 hv46_t0
  subst hfin
  obtain ⟨fs, hr, hrun, hended, hW, hsame⟩ := X46.leave (v := some (.int (1 : Int32))) (fun h => by rw [Bd.returns] at h; cases h)
  refine ⟨_, _, pre0 _ (sg2 _ (sg4 _ (sg6 _ (sg8 _ (sg14 _ (sg15 _ (sg30 _ (sg34 _ (sg39 _ (sg41 _ (sg46 _ (?_)))))))))))), hrun, hended, _, _, rfl, ?_, ⟨_, rfl⟩, hW, hsame.mono (by decide) (by decide)⟩
  · show Steps p.tables e below (T46.setTop (mkF m 139 #[.val (.int p1), .val (.int p2), .val (.int p3), .val (.int u1), .val (.int u3), .val (.int u5), .val (.ref v14_l6), .val (.int (((p3.toUInt32 >>> ((1 : Int32) &&& 31).toUInt32).toInt32) &&& (3 : Int32))), .val (.ref v30_l8), .val (.ref b31), .val (.int v39_t0)] [(.int (1 : Int32))])) _
    exact retN X46 hx (t := .boolean) Bd.returns (by simp) (hb hby at_139) hr
  · show Q0 Z p1 p2 p3 wM wA wC wT wR wL h0 n0 _ T46.heap _
    rw [e46]
    exact ⟨rfl, N46, K33, O33⟩
set_option maxRecDepth 65536 in
set_option maxHeartbeats 40000000 in
theorem comes_1 {Post : Tables → Env → Array Value → State → Outcome → State → Prop} (hpost : ∀ tb e args s v u, (limb_1_1.after args s (.returned v) u = true ∧ limb_1_2.after args s (.returned v) u = true ∧ True) → FrameEnd s (.returned v) u (Jvm.fieldLocs frame_1_writes args s ++ Jvm.arrayLocs frame_1_arrays args s ++ Jvm.staticLocs frame_1_statics s) 16 128 → Post tb e args s (.returned v) u) :
    ArmFor flags0 classFile x code maxLocals ret World_1 tables_1 room_1 Calls_1 rest_1 Pre_1 Post := by
  intro l hfl _ _ p e ha hc hk s m args below hf hA hF happ hP
  obtain ⟨hcalls, hrest, hpre⟩ := hP
  obtain ⟨-, -, -, hnamed, -, -, -, hat⟩ := (Spec.applies_iff hf).mp happ
  obtain ⟨hg, hn⟩ := and_e (Cond.before_iff.mp (show (Jvm.Cond.and given_1 narrow_1).before args s = true from hpre))
  obtain ⟨g1, g2⟩ := and_e hg
  obtain ⟨g3, g4⟩ := and_e g2
  obtain ⟨g5, g6⟩ := and_e g4
  obtain ⟨n7, n8⟩ := and_e hn
  obtain ⟨n9, n10⟩ := and_e n8
  obtain ⟨n11, n12⟩ := and_e n10
  obtain ⟨n13, n14⟩ := and_e n12
  obtain ⟨n15, n16⟩ := and_e n14
  obtain ⟨w0, w1, w2, rfl⟩ : ∃ w0 w1 w2 : Value, args = #[w0, w1, w2] := by
    have hs : args.size = 3 := by simpa [Cond.value, given_1] using g1
    obtain ⟨L⟩ := args
    match L, hs with
    | [w0, w1, w2], _ => exact ⟨w0, w1, w2, rfl⟩
  have hw := fun d (hd : d ∈ tables_1) => atoms_spec (ws := Jvm.Cond.code x code maxLocals ret :: tables_1) hat d (List.mem_cons_of_mem _ hd)
  have hfit : Fit s := fun {y c} hc i hi => by
    obtain ⟨ha, rfl⟩ := Array.getElem?_eq_some_iff.mp hc
    have q := List.all_eq_true.mp ((Array.all_eq_true_iff_forall_mem.mp hF) _ (Array.getElem_mem ha)) i (List.mem_range.mpr hi)
    simpa [Array.getElem?_eq_getElem hi] using q
  obtain ⟨i0, ei0⟩ := is_v g3
  obtain rfl : w0 = (.int i0) := Option.some.inj ei0
  obtain ⟨i1, ei1⟩ := is_v g5
  obtain rfl : w1 = (.int i1) := Option.some.inj ei1
  obtain ⟨i2, ei2⟩ := is_v g6
  obtain rfl : w2 = (.int i2) := Option.some.inj ei2
  obtain ⟨wM, ev_MULTIPLICATIVE⟩ := exa_v n7
  have EX_MULTIPLICATIVE := Exa.start ev_MULTIPLICATIVE n7
  have SS_MULTIPLICATIVE := Sta.start ev_MULTIPLICATIVE (Or.inr ⟨(hw _ (List.mem_of_getElem? (i := 3) rfl)), (hw _ (List.mem_of_getElem? (i := 4) rfl))⟩)
  obtain ⟨wT, ev_TABLE⟩ := exa_v n9
  have EX_TABLE := Exa.start ev_TABLE n9
  have SS_TABLE := Sta.start ev_TABLE (Or.inr ⟨(hw _ (List.mem_of_getElem? (i := 6) rfl)), (hw _ (List.mem_of_getElem? (i := 7) rfl))⟩)
  obtain ⟨wA, ev_ADDITIVE⟩ := exa_v n11
  have EX_ADDITIVE := Exa.start ev_ADDITIVE n11
  have SS_ADDITIVE := Sta.start ev_ADDITIVE (Or.inr ⟨(hw _ (List.mem_of_getElem? (i := 3) rfl)), (hw _ (List.mem_of_getElem? (i := 30) rfl))⟩)
  obtain ⟨wL, ev_COLUMN⟩ := exa_v n13
  have EX_COLUMN := Exa.start ev_COLUMN n13
  have SS_COLUMN := Sta.start ev_COLUMN (Or.inr ⟨(hw _ (List.mem_of_getElem? (i := 6) rfl)), (hw _ (List.mem_of_getElem? (i := 32) rfl))⟩)
  obtain ⟨wR, ev_ROW⟩ := exa_v n15
  have EX_ROW := Exa.start ev_ROW n15
  have SS_ROW := Sta.start ev_ROW (Or.inr ⟨(hw _ (List.mem_of_getElem? (i := 6) rfl)), (hw _ (List.mem_of_getElem? (i := 34) rfl))⟩)
  obtain ⟨wC, ev_CELL⟩ := exa_v n16
  have EX_CELL := Exa.start ev_CELL n16
  have SS_CELL := Sta.start ev_CELL (Or.inr ⟨(hw _ (List.mem_of_getElem? (i := 6) rfl)), (hw _ (List.mem_of_getElem? (i := 36) rfl))⟩)
  obtain ⟨n, o, h1, h2, h3, _, L, rfl, ⟨rfl, N, -⟩, hq⟩ := rm0 l s _ hw tables_1 i0 i1 i2 wM wA wC wT wR wL s.heap s.heap.size (Old.start s) SS_MULTIPLICATIVE SS_ADDITIVE SS_CELL SS_TABLE SS_ROW SS_COLUMN p e ha hc hk s m _ below hf ((Spec.applies_iff_loose hf).mp happ).1 ⟨rfl, State.Warmed39.refl s, rfl⟩ trivial
  refine ⟨n, _, h1, h2, h3, hpost _ _ _ _ _ _ ⟨Cond.after_iff.mpr rfl, Cond.after_iff.mpr (eq_i res_at (Term.int_eval (1)) rfl), trivial⟩ ⟨hq.1, hq.2.1, (hq.2.2.sift fun y hy => Or.inr (N y hy)).mono (by decide) (by decide)⟩⟩
theorem main_1_1 : Claimed_1_1 := comes_1 fun _ _ _ _ _ _ h hF => ⟨h.1, hF⟩
theorem main_1_2 : Claimed_1_2 := comes_1 fun _ _ _ _ _ _ h hF => ⟨h.2.1, hF⟩
end Jvm.Pilot.@@N@@
namespace Jvm.Pilot.@@N@@
open Jvm Jvm.ClassFile Sem Op Lib Jvm.Free Jvm.Stand Jvm.Pilot.@@N@@.Jvm.D
/-! MADE BY PROGRAM (witnessworld.py) out of the Statement's table words and the real class files: 16 classes; the members and pool entries that the words name. The judged class is class 1, her method 1. -/
namespace start1
open Jvm.ClassFile
def u (s : String) : CpInfo := .utf8 (stringToUtf16 s)
/-- a pool by its gaps: so many unusable entries, then the entry; so many at the end -/
def gap : Nat → List CpInfo → List CpInfo
  | 0, r => r
  | n + 1, r => .unusable :: gap n r
def poolList (es : List (Nat × CpInfo)) (last : Nat) : List CpInfo := es.foldr (fun e r => gap e.1 (e.2 :: r)) (gap last [])
def pool (es : List (Nat × CpInfo)) (last : Nat) : Array CpInfo := ⟨poolList es last⟩
def fileOf (pool : Array CpInfo) (this : Nat) (attrs : Array Attribute := #[]) (ms : Array MethodInfo := #[]) (fl : Nat := 33) (sup : Nat := 0) (ifs : Array Nat := #[]) (fds : Array FieldInfo := #[]) : ClassFile where
  minorVersion := 0
  majorVersion := 65
  constantPool := pool
  accessFlags := fl
  thisClass := this
  superClass := sup
  interfaces := ifs
  fields := fds
  methods := ms
  attributes := attrs
def plain (name : String) (sup : Option ClassId) : Class where
  name := name
  kind := .ordinary
  loader := none
  accessFlags := 33
  super := sup
  interfaces := #[]
  cf := none
  fields := #[]
  methods := #[]
  instanceTypes := #[]
  staticTypes := #[]
  resolved := #[]
  callSites := []
  init := .initialized
  statics := none
  mirror := none

def pool0 : Array CpInfo := pool [(5, u "<init>"), (0, u "()V"), (1, .class_ 10), (1, u "java/lang/Object")] 113

def k0c0 : Code := { maxStack := 0, maxLocals := 1, code := object_method_1_code, exceptionTable := #[], attributes := #[] }
def k0m0 : Method := { name := "<init>", desc := "()V", sig := { parameters := [], returnType := none }, accessFlags := 1, code := some k0c0 }
/-- java/lang/Object -/
def k0 : Class := { plain "java/lang/Object" none with
  accessFlags := 33
  interfaces := #[]
  cf := some (fileOf pool0 8 #[] #[{ accessFlags := 1, nameIndex := 5, descriptorIndex := 6, attributes := #[] }] 33 0 #[] #[])
  fields := #[]
  methods := #[k0m0]
  instanceTypes := #[]
  staticTypes := #[]
  resolved := Array.replicate 124 none
  statics := none }

def pool1 : Array CpInfo := pool [(2, .class_ 4), (1, u "java/lang/Object"), (0, u "<init>"), (0, u "()V"), (0, .integer 2147483647), (0, .integer 715827882), (0, .fieldref 10 11), (0, .class_ 12), (0, .nameAndType 13 14), (0, u "com/example/breakline/breakline/Manner"), (0, u "MULTIPLICATIVE"), (0, u "Lcom/example/breakline/breakline/Manner;"), (0, .fieldref 10 16), (0, .nameAndType 17 14), (0, u "ADDITIVE"), (0, .fieldref 19 20), (0, .class_ 21), (0, .nameAndType 22 23), (0, u "com/example/breakline/breakline/Dgls$Scope"), (0, u "CELL"), (0, u "Lcom/example/breakline/breakline/Dgls$Scope;"), (0, .fieldref 19 25), (0, .nameAndType 26 23), (0, u "TABLE"), (0, .fieldref 19 28), (0, .nameAndType 29 23), (0, u "ROW"), (0, .fieldref 19 31), (0, .nameAndType 32 23), (0, u "COLUMN"), (0, .class_ 34), (0, u "com/example/breakline/breakline/Dgls"), (0, .double 4602678819172646912), (1, .methodref 33 38), (0, .nameAndType 5 39), (0, u "(Lcom/example/breakline/breakline/Manner;DLcom/example/breakline/breakline/Dgls$Scope;)V"), (0, .methodref 33 41), (0, .nameAndType 42 43), (0, u "messagesEveryNeighbourIn"), (0, u "(I)Z"), (0, .class_ 45), (0, u "com/example/breakline/breakline/DglsMessagesEveryNeighbourInPinLaw"), (2, u "law"), (0, u "(III)Z")] 5

def k1m0 : Method := { name := "<init>", desc := "()V", sig := { parameters := [], returnType := none }, accessFlags := 1, code := none }
def k1c1 : Code := { maxStack := 6, maxLocals := 11, code := code, exceptionTable := #[], attributes := #[] }
def k1m1 : Method := { name := "law", desc := "(III)Z", sig := { parameters := [.int, .int, .int], returnType := some .boolean }, accessFlags := 9, code := some k1c1 }
/-- com/example/breakline/breakline/DglsMessagesEveryNeighbourInPinLaw -/
def k1 : Class := { plain "com/example/breakline/breakline/DglsMessagesEveryNeighbourInPinLaw" (some 0) with
  accessFlags := 49
  interfaces := #[]
  cf := some (fileOf pool1 44 #[] #[{ accessFlags := 1, nameIndex := 5, descriptorIndex := 6, attributes := #[] }, { accessFlags := 9, nameIndex := 48, descriptorIndex := 49, attributes := #[] }] 49 2 #[] #[])
  fields := #[]
  methods := #[k1m0, k1m1]
  instanceTypes := #[]
  staticTypes := #[]
  resolved := Array.replicate 55 none
  statics := none }

def pool2 : Array CpInfo := pool [(1, .class_ 2), (0, u "java/lang/constant/Constable"), (0, .class_ 4), (0, u "java/lang/Object")] 6

/-- java/lang/constant/Constable -/
def k2 : Class := { plain "java/lang/constant/Constable" (some 0) with
  accessFlags := 1537
  interfaces := #[]
  cf := some (fileOf pool2 1 #[] #[] 1537 3 #[] #[])
  fields := #[]
  methods := #[]
  instanceTypes := #[]
  staticTypes := #[]
  resolved := Array.replicate 11 none
  statics := none }

def pool3 : Array CpInfo := pool [(1, .class_ 2), (0, u "java/lang/Comparable"), (0, .class_ 4), (0, u "java/lang/Object")] 7

/-- java/lang/Comparable -/
def k3 : Class := { plain "java/lang/Comparable" (some 0) with
  accessFlags := 1537
  interfaces := #[]
  cf := some (fileOf pool3 1 #[] #[] 1537 3 #[] #[])
  fields := #[]
  methods := #[]
  instanceTypes := #[]
  staticTypes := #[]
  resolved := Array.replicate 12 none
  statics := none }

def pool4 : Array CpInfo := pool [(1, .class_ 2), (0, u "java/io/Serializable"), (0, .class_ 4), (0, u "java/lang/Object")] 2

/-- java/io/Serializable -/
def k4 : Class := { plain "java/io/Serializable" (some 0) with
  accessFlags := 1537
  interfaces := #[]
  cf := some (fileOf pool4 1 #[] #[] 1537 3 #[] #[])
  fields := #[]
  methods := #[]
  instanceTypes := #[]
  staticTypes := #[]
  resolved := Array.replicate 7 none
  statics := none }

def pool5 : Array CpInfo := pool [(2, .class_ 4), (1, u "java/lang/Enum"), (0, u "name"), (0, u "Ljava/lang/String;"), (2, u "ordinal"), (0, u "I"), (1, .class_ 14), (1, u "java/lang/Object"), (4, u "hash"), (86, .class_ 108), (1, u "java/lang/Enum$EnumDesc"), (2, .class_ 112), (0, u "java/lang/constant/Constable"), (0, .class_ 114), (0, u "java/lang/Comparable"), (0, .class_ 116), (0, u "java/io/Serializable")] 87

/-- java/lang/Enum -/
def k5 : Class := { plain "java/lang/Enum" (some 0) with
  accessFlags := 1057
  interfaces := #[2, 3, 4]
  cf := some (fileOf pool5 2 #[.nestMembers #[106]] #[] 1057 12 #[111, 113, 115] #[{ accessFlags := 18, nameIndex := 5, descriptorIndex := 6, attributes := #[] }, { accessFlags := 18, nameIndex := 9, descriptorIndex := 10, attributes := #[] }, { accessFlags := 2, nameIndex := 19, descriptorIndex := 10, attributes := #[] }])
  fields := #[{ name := "name", type := (.object "java/lang/String"), accessFlags := 18, slot := 0, constantValue := 0 }, { name := "ordinal", type := .int, accessFlags := 18, slot := 1, constantValue := 0 }, { name := "hash", type := .int, accessFlags := 2, slot := 2, constantValue := 0 }]
  methods := #[]
  instanceTypes := #[(.object "java/lang/String"), .int, .int]
  staticTypes := #[]
  resolved := Array.replicate 204 none
  statics := none }

def pool6 : Array CpInfo := pool [(1, .class_ 2), (0, u "com/example/breakline/breakline/Specification$Choice"), (0, .class_ 4), (0, u "java/lang/Object"), (5, .class_ 11), (0, u "com/example/breakline/breakline/Specification")] 2

/-- com/example/breakline/breakline/Specification$Choice -/
def k6 : Class := { plain "com/example/breakline/breakline/Specification$Choice" (some 0) with
  accessFlags := 1536
  interfaces := #[]
  cf := some (fileOf pool6 1 #[.nestHost 10] #[] 1536 3 #[] #[])
  fields := #[]
  methods := #[]
  instanceTypes := #[]
  staticTypes := #[]
  resolved := Array.replicate 14 none
  statics := none }

def pool7 : Array CpInfo := pool [(1, .class_ 2), (0, u "com/example/breakline/breakline/Manner"), (2, u "MULTIPLICATIVE"), (0, u "Lcom/example/breakline/breakline/Manner;"), (2, u "ADDITIVE"), (2, u "$VALUES"), (0, u "[Lcom/example/breakline/breakline/Manner;"), (6, .class_ 22), (1, u "java/lang/Enum"), (8, u "code"), (0, u "Ljava/lang/String;"), (22, .class_ 56), (0, u "com/example/breakline/breakline/Specification$Choice")] 20

/-- com/example/breakline/breakline/Manner -/
def k7 : Class := { plain "com/example/breakline/breakline/Manner" (some 5) with
  accessFlags := 16432
  interfaces := #[6]
  cf := some (fileOf pool7 1 #[] #[] 16432 20 #[55] #[{ accessFlags := 16409, nameIndex := 5, descriptorIndex := 6, attributes := #[] }, { accessFlags := 16409, nameIndex := 9, descriptorIndex := 6, attributes := #[] }, { accessFlags := 18, nameIndex := 31, descriptorIndex := 32, attributes := #[] }, { accessFlags := 4122, nameIndex := 12, descriptorIndex := 13, attributes := #[] }])
  fields := #[{ name := "MULTIPLICATIVE", type := (.object "com/example/breakline/breakline/Manner"), accessFlags := 16409, slot := 0, constantValue := 0 }, { name := "ADDITIVE", type := (.object "com/example/breakline/breakline/Manner"), accessFlags := 16409, slot := 1, constantValue := 0 }, { name := "code", type := (.object "java/lang/String"), accessFlags := 18, slot := 3, constantValue := 0 }, { name := "$VALUES", type := (.array (.object "com/example/breakline/breakline/Manner")), accessFlags := 4122, slot := 2, constantValue := 0 }]
  methods := #[]
  instanceTypes := #[(.object "java/lang/String"), .int, .int, (.object "java/lang/String")]
  staticTypes := #[(.object "com/example/breakline/breakline/Manner"), (.object "com/example/breakline/breakline/Manner"), (.array (.object "com/example/breakline/breakline/Manner"))]
  resolved := Array.replicate 77 none
  statics := some 0 }

def pool8 : Array CpInfo := pool [(1, .class_ 2), (0, u "com/example/breakline/breakline/Dgls$Scope"), (2, u "CELL"), (0, u "Lcom/example/breakline/breakline/Dgls$Scope;"), (2, u "TABLE"), (2, u "ROW"), (2, u "COLUMN"), (2, u "$VALUES"), (0, u "[Lcom/example/breakline/breakline/Dgls$Scope;"), (6, .class_ 28), (1, u "java/lang/Enum"), (8, u "code"), (0, u "Ljava/lang/String;"), (43, .class_ 83), (0, u "com/example/breakline/breakline/Specification$Choice"), (16, .class_ 101), (0, u "com/example/breakline/breakline/Dgls")] 5

/-- com/example/breakline/breakline/Dgls$Scope -/
def k8 : Class := { plain "com/example/breakline/breakline/Dgls$Scope" (some 5) with
  accessFlags := 16432
  interfaces := #[6]
  cf := some (fileOf pool8 1 #[.nestHost 100] #[] 16432 26 #[82] #[{ accessFlags := 16409, nameIndex := 5, descriptorIndex := 6, attributes := #[] }, { accessFlags := 16409, nameIndex := 9, descriptorIndex := 6, attributes := #[] }, { accessFlags := 16409, nameIndex := 12, descriptorIndex := 6, attributes := #[] }, { accessFlags := 16409, nameIndex := 15, descriptorIndex := 6, attributes := #[] }, { accessFlags := 18, nameIndex := 37, descriptorIndex := 38, attributes := #[] }, { accessFlags := 4122, nameIndex := 18, descriptorIndex := 19, attributes := #[] }])
  fields := #[{ name := "CELL", type := (.object "com/example/breakline/breakline/Dgls$Scope"), accessFlags := 16409, slot := 0, constantValue := 0 }, { name := "TABLE", type := (.object "com/example/breakline/breakline/Dgls$Scope"), accessFlags := 16409, slot := 1, constantValue := 0 }, { name := "ROW", type := (.object "com/example/breakline/breakline/Dgls$Scope"), accessFlags := 16409, slot := 2, constantValue := 0 }, { name := "COLUMN", type := (.object "com/example/breakline/breakline/Dgls$Scope"), accessFlags := 16409, slot := 3, constantValue := 0 }, { name := "code", type := (.object "java/lang/String"), accessFlags := 18, slot := 3, constantValue := 0 }, { name := "$VALUES", type := (.array (.object "com/example/breakline/breakline/Dgls$Scope")), accessFlags := 4122, slot := 4, constantValue := 0 }]
  methods := #[]
  instanceTypes := #[(.object "java/lang/String"), .int, .int, (.object "java/lang/String")]
  staticTypes := #[(.object "com/example/breakline/breakline/Dgls$Scope"), (.object "com/example/breakline/breakline/Dgls$Scope"), (.object "com/example/breakline/breakline/Dgls$Scope"), (.object "com/example/breakline/breakline/Dgls$Scope"), (.array (.object "com/example/breakline/breakline/Dgls$Scope"))]
  resolved := Array.replicate 107 none
  statics := some 1 }

def pool9 : Array CpInfo := pool [(7, .class_ 8), (0, u "com/example/breakline/breakline/Algorithm"), (0, .class_ 10), (0, u "java/lang/Object")] 17

/-- com/example/breakline/breakline/Algorithm -/
def k9 : Class := { plain "com/example/breakline/breakline/Algorithm" (some 0) with
  accessFlags := 1536
  interfaces := #[]
  cf := some (fileOf pool9 7 #[] #[] 1536 9 #[] #[])
  fields := #[]
  methods := #[]
  instanceTypes := #[]
  staticTypes := #[]
  resolved := Array.replicate 28 none
  statics := none }

def pool10 : Array CpInfo := pool [(1, .methodref 2 3), (0, .class_ 4), (0, .nameAndType 5 6), (0, u "java/lang/Object"), (0, u "<init>"), (0, u "()V"), (0, .fieldref 8 9), (0, .class_ 10), (0, .nameAndType 11 12), (0, u "com/example/breakline/breakline/Dgls"), (0, u "manner"), (0, u "Lcom/example/breakline/breakline/Manner;"), (0, .fieldref 8 14), (0, .nameAndType 15 16), (0, u "gamma"), (0, u "D"), (0, .fieldref 8 18), (0, .nameAndType 19 20), (0, u "scope"), (0, u "Lcom/example/breakline/breakline/Dgls$Scope;"), (30, .class_ 52), (0, u "com/example/breakline/breakline/Dgls$Scope"), (5, u "(Lcom/example/breakline/breakline/Manner;DLcom/example/breakline/breakline/Dgls$Scope;)V"), (15, .class_ 75), (0, u "com/example/breakline/breakline/Dgls$DglsAgent"), (3, .class_ 80), (0, u "com/example/breakline/breakline/Dgls$ModifierReport"), (3, .class_ 85), (0, u "com/example/breakline/breakline/Algorithm"), (0, u "NAME"), (0, u "Ljava/lang/String;"), (3, u "STEPS_PER_ROUND"), (0, u "I"), (1, u "MANNER"), (0, u "GAMMA"), (0, u "SCOPE"), (14, u "messagesEveryNeighbourIn"), (0, u "(I)Z")] 30

def k10c0 : Code := { maxStack := 3, maxLocals := 5, code := prog_19_method_1_code, exceptionTable := #[], attributes := #[] }
def k10m0 : Method := { name := "<init>", desc := "(Lcom/example/breakline/breakline/Manner;DLcom/example/breakline/breakline/Dgls$Scope;)V", sig := { parameters := [(.object "com/example/breakline/breakline/Manner"), .double, (.object "com/example/breakline/breakline/Dgls$Scope")], returnType := none }, accessFlags := 0, code := some k10c0 }
def k10c1 : Code := { maxStack := 2, maxLocals := 2, code := prog_19_method_6_code, exceptionTable := #[], attributes := #[] }
def k10m1 : Method := { name := "messagesEveryNeighbourIn", desc := "(I)Z", sig := { parameters := [.int], returnType := some .boolean }, accessFlags := 1, code := some k10c1 }
/-- com/example/breakline/breakline/Dgls -/
def k10 : Class := { plain "com/example/breakline/breakline/Dgls" (some 0) with
  accessFlags := 48
  interfaces := #[9]
  cf := some (fileOf pool10 8 #[.nestMembers #[79, 74, 51]] #[{ accessFlags := 0, nameIndex := 5, descriptorIndex := 58, attributes := #[] }, { accessFlags := 1, nameIndex := 111, descriptorIndex := 112, attributes := #[] }] 48 2 #[84] #[{ accessFlags := 24, nameIndex := 86, descriptorIndex := 87, attributes := #[] }, { accessFlags := 26, nameIndex := 91, descriptorIndex := 92, attributes := #[] }, { accessFlags := 26, nameIndex := 94, descriptorIndex := 87, attributes := #[] }, { accessFlags := 26, nameIndex := 95, descriptorIndex := 87, attributes := #[] }, { accessFlags := 26, nameIndex := 96, descriptorIndex := 87, attributes := #[] }, { accessFlags := 18, nameIndex := 11, descriptorIndex := 12, attributes := #[] }, { accessFlags := 18, nameIndex := 15, descriptorIndex := 16, attributes := #[] }, { accessFlags := 18, nameIndex := 19, descriptorIndex := 20, attributes := #[] }])
  fields := #[{ name := "NAME", type := (.object "java/lang/String"), accessFlags := 24, slot := 0, constantValue := 0 }, { name := "STEPS_PER_ROUND", type := .int, accessFlags := 26, slot := 1, constantValue := 0 }, { name := "MANNER", type := (.object "java/lang/String"), accessFlags := 26, slot := 2, constantValue := 0 }, { name := "GAMMA", type := (.object "java/lang/String"), accessFlags := 26, slot := 3, constantValue := 0 }, { name := "SCOPE", type := (.object "java/lang/String"), accessFlags := 26, slot := 4, constantValue := 0 }, { name := "manner", type := (.object "com/example/breakline/breakline/Manner"), accessFlags := 18, slot := 0, constantValue := 0 }, { name := "gamma", type := .double, accessFlags := 18, slot := 1, constantValue := 0 }, { name := "scope", type := (.object "com/example/breakline/breakline/Dgls$Scope"), accessFlags := 18, slot := 2, constantValue := 0 }]
  methods := #[k10m0, k10m1]
  instanceTypes := #[(.object "com/example/breakline/breakline/Manner"), .double, (.object "com/example/breakline/breakline/Dgls$Scope")]
  staticTypes := #[(.object "java/lang/String"), .int, (.object "java/lang/String"), (.object "java/lang/String"), (.object "java/lang/String")]
  resolved := Array.replicate 143 none
  statics := none }

def pool11 : Array CpInfo := pool [(1, u "java/lang/Cloneable"), (0, .class_ 1), (0, u "java/lang/Object"), (0, .class_ 3)] 3

/-- java/lang/Cloneable -/
def k11 : Class := { plain "java/lang/Cloneable" (some 0) with
  accessFlags := 1537
  interfaces := #[]
  cf := some (fileOf pool11 2 #[] #[] 1537 4 #[] #[])
  fields := #[]
  methods := #[]
  instanceTypes := #[]
  staticTypes := #[]
  resolved := Array.replicate 8 none
  statics := none }

/-- the primitive byte -/
def k12 : Class := { plain "byte" none with kind := .primitive 'B', accessFlags := 0x411 }
/-- [B -/
def k13 : Class := { plain "[B" (some 0) with kind := .array 12 .byte, interfaces := #[11, 4], accessFlags := 1041 }

/-- the primitive int -/
def k14 : Class := { plain "int" none with kind := .primitive 'I', accessFlags := 0x411 }
/-- [I -/
def k15 : Class := { plain "[I" (some 0) with kind := .array 14 .int, interfaces := #[11, 4], accessFlags := 1041 }

def heap : Heap := #[{ cls := 7, slots := #[.ref 2, .ref 3, .null], vm := .statics 7 },
  { cls := 8, slots := #[.ref 4, .ref 5, .ref 6, .ref 7, .null], vm := .statics 8 },
  { cls := 7, slots := #[.null, .int 0, .int 0, .null], vm := .none },
  { cls := 7, slots := #[.null, .int 1, .int 0, .null], vm := .none },
  { cls := 8, slots := #[.null, .int 0, .int 0, .null], vm := .none },
  { cls := 8, slots := #[.null, .int 1, .int 0, .null], vm := .none },
  { cls := 8, slots := #[.null, .int 2, .int 0, .null], vm := .none },
  { cls := 8, slots := #[.null, .int 3, .int 0, .null], vm := .none }]
def classes : Array Class := #[k0, k1, k2, k3, k4, k5, k6, k7, k8, k9, k10, k11, k12, k13, k14, k15]
def interned : List (Array UInt16 × Addr) := []
def slotsUsed : Nat := 32
def theMethod : MethodId := ⟨1, 1⟩
def args0 : Array Value := #[.int 5, .int 7, .int 3]
def aboutOver (below : List Frame) : State where
  vm := { classes := classes, interned := interned.toArray }
  heap := heap
  slotsUsed := slotsUsed
  threads := #[{ frames := .invoking theMethod args0 :: below }]
def below0 : List Frame := [.native { method := ⟨0, 0⟩, args := #[] }]
def about1 : State := aboutOver below0
def p0 : Program := .bare "" "" ""
def e0 : Env := launch0.env 0 0 0
theorem w_frames : about1.frames = Frame.invoking theMethod args0 :: below0 := rfl
set_option maxRecDepth 65536 in
theorem w_args : argsFit about1.vm theMethod args0 = true := by decide +kernel
set_option maxRecDepth 65536 in
theorem w_heap : heapFits about1 = true := by decide +kernel
set_option maxRecDepth 65536 in
theorem w_runnable : about1.curStatus? = some .runnable := by decide +kernel
set_option maxRecDepth 65536 in
theorem w_alone : about1.alone = true := by decide +kernel
set_option maxRecDepth 65536 in
theorem w_named : about1.methodNamed? x = some theMethod := by decide +kernel
set_option maxRecDepth 65536 in
theorem w_hears : about1.hears theMethod below0 = true := by decide +kernel
set_option maxRecDepth 65536 in
theorem w_ripe : about1.ripe theMethod args0 below0 = true := by decide +kernel
theorem w_running : about1.status = .running := rfl
set_option maxRecDepth 65536 in
theorem w_room : about1.hasRoom e0.platform room_1 = true :=
  launch0.hasRoom_least _ room_1 (by decide +kernel) (by decide +kernel) (by decide +kernel) (by decide +kernel) (by decide +kernel) (by decide +kernel)
theorem allAtoms_all (ts : List Jvm.Cond) (a : Array Jvm.Value) (st : Jvm.State) : (allAtoms ts).before a st = ts.all (fun c => c.before a st) := by
  induction ts with
  | nil => rfl
  | cons c t ih =>
    show (Jvm.Cond.and c (allAtoms t)).before a st = _
    rw [Jvm.Cond.before_and, ih, List.all_cons]
def words1 : List Jvm.Cond := Jvm.Cond.code x code maxLocals ret :: tables_1
/-- a 'code' word, met by the world's own term for the bytes: nothing is compared byte by byte -/
theorem code_word {y : MethodName} {bytes : ByteArray} {mx : Nat} {rt : Option FieldType} {a : Array Value} {s : State} {m : MethodId} {meth : Method} {c : Code} (h1 : s.methodNamed? y = some m) (h2 : s.vm.method? m = some meth) (h3 : meth.code = some c) (h4 : c.code = bytes)
    (h5 : (c.maxLocals == mx && c.exceptionTable.isEmpty && decide (c.maxStack ≤ mostOperands) && decide (meth.sig.returnType = rt) && !meth.locks && decide (parseMethodDescriptor y.desc = some meth.sig)) = true) : (Jvm.Cond.code y bytes mx rt).before a s = true := by
  simp only [Bool.and_eq_true, beq_iff_eq, Bool.not_eq_true', decide_eq_true_eq] at h5
  obtain ⟨⟨⟨⟨⟨g1, g2⟩, g3⟩, g4⟩, g5⟩, g6⟩ := h5
  simp [Cond.before, Cond.holds, Cond.value, h1, h2, h3, h4, g1, g2, g3, g4, g5, g6]
def isCode : Jvm.Cond → Bool
  | .code _ _ _ _ => true
  | _ => false
theorem all_split {L : List Jvm.Cond} {P : Jvm.Cond → Bool} (h1 : L.all (fun c => isCode c || P c) = true) (h2 : ∀ c ∈ L.filter isCode, P c = true) : L.all P = true := by
  refine List.all_eq_true.mpr fun c hc => ?_
  have h := List.all_eq_true.mp h1 c hc
  rcases Bool.eq_false_or_eq_true (isCode c) with hi | hi
  · exact h2 c (List.mem_filter.mpr ⟨hc, hi⟩)
  · simpa [hi] using h
set_option maxRecDepth 65536 in
theorem w_c0 : (Jvm.Cond.code x code maxLocals ret).before args0 about1 = true := code_word (m := ⟨1, 1⟩) (meth := k1m1) (c := k1c1) (by decide +kernel) rfl rfl rfl (by decide +kernel)
set_option maxRecDepth 65536 in
theorem w_c1 : (Jvm.Cond.code ({ cls := "com/example/breakline/breakline/Dgls", name := "<init>", desc := "(Lcom/example/breakline/breakline/Manner;DLcom/example/breakline/breakline/Dgls$Scope;)V" } : Jvm.MethodName) prog_19_method_1_code (5 : Nat) (Option.none : Option Jvm.ClassFile.FieldType)).before args0 about1 = true := code_word (m := ⟨10, 0⟩) (meth := k10m0) (c := k10c0) (by decide +kernel) rfl rfl rfl (by decide +kernel)
set_option maxRecDepth 65536 in
theorem w_c2 : (Jvm.Cond.code ({ cls := "java/lang/Object", name := "<init>", desc := "()V" } : Jvm.MethodName) object_method_1_code (1 : Nat) (Option.none : Option Jvm.ClassFile.FieldType)).before args0 about1 = true := code_word (m := ⟨0, 0⟩) (meth := k0m0) (c := k0c0) (by decide +kernel) rfl rfl rfl (by decide +kernel)
set_option maxRecDepth 65536 in
theorem w_c3 : (Jvm.Cond.code ({ cls := "com/example/breakline/breakline/Dgls", name := "messagesEveryNeighbourIn", desc := "(I)Z" } : Jvm.MethodName) prog_19_method_6_code (2 : Nat) (Option.some Jvm.ClassFile.FieldType.boolean)).before args0 about1 = true := code_word (m := ⟨10, 1⟩) (meth := k10m1) (c := k10c1) (by decide +kernel) rfl rfl rfl (by decide +kernel)
def codes1 : List Jvm.Cond := [Jvm.Cond.code x code maxLocals ret, Jvm.Cond.code ({ cls := "com/example/breakline/breakline/Dgls", name := "<init>", desc := "(Lcom/example/breakline/breakline/Manner;DLcom/example/breakline/breakline/Dgls$Scope;)V" } : Jvm.MethodName) prog_19_method_1_code (5 : Nat) (Option.none : Option Jvm.ClassFile.FieldType), Jvm.Cond.code ({ cls := "java/lang/Object", name := "<init>", desc := "()V" } : Jvm.MethodName) object_method_1_code (1 : Nat) (Option.none : Option Jvm.ClassFile.FieldType), Jvm.Cond.code ({ cls := "com/example/breakline/breakline/Dgls", name := "messagesEveryNeighbourIn", desc := "(I)Z" } : Jvm.MethodName) prog_19_method_6_code (2 : Nat) (Option.some Jvm.ClassFile.FieldType.boolean)]
set_option maxRecDepth 65536 in
theorem codes_eq : words1.filter isCode = codes1 := rfl
theorem w_codes : ∀ c ∈ words1.filter isCode, c.before args0 about1 = true := by
  rw [codes_eq]
  intro c hc
  simp only [codes1, List.mem_cons, List.not_mem_nil, or_false] at hc
  rcases hc with rfl | rfl | rfl | rfl
  · exact w_c0
  · exact w_c1
  · exact w_c2
  · exact w_c3
set_option maxRecDepth 65536 in
theorem w_t1 : (words1.take 24).all (fun c => isCode c || c.before args0 about1) = true := by decide +kernel
set_option maxRecDepth 65536 in
theorem w_t2 : (words1.drop 24).all (fun c => isCode c || c.before args0 about1) = true := by decide +kernel
theorem w_tables : (allAtoms (Jvm.Cond.code x code maxLocals ret :: tables_1)).before args0 about1 = true := by
  rw [allAtoms_all]
  show words1.all (fun c => c.before args0 about1) = true
  refine all_split ?_ w_codes
  rw [← List.take_append_drop 24 words1, List.all_append, w_t1, w_t2]
  rfl
set_option maxRecDepth 65536 in
theorem w_case : (Jvm.Cond.and given_1 narrow_1).before args0 about1 = true := by decide +kernel
theorem w_applies : (headSpec (Jvm.Cond.code x code maxLocals ret :: tables_1) room_1).applies x e0.platform about1 = true :=
  (Spec.applies_iff w_frames).mpr ⟨w_running, w_runnable, w_alone, w_named, w_hears, w_ripe, w_room, w_tables⟩
theorem atStart : AtStart classFile x code maxLocals ret World_1 tables_1 room_1 Calls_1 rest_1 Pre_1 launch0 p0 e0 about1 theMethod args0 below0 :=
  ⟨lists_1, trivial, launch0.admits_env _ _ _, launch0.least_env, fairChoices_fair.cas, fairChoices_fair.clock, w_frames, w_args, w_heap, w_applies, trivial, trivial, w_case⟩
end start1
theorem witness_1 : WitnessClaimed_1 := ⟨start1.p0, start1.e0, start1.about1, start1.theMethod, start1.args0, start1.below0, start1.atStart⟩
end Jvm.Pilot.@@N@@
