import JvmDerived
import JvmDerived.Pilot.@@N@@Statement
import JvmDerived.Pilot.@@N@@Code
set_option linter.unusedVariables false
set_option linter.unusedSimpArgs false
namespace Jvm.RoadKit
open Sem ClassFile Op Lib Jvm.Stand Jvm.Free Jvm.LawKit
section New
variable {p : Program} {l : Launch} {e : Env} {R : Room} {s : State} {m : MethodId} {args : Array Value} {below : List Frame} {meth : Method} {c : Code} {T : State} {locs : List Loc} {cells slots : Nat}
theorem retI (X : Stand p l e R s m args below meth c T locs cells slots) (hx : p.tables.exec = Jvm.exec) {pc : Nat} {Ls : Array Slot} {z : Int32} {rest : List Value} (hret : meth.sig.returnType = some .int) (hd : decode c.code pc = .ok (.ireturn, 1)) {fs : List Frame}
    (hl : ∀ (f : JFrame) (acts : List Action), f.method = m → f.locked = none → f.entered = [] → (doReturn e (T.setTop f) acts (some (.int z))).1 = T.setFrames fs) : Steps p.tables e below (T.setTop (mkF m pc Ls (.int z :: rest))) (T.setFrames fs) := by
  have hm' : T.vm.method? m = some meth := X.method'
  have hn : narrow .int (.int z) = .int z := rfl
  show Steps p.tables e below (T.setTop { method := m, pc := pc, locals := Ls, stack := _ :: rest, locked := none }) _
  jvm_step X.here [X.here.top, hx, hd, hm', hret, hn]
  first | (intro acts; rw [hl _ acts rfl rfl rfl]) | rw [hl _ _ rfl rfl rfl]
  exact Steps.refl _
theorem own_dia {c : Prop} [Decidable c] {tb : Tables} {S tgt : State} {F : Int32 → State} {A B : Int32} (hy : c → ∀ t, Steps tb e below (F A) t → Steps tb e below S t) (hn : ¬ c → ∀ t, Steps tb e below (F B) t → Steps tb e below S t) (k : Steps tb e below (F (if c then A else B)) tgt) : Steps tb e below S tgt := by
  by_cases q : c
  · rw [if_pos q] at k; exact hy q _ k
  · rw [if_neg q] at k; exact hn q _ k
end New
end Jvm.RoadKit
namespace Jvm.Pilot.@@N@@
open Jvm Jvm.ClassFile Sem Op Lib Jvm.Free Jvm.Stand Jvm.LawKit Jvm.RoadKit Bundle Jvm.Pilot.@@N@@.Jvm.D
theorem own_and3 (p : Int32) : p &&& 3 = (p &&& 1) ||| (p &&& 2) := by
  apply Int32.toBitVec_inj.mp
  show p.toBitVec &&& 3#32 = (p.toBitVec &&& 1#32) ||| (p.toBitVec &&& 2#32)
  rw [← BitVec.and_or_distrib_left]; rfl
theorem own_a1 (p : Int32) : (p &&& 3) &&& 1 = p &&& 1 := by rw [Int32.and_assoc]; rfl
theorem own_a2 (p : Int32) : (p &&& 3) &&& 2 = p &&& 2 := by rw [Int32.and_assoc]; rfl
theorem own_z {p : Int32} (h1 : p &&& 1 = 0) (h2 : p &&& 2 = 0) : p &&& 3 = 0 := by rw [own_and3, h1, h2]; rfl
theorem own_n1 {p : Int32} (h1 : ¬ p &&& 1 = 0) : ¬ p &&& 3 = 0 := fun h => h1 (by rw [← own_a1, h]; rfl)
theorem own_n2 {p : Int32} (h1 : ¬ p &&& 2 = 0) : ¬ p &&& 3 = 0 := fun h => h1 (by rw [← own_a2, h]; rfl)
theorem d2_0 : decode jdk_30_method_1_code 0 = .ok (.aload_n 0, 1) := by decide +kernel
theorem d2_1 : decode jdk_30_method_1_code 1 = .ok (.invokespecial 1, 3) := by decide +kernel
theorem d2_4 : decode jdk_30_method_1_code 4 = .ok (.return_, 1) := by decide +kernel
theorem pn_2 : plainName "java/lang/Record" = true := by first | (simp [plainName, overriddenIn]; done) | decide +kernel
theorem ef_2 (m : MethodId) (pr0 : Addr) : entryFrame m #[(.ref pr0)] 1 = mkF m 0 #[.val (.ref pr0)] [] := by first | (simp [entryFrame, mkF, argsToLocals, Value.category]; done) | rfl
def Q2 (Z : State) (pr0 : Addr) (h0 : Heap) (n0 : Nat) (v : Option Value) (h : Heap) (L : List Loc) : Prop := v = none ∧ Fr n0 L ∧ h = h0
set_option maxRecDepth 65536 in
set_option maxHeartbeats 40000000 in
theorem rm2 (l : Launch) (Z : State) (a0 : Array Value) (hw : ∀ d ∈ tables_1, d.before a0 Z = true) (ws : List Jvm.Cond) (pr0 : Addr) (h0 : Heap) (n0 : Nat) (Z0 : n0 ≤ h0.size) (O0 : Old Z n0 h0) :
    MetFree l (⟨"java/lang/Record", "<init>", "()V"⟩ : MethodName) (head1 (Jvm.Cond.code (⟨"java/lang/Record", "<init>", "()V"⟩ : MethodName) jdk_30_method_1_code 1 none :: ws) ({ frames := 1, cells := 0, slots := 0, locals := 12 } : Room)) (fun a U => a = #[(.ref pr0)] ∧ Z.Warmed39 U.vm ∧ U.heap = h0) (fun _ _ _ _ _ => True) (fun _ U o U' => ∃ v L, o = .returned v ∧ Q2 Z pr0 h0 n0 v U'.heap L ∧ FrameEnd U o U' L ({ frames := 1, cells := 0, slots := 0, locals := 12 } : Room).cells ({ frames := 1, cells := 0, slots := 0, locals := 12 } : Room).slots) := by
  refine MetFree.of_bodySF (plainFor_of_name pn_2) hisR ?_
  intro p e s m args below meth c s₁ Bd hml0 hP hK
  obtain ⟨rfl, hZ, hh⟩ := hP
  have hx := Bd.exec
  have hby := Bd.bytes
  have hml : c.maxLocals = 1 := hml0
  have hown : s.vm.findClass "java/lang/Record" = some m.cls := findClass_of_methodNamed Bd.named
  have hnm := (name_of_methodNamed Bd.named Bd.method).1
  have X0 : Stand p l e ({ frames := 1, cells := 0, slots := 0, locals := 12 } : Room) s m #[(.ref pr0)] below meth c s₁ [] 0 0 := Stand.of_body Bd
  have e0 : s₁.heap = h0 := by rw [← hh, Bd.state]; rfl
  have N0 := Fr.nil n0
  have pre0 : ∀ t, Steps p.tables e below (s₁.setTop (mkF m 0 #[.val (.ref pr0)] [])) t → Steps p.tables e below (s₁.setTop (entryFrame m #[(.ref pr0)] 1)) t := fun t k => castTop (ef_2 m pr0) k
  obtain ⟨T1, X1, e1, st1⟩ := initO X0 hx hZ hown (hw _ (List.mem_of_getElem? (i := 11) rfl)) (hw _ (List.mem_of_getElem? (i := 12) rfl)) (hw _ (List.mem_of_getElem? (i := 13) rfl)) e0 (g := (mkF m 1 #[.val (.ref pr0)] [(.ref pr0)])) rfl (by rw [hml]; rfl) rfl (hb hby d2_1) (by decide) (W := 0) (by show 2 * 0 + _ ≤ _; exact Nat.le_of_eq rfl) (by decide)
  obtain ⟨fs, hr, hrun, hended, hW, hsame⟩ := X1.leave (v := none) (fun _ => rfl)
  refine ⟨_, _, pre0 _ ?_, hrun, hended, _, _, rfl, ?_, ⟨_, rfl⟩, hW, hsame.mono (by decide) (by decide)⟩
  · show Steps p.tables e below (s₁.setTop (mkF m 0 #[.val (.ref pr0)] [])) _
    refine XS.aloadN X0.here hx rfl (hb hby d2_0) rfl rfl ?_
    show Steps p.tables e below (s₁.setTop (mkF m 1 #[.val (.ref pr0)] [(.ref pr0)])) _
    refine st1 _ ?_
    show Steps p.tables e below (T1.setTop (mkF m 4 #[.val (.ref pr0)] [])) _
    exact X1.returnOut hx Bd.returns (hb hby d2_4) hr
  · show Q2 Z pr0 h0 n0 _ T1.heap _
    rw [e1]
    exact ⟨rfl, N0, rfl⟩
theorem pd_1 : parseMethodDescriptor "()V" = some ⟨[], none⟩ := by decide +kernel
theorem d1_0 : decode prog_13_method_1_code 0 = .ok (.aload_n 0, 1) := by decide +kernel
theorem d1_1 : decode prog_13_method_1_code 1 = .ok (.invokespecial 1, 3) := by decide +kernel
theorem d1_4 : decode prog_13_method_1_code 4 = .ok (.aload_n 0, 1) := by decide +kernel
theorem d1_5 : decode prog_13_method_1_code 5 = .ok (.iload_n 1, 1) := by decide +kernel
theorem d1_6 : decode prog_13_method_1_code 6 = .ok (.putfield 7, 3) := by decide +kernel
theorem d1_9 : decode prog_13_method_1_code 9 = .ok (.aload_n 0, 1) := by decide +kernel
theorem d1_10 : decode prog_13_method_1_code 10 = .ok (.iload_n 2, 1) := by decide +kernel
theorem d1_11 : decode prog_13_method_1_code 11 = .ok (.putfield 13, 3) := by decide +kernel
theorem d1_14 : decode prog_13_method_1_code 14 = .ok (.aload_n 0, 1) := by decide +kernel
theorem d1_15 : decode prog_13_method_1_code 15 = .ok (.iload_n 3, 1) := by decide +kernel
theorem d1_16 : decode prog_13_method_1_code 16 = .ok (.putfield 16, 3) := by decide +kernel
theorem d1_19 : decode prog_13_method_1_code 19 = .ok (.return_, 1) := by decide +kernel
theorem pn_1 : plainName "com/example/linkstride/linkstride/engine/Completeness" = true := by first | (simp [plainName, overriddenIn]; done) | decide +kernel
theorem ef_1 (m : MethodId) (pr0 : Addr) (pi1 : Int32) (pi2 : Int32) (pi3 : Int32) : entryFrame m #[(.ref pr0), (.int pi1), (.int pi2), (.int pi3)] 4 = mkF m 0 #[.val (.ref pr0), .val (.int pi1), .val (.int pi2), .val (.int pi3)] [] := by first | (simp [entryFrame, mkF, argsToLocals, Value.category]; done) | rfl
def Q1 (Z : State) (pr0 : Addr) (pi1 : Int32) (pi2 : Int32) (pi3 : Int32) (u_budgetReached_pr0 : Value) (u_lookupLimitReached_pr0 : Value) (u_lookupsCut_pr0 : Value) (h0 : Heap) (n0 : Nat) (v : Option Value) (h : Heap) (L : List Loc) : Prop := v = none ∧ Fr n0 L ∧ Keep h0 h [pr0] ∧ Exa Z h pr0 "com/example/linkstride/linkstride/engine/Completeness" ∧ Fld Z h pr0 "com/example/linkstride/linkstride/engine/Completeness" "budgetReached" "Z" (.int (nar .boolean pi1)) ∧ Fld Z h pr0 "com/example/linkstride/linkstride/engine/Completeness" "lookupLimitReached" "Z" (.int (nar .boolean pi2)) ∧ Fld Z h pr0 "com/example/linkstride/linkstride/engine/Completeness" "lookupsCut" "I" (.int pi3)
set_option maxRecDepth 65536 in
set_option maxHeartbeats 40000000 in
theorem rm1 (l : Launch) (Z : State) (a0 : Array Value) (hw : ∀ d ∈ tables_1, d.before a0 Z = true) (ws : List Jvm.Cond) (pr0 : Addr) (pi1 : Int32) (pi2 : Int32) (pi3 : Int32) (u_budgetReached_pr0 : Value) (u_lookupLimitReached_pr0 : Value) (u_lookupsCut_pr0 : Value) (h0 : Heap) (n0 : Nat) (Z0 : n0 ≤ h0.size) (O0 : Old Z n0 h0) (E_pr0 : Exa Z h0 pr0 "com/example/linkstride/linkstride/engine/Completeness") (F_budgetReached_pr0 : Fld Z h0 pr0 "com/example/linkstride/linkstride/engine/Completeness" "budgetReached" "Z" u_budgetReached_pr0) (g_pr0 : n0 ≤ pr0) (F_lookupLimitReached_pr0 : Fld Z h0 pr0 "com/example/linkstride/linkstride/engine/Completeness" "lookupLimitReached" "Z" u_lookupLimitReached_pr0) (F_lookupsCut_pr0 : Fld Z h0 pr0 "com/example/linkstride/linkstride/engine/Completeness" "lookupsCut" "I" u_lookupsCut_pr0) :
    MetFree l (⟨"com/example/linkstride/linkstride/engine/Completeness", "<init>", "(ZZI)V"⟩ : MethodName) (head1 (Jvm.Cond.code (⟨"com/example/linkstride/linkstride/engine/Completeness", "<init>", "(ZZI)V"⟩ : MethodName) prog_13_method_1_code 4 none :: ws) ({ frames := 2, cells := 0, slots := 0, locals := 24 } : Room)) (fun a U => a = #[(.ref pr0), (.int pi1), (.int pi2), (.int pi3)] ∧ Z.Warmed39 U.vm ∧ U.heap = h0) (fun _ _ _ _ _ => True) (fun _ U o U' => ∃ v L, o = .returned v ∧ Q1 Z pr0 pi1 pi2 pi3 u_budgetReached_pr0 u_lookupLimitReached_pr0 u_lookupsCut_pr0 h0 n0 v U'.heap L ∧ FrameEnd U o U' L ({ frames := 2, cells := 0, slots := 0, locals := 24 } : Room).cells ({ frames := 2, cells := 0, slots := 0, locals := 24 } : Room).slots) := by
  refine MetFree.of_bodySF (plainFor_of_name pn_1) hisR ?_
  intro p e s m args below meth c s₁ Bd hml0 hP hK
  obtain ⟨rfl, hZ, hh⟩ := hP
  have hx := Bd.exec
  have hby := Bd.bytes
  have hml : c.maxLocals = 4 := hml0
  have hown : s.vm.findClass "com/example/linkstride/linkstride/engine/Completeness" = some m.cls := findClass_of_methodNamed Bd.named
  have hnm := (name_of_methodNamed Bd.named Bd.method).1
  have X0 : Stand p l e ({ frames := 2, cells := 0, slots := 0, locals := 24 } : Room) s m #[(.ref pr0), (.int pi1), (.int pi2), (.int pi3)] below meth c s₁ [] 0 0 := Stand.of_body Bd
  have e0 : s₁.heap = h0 := by rw [← hh, Bd.state]; rfl
  have N0 := Fr.nil n0
  have pre0 : ∀ t, Steps p.tables e below (s₁.setTop (mkF m 0 #[.val (.ref pr0), .val (.int pi1), .val (.int pi2), .val (.int pi3)] [])) t → Steps p.tables e below (s₁.setTop (entryFrame m #[(.ref pr0), (.int pi1), (.int pi2), (.int pi3)] 4)) t := fun t k => castTop (ef_1 m pr0 pi1 pi2 pi3) k
  obtain ⟨_, _, ⟨T1, L1, k1, n1⟩, -, X1, ⟨Lc1, hQ1, l1, y1, z1⟩, st1⟩ := X0.specialBack hx (y := (⟨"java/lang/Record", "<init>", "()V"⟩ : MethodName)) rfl hown (mvT hZ (hw _ (List.mem_of_getElem? (i := 6) rfl))) (mvT hZ (hw _ (List.mem_of_getElem? (i := 7) rfl))) (mvT hZ (hw _ (List.mem_of_getElem? (i := 10) rfl))) (by decide) (backOf (W := 0) (rm2 l Z a0 hw [] pr0 h0 n0 Z0 O0 ) hZ (hw _ (List.mem_of_getElem? (i := 10) rfl)) (hw _ (List.mem_of_getElem? (i := 9) rfl)) (by decide) (by decide)) (g := (mkF m 1 #[.val (.ref pr0), .val (.int pi1), .val (.int pi2), .val (.int pi3)] [(.ref pr0)])) rfl (by rw [hml]; rfl) (Steps.refl _) (a := pr0) (argsL := []) (rest := []) (lenOf pd_1 rfl) rfl (by show 2 * 0 + _ ≤ _; exact Nat.le_of_eq rfl) (hb hby d1_1) (fun _ _ => ⟨rfl, e0, (by decide : 0 + 0 ≤ _), (by decide : 0 + 0 ≤ _)⟩)
  dsimp only [Pt.U, Pt.locs, Pt.cells, Pt.slots] at X1 l1 y1 z1 st1 hQ1
  subst l1 y1 z1
  obtain ⟨rfl, N1q, eq1⟩ := hQ1
  have N1 := Fr.app N0 N1q
  obtain ⟨T2, h2, X2, e2, W2, st2⟩ := putFN X1 hx hZ hown (hw _ (List.mem_of_getElem? (i := 14) rfl)) Via.refl eq1 F_budgetReached_pr0 E_pr0 (Or.inr ⟨(hw _ (List.mem_of_getElem? (i := 15) rfl)), rfl, hnm⟩) (hw _ (List.mem_of_getElem? (i := 1) rfl)) (ty := .boolean) (v' := (.int (nar .boolean pi1))) (by decide) rfl (fits_nar_bool _) (g := (mkF m 6 #[.val (.ref pr0), .val (.int pi1), .val (.int pi2), .val (.int pi3)] [(.int pi1), (.ref pr0)])) rfl rfl (hb hby d1_6)
  have Fw2 := F_budgetReached_pr0.same W2
  have N2 := Fr.snoc X2 N1 g_pr0
  have f3 := F_lookupLimitReached_pr0.other W2 (Or.inr (slot_ne (Or.inr (hw _ (List.mem_of_getElem? (i := 17) rfl))) (Or.inr (hw _ (List.mem_of_getElem? (i := 15) rfl))) (by decide) (t := .boolean) (t' := .boolean) (by decide) (by decide)))
  have f4 := E_pr0.wr W2
  obtain ⟨T5, h5, X5, e5, W5, st5⟩ := putFN X2 hx hZ hown (hw _ (List.mem_of_getElem? (i := 16) rfl)) Via.refl e2 f3 f4 (Or.inr ⟨(hw _ (List.mem_of_getElem? (i := 17) rfl)), rfl, hnm⟩) (hw _ (List.mem_of_getElem? (i := 1) rfl)) (ty := .boolean) (v' := (.int (nar .boolean pi2))) (by decide) rfl (fits_nar_bool _) (g := (mkF m 11 #[.val (.ref pr0), .val (.int pi1), .val (.int pi2), .val (.int pi3)] [(.int pi2), (.ref pr0)])) rfl rfl (hb hby d1_11)
  have Fw5 := f3.same W5
  have N5 := Fr.snoc X5 N2 g_pr0
  have f6 := F_lookupsCut_pr0.other W2 (Or.inr (slot_ne (Or.inr (hw _ (List.mem_of_getElem? (i := 19) rfl))) (Or.inr (hw _ (List.mem_of_getElem? (i := 15) rfl))) (by decide) (t := .int) (t' := .boolean) (by decide) (by decide)))
  have f7 := f6.other W5 (Or.inr (slot_ne (Or.inr (hw _ (List.mem_of_getElem? (i := 19) rfl))) (Or.inr (hw _ (List.mem_of_getElem? (i := 17) rfl))) (by decide) (t := .int) (t' := .boolean) (by decide) (by decide)))
  have f8 := f4.wr W5
  obtain ⟨T9, h9, X9, e9, W9, st9⟩ := putF X5 hx hZ hown (host := "") (Or.inl (hw _ (List.mem_of_getElem? (i := 18) rfl))) Via.refl e5 f7 f8 (Or.inr ⟨(hw _ (List.mem_of_getElem? (i := 19) rfl)), rfl, hnm⟩) (hw _ (List.mem_of_getElem? (i := 1) rfl)) (ty := .int) (by decide) rfl rfl (g := (mkF m 16 #[.val (.ref pr0), .val (.int pi1), .val (.int pi2), .val (.int pi3)] [(.int pi3), (.ref pr0)])) rfl rfl (hb hby d1_16)
  have Fw9 := f7.same W9
  have N9 := Fr.snoc X9 N5 g_pr0
  have k10 : Keep h0 h2 [pr0] := (Keep.refl h0 [pr0]).wr W2 (Or.inl (List.mem_of_getElem? (i := 0) rfl))
  have k11 : Keep h0 h5 [pr0] := k10.wr W5 (Or.inl (List.mem_of_getElem? (i := 0) rfl))
  have k12 : Keep h0 h9 [pr0] := k11.wr W9 (Or.inl (List.mem_of_getElem? (i := 0) rfl))
  have f13 := f8.wr W9
  have f14 := Fw2.other W5 (Or.inr (slot_ne (Or.inr (hw _ (List.mem_of_getElem? (i := 15) rfl))) (Or.inr (hw _ (List.mem_of_getElem? (i := 17) rfl))) (by decide) (t := .boolean) (t' := .boolean) (by decide) (by decide)))
  have f15 := f14.other W9 (Or.inr (slot_ne (Or.inr (hw _ (List.mem_of_getElem? (i := 15) rfl))) (Or.inr (hw _ (List.mem_of_getElem? (i := 19) rfl))) (by decide) (t := .boolean) (t' := .int) (by decide) (by decide)))
  have f16 := Fw5.other W9 (Or.inr (slot_ne (Or.inr (hw _ (List.mem_of_getElem? (i := 17) rfl))) (Or.inr (hw _ (List.mem_of_getElem? (i := 19) rfl))) (by decide) (t := .boolean) (t' := .int) (by decide) (by decide)))
  obtain ⟨fs, hr, hrun, hended, hW, hsame⟩ := X9.leave (v := none) (fun _ => rfl)
  refine ⟨_, _, pre0 _ ?_, hrun, hended, _, _, rfl, ?_, ⟨_, rfl⟩, hW, hsame.mono (by decide) (by decide)⟩
  · show Steps p.tables e below (s₁.setTop (mkF m 0 #[.val (.ref pr0), .val (.int pi1), .val (.int pi2), .val (.int pi3)] [])) _
    refine XS.aloadN X0.here hx rfl (hb hby d1_0) rfl rfl ?_
    show Steps p.tables e below (s₁.setTop (mkF m 1 #[.val (.ref pr0), .val (.int pi1), .val (.int pi2), .val (.int pi3)] [(.ref pr0)])) _
    refine st1.trans ?_
    show Steps p.tables e below (T1.setTop (mkF m 4 #[.val (.ref pr0), .val (.int pi1), .val (.int pi2), .val (.int pi3)] [])) _
    refine XS.aloadN X1.here hx rfl (hb hby d1_4) rfl rfl ?_
    show Steps p.tables e below (T1.setTop (mkF m 5 #[.val (.ref pr0), .val (.int pi1), .val (.int pi2), .val (.int pi3)] [(.ref pr0)])) _
    refine XS.iloadN X1.here hx rfl (hb hby d1_5) rfl ?_
    show Steps p.tables e below (T1.setTop (mkF m 6 #[.val (.ref pr0), .val (.int pi1), .val (.int pi2), .val (.int pi3)] [(.int pi1), (.ref pr0)])) _
    refine st2 _ ?_
    show Steps p.tables e below (T2.setTop (mkF m 9 #[.val (.ref pr0), .val (.int pi1), .val (.int pi2), .val (.int pi3)] [])) _
    refine XS.aloadN X2.here hx rfl (hb hby d1_9) rfl rfl ?_
    show Steps p.tables e below (T2.setTop (mkF m 10 #[.val (.ref pr0), .val (.int pi1), .val (.int pi2), .val (.int pi3)] [(.ref pr0)])) _
    refine XS.iloadN X2.here hx rfl (hb hby d1_10) rfl ?_
    show Steps p.tables e below (T2.setTop (mkF m 11 #[.val (.ref pr0), .val (.int pi1), .val (.int pi2), .val (.int pi3)] [(.int pi2), (.ref pr0)])) _
    refine st5 _ ?_
    show Steps p.tables e below (T5.setTop (mkF m 14 #[.val (.ref pr0), .val (.int pi1), .val (.int pi2), .val (.int pi3)] [])) _
    refine XS.aloadN X5.here hx rfl (hb hby d1_14) rfl rfl ?_
    show Steps p.tables e below (T5.setTop (mkF m 15 #[.val (.ref pr0), .val (.int pi1), .val (.int pi2), .val (.int pi3)] [(.ref pr0)])) _
    refine XS.iloadN X5.here hx rfl (hb hby d1_15) rfl ?_
    show Steps p.tables e below (T5.setTop (mkF m 16 #[.val (.ref pr0), .val (.int pi1), .val (.int pi2), .val (.int pi3)] [(.int pi3), (.ref pr0)])) _
    refine st9 _ ?_
    show Steps p.tables e below (T9.setTop (mkF m 19 #[.val (.ref pr0), .val (.int pi1), .val (.int pi2), .val (.int pi3)] [])) _
    exact X9.returnOut hx Bd.returns (hb hby d1_19) hr
  · show Q1 Z pr0 pi1 pi2 pi3 u_budgetReached_pr0 u_lookupLimitReached_pr0 u_lookupsCut_pr0 h0 n0 _ T9.heap _
    rw [e9]
    exact ⟨rfl, N9, k12, f13, f15, f16, Fw9⟩
theorem d4_0 : decode prog_13_method_2_code 0 = .ok (.aload_n 0, 1) := by decide +kernel
theorem d4_1 : decode prog_13_method_2_code 1 = .ok (.getfield 7, 3) := by decide +kernel
theorem d4_4 : decode prog_13_method_2_code 4 = .ok (.ifCond .ne 21, 3) := by decide +kernel
theorem d4_7 : decode prog_13_method_2_code 7 = .ok (.aload_n 0, 1) := by decide +kernel
theorem d4_8 : decode prog_13_method_2_code 8 = .ok (.getfield 13, 3) := by decide +kernel
theorem d4_11 : decode prog_13_method_2_code 11 = .ok (.ifCond .ne 14, 3) := by decide +kernel
theorem d4_14 : decode prog_13_method_2_code 14 = .ok (.aload_n 0, 1) := by decide +kernel
theorem d4_15 : decode prog_13_method_2_code 15 = .ok (.getfield 16, 3) := by decide +kernel
theorem d4_18 : decode prog_13_method_2_code 18 = .ok (.ifCond .ne 7, 3) := by decide +kernel
theorem d4_21 : decode prog_13_method_2_code 21 = .ok (.iconst 1, 1) := by decide +kernel
theorem d4_22 : decode prog_13_method_2_code 22 = .ok (.goto 4, 3) := by decide +kernel
theorem d4_26 : decode prog_13_method_2_code 26 = .ok (.ireturn, 1) := by decide +kernel
theorem pn_4 : plainName "com/example/linkstride/linkstride/engine/Completeness" = true := by first | (simp [plainName, overriddenIn]; done) | decide +kernel
theorem ef_4 (m : MethodId) (pr0 : Addr) : entryFrame m #[(.ref pr0)] 1 = mkF m 0 #[.val (.ref pr0)] [] := by first | (simp [entryFrame, mkF, argsToLocals, Value.category]; done) | rfl
def Q4_ttt (Z : State) (pr0 : Addr) (w_budgetReached_pr0 : Int32) (w_lookupLimitReached_pr0 : Int32) (w_lookupsCut_pr0 : Int32) (h0 : Heap) (n0 : Nat) (v : Option Value) (h : Heap) (L : List Loc) : Prop := v = some (.int (1 : Int32)) ∧ Fr n0 L ∧ h = h0
set_option maxRecDepth 65536 in
set_option maxHeartbeats 40000000 in
theorem rm4_ttt (l : Launch) (Z : State) (a0 : Array Value) (hw : ∀ d ∈ tables_1, d.before a0 Z = true) (ws : List Jvm.Cond) (pr0 : Addr) (w_budgetReached_pr0 : Int32) (w_lookupLimitReached_pr0 : Int32) (w_lookupsCut_pr0 : Int32) (h0 : Heap) (n0 : Nat) (Z0 : n0 ≤ h0.size) (O0 : Old Z n0 h0) (F_budgetReached_pr0 : Fld Z h0 pr0 "com/example/linkstride/linkstride/engine/Completeness" "budgetReached" "Z" (.int w_budgetReached_pr0)) (F_lookupLimitReached_pr0 : Fld Z h0 pr0 "com/example/linkstride/linkstride/engine/Completeness" "lookupLimitReached" "Z" (.int w_lookupLimitReached_pr0)) (F_lookupsCut_pr0 : Fld Z h0 pr0 "com/example/linkstride/linkstride/engine/Completeness" "lookupsCut" "I" (.int w_lookupsCut_pr0)) (hc4_0 : w_budgetReached_pr0 = (0 : Int32)) (hc11_1 : w_lookupLimitReached_pr0 = (0 : Int32)) (hc18_2 : w_lookupsCut_pr0 = (0 : Int32)) :
    MetFree l (⟨"com/example/linkstride/linkstride/engine/Completeness", "complete", "()Z"⟩ : MethodName) (head1 (Jvm.Cond.code (⟨"com/example/linkstride/linkstride/engine/Completeness", "complete", "()Z"⟩ : MethodName) prog_13_method_2_code 1 (some .boolean) :: ws) ({ frames := 0, cells := 0, slots := 0, locals := 0 } : Room)) (fun a U => a = #[(.ref pr0)] ∧ Z.Warmed39 U.vm ∧ U.heap = h0) (fun _ _ _ _ _ => True) (fun _ U o U' => ∃ v L, o = .returned v ∧ Q4_ttt Z pr0 w_budgetReached_pr0 w_lookupLimitReached_pr0 w_lookupsCut_pr0 h0 n0 v U'.heap L ∧ FrameEnd U o U' L ({ frames := 0, cells := 0, slots := 0, locals := 0 } : Room).cells ({ frames := 0, cells := 0, slots := 0, locals := 0 } : Room).slots) := by
  refine MetFree.of_bodySF (plainFor_of_name pn_4) hisR ?_
  intro p e s m args below meth c s₁ Bd hml0 hP hK
  obtain ⟨rfl, hZ, hh⟩ := hP
  have hx := Bd.exec
  have hby := Bd.bytes
  have hml : c.maxLocals = 1 := hml0
  have hown : s.vm.findClass "com/example/linkstride/linkstride/engine/Completeness" = some m.cls := findClass_of_methodNamed Bd.named
  have hnm := (name_of_methodNamed Bd.named Bd.method).1
  have X0 : Stand p l e ({ frames := 0, cells := 0, slots := 0, locals := 0 } : Room) s m #[(.ref pr0)] below meth c s₁ [] 0 0 := Stand.of_body Bd
  have e0 : s₁.heap = h0 := by rw [← hh, Bd.state]; rfl
  have N0 := Fr.nil n0
  have pre0 : ∀ t, Steps p.tables e below (s₁.setTop (mkF m 0 #[.val (.ref pr0)] [])) t → Steps p.tables e below (s₁.setTop (entryFrame m #[(.ref pr0)] 1)) t := fun t k => castTop (ef_4 m pr0) k
  obtain ⟨T1, X1, e1, st1⟩ := getF X0 hx hZ hown (host := "") (Or.inl (hw _ (List.mem_of_getElem? (i := 14) rfl))) Via.refl e0 F_budgetReached_pr0 (g := (mkF m 1 #[.val (.ref pr0)] [(.ref pr0)])) rfl rfl (hb hby d4_1)
  obtain ⟨T2, X2, e2, st2⟩ := getF X1 hx hZ hown (host := "") (Or.inl (hw _ (List.mem_of_getElem? (i := 16) rfl))) Via.refl e1 F_lookupLimitReached_pr0 (g := (mkF m 8 #[.val (.ref pr0)] [(.ref pr0)])) rfl rfl (hb hby d4_8)
  obtain ⟨T3, X3, e3, st3⟩ := getF X2 hx hZ hown (host := "") (Or.inl (hw _ (List.mem_of_getElem? (i := 18) rfl))) Via.refl e2 F_lookupsCut_pr0 (g := (mkF m 15 #[.val (.ref pr0)] [(.ref pr0)])) rfl rfl (hb hby d4_15)
  obtain ⟨fs, hr, hrun, hended, hW, hsame⟩ := X3.leave (v := some (.int (1 : Int32))) (fun h => by rw [Bd.returns] at h; cases h)
  refine ⟨_, _, pre0 _ ?_, hrun, hended, _, _, rfl, ?_, ⟨_, rfl⟩, hW, hsame.mono (by decide) (by decide)⟩
  · show Steps p.tables e below (s₁.setTop (mkF m 0 #[.val (.ref pr0)] [])) _
    refine XS.aloadN X0.here hx rfl (hb hby d4_0) rfl rfl ?_
    show Steps p.tables e below (s₁.setTop (mkF m 1 #[.val (.ref pr0)] [(.ref pr0)])) _
    refine st1 _ ?_
    show Steps p.tables e below (T1.setTop (mkF m 4 #[.val (.ref pr0)] [(.int w_budgetReached_pr0)])) _
    refine XS.ifNo X1.here hx rfl (hb hby d4_4) rfl ((if0 _ _).trans (teq hc4_0).2) ?_
    show Steps p.tables e below (T1.setTop (mkF m 7 #[.val (.ref pr0)] [])) _
    refine XS.aloadN X1.here hx rfl (hb hby d4_7) rfl rfl ?_
    show Steps p.tables e below (T1.setTop (mkF m 8 #[.val (.ref pr0)] [(.ref pr0)])) _
    refine st2 _ ?_
    show Steps p.tables e below (T2.setTop (mkF m 11 #[.val (.ref pr0)] [(.int w_lookupLimitReached_pr0)])) _
    refine XS.ifNo X2.here hx rfl (hb hby d4_11) rfl ((if0 _ _).trans (teq hc11_1).2) ?_
    show Steps p.tables e below (T2.setTop (mkF m 14 #[.val (.ref pr0)] [])) _
    refine XS.aloadN X2.here hx rfl (hb hby d4_14) rfl rfl ?_
    show Steps p.tables e below (T2.setTop (mkF m 15 #[.val (.ref pr0)] [(.ref pr0)])) _
    refine st3 _ ?_
    show Steps p.tables e below (T3.setTop (mkF m 18 #[.val (.ref pr0)] [(.int w_lookupsCut_pr0)])) _
    refine XS.ifNo X3.here hx rfl (hb hby d4_18) rfl ((if0 _ _).trans (teq hc18_2).2) ?_
    show Steps p.tables e below (T3.setTop (mkF m 21 #[.val (.ref pr0)] [])) _
    refine XS.iconst X3.here hx rfl (hb hby d4_21) ?_
    show Steps p.tables e below (T3.setTop (mkF m 22 #[.val (.ref pr0)] [(.int (1 : Int32))])) _
    refine XS.goto X3.here hx rfl (pc0 := 22) (pc' := 26) rfl (hb hby d4_22) (by decide) (by decide) ?_
    show Steps p.tables e below (T3.setTop (mkF m 26 #[.val (.ref pr0)] [(.int (1 : Int32))])) _
    exact retN X3 hx (t := .boolean) Bd.returns (by simp) (hb hby d4_26) hr
  · show Q4_ttt Z pr0 w_budgetReached_pr0 w_lookupLimitReached_pr0 w_lookupsCut_pr0 h0 n0 _ T3.heap _
    rw [e3]
    exact ⟨rfl, N0, rfl⟩
theorem d4_25 : decode prog_13_method_2_code 25 = .ok (.iconst 0, 1) := by decide +kernel
def Q4_ttf (Z : State) (pr0 : Addr) (w_budgetReached_pr0 : Int32) (w_lookupLimitReached_pr0 : Int32) (w_lookupsCut_pr0 : Int32) (h0 : Heap) (n0 : Nat) (v : Option Value) (h : Heap) (L : List Loc) : Prop := v = some (.int (0 : Int32)) ∧ Fr n0 L ∧ h = h0
set_option maxRecDepth 65536 in
set_option maxHeartbeats 40000000 in
theorem rm4_ttf (l : Launch) (Z : State) (a0 : Array Value) (hw : ∀ d ∈ tables_1, d.before a0 Z = true) (ws : List Jvm.Cond) (pr0 : Addr) (w_budgetReached_pr0 : Int32) (w_lookupLimitReached_pr0 : Int32) (w_lookupsCut_pr0 : Int32) (h0 : Heap) (n0 : Nat) (Z0 : n0 ≤ h0.size) (O0 : Old Z n0 h0) (F_budgetReached_pr0 : Fld Z h0 pr0 "com/example/linkstride/linkstride/engine/Completeness" "budgetReached" "Z" (.int w_budgetReached_pr0)) (F_lookupLimitReached_pr0 : Fld Z h0 pr0 "com/example/linkstride/linkstride/engine/Completeness" "lookupLimitReached" "Z" (.int w_lookupLimitReached_pr0)) (F_lookupsCut_pr0 : Fld Z h0 pr0 "com/example/linkstride/linkstride/engine/Completeness" "lookupsCut" "I" (.int w_lookupsCut_pr0)) (hc4_0 : w_budgetReached_pr0 = (0 : Int32)) (hc11_1 : w_lookupLimitReached_pr0 = (0 : Int32)) (hc18_2 : ¬ (w_lookupsCut_pr0 = (0 : Int32))) :
    MetFree l (⟨"com/example/linkstride/linkstride/engine/Completeness", "complete", "()Z"⟩ : MethodName) (head1 (Jvm.Cond.code (⟨"com/example/linkstride/linkstride/engine/Completeness", "complete", "()Z"⟩ : MethodName) prog_13_method_2_code 1 (some .boolean) :: ws) ({ frames := 0, cells := 0, slots := 0, locals := 0 } : Room)) (fun a U => a = #[(.ref pr0)] ∧ Z.Warmed39 U.vm ∧ U.heap = h0) (fun _ _ _ _ _ => True) (fun _ U o U' => ∃ v L, o = .returned v ∧ Q4_ttf Z pr0 w_budgetReached_pr0 w_lookupLimitReached_pr0 w_lookupsCut_pr0 h0 n0 v U'.heap L ∧ FrameEnd U o U' L ({ frames := 0, cells := 0, slots := 0, locals := 0 } : Room).cells ({ frames := 0, cells := 0, slots := 0, locals := 0 } : Room).slots) := by
  refine MetFree.of_bodySF (plainFor_of_name pn_4) hisR ?_
  intro p e s m args below meth c s₁ Bd hml0 hP hK
  obtain ⟨rfl, hZ, hh⟩ := hP
  have hx := Bd.exec
  have hby := Bd.bytes
  have hml : c.maxLocals = 1 := hml0
  have hown : s.vm.findClass "com/example/linkstride/linkstride/engine/Completeness" = some m.cls := findClass_of_methodNamed Bd.named
  have hnm := (name_of_methodNamed Bd.named Bd.method).1
  have X0 : Stand p l e ({ frames := 0, cells := 0, slots := 0, locals := 0 } : Room) s m #[(.ref pr0)] below meth c s₁ [] 0 0 := Stand.of_body Bd
  have e0 : s₁.heap = h0 := by rw [← hh, Bd.state]; rfl
  have N0 := Fr.nil n0
  have pre0 : ∀ t, Steps p.tables e below (s₁.setTop (mkF m 0 #[.val (.ref pr0)] [])) t → Steps p.tables e below (s₁.setTop (entryFrame m #[(.ref pr0)] 1)) t := fun t k => castTop (ef_4 m pr0) k
  obtain ⟨T1, X1, e1, st1⟩ := getF X0 hx hZ hown (host := "") (Or.inl (hw _ (List.mem_of_getElem? (i := 14) rfl))) Via.refl e0 F_budgetReached_pr0 (g := (mkF m 1 #[.val (.ref pr0)] [(.ref pr0)])) rfl rfl (hb hby d4_1)
  obtain ⟨T2, X2, e2, st2⟩ := getF X1 hx hZ hown (host := "") (Or.inl (hw _ (List.mem_of_getElem? (i := 16) rfl))) Via.refl e1 F_lookupLimitReached_pr0 (g := (mkF m 8 #[.val (.ref pr0)] [(.ref pr0)])) rfl rfl (hb hby d4_8)
  obtain ⟨T3, X3, e3, st3⟩ := getF X2 hx hZ hown (host := "") (Or.inl (hw _ (List.mem_of_getElem? (i := 18) rfl))) Via.refl e2 F_lookupsCut_pr0 (g := (mkF m 15 #[.val (.ref pr0)] [(.ref pr0)])) rfl rfl (hb hby d4_15)
  obtain ⟨fs, hr, hrun, hended, hW, hsame⟩ := X3.leave (v := some (.int (0 : Int32))) (fun h => by rw [Bd.returns] at h; cases h)
  refine ⟨_, _, pre0 _ ?_, hrun, hended, _, _, rfl, ?_, ⟨_, rfl⟩, hW, hsame.mono (by decide) (by decide)⟩
  · show Steps p.tables e below (s₁.setTop (mkF m 0 #[.val (.ref pr0)] [])) _
    refine XS.aloadN X0.here hx rfl (hb hby d4_0) rfl rfl ?_
    show Steps p.tables e below (s₁.setTop (mkF m 1 #[.val (.ref pr0)] [(.ref pr0)])) _
    refine st1 _ ?_
    show Steps p.tables e below (T1.setTop (mkF m 4 #[.val (.ref pr0)] [(.int w_budgetReached_pr0)])) _
    refine XS.ifNo X1.here hx rfl (hb hby d4_4) rfl ((if0 _ _).trans (teq hc4_0).2) ?_
    show Steps p.tables e below (T1.setTop (mkF m 7 #[.val (.ref pr0)] [])) _
    refine XS.aloadN X1.here hx rfl (hb hby d4_7) rfl rfl ?_
    show Steps p.tables e below (T1.setTop (mkF m 8 #[.val (.ref pr0)] [(.ref pr0)])) _
    refine st2 _ ?_
    show Steps p.tables e below (T2.setTop (mkF m 11 #[.val (.ref pr0)] [(.int w_lookupLimitReached_pr0)])) _
    refine XS.ifNo X2.here hx rfl (hb hby d4_11) rfl ((if0 _ _).trans (teq hc11_1).2) ?_
    show Steps p.tables e below (T2.setTop (mkF m 14 #[.val (.ref pr0)] [])) _
    refine XS.aloadN X2.here hx rfl (hb hby d4_14) rfl rfl ?_
    show Steps p.tables e below (T2.setTop (mkF m 15 #[.val (.ref pr0)] [(.ref pr0)])) _
    refine st3 _ ?_
    show Steps p.tables e below (T3.setTop (mkF m 18 #[.val (.ref pr0)] [(.int w_lookupsCut_pr0)])) _
    refine XS.ifYes X3.here hx rfl (pc0 := 18) (pc' := 25) rfl (hb hby d4_18) rfl ((if0 _ _).trans (feq hc18_2).2) (by decide) (by decide) ?_
    show Steps p.tables e below (T3.setTop (mkF m 25 #[.val (.ref pr0)] [])) _
    refine XS.iconst X3.here hx rfl (hb hby d4_25) ?_
    show Steps p.tables e below (T3.setTop (mkF m 26 #[.val (.ref pr0)] [(.int (0 : Int32))])) _
    exact retN X3 hx (t := .boolean) Bd.returns (by simp) (hb hby d4_26) hr
  · show Q4_ttf Z pr0 w_budgetReached_pr0 w_lookupLimitReached_pr0 w_lookupsCut_pr0 h0 n0 _ T3.heap _
    rw [e3]
    exact ⟨rfl, N0, rfl⟩
def Q4_tf (Z : State) (pr0 : Addr) (w_budgetReached_pr0 : Int32) (w_lookupLimitReached_pr0 : Int32) (h0 : Heap) (n0 : Nat) (v : Option Value) (h : Heap) (L : List Loc) : Prop := v = some (.int (0 : Int32)) ∧ Fr n0 L ∧ h = h0
set_option maxRecDepth 65536 in
set_option maxHeartbeats 40000000 in
theorem rm4_tf (l : Launch) (Z : State) (a0 : Array Value) (hw : ∀ d ∈ tables_1, d.before a0 Z = true) (ws : List Jvm.Cond) (pr0 : Addr) (w_budgetReached_pr0 : Int32) (w_lookupLimitReached_pr0 : Int32) (h0 : Heap) (n0 : Nat) (Z0 : n0 ≤ h0.size) (O0 : Old Z n0 h0) (F_budgetReached_pr0 : Fld Z h0 pr0 "com/example/linkstride/linkstride/engine/Completeness" "budgetReached" "Z" (.int w_budgetReached_pr0)) (F_lookupLimitReached_pr0 : Fld Z h0 pr0 "com/example/linkstride/linkstride/engine/Completeness" "lookupLimitReached" "Z" (.int w_lookupLimitReached_pr0)) (hc4_0 : w_budgetReached_pr0 = (0 : Int32)) (hc11_1 : ¬ (w_lookupLimitReached_pr0 = (0 : Int32))) :
    MetFree l (⟨"com/example/linkstride/linkstride/engine/Completeness", "complete", "()Z"⟩ : MethodName) (head1 (Jvm.Cond.code (⟨"com/example/linkstride/linkstride/engine/Completeness", "complete", "()Z"⟩ : MethodName) prog_13_method_2_code 1 (some .boolean) :: ws) ({ frames := 0, cells := 0, slots := 0, locals := 0 } : Room)) (fun a U => a = #[(.ref pr0)] ∧ Z.Warmed39 U.vm ∧ U.heap = h0) (fun _ _ _ _ _ => True) (fun _ U o U' => ∃ v L, o = .returned v ∧ Q4_tf Z pr0 w_budgetReached_pr0 w_lookupLimitReached_pr0 h0 n0 v U'.heap L ∧ FrameEnd U o U' L ({ frames := 0, cells := 0, slots := 0, locals := 0 } : Room).cells ({ frames := 0, cells := 0, slots := 0, locals := 0 } : Room).slots) := by
  refine MetFree.of_bodySF (plainFor_of_name pn_4) hisR ?_
  intro p e s m args below meth c s₁ Bd hml0 hP hK
  obtain ⟨rfl, hZ, hh⟩ := hP
  have hx := Bd.exec
  have hby := Bd.bytes
  have hml : c.maxLocals = 1 := hml0
  have hown : s.vm.findClass "com/example/linkstride/linkstride/engine/Completeness" = some m.cls := findClass_of_methodNamed Bd.named
  have hnm := (name_of_methodNamed Bd.named Bd.method).1
  have X0 : Stand p l e ({ frames := 0, cells := 0, slots := 0, locals := 0 } : Room) s m #[(.ref pr0)] below meth c s₁ [] 0 0 := Stand.of_body Bd
  have e0 : s₁.heap = h0 := by rw [← hh, Bd.state]; rfl
  have N0 := Fr.nil n0
  have pre0 : ∀ t, Steps p.tables e below (s₁.setTop (mkF m 0 #[.val (.ref pr0)] [])) t → Steps p.tables e below (s₁.setTop (entryFrame m #[(.ref pr0)] 1)) t := fun t k => castTop (ef_4 m pr0) k
  obtain ⟨T1, X1, e1, st1⟩ := getF X0 hx hZ hown (host := "") (Or.inl (hw _ (List.mem_of_getElem? (i := 14) rfl))) Via.refl e0 F_budgetReached_pr0 (g := (mkF m 1 #[.val (.ref pr0)] [(.ref pr0)])) rfl rfl (hb hby d4_1)
  obtain ⟨T2, X2, e2, st2⟩ := getF X1 hx hZ hown (host := "") (Or.inl (hw _ (List.mem_of_getElem? (i := 16) rfl))) Via.refl e1 F_lookupLimitReached_pr0 (g := (mkF m 8 #[.val (.ref pr0)] [(.ref pr0)])) rfl rfl (hb hby d4_8)
  obtain ⟨fs, hr, hrun, hended, hW, hsame⟩ := X2.leave (v := some (.int (0 : Int32))) (fun h => by rw [Bd.returns] at h; cases h)
  refine ⟨_, _, pre0 _ ?_, hrun, hended, _, _, rfl, ?_, ⟨_, rfl⟩, hW, hsame.mono (by decide) (by decide)⟩
  · show Steps p.tables e below (s₁.setTop (mkF m 0 #[.val (.ref pr0)] [])) _
    refine XS.aloadN X0.here hx rfl (hb hby d4_0) rfl rfl ?_
    show Steps p.tables e below (s₁.setTop (mkF m 1 #[.val (.ref pr0)] [(.ref pr0)])) _
    refine st1 _ ?_
    show Steps p.tables e below (T1.setTop (mkF m 4 #[.val (.ref pr0)] [(.int w_budgetReached_pr0)])) _
    refine XS.ifNo X1.here hx rfl (hb hby d4_4) rfl ((if0 _ _).trans (teq hc4_0).2) ?_
    show Steps p.tables e below (T1.setTop (mkF m 7 #[.val (.ref pr0)] [])) _
    refine XS.aloadN X1.here hx rfl (hb hby d4_7) rfl rfl ?_
    show Steps p.tables e below (T1.setTop (mkF m 8 #[.val (.ref pr0)] [(.ref pr0)])) _
    refine st2 _ ?_
    show Steps p.tables e below (T2.setTop (mkF m 11 #[.val (.ref pr0)] [(.int w_lookupLimitReached_pr0)])) _
    refine XS.ifYes X2.here hx rfl (pc0 := 11) (pc' := 25) rfl (hb hby d4_11) rfl ((if0 _ _).trans (feq hc11_1).2) (by decide) (by decide) ?_
    show Steps p.tables e below (T2.setTop (mkF m 25 #[.val (.ref pr0)] [])) _
    refine XS.iconst X2.here hx rfl (hb hby d4_25) ?_
    show Steps p.tables e below (T2.setTop (mkF m 26 #[.val (.ref pr0)] [(.int (0 : Int32))])) _
    exact retN X2 hx (t := .boolean) Bd.returns (by simp) (hb hby d4_26) hr
  · show Q4_tf Z pr0 w_budgetReached_pr0 w_lookupLimitReached_pr0 h0 n0 _ T2.heap _
    rw [e2]
    exact ⟨rfl, N0, rfl⟩
def Q4_f (Z : State) (pr0 : Addr) (w_budgetReached_pr0 : Int32) (h0 : Heap) (n0 : Nat) (v : Option Value) (h : Heap) (L : List Loc) : Prop := v = some (.int (0 : Int32)) ∧ Fr n0 L ∧ h = h0
set_option maxRecDepth 65536 in
set_option maxHeartbeats 40000000 in
theorem rm4_f (l : Launch) (Z : State) (a0 : Array Value) (hw : ∀ d ∈ tables_1, d.before a0 Z = true) (ws : List Jvm.Cond) (pr0 : Addr) (w_budgetReached_pr0 : Int32) (h0 : Heap) (n0 : Nat) (Z0 : n0 ≤ h0.size) (O0 : Old Z n0 h0) (F_budgetReached_pr0 : Fld Z h0 pr0 "com/example/linkstride/linkstride/engine/Completeness" "budgetReached" "Z" (.int w_budgetReached_pr0)) (hc4_0 : ¬ (w_budgetReached_pr0 = (0 : Int32))) :
    MetFree l (⟨"com/example/linkstride/linkstride/engine/Completeness", "complete", "()Z"⟩ : MethodName) (head1 (Jvm.Cond.code (⟨"com/example/linkstride/linkstride/engine/Completeness", "complete", "()Z"⟩ : MethodName) prog_13_method_2_code 1 (some .boolean) :: ws) ({ frames := 0, cells := 0, slots := 0, locals := 0 } : Room)) (fun a U => a = #[(.ref pr0)] ∧ Z.Warmed39 U.vm ∧ U.heap = h0) (fun _ _ _ _ _ => True) (fun _ U o U' => ∃ v L, o = .returned v ∧ Q4_f Z pr0 w_budgetReached_pr0 h0 n0 v U'.heap L ∧ FrameEnd U o U' L ({ frames := 0, cells := 0, slots := 0, locals := 0 } : Room).cells ({ frames := 0, cells := 0, slots := 0, locals := 0 } : Room).slots) := by
  refine MetFree.of_bodySF (plainFor_of_name pn_4) hisR ?_
  intro p e s m args below meth c s₁ Bd hml0 hP hK
  obtain ⟨rfl, hZ, hh⟩ := hP
  have hx := Bd.exec
  have hby := Bd.bytes
  have hml : c.maxLocals = 1 := hml0
  have hown : s.vm.findClass "com/example/linkstride/linkstride/engine/Completeness" = some m.cls := findClass_of_methodNamed Bd.named
  have hnm := (name_of_methodNamed Bd.named Bd.method).1
  have X0 : Stand p l e ({ frames := 0, cells := 0, slots := 0, locals := 0 } : Room) s m #[(.ref pr0)] below meth c s₁ [] 0 0 := Stand.of_body Bd
  have e0 : s₁.heap = h0 := by rw [← hh, Bd.state]; rfl
  have N0 := Fr.nil n0
  have pre0 : ∀ t, Steps p.tables e below (s₁.setTop (mkF m 0 #[.val (.ref pr0)] [])) t → Steps p.tables e below (s₁.setTop (entryFrame m #[(.ref pr0)] 1)) t := fun t k => castTop (ef_4 m pr0) k
  obtain ⟨T1, X1, e1, st1⟩ := getF X0 hx hZ hown (host := "") (Or.inl (hw _ (List.mem_of_getElem? (i := 14) rfl))) Via.refl e0 F_budgetReached_pr0 (g := (mkF m 1 #[.val (.ref pr0)] [(.ref pr0)])) rfl rfl (hb hby d4_1)
  obtain ⟨fs, hr, hrun, hended, hW, hsame⟩ := X1.leave (v := some (.int (0 : Int32))) (fun h => by rw [Bd.returns] at h; cases h)
  refine ⟨_, _, pre0 _ ?_, hrun, hended, _, _, rfl, ?_, ⟨_, rfl⟩, hW, hsame.mono (by decide) (by decide)⟩
  · show Steps p.tables e below (s₁.setTop (mkF m 0 #[.val (.ref pr0)] [])) _
    refine XS.aloadN X0.here hx rfl (hb hby d4_0) rfl rfl ?_
    show Steps p.tables e below (s₁.setTop (mkF m 1 #[.val (.ref pr0)] [(.ref pr0)])) _
    refine st1 _ ?_
    show Steps p.tables e below (T1.setTop (mkF m 4 #[.val (.ref pr0)] [(.int w_budgetReached_pr0)])) _
    refine XS.ifYes X1.here hx rfl (pc0 := 4) (pc' := 25) rfl (hb hby d4_4) rfl ((if0 _ _).trans (feq hc4_0).2) (by decide) (by decide) ?_
    show Steps p.tables e below (T1.setTop (mkF m 25 #[.val (.ref pr0)] [])) _
    refine XS.iconst X1.here hx rfl (hb hby d4_25) ?_
    show Steps p.tables e below (T1.setTop (mkF m 26 #[.val (.ref pr0)] [(.int (0 : Int32))])) _
    exact retN X1 hx (t := .boolean) Bd.returns (by simp) (hb hby d4_26) hr
  · show Q4_f Z pr0 w_budgetReached_pr0 h0 n0 _ T1.heap _
    rw [e1]
    exact ⟨rfl, N0, rfl⟩
theorem d5_0 : decode prog_13_method_6_code 0 = .ok (.aload_n 0, 1) := by decide +kernel
theorem d5_1 : decode prog_13_method_6_code 1 = .ok (.getfield 7, 3) := by decide +kernel
theorem d5_4 : decode prog_13_method_6_code 4 = .ok (.ireturn, 1) := by decide +kernel
theorem pn_5 : plainName "com/example/linkstride/linkstride/engine/Completeness" = true := by first | (simp [plainName, overriddenIn]; done) | decide +kernel
theorem ef_5 (m : MethodId) (pr0 : Addr) : entryFrame m #[(.ref pr0)] 1 = mkF m 0 #[.val (.ref pr0)] [] := by first | (simp [entryFrame, mkF, argsToLocals, Value.category]; done) | rfl
def Q5 (Z : State) (pr0 : Addr) (w_budgetReached_pr0 : Int32) (h0 : Heap) (n0 : Nat) (v : Option Value) (h : Heap) (L : List Loc) : Prop := v = some (.int (nar .boolean w_budgetReached_pr0)) ∧ Fr n0 L ∧ h = h0
set_option maxRecDepth 65536 in
set_option maxHeartbeats 40000000 in
theorem rm5 (l : Launch) (Z : State) (a0 : Array Value) (hw : ∀ d ∈ tables_1, d.before a0 Z = true) (ws : List Jvm.Cond) (pr0 : Addr) (w_budgetReached_pr0 : Int32) (h0 : Heap) (n0 : Nat) (Z0 : n0 ≤ h0.size) (O0 : Old Z n0 h0) (F_budgetReached_pr0 : Fld Z h0 pr0 "com/example/linkstride/linkstride/engine/Completeness" "budgetReached" "Z" (.int w_budgetReached_pr0)) :
    MetFree l (⟨"com/example/linkstride/linkstride/engine/Completeness", "budgetReached", "()Z"⟩ : MethodName) (head1 (Jvm.Cond.code (⟨"com/example/linkstride/linkstride/engine/Completeness", "budgetReached", "()Z"⟩ : MethodName) prog_13_method_6_code 1 (some .boolean) :: ws) ({ frames := 0, cells := 0, slots := 0, locals := 0 } : Room)) (fun a U => a = #[(.ref pr0)] ∧ Z.Warmed39 U.vm ∧ U.heap = h0) (fun _ _ _ _ _ => True) (fun _ U o U' => ∃ v L, o = .returned v ∧ Q5 Z pr0 w_budgetReached_pr0 h0 n0 v U'.heap L ∧ FrameEnd U o U' L ({ frames := 0, cells := 0, slots := 0, locals := 0 } : Room).cells ({ frames := 0, cells := 0, slots := 0, locals := 0 } : Room).slots) := by
  refine MetFree.of_bodySF (plainFor_of_name pn_5) hisR ?_
  intro p e s m args below meth c s₁ Bd hml0 hP hK
  obtain ⟨rfl, hZ, hh⟩ := hP
  have hx := Bd.exec
  have hby := Bd.bytes
  have hml : c.maxLocals = 1 := hml0
  have hown : s.vm.findClass "com/example/linkstride/linkstride/engine/Completeness" = some m.cls := findClass_of_methodNamed Bd.named
  have hnm := (name_of_methodNamed Bd.named Bd.method).1
  have X0 : Stand p l e ({ frames := 0, cells := 0, slots := 0, locals := 0 } : Room) s m #[(.ref pr0)] below meth c s₁ [] 0 0 := Stand.of_body Bd
  have e0 : s₁.heap = h0 := by rw [← hh, Bd.state]; rfl
  have N0 := Fr.nil n0
  have pre0 : ∀ t, Steps p.tables e below (s₁.setTop (mkF m 0 #[.val (.ref pr0)] [])) t → Steps p.tables e below (s₁.setTop (entryFrame m #[(.ref pr0)] 1)) t := fun t k => castTop (ef_5 m pr0) k
  obtain ⟨T1, X1, e1, st1⟩ := getF X0 hx hZ hown (host := "") (Or.inl (hw _ (List.mem_of_getElem? (i := 14) rfl))) Via.refl e0 F_budgetReached_pr0 (g := (mkF m 1 #[.val (.ref pr0)] [(.ref pr0)])) rfl rfl (hb hby d5_1)
  obtain ⟨fs, hr, hrun, hended, hW, hsame⟩ := X1.leave (v := some (.int (nar .boolean w_budgetReached_pr0))) (fun h => by rw [Bd.returns] at h; cases h)
  refine ⟨_, _, pre0 _ ?_, hrun, hended, _, _, rfl, ?_, ⟨_, rfl⟩, hW, hsame.mono (by decide) (by decide)⟩
  · show Steps p.tables e below (s₁.setTop (mkF m 0 #[.val (.ref pr0)] [])) _
    refine XS.aloadN X0.here hx rfl (hb hby d5_0) rfl rfl ?_
    show Steps p.tables e below (s₁.setTop (mkF m 1 #[.val (.ref pr0)] [(.ref pr0)])) _
    refine st1 _ ?_
    show Steps p.tables e below (T1.setTop (mkF m 4 #[.val (.ref pr0)] [(.int w_budgetReached_pr0)])) _
    exact retN X1 hx (t := .boolean) Bd.returns (by simp) (hb hby d5_4) hr
  · show Q5 Z pr0 w_budgetReached_pr0 h0 n0 _ T1.heap _
    rw [e1]
    exact ⟨rfl, N0, rfl⟩
theorem d6_0 : decode prog_13_method_7_code 0 = .ok (.aload_n 0, 1) := by decide +kernel
theorem d6_1 : decode prog_13_method_7_code 1 = .ok (.getfield 13, 3) := by decide +kernel
theorem d6_4 : decode prog_13_method_7_code 4 = .ok (.ireturn, 1) := by decide +kernel
theorem pn_6 : plainName "com/example/linkstride/linkstride/engine/Completeness" = true := by first | (simp [plainName, overriddenIn]; done) | decide +kernel
theorem ef_6 (m : MethodId) (pr0 : Addr) : entryFrame m #[(.ref pr0)] 1 = mkF m 0 #[.val (.ref pr0)] [] := by first | (simp [entryFrame, mkF, argsToLocals, Value.category]; done) | rfl
def Q6 (Z : State) (pr0 : Addr) (w_lookupLimitReached_pr0 : Int32) (h0 : Heap) (n0 : Nat) (v : Option Value) (h : Heap) (L : List Loc) : Prop := v = some (.int (nar .boolean w_lookupLimitReached_pr0)) ∧ Fr n0 L ∧ h = h0
set_option maxRecDepth 65536 in
set_option maxHeartbeats 40000000 in
theorem rm6 (l : Launch) (Z : State) (a0 : Array Value) (hw : ∀ d ∈ tables_1, d.before a0 Z = true) (ws : List Jvm.Cond) (pr0 : Addr) (w_lookupLimitReached_pr0 : Int32) (h0 : Heap) (n0 : Nat) (Z0 : n0 ≤ h0.size) (O0 : Old Z n0 h0) (F_lookupLimitReached_pr0 : Fld Z h0 pr0 "com/example/linkstride/linkstride/engine/Completeness" "lookupLimitReached" "Z" (.int w_lookupLimitReached_pr0)) :
    MetFree l (⟨"com/example/linkstride/linkstride/engine/Completeness", "lookupLimitReached", "()Z"⟩ : MethodName) (head1 (Jvm.Cond.code (⟨"com/example/linkstride/linkstride/engine/Completeness", "lookupLimitReached", "()Z"⟩ : MethodName) prog_13_method_7_code 1 (some .boolean) :: ws) ({ frames := 0, cells := 0, slots := 0, locals := 0 } : Room)) (fun a U => a = #[(.ref pr0)] ∧ Z.Warmed39 U.vm ∧ U.heap = h0) (fun _ _ _ _ _ => True) (fun _ U o U' => ∃ v L, o = .returned v ∧ Q6 Z pr0 w_lookupLimitReached_pr0 h0 n0 v U'.heap L ∧ FrameEnd U o U' L ({ frames := 0, cells := 0, slots := 0, locals := 0 } : Room).cells ({ frames := 0, cells := 0, slots := 0, locals := 0 } : Room).slots) := by
  refine MetFree.of_bodySF (plainFor_of_name pn_6) hisR ?_
  intro p e s m args below meth c s₁ Bd hml0 hP hK
  obtain ⟨rfl, hZ, hh⟩ := hP
  have hx := Bd.exec
  have hby := Bd.bytes
  have hml : c.maxLocals = 1 := hml0
  have hown : s.vm.findClass "com/example/linkstride/linkstride/engine/Completeness" = some m.cls := findClass_of_methodNamed Bd.named
  have hnm := (name_of_methodNamed Bd.named Bd.method).1
  have X0 : Stand p l e ({ frames := 0, cells := 0, slots := 0, locals := 0 } : Room) s m #[(.ref pr0)] below meth c s₁ [] 0 0 := Stand.of_body Bd
  have e0 : s₁.heap = h0 := by rw [← hh, Bd.state]; rfl
  have N0 := Fr.nil n0
  have pre0 : ∀ t, Steps p.tables e below (s₁.setTop (mkF m 0 #[.val (.ref pr0)] [])) t → Steps p.tables e below (s₁.setTop (entryFrame m #[(.ref pr0)] 1)) t := fun t k => castTop (ef_6 m pr0) k
  obtain ⟨T1, X1, e1, st1⟩ := getF X0 hx hZ hown (host := "") (Or.inl (hw _ (List.mem_of_getElem? (i := 16) rfl))) Via.refl e0 F_lookupLimitReached_pr0 (g := (mkF m 1 #[.val (.ref pr0)] [(.ref pr0)])) rfl rfl (hb hby d6_1)
  obtain ⟨fs, hr, hrun, hended, hW, hsame⟩ := X1.leave (v := some (.int (nar .boolean w_lookupLimitReached_pr0))) (fun h => by rw [Bd.returns] at h; cases h)
  refine ⟨_, _, pre0 _ ?_, hrun, hended, _, _, rfl, ?_, ⟨_, rfl⟩, hW, hsame.mono (by decide) (by decide)⟩
  · show Steps p.tables e below (s₁.setTop (mkF m 0 #[.val (.ref pr0)] [])) _
    refine XS.aloadN X0.here hx rfl (hb hby d6_0) rfl rfl ?_
    show Steps p.tables e below (s₁.setTop (mkF m 1 #[.val (.ref pr0)] [(.ref pr0)])) _
    refine st1 _ ?_
    show Steps p.tables e below (T1.setTop (mkF m 4 #[.val (.ref pr0)] [(.int w_lookupLimitReached_pr0)])) _
    exact retN X1 hx (t := .boolean) Bd.returns (by simp) (hb hby d6_4) hr
  · show Q6 Z pr0 w_lookupLimitReached_pr0 h0 n0 _ T1.heap _
    rw [e1]
    exact ⟨rfl, N0, rfl⟩
theorem d7_0 : decode prog_13_method_8_code 0 = .ok (.aload_n 0, 1) := by decide +kernel
theorem d7_1 : decode prog_13_method_8_code 1 = .ok (.getfield 16, 3) := by decide +kernel
theorem d7_4 : decode prog_13_method_8_code 4 = .ok (.ireturn, 1) := by decide +kernel
theorem pn_7 : plainName "com/example/linkstride/linkstride/engine/Completeness" = true := by first | (simp [plainName, overriddenIn]; done) | decide +kernel
theorem ef_7 (m : MethodId) (pr0 : Addr) : entryFrame m #[(.ref pr0)] 1 = mkF m 0 #[.val (.ref pr0)] [] := by first | (simp [entryFrame, mkF, argsToLocals, Value.category]; done) | rfl
def Q7 (Z : State) (pr0 : Addr) (w_lookupsCut_pr0 : Int32) (h0 : Heap) (n0 : Nat) (v : Option Value) (h : Heap) (L : List Loc) : Prop := v = some (.int w_lookupsCut_pr0) ∧ Fr n0 L ∧ h = h0
set_option maxRecDepth 65536 in
set_option maxHeartbeats 40000000 in
theorem rm7 (l : Launch) (Z : State) (a0 : Array Value) (hw : ∀ d ∈ tables_1, d.before a0 Z = true) (ws : List Jvm.Cond) (pr0 : Addr) (w_lookupsCut_pr0 : Int32) (h0 : Heap) (n0 : Nat) (Z0 : n0 ≤ h0.size) (O0 : Old Z n0 h0) (F_lookupsCut_pr0 : Fld Z h0 pr0 "com/example/linkstride/linkstride/engine/Completeness" "lookupsCut" "I" (.int w_lookupsCut_pr0)) :
    MetFree l (⟨"com/example/linkstride/linkstride/engine/Completeness", "lookupsCut", "()I"⟩ : MethodName) (head1 (Jvm.Cond.code (⟨"com/example/linkstride/linkstride/engine/Completeness", "lookupsCut", "()I"⟩ : MethodName) prog_13_method_8_code 1 (some .int) :: ws) ({ frames := 0, cells := 0, slots := 0, locals := 0 } : Room)) (fun a U => a = #[(.ref pr0)] ∧ Z.Warmed39 U.vm ∧ U.heap = h0) (fun _ _ _ _ _ => True) (fun _ U o U' => ∃ v L, o = .returned v ∧ Q7 Z pr0 w_lookupsCut_pr0 h0 n0 v U'.heap L ∧ FrameEnd U o U' L ({ frames := 0, cells := 0, slots := 0, locals := 0 } : Room).cells ({ frames := 0, cells := 0, slots := 0, locals := 0 } : Room).slots) := by
  refine MetFree.of_bodySF (plainFor_of_name pn_7) hisR ?_
  intro p e s m args below meth c s₁ Bd hml0 hP hK
  obtain ⟨rfl, hZ, hh⟩ := hP
  have hx := Bd.exec
  have hby := Bd.bytes
  have hml : c.maxLocals = 1 := hml0
  have hown : s.vm.findClass "com/example/linkstride/linkstride/engine/Completeness" = some m.cls := findClass_of_methodNamed Bd.named
  have hnm := (name_of_methodNamed Bd.named Bd.method).1
  have X0 : Stand p l e ({ frames := 0, cells := 0, slots := 0, locals := 0 } : Room) s m #[(.ref pr0)] below meth c s₁ [] 0 0 := Stand.of_body Bd
  have e0 : s₁.heap = h0 := by rw [← hh, Bd.state]; rfl
  have N0 := Fr.nil n0
  have pre0 : ∀ t, Steps p.tables e below (s₁.setTop (mkF m 0 #[.val (.ref pr0)] [])) t → Steps p.tables e below (s₁.setTop (entryFrame m #[(.ref pr0)] 1)) t := fun t k => castTop (ef_7 m pr0) k
  obtain ⟨T1, X1, e1, st1⟩ := getF X0 hx hZ hown (host := "") (Or.inl (hw _ (List.mem_of_getElem? (i := 18) rfl))) Via.refl e0 F_lookupsCut_pr0 (g := (mkF m 1 #[.val (.ref pr0)] [(.ref pr0)])) rfl rfl (hb hby d7_1)
  obtain ⟨fs, hr, hrun, hended, hW, hsame⟩ := X1.leave (v := some (.int w_lookupsCut_pr0)) (fun h => by rw [Bd.returns] at h; cases h)
  refine ⟨_, _, pre0 _ ?_, hrun, hended, _, _, rfl, ?_, ⟨_, rfl⟩, hW, hsame.mono (by decide) (by decide)⟩
  · show Steps p.tables e below (s₁.setTop (mkF m 0 #[.val (.ref pr0)] [])) _
    refine XS.aloadN X0.here hx rfl (hb hby d7_0) rfl rfl ?_
    show Steps p.tables e below (s₁.setTop (mkF m 1 #[.val (.ref pr0)] [(.ref pr0)])) _
    refine st1 _ ?_
    show Steps p.tables e below (T1.setTop (mkF m 4 #[.val (.ref pr0)] [(.int w_lookupsCut_pr0)])) _
    exact retI X1 hx Bd.returns (hb hby d7_4) hr
  · show Q7 Z pr0 w_lookupsCut_pr0 h0 n0 _ T1.heap _
    rw [e1]
    exact ⟨rfl, N0, rfl⟩
theorem pd_0 : parseMethodDescriptor "(ZZI)V" = some ⟨[.boolean, .boolean, .int], none⟩ := by decide +kernel
theorem pd_2 : parseMethodDescriptor "()Z" = some ⟨[], some .boolean⟩ := by decide +kernel
theorem pd_3 : parseMethodDescriptor "()I" = some ⟨[], some .int⟩ := by decide +kernel
theorem pn_0 : plainName "com/example/linkstride/linkstride/engine/CompletenessCompletePinLaw" = true := by first | (simp [plainName, overriddenIn]; done) | decide +kernel
theorem ef_0 (m : MethodId) (pi1 : Int32) (pi2 : Int32) : entryFrame m #[(.int pi1), (.int pi2)] maxLocals = mkF m 0 #[.val (.int pi1), .val (.int pi2), .unset, .unset, .unset, .unset, .unset] [] := by first | (simp [entryFrame, mkF, argsToLocals, Value.category, maxLocals]; done) | rfl
def Q0 (v : Option Value) (L : List Loc) (n0 : Nat) : Prop := v = some (.int (1 : Int32)) ∧ Fr n0 L
set_option maxRecDepth 65536 in
set_option maxHeartbeats 40000000 in
theorem rm0_ttt (l : Launch) (Z : State) (a0 : Array Value) (hw : ∀ d ∈ tables_1, d.before a0 Z = true) (ws : List Jvm.Cond) (pi1 : Int32) (pi2 : Int32) (h0 : Heap) (n0 : Nat) (Z0 : n0 ≤ h0.size) (O0 : Old Z n0 h0) (hc3_0 : (pi1 &&& (1 : Int32)) = (0 : Int32)) (hc15_1 : (pi1 &&& (2 : Int32)) = (0 : Int32)) (hc27_2 : (pi2 &&& (3 : Int32)) = (0 : Int32)) :
    MetFree l x (head1 (Jvm.Cond.code x code maxLocals ret :: ws) room_1) (fun a U => a = #[(.int pi1), (.int pi2)] ∧ Z.Warmed39 U.vm ∧ U.heap = h0) (fun _ _ _ _ _ => True) (fun _ U o U' => ∃ v L, o = .returned v ∧ Q0 v L n0 ∧ FrameEnd U o U' L room_1.cells room_1.slots) := by
  refine MetFree.of_bodySF (plainFor_of_name pn_0) hisR ?_
  intro p e s m args below meth c s₁ Bd hml0 hP hK
  obtain ⟨rfl, hZ, hh⟩ := hP
  have hx := Bd.exec
  have hby := Bd.bytes
  have hml : c.maxLocals = 7 := hml0
  have hown : s.vm.findClass "com/example/linkstride/linkstride/engine/CompletenessCompletePinLaw" = some m.cls := findClass_of_methodNamed Bd.named
  have hnm := (name_of_methodNamed Bd.named Bd.method).1
  have X0 : Stand p l e room_1 s m #[(.int pi1), (.int pi2)] below meth c s₁ [] 0 0 := Stand.of_body Bd
  have e0 : s₁.heap = h0 := by rw [← hh, Bd.state]; rfl
  have N0 := Fr.nil n0
  have pre0 : ∀ t, Steps p.tables e below (s₁.setTop (mkF m 0 #[.val (.int pi1), .val (.int pi2), .unset, .unset, .unset, .unset, .unset] [])) t → Steps p.tables e below (s₁.setTop (entryFrame m #[(.int pi1), (.int pi2)] maxLocals)) t := fun t k => castTop (ef_0 m pi1 pi2) k
  obtain ⟨T1, h1, X1, e1, E1, A1, D1, -, st1⟩ := newO X0 hx hZ hown (hw _ (List.mem_of_getElem? (i := 0) rfl)) (hw _ (List.mem_of_getElem? (i := 1) rfl)) (hw _ (List.mem_of_getElem? (i := 2) rfl)) e0 (g := (mkF m 39 #[.val (.int pi1), .val (.int pi2), .val (.int (0 : Int32)), .val (.int (0 : Int32)), .val (.int (0 : Int32)), .unset, .unset] [])) rfl (hb hby at_39) (by decide) (by decide)
  obtain ⟨b1, g1⟩ : ∃ z, z = h0.size := ⟨_, rfl⟩
  rw [← g1] at A1 D1 st1
  have F_budgetReached_b1 : Fld Z h1 b1 "com/example/linkstride/linkstride/engine/Completeness" "budgetReached" "Z" (.int (0 : Int32)) := D1 (Or.inr (hw _ (List.mem_of_getElem? (i := 15) rfl))) (ty := .boolean) (by decide)
  have F_lookupLimitReached_b1 : Fld Z h1 b1 "com/example/linkstride/linkstride/engine/Completeness" "lookupLimitReached" "Z" (.int (0 : Int32)) := D1 (Or.inr (hw _ (List.mem_of_getElem? (i := 17) rfl))) (ty := .boolean) (by decide)
  have F_lookupsCut_b1 : Fld Z h1 b1 "com/example/linkstride/linkstride/engine/Completeness" "lookupsCut" "I" (.int (0 : Int32)) := D1 (Or.inr (hw _ (List.mem_of_getElem? (i := 19) rfl))) (ty := .int) (by decide)
  have g_b1 : n0 ≤ b1 := Nat.le_trans Z0 (Nat.le_of_eq g1.symm)
  have z3 := Nat.le_trans Z0 E1.1
  have o4 := O0.ext E1
  obtain ⟨_, _, ⟨T2, L2, k2, n2⟩, -, X2, ⟨Lc2, hQ2, l2, y2, z2⟩, st2⟩ := X1.specialBack hx (y := (⟨"com/example/linkstride/linkstride/engine/Completeness", "<init>", "(ZZI)V"⟩ : MethodName)) rfl hown (mvT hZ (hw _ (List.mem_of_getElem? (i := 3) rfl))) (mvT hZ (hw _ (List.mem_of_getElem? (i := 4) rfl))) (mvT hZ (hw _ (List.mem_of_getElem? (i := 5) rfl))) (by decide) (backOf (W := 1) (rm1 l Z a0 hw [] b1 (0 : Int32) (0 : Int32) (0 : Int32) (.int (0 : Int32)) (.int (0 : Int32)) (.int (0 : Int32)) h1 n0 z3 o4 A1 F_budgetReached_b1 g_b1 F_lookupLimitReached_b1 F_lookupsCut_b1) hZ (hw _ (List.mem_of_getElem? (i := 5) rfl)) (hw _ (List.mem_of_getElem? (i := 2) rfl)) (by decide) (by decide)) (g := (mkF m 47 #[.val (.int pi1), .val (.int pi2), .val (.int (0 : Int32)), .val (.int (0 : Int32)), .val (.int (0 : Int32)), .unset, .unset] [(.int (0 : Int32)), (.int (0 : Int32)), (.int (0 : Int32)), (.ref b1), (.ref b1)])) rfl (by rw [hml]; rfl) (Steps.refl _) (a := b1) (argsL := [(.int (0 : Int32)), (.int (0 : Int32)), (.int (0 : Int32))]) (rest := [(.ref b1)]) (lenOf pd_0 rfl) rfl (by show 2 * 0 + _ ≤ _; exact Nat.le_of_eq rfl) (hb hby at_47) (fun _ _ => ⟨rfl, e1, (by decide : 1 + 0 ≤ _), (by decide : 3 + 0 ≤ _)⟩)
  dsimp only [Pt.U, Pt.locs, Pt.cells, Pt.slots] at X2 l2 y2 z2 st2 hQ2
  subst l2 y2 z2
  obtain ⟨rfl, N2q, K2, qf2_0, qf2_1, qf2_2, qf2_3⟩ := hQ2
  have N2 := Fr.app N0 N2q
  have z6 := Nat.le_trans z3 K2.1
  have o7 := o4.keep K2 (allS g_b1 all0)
  obtain ⟨cq5, kq5, q5a, q5b, q5c⟩ := isOf hZ rfl qf2_0
  obtain ⟨_, _, ⟨T5, L5, k5, n5⟩, -, X5, ⟨Lc5, hQ5, l5, y5, z5⟩, st5⟩ := X2.virtualBack hx (y := (⟨"com/example/linkstride/linkstride/engine/Completeness", "complete", "()Z"⟩ : MethodName)) (z := (⟨"com/example/linkstride/linkstride/engine/Completeness", "complete", "()Z"⟩ : MethodName)) hown (mvT hZ (hw _ (List.mem_of_getElem? (i := 20) rfl))) (mvT hZ (hw _ (List.mem_of_getElem? (i := 21) rfl))) (notFace_of_selects (args := #[]) (mvT hZ (hw _ (List.mem_of_getElem? (i := 23) rfl)))) (mvT hZ (hw _ (List.mem_of_getElem? (i := 23) rfl))) (mvT hZ (hw _ (List.mem_of_getElem? (i := 22) rfl))) (by decide) (backOf (W := 0) (rm4_ttt l Z a0 hw [] b1 (0 : Int32) (0 : Int32) (0 : Int32) T2.heap n0 z6 o7 qf2_1 qf2_2 qf2_3 rfl rfl rfl) hZ (hw _ (List.mem_of_getElem? (i := 24) rfl)) (hw _ (List.mem_of_getElem? (i := 2) rfl)) (by decide) (by decide)) q5a q5c (g := (mkF m 72 #[.val (.int pi1), .val (.int pi2), .val (.int (0 : Int32)), .val (.int (0 : Int32)), .val (.int (0 : Int32)), .val (.ref b1), .val (.int (1 : Int32))] [(.ref b1)])) rfl (by rw [hml]; rfl) (Steps.refl _) (argsL := []) (rest := []) (lenOf pd_2 rfl) rfl (by show 2 * 0 + _ ≤ _; exact Nat.le_of_eq rfl) (hb hby at_72) (fun _ _ => ⟨rfl, rfl, (by decide : 1 + 0 ≤ _), (by decide : 3 + 0 ≤ _)⟩)
  dsimp only [Pt.U, Pt.locs, Pt.cells, Pt.slots] at X5 l5 y5 z5 st5 hQ5
  subst l5 y5 z5
  obtain ⟨rfl, N5q, eq5⟩ := hQ5
  have N5 := Fr.app N2 N5q
  obtain ⟨cq8, kq8, q8a, q8b, q8c⟩ := isOf hZ eq5 qf2_0
  obtain ⟨_, _, ⟨T8, L8, k8, n8⟩, -, X8, ⟨Lc8, hQ8, l8, y8, z8⟩, st8⟩ := X5.virtualBack hx (y := (⟨"com/example/linkstride/linkstride/engine/Completeness", "budgetReached", "()Z"⟩ : MethodName)) (z := (⟨"com/example/linkstride/linkstride/engine/Completeness", "budgetReached", "()Z"⟩ : MethodName)) hown (mvT hZ (hw _ (List.mem_of_getElem? (i := 25) rfl))) (mvT hZ (hw _ (List.mem_of_getElem? (i := 26) rfl))) (notFace_of_selects (args := #[]) (mvT hZ (hw _ (List.mem_of_getElem? (i := 28) rfl)))) (mvT hZ (hw _ (List.mem_of_getElem? (i := 28) rfl))) (mvT hZ (hw _ (List.mem_of_getElem? (i := 27) rfl))) (by decide) (backOf (W := 0) (rm5 l Z a0 hw [] b1 (0 : Int32) T2.heap n0 z6 o7 qf2_1) hZ (hw _ (List.mem_of_getElem? (i := 29) rfl)) (hw _ (List.mem_of_getElem? (i := 2) rfl)) (by decide) (by decide)) q8a q8c (g := (mkF m 82 #[.val (.int pi1), .val (.int pi2), .val (.int (0 : Int32)), .val (.int (0 : Int32)), .val (.int (0 : Int32)), .val (.ref b1), .val (.int (1 : Int32))] [(.ref b1)])) rfl (by rw [hml]; rfl) (Steps.refl _) (argsL := []) (rest := []) (lenOf pd_2 rfl) rfl (by show 2 * 0 + _ ≤ _; exact Nat.le_of_eq rfl) (hb hby at_82) (fun _ _ => ⟨rfl, eq5, (by decide : 1 + 0 ≤ _), (by decide : 3 + 0 ≤ _)⟩)
  dsimp only [Pt.U, Pt.locs, Pt.cells, Pt.slots] at X8 l8 y8 z8 st8 hQ8
  subst l8 y8 z8
  obtain ⟨rfl, N8q, eq8⟩ := hQ8
  have N8 := Fr.app N5 N8q
  obtain ⟨cq9, kq9, q9a, q9b, q9c⟩ := isOf hZ eq8 qf2_0
  obtain ⟨_, _, ⟨T9, L9, k9, n9⟩, -, X9, ⟨Lc9, hQ9, l9, y9, z9⟩, st9⟩ := X8.virtualBack hx (y := (⟨"com/example/linkstride/linkstride/engine/Completeness", "lookupLimitReached", "()Z"⟩ : MethodName)) (z := (⟨"com/example/linkstride/linkstride/engine/Completeness", "lookupLimitReached", "()Z"⟩ : MethodName)) hown (mvT hZ (hw _ (List.mem_of_getElem? (i := 30) rfl))) (mvT hZ (hw _ (List.mem_of_getElem? (i := 31) rfl))) (notFace_of_selects (args := #[]) (mvT hZ (hw _ (List.mem_of_getElem? (i := 33) rfl)))) (mvT hZ (hw _ (List.mem_of_getElem? (i := 33) rfl))) (mvT hZ (hw _ (List.mem_of_getElem? (i := 32) rfl))) (by decide) (backOf (W := 0) (rm6 l Z a0 hw [] b1 (0 : Int32) T2.heap n0 z6 o7 qf2_2) hZ (hw _ (List.mem_of_getElem? (i := 34) rfl)) (hw _ (List.mem_of_getElem? (i := 2) rfl)) (by decide) (by decide)) q9a q9c (g := (mkF m 91 #[.val (.int pi1), .val (.int pi2), .val (.int (0 : Int32)), .val (.int (0 : Int32)), .val (.int (0 : Int32)), .val (.ref b1), .val (.int (1 : Int32))] [(.ref b1)])) rfl (by rw [hml]; rfl) (Steps.refl _) (argsL := []) (rest := []) (lenOf pd_2 rfl) rfl (by show 2 * 0 + _ ≤ _; exact Nat.le_of_eq rfl) (hb hby at_91) (fun _ _ => ⟨rfl, eq8, (by decide : 1 + 0 ≤ _), (by decide : 3 + 0 ≤ _)⟩)
  dsimp only [Pt.U, Pt.locs, Pt.cells, Pt.slots] at X9 l9 y9 z9 st9 hQ9
  subst l9 y9 z9
  obtain ⟨rfl, N9q, eq9⟩ := hQ9
  have N9 := Fr.app N8 N9q
  obtain ⟨cq10, kq10, q10a, q10b, q10c⟩ := isOf hZ eq9 qf2_0
  obtain ⟨_, _, ⟨T10, L10, k10, n10⟩, -, X10, ⟨Lc10, hQ10, l10, y10, z10⟩, st10⟩ := X9.virtualBack hx (y := (⟨"com/example/linkstride/linkstride/engine/Completeness", "lookupsCut", "()I"⟩ : MethodName)) (z := (⟨"com/example/linkstride/linkstride/engine/Completeness", "lookupsCut", "()I"⟩ : MethodName)) hown (mvT hZ (hw _ (List.mem_of_getElem? (i := 35) rfl))) (mvT hZ (hw _ (List.mem_of_getElem? (i := 36) rfl))) (notFace_of_selects (args := #[]) (mvT hZ (hw _ (List.mem_of_getElem? (i := 38) rfl)))) (mvT hZ (hw _ (List.mem_of_getElem? (i := 38) rfl))) (mvT hZ (hw _ (List.mem_of_getElem? (i := 37) rfl))) (by decide) (backOf (W := 0) (rm7 l Z a0 hw [] b1 (0 : Int32) T2.heap n0 z6 o7 qf2_3) hZ (hw _ (List.mem_of_getElem? (i := 39) rfl)) (hw _ (List.mem_of_getElem? (i := 2) rfl)) (by decide) (by decide)) q10a q10c (g := (mkF m 100 #[.val (.int pi1), .val (.int pi2), .val (.int (0 : Int32)), .val (.int (0 : Int32)), .val (.int (0 : Int32)), .val (.ref b1), .val (.int (1 : Int32))] [(.ref b1)])) rfl (by rw [hml]; rfl) (Steps.refl _) (argsL := []) (rest := []) (lenOf pd_3 rfl) rfl (by show 2 * 0 + _ ≤ _; exact Nat.le_of_eq rfl) (hb hby at_100) (fun _ _ => ⟨rfl, eq9, (by decide : 1 + 0 ≤ _), (by decide : 3 + 0 ≤ _)⟩)
  dsimp only [Pt.U, Pt.locs, Pt.cells, Pt.slots] at X10 l10 y10 z10 st10 hQ10
  subst l10 y10 z10
  obtain ⟨rfl, N10q, eq10⟩ := hQ10
  have N10 := Fr.app N9 N10q
  obtain ⟨fs, hr, hrun, hended, hW, hsame⟩ := X10.leave (v := some (.int (1 : Int32))) (fun h => by rw [Bd.returns] at h; cases h)
  refine ⟨_, _, pre0 _ ?_, hrun, hended, _, _, rfl, ?_, ⟨_, rfl⟩, hW, hsame.mono (by decide) (by decide)⟩
  · show Steps p.tables e below (s₁.setTop (mkF m 0 #[.val (.int pi1), .val (.int pi2), .unset, .unset, .unset, .unset, .unset] [])) _
    refine XS.iloadN X0.here hx rfl (hb hby at_0) rfl ?_
    show Steps p.tables e below (s₁.setTop (mkF m 1 #[.val (.int pi1), .val (.int pi2), .unset, .unset, .unset, .unset, .unset] [(.int pi1)])) _
    refine XS.iconst X0.here hx rfl (hb hby at_1) ?_
    show Steps p.tables e below (s₁.setTop (mkF m 2 #[.val (.int pi1), .val (.int pi2), .unset, .unset, .unset, .unset, .unset] [(.int (1 : Int32)), (.int pi1)])) _
    refine XS.iand X0.here hx rfl (hb hby at_2) rfl ?_
    show Steps p.tables e below (s₁.setTop (mkF m 3 #[.val (.int pi1), .val (.int pi2), .unset, .unset, .unset, .unset, .unset] [(.int (pi1 &&& (1 : Int32)))])) _
    refine XS.ifYes X0.here hx rfl (pc0 := 3) (pc' := 10) rfl (hb hby at_3) rfl ((if0 _ _).trans (teq hc3_0).1) (by decide) (by decide) ?_
    show Steps p.tables e below (s₁.setTop (mkF m 10 #[.val (.int pi1), .val (.int pi2), .unset, .unset, .unset, .unset, .unset] [])) _
    refine XS.iconst X0.here hx rfl (hb hby at_10) ?_
    show Steps p.tables e below (s₁.setTop (mkF m 11 #[.val (.int pi1), .val (.int pi2), .unset, .unset, .unset, .unset, .unset] [(.int (0 : Int32))])) _
    refine XS.istoreN X0.here hx rfl (hb hby at_11) rfl (l' := #[.val (.int pi1), .val (.int pi2), .val (.int (0 : Int32)), .unset, .unset, .unset, .unset]) rfl ?_
    show Steps p.tables e below (s₁.setTop (mkF m 12 #[.val (.int pi1), .val (.int pi2), .val (.int (0 : Int32)), .unset, .unset, .unset, .unset] [])) _
    refine XS.iloadN X0.here hx rfl (hb hby at_12) rfl ?_
    show Steps p.tables e below (s₁.setTop (mkF m 13 #[.val (.int pi1), .val (.int pi2), .val (.int (0 : Int32)), .unset, .unset, .unset, .unset] [(.int pi1)])) _
    refine XS.iconst X0.here hx rfl (hb hby at_13) ?_
    show Steps p.tables e below (s₁.setTop (mkF m 14 #[.val (.int pi1), .val (.int pi2), .val (.int (0 : Int32)), .unset, .unset, .unset, .unset] [(.int (2 : Int32)), (.int pi1)])) _
    refine XS.iand X0.here hx rfl (hb hby at_14) rfl ?_
    show Steps p.tables e below (s₁.setTop (mkF m 15 #[.val (.int pi1), .val (.int pi2), .val (.int (0 : Int32)), .unset, .unset, .unset, .unset] [(.int (pi1 &&& (2 : Int32)))])) _
    refine XS.ifYes X0.here hx rfl (pc0 := 15) (pc' := 22) rfl (hb hby at_15) rfl ((if0 _ _).trans (teq hc15_1).1) (by decide) (by decide) ?_
    show Steps p.tables e below (s₁.setTop (mkF m 22 #[.val (.int pi1), .val (.int pi2), .val (.int (0 : Int32)), .unset, .unset, .unset, .unset] [])) _
    refine XS.iconst X0.here hx rfl (hb hby at_22) ?_
    show Steps p.tables e below (s₁.setTop (mkF m 23 #[.val (.int pi1), .val (.int pi2), .val (.int (0 : Int32)), .unset, .unset, .unset, .unset] [(.int (0 : Int32))])) _
    refine XS.istoreN X0.here hx rfl (hb hby at_23) rfl (l' := #[.val (.int pi1), .val (.int pi2), .val (.int (0 : Int32)), .val (.int (0 : Int32)), .unset, .unset, .unset]) rfl ?_
    show Steps p.tables e below (s₁.setTop (mkF m 24 #[.val (.int pi1), .val (.int pi2), .val (.int (0 : Int32)), .val (.int (0 : Int32)), .unset, .unset, .unset] [])) _
    refine XS.iloadN X0.here hx rfl (hb hby at_24) rfl ?_
    show Steps p.tables e below (s₁.setTop (mkF m 25 #[.val (.int pi1), .val (.int pi2), .val (.int (0 : Int32)), .val (.int (0 : Int32)), .unset, .unset, .unset] [(.int pi2)])) _
    refine XS.iconst X0.here hx rfl (hb hby at_25) ?_
    show Steps p.tables e below (s₁.setTop (mkF m 26 #[.val (.int pi1), .val (.int pi2), .val (.int (0 : Int32)), .val (.int (0 : Int32)), .unset, .unset, .unset] [(.int (3 : Int32)), (.int pi2)])) _
    refine XS.iand X0.here hx rfl (hb hby at_26) rfl ?_
    show Steps p.tables e below (s₁.setTop (mkF m 27 #[.val (.int pi1), .val (.int pi2), .val (.int (0 : Int32)), .val (.int (0 : Int32)), .unset, .unset, .unset] [(.int (pi2 &&& (3 : Int32)))])) _
    refine XS.ifNo X0.here hx rfl (hb hby at_27) rfl ((if0 _ _).trans (teq hc27_2).2) ?_
    show Steps p.tables e below (s₁.setTop (mkF m 30 #[.val (.int pi1), .val (.int pi2), .val (.int (0 : Int32)), .val (.int (0 : Int32)), .unset, .unset, .unset] [])) _
    refine XS.iconst X0.here hx rfl (hb hby at_30) ?_
    show Steps p.tables e below (s₁.setTop (mkF m 31 #[.val (.int pi1), .val (.int pi2), .val (.int (0 : Int32)), .val (.int (0 : Int32)), .unset, .unset, .unset] [(.int (0 : Int32))])) _
    refine XS.goto X0.here hx rfl (pc0 := 31) (pc' := 37) rfl (hb hby at_31) (by decide) (by decide) ?_
    show Steps p.tables e below (s₁.setTop (mkF m 37 #[.val (.int pi1), .val (.int pi2), .val (.int (0 : Int32)), .val (.int (0 : Int32)), .unset, .unset, .unset] [(.int (0 : Int32))])) _
    refine XS.istore X0.here hx rfl (hb hby at_37) rfl (l' := #[.val (.int pi1), .val (.int pi2), .val (.int (0 : Int32)), .val (.int (0 : Int32)), .val (.int (0 : Int32)), .unset, .unset]) rfl ?_
    show Steps p.tables e below (s₁.setTop (mkF m 39 #[.val (.int pi1), .val (.int pi2), .val (.int (0 : Int32)), .val (.int (0 : Int32)), .val (.int (0 : Int32)), .unset, .unset] [])) _
    refine st1 _ ?_
    show Steps p.tables e below (T1.setTop (mkF m 42 #[.val (.int pi1), .val (.int pi2), .val (.int (0 : Int32)), .val (.int (0 : Int32)), .val (.int (0 : Int32)), .unset, .unset] [(.ref b1)])) _
    refine XS.dup X1.here hx rfl (hb hby at_42) rfl rfl ?_
    show Steps p.tables e below (T1.setTop (mkF m 43 #[.val (.int pi1), .val (.int pi2), .val (.int (0 : Int32)), .val (.int (0 : Int32)), .val (.int (0 : Int32)), .unset, .unset] [(.ref b1), (.ref b1)])) _
    refine XS.iloadN X1.here hx rfl (hb hby at_43) rfl ?_
    show Steps p.tables e below (T1.setTop (mkF m 44 #[.val (.int pi1), .val (.int pi2), .val (.int (0 : Int32)), .val (.int (0 : Int32)), .val (.int (0 : Int32)), .unset, .unset] [(.int (0 : Int32)), (.ref b1), (.ref b1)])) _
    refine XS.iloadN X1.here hx rfl (hb hby at_44) rfl ?_
    show Steps p.tables e below (T1.setTop (mkF m 45 #[.val (.int pi1), .val (.int pi2), .val (.int (0 : Int32)), .val (.int (0 : Int32)), .val (.int (0 : Int32)), .unset, .unset] [(.int (0 : Int32)), (.int (0 : Int32)), (.ref b1), (.ref b1)])) _
    refine XS.iload X1.here hx rfl (hb hby at_45) rfl ?_
    show Steps p.tables e below (T1.setTop (mkF m 47 #[.val (.int pi1), .val (.int pi2), .val (.int (0 : Int32)), .val (.int (0 : Int32)), .val (.int (0 : Int32)), .unset, .unset] [(.int (0 : Int32)), (.int (0 : Int32)), (.int (0 : Int32)), (.ref b1), (.ref b1)])) _
    refine st2.trans ?_
    show Steps p.tables e below (T2.setTop (mkF m 50 #[.val (.int pi1), .val (.int pi2), .val (.int (0 : Int32)), .val (.int (0 : Int32)), .val (.int (0 : Int32)), .unset, .unset] [(.ref b1)])) _
    refine XS.astore X2.here hx rfl (hb hby at_50) rfl rfl (l' := #[.val (.int pi1), .val (.int pi2), .val (.int (0 : Int32)), .val (.int (0 : Int32)), .val (.int (0 : Int32)), .val (.ref b1), .unset]) rfl ?_
    show Steps p.tables e below (T2.setTop (mkF m 52 #[.val (.int pi1), .val (.int pi2), .val (.int (0 : Int32)), .val (.int (0 : Int32)), .val (.int (0 : Int32)), .val (.ref b1), .unset] [])) _
    refine XS.iloadN X2.here hx rfl (hb hby at_52) rfl ?_
    show Steps p.tables e below (T2.setTop (mkF m 53 #[.val (.int pi1), .val (.int pi2), .val (.int (0 : Int32)), .val (.int (0 : Int32)), .val (.int (0 : Int32)), .val (.ref b1), .unset] [(.int pi1)])) _
    refine XS.iconst X2.here hx rfl (hb hby at_53) ?_
    show Steps p.tables e below (T2.setTop (mkF m 54 #[.val (.int pi1), .val (.int pi2), .val (.int (0 : Int32)), .val (.int (0 : Int32)), .val (.int (0 : Int32)), .val (.ref b1), .unset] [(.int (3 : Int32)), (.int pi1)])) _
    refine XS.iand X2.here hx rfl (hb hby at_54) rfl ?_
    show Steps p.tables e below (T2.setTop (mkF m 55 #[.val (.int pi1), .val (.int pi2), .val (.int (0 : Int32)), .val (.int (0 : Int32)), .val (.int (0 : Int32)), .val (.ref b1), .unset] [(.int (pi1 &&& (3 : Int32)))])) _
    refine XS.ifNo X2.here hx rfl (hb hby at_55) rfl ((if0 _ _).trans (teq (own_z hc3_0 hc15_1)).2) ?_
    show Steps p.tables e below (T2.setTop (mkF m 58 #[.val (.int pi1), .val (.int pi2), .val (.int (0 : Int32)), .val (.int (0 : Int32)), .val (.int (0 : Int32)), .val (.ref b1), .unset] [])) _
    refine XS.iload X2.here hx rfl (hb hby at_58) rfl ?_
    show Steps p.tables e below (T2.setTop (mkF m 60 #[.val (.int pi1), .val (.int pi2), .val (.int (0 : Int32)), .val (.int (0 : Int32)), .val (.int (0 : Int32)), .val (.ref b1), .unset] [(.int (0 : Int32))])) _
    refine XS.ifNo X2.here hx rfl (hb hby at_60) rfl ((if0 _ _).trans (teq (rfl : (0 : Int32) = (0 : Int32))).2) ?_
    show Steps p.tables e below (T2.setTop (mkF m 63 #[.val (.int pi1), .val (.int pi2), .val (.int (0 : Int32)), .val (.int (0 : Int32)), .val (.int (0 : Int32)), .val (.ref b1), .unset] [])) _
    refine XS.iconst X2.here hx rfl (hb hby at_63) ?_
    show Steps p.tables e below (T2.setTop (mkF m 64 #[.val (.int pi1), .val (.int pi2), .val (.int (0 : Int32)), .val (.int (0 : Int32)), .val (.int (0 : Int32)), .val (.ref b1), .unset] [(.int (1 : Int32))])) _
    refine XS.goto X2.here hx rfl (pc0 := 64) (pc' := 68) rfl (hb hby at_64) (by decide) (by decide) ?_
    show Steps p.tables e below (T2.setTop (mkF m 68 #[.val (.int pi1), .val (.int pi2), .val (.int (0 : Int32)), .val (.int (0 : Int32)), .val (.int (0 : Int32)), .val (.ref b1), .unset] [(.int (1 : Int32))])) _
    refine XS.istore X2.here hx rfl (hb hby at_68) rfl (l' := #[.val (.int pi1), .val (.int pi2), .val (.int (0 : Int32)), .val (.int (0 : Int32)), .val (.int (0 : Int32)), .val (.ref b1), .val (.int (1 : Int32))]) rfl ?_
    show Steps p.tables e below (T2.setTop (mkF m 70 #[.val (.int pi1), .val (.int pi2), .val (.int (0 : Int32)), .val (.int (0 : Int32)), .val (.int (0 : Int32)), .val (.ref b1), .val (.int (1 : Int32))] [])) _
    refine XS.aload X2.here hx rfl (hb hby at_70) rfl rfl ?_
    show Steps p.tables e below (T2.setTop (mkF m 72 #[.val (.int pi1), .val (.int pi2), .val (.int (0 : Int32)), .val (.int (0 : Int32)), .val (.int (0 : Int32)), .val (.ref b1), .val (.int (1 : Int32))] [(.ref b1)])) _
    refine st5.trans ?_
    show Steps p.tables e below (T5.setTop (mkF m 75 #[.val (.int pi1), .val (.int pi2), .val (.int (0 : Int32)), .val (.int (0 : Int32)), .val (.int (0 : Int32)), .val (.ref b1), .val (.int (1 : Int32))] [(.int (1 : Int32))])) _
    refine XS.iload X5.here hx rfl (hb hby at_75) rfl ?_
    show Steps p.tables e below (T5.setTop (mkF m 77 #[.val (.int pi1), .val (.int pi2), .val (.int (0 : Int32)), .val (.int (0 : Int32)), .val (.int (0 : Int32)), .val (.ref b1), .val (.int (1 : Int32))] [(.int (1 : Int32)), (.int (1 : Int32))])) _
    refine XS.icmpNo X5.here hx rfl (hb hby at_77) rfl (teq (rfl : (1 : Int32) = (1 : Int32))).2 ?_
    show Steps p.tables e below (T5.setTop (mkF m 80 #[.val (.int pi1), .val (.int pi2), .val (.int (0 : Int32)), .val (.int (0 : Int32)), .val (.int (0 : Int32)), .val (.ref b1), .val (.int (1 : Int32))] [])) _
    refine XS.aload X5.here hx rfl (hb hby at_80) rfl rfl ?_
    show Steps p.tables e below (T5.setTop (mkF m 82 #[.val (.int pi1), .val (.int pi2), .val (.int (0 : Int32)), .val (.int (0 : Int32)), .val (.int (0 : Int32)), .val (.ref b1), .val (.int (1 : Int32))] [(.ref b1)])) _
    refine st8.trans ?_
    show Steps p.tables e below (T8.setTop (mkF m 85 #[.val (.int pi1), .val (.int pi2), .val (.int (0 : Int32)), .val (.int (0 : Int32)), .val (.int (0 : Int32)), .val (.ref b1), .val (.int (1 : Int32))] [(.int (0 : Int32))])) _
    refine XS.iloadN X8.here hx rfl (hb hby at_85) rfl ?_
    show Steps p.tables e below (T8.setTop (mkF m 86 #[.val (.int pi1), .val (.int pi2), .val (.int (0 : Int32)), .val (.int (0 : Int32)), .val (.int (0 : Int32)), .val (.ref b1), .val (.int (1 : Int32))] [(.int (0 : Int32)), (.int (0 : Int32))])) _
    refine XS.icmpNo X8.here hx rfl (hb hby at_86) rfl (teq (rfl : (0 : Int32) = (0 : Int32))).2 ?_
    show Steps p.tables e below (T8.setTop (mkF m 89 #[.val (.int pi1), .val (.int pi2), .val (.int (0 : Int32)), .val (.int (0 : Int32)), .val (.int (0 : Int32)), .val (.ref b1), .val (.int (1 : Int32))] [])) _
    refine XS.aload X8.here hx rfl (hb hby at_89) rfl rfl ?_
    show Steps p.tables e below (T8.setTop (mkF m 91 #[.val (.int pi1), .val (.int pi2), .val (.int (0 : Int32)), .val (.int (0 : Int32)), .val (.int (0 : Int32)), .val (.ref b1), .val (.int (1 : Int32))] [(.ref b1)])) _
    refine st9.trans ?_
    show Steps p.tables e below (T9.setTop (mkF m 94 #[.val (.int pi1), .val (.int pi2), .val (.int (0 : Int32)), .val (.int (0 : Int32)), .val (.int (0 : Int32)), .val (.ref b1), .val (.int (1 : Int32))] [(.int (0 : Int32))])) _
    refine XS.iloadN X9.here hx rfl (hb hby at_94) rfl ?_
    show Steps p.tables e below (T9.setTop (mkF m 95 #[.val (.int pi1), .val (.int pi2), .val (.int (0 : Int32)), .val (.int (0 : Int32)), .val (.int (0 : Int32)), .val (.ref b1), .val (.int (1 : Int32))] [(.int (0 : Int32)), (.int (0 : Int32))])) _
    refine XS.icmpNo X9.here hx rfl (hb hby at_95) rfl (teq (rfl : (0 : Int32) = (0 : Int32))).2 ?_
    show Steps p.tables e below (T9.setTop (mkF m 98 #[.val (.int pi1), .val (.int pi2), .val (.int (0 : Int32)), .val (.int (0 : Int32)), .val (.int (0 : Int32)), .val (.ref b1), .val (.int (1 : Int32))] [])) _
    refine XS.aload X9.here hx rfl (hb hby at_98) rfl rfl ?_
    show Steps p.tables e below (T9.setTop (mkF m 100 #[.val (.int pi1), .val (.int pi2), .val (.int (0 : Int32)), .val (.int (0 : Int32)), .val (.int (0 : Int32)), .val (.ref b1), .val (.int (1 : Int32))] [(.ref b1)])) _
    refine st10.trans ?_
    show Steps p.tables e below (T10.setTop (mkF m 103 #[.val (.int pi1), .val (.int pi2), .val (.int (0 : Int32)), .val (.int (0 : Int32)), .val (.int (0 : Int32)), .val (.ref b1), .val (.int (1 : Int32))] [(.int (0 : Int32))])) _
    refine XS.iload X10.here hx rfl (hb hby at_103) rfl ?_
    show Steps p.tables e below (T10.setTop (mkF m 105 #[.val (.int pi1), .val (.int pi2), .val (.int (0 : Int32)), .val (.int (0 : Int32)), .val (.int (0 : Int32)), .val (.ref b1), .val (.int (1 : Int32))] [(.int (0 : Int32)), (.int (0 : Int32))])) _
    refine XS.icmpNo X10.here hx rfl (hb hby at_105) rfl (teq (rfl : (0 : Int32) = (0 : Int32))).2 ?_
    show Steps p.tables e below (T10.setTop (mkF m 108 #[.val (.int pi1), .val (.int pi2), .val (.int (0 : Int32)), .val (.int (0 : Int32)), .val (.int (0 : Int32)), .val (.ref b1), .val (.int (1 : Int32))] [])) _
    refine XS.iconst X10.here hx rfl (hb hby at_108) ?_
    show Steps p.tables e below (T10.setTop (mkF m 109 #[.val (.int pi1), .val (.int pi2), .val (.int (0 : Int32)), .val (.int (0 : Int32)), .val (.int (0 : Int32)), .val (.ref b1), .val (.int (1 : Int32))] [(.int (1 : Int32))])) _
    refine XS.goto X10.here hx rfl (pc0 := 109) (pc' := 113) rfl (hb hby at_109) (by decide) (by decide) ?_
    show Steps p.tables e below (T10.setTop (mkF m 113 #[.val (.int pi1), .val (.int pi2), .val (.int (0 : Int32)), .val (.int (0 : Int32)), .val (.int (0 : Int32)), .val (.ref b1), .val (.int (1 : Int32))] [(.int (1 : Int32))])) _
    exact retN X10 hx (t := .boolean) Bd.returns (by simp) (hb hby at_113) hr
  · exact ⟨rfl, N10⟩
set_option maxRecDepth 65536 in
set_option maxHeartbeats 40000000 in
theorem rm0_ttft (l : Launch) (Z : State) (a0 : Array Value) (hw : ∀ d ∈ tables_1, d.before a0 Z = true) (ws : List Jvm.Cond) (pi1 : Int32) (pi2 : Int32) (h0 : Heap) (n0 : Nat) (Z0 : n0 ≤ h0.size) (O0 : Old Z n0 h0) (hc3_0 : (pi1 &&& (1 : Int32)) = (0 : Int32)) (hc15_1 : (pi1 &&& (2 : Int32)) = (0 : Int32)) (hc27_2 : ¬ ((pi2 &&& (3 : Int32)) = (0 : Int32))) (hc60_3 : ((pi2.toUInt32 >>> ((2 : Int32) &&& 31).toUInt32).toInt32) = (0 : Int32)) :
    MetFree l x (head1 (Jvm.Cond.code x code maxLocals ret :: ws) room_1) (fun a U => a = #[(.int pi1), (.int pi2)] ∧ Z.Warmed39 U.vm ∧ U.heap = h0) (fun _ _ _ _ _ => True) (fun _ U o U' => ∃ v L, o = .returned v ∧ Q0 v L n0 ∧ FrameEnd U o U' L room_1.cells room_1.slots) := by
  refine MetFree.of_bodySF (plainFor_of_name pn_0) hisR ?_
  intro p e s m args below meth c s₁ Bd hml0 hP hK
  obtain ⟨rfl, hZ, hh⟩ := hP
  have hx := Bd.exec
  have hby := Bd.bytes
  have hml : c.maxLocals = 7 := hml0
  have hown : s.vm.findClass "com/example/linkstride/linkstride/engine/CompletenessCompletePinLaw" = some m.cls := findClass_of_methodNamed Bd.named
  have hnm := (name_of_methodNamed Bd.named Bd.method).1
  have X0 : Stand p l e room_1 s m #[(.int pi1), (.int pi2)] below meth c s₁ [] 0 0 := Stand.of_body Bd
  have e0 : s₁.heap = h0 := by rw [← hh, Bd.state]; rfl
  have N0 := Fr.nil n0
  have pre0 : ∀ t, Steps p.tables e below (s₁.setTop (mkF m 0 #[.val (.int pi1), .val (.int pi2), .unset, .unset, .unset, .unset, .unset] [])) t → Steps p.tables e below (s₁.setTop (entryFrame m #[(.int pi1), (.int pi2)] maxLocals)) t := fun t k => castTop (ef_0 m pi1 pi2) k
  obtain ⟨T1, h1, X1, e1, E1, A1, D1, -, st1⟩ := newO X0 hx hZ hown (hw _ (List.mem_of_getElem? (i := 0) rfl)) (hw _ (List.mem_of_getElem? (i := 1) rfl)) (hw _ (List.mem_of_getElem? (i := 2) rfl)) e0 (g := (mkF m 39 #[.val (.int pi1), .val (.int pi2), .val (.int (0 : Int32)), .val (.int (0 : Int32)), .val (.int ((pi2.toUInt32 >>> ((2 : Int32) &&& 31).toUInt32).toInt32)), .unset, .unset] [])) rfl (hb hby at_39) (by decide) (by decide)
  obtain ⟨b1, g1⟩ : ∃ z, z = h0.size := ⟨_, rfl⟩
  rw [← g1] at A1 D1 st1
  have F_budgetReached_b1 : Fld Z h1 b1 "com/example/linkstride/linkstride/engine/Completeness" "budgetReached" "Z" (.int (0 : Int32)) := D1 (Or.inr (hw _ (List.mem_of_getElem? (i := 15) rfl))) (ty := .boolean) (by decide)
  have F_lookupLimitReached_b1 : Fld Z h1 b1 "com/example/linkstride/linkstride/engine/Completeness" "lookupLimitReached" "Z" (.int (0 : Int32)) := D1 (Or.inr (hw _ (List.mem_of_getElem? (i := 17) rfl))) (ty := .boolean) (by decide)
  have F_lookupsCut_b1 : Fld Z h1 b1 "com/example/linkstride/linkstride/engine/Completeness" "lookupsCut" "I" (.int (0 : Int32)) := D1 (Or.inr (hw _ (List.mem_of_getElem? (i := 19) rfl))) (ty := .int) (by decide)
  have g_b1 : n0 ≤ b1 := Nat.le_trans Z0 (Nat.le_of_eq g1.symm)
  have z3 := Nat.le_trans Z0 E1.1
  have o4 := O0.ext E1
  obtain ⟨_, _, ⟨T2, L2, k2, n2⟩, -, X2, ⟨Lc2, hQ2, l2, y2, z2⟩, st2⟩ := X1.specialBack hx (y := (⟨"com/example/linkstride/linkstride/engine/Completeness", "<init>", "(ZZI)V"⟩ : MethodName)) rfl hown (mvT hZ (hw _ (List.mem_of_getElem? (i := 3) rfl))) (mvT hZ (hw _ (List.mem_of_getElem? (i := 4) rfl))) (mvT hZ (hw _ (List.mem_of_getElem? (i := 5) rfl))) (by decide) (backOf (W := 1) (rm1 l Z a0 hw [] b1 (0 : Int32) (0 : Int32) ((pi2.toUInt32 >>> ((2 : Int32) &&& 31).toUInt32).toInt32) (.int (0 : Int32)) (.int (0 : Int32)) (.int (0 : Int32)) h1 n0 z3 o4 A1 F_budgetReached_b1 g_b1 F_lookupLimitReached_b1 F_lookupsCut_b1) hZ (hw _ (List.mem_of_getElem? (i := 5) rfl)) (hw _ (List.mem_of_getElem? (i := 2) rfl)) (by decide) (by decide)) (g := (mkF m 47 #[.val (.int pi1), .val (.int pi2), .val (.int (0 : Int32)), .val (.int (0 : Int32)), .val (.int ((pi2.toUInt32 >>> ((2 : Int32) &&& 31).toUInt32).toInt32)), .unset, .unset] [(.int ((pi2.toUInt32 >>> ((2 : Int32) &&& 31).toUInt32).toInt32)), (.int (0 : Int32)), (.int (0 : Int32)), (.ref b1), (.ref b1)])) rfl (by rw [hml]; rfl) (Steps.refl _) (a := b1) (argsL := [(.int (0 : Int32)), (.int (0 : Int32)), (.int ((pi2.toUInt32 >>> ((2 : Int32) &&& 31).toUInt32).toInt32))]) (rest := [(.ref b1)]) (lenOf pd_0 rfl) rfl (by show 2 * 0 + _ ≤ _; exact Nat.le_of_eq rfl) (hb hby at_47) (fun _ _ => ⟨rfl, e1, (by decide : 1 + 0 ≤ _), (by decide : 3 + 0 ≤ _)⟩)
  dsimp only [Pt.U, Pt.locs, Pt.cells, Pt.slots] at X2 l2 y2 z2 st2 hQ2
  subst l2 y2 z2
  obtain ⟨rfl, N2q, K2, qf2_0, qf2_1, qf2_2, qf2_3⟩ := hQ2
  have N2 := Fr.app N0 N2q
  have z6 := Nat.le_trans z3 K2.1
  have o7 := o4.keep K2 (allS g_b1 all0)
  obtain ⟨cq5, kq5, q5a, q5b, q5c⟩ := isOf hZ rfl qf2_0
  obtain ⟨_, _, ⟨T5, L5, k5, n5⟩, -, X5, ⟨Lc5, hQ5, l5, y5, z5⟩, st5⟩ := X2.virtualBack hx (y := (⟨"com/example/linkstride/linkstride/engine/Completeness", "complete", "()Z"⟩ : MethodName)) (z := (⟨"com/example/linkstride/linkstride/engine/Completeness", "complete", "()Z"⟩ : MethodName)) hown (mvT hZ (hw _ (List.mem_of_getElem? (i := 20) rfl))) (mvT hZ (hw _ (List.mem_of_getElem? (i := 21) rfl))) (notFace_of_selects (args := #[]) (mvT hZ (hw _ (List.mem_of_getElem? (i := 23) rfl)))) (mvT hZ (hw _ (List.mem_of_getElem? (i := 23) rfl))) (mvT hZ (hw _ (List.mem_of_getElem? (i := 22) rfl))) (by decide) (backOf (W := 0) (rm4_ttt l Z a0 hw [] b1 (0 : Int32) (0 : Int32) ((pi2.toUInt32 >>> ((2 : Int32) &&& 31).toUInt32).toInt32) T2.heap n0 z6 o7 qf2_1 qf2_2 qf2_3 rfl rfl hc60_3) hZ (hw _ (List.mem_of_getElem? (i := 24) rfl)) (hw _ (List.mem_of_getElem? (i := 2) rfl)) (by decide) (by decide)) q5a q5c (g := (mkF m 72 #[.val (.int pi1), .val (.int pi2), .val (.int (0 : Int32)), .val (.int (0 : Int32)), .val (.int ((pi2.toUInt32 >>> ((2 : Int32) &&& 31).toUInt32).toInt32)), .val (.ref b1), .val (.int (1 : Int32))] [(.ref b1)])) rfl (by rw [hml]; rfl) (Steps.refl _) (argsL := []) (rest := []) (lenOf pd_2 rfl) rfl (by show 2 * 0 + _ ≤ _; exact Nat.le_of_eq rfl) (hb hby at_72) (fun _ _ => ⟨rfl, rfl, (by decide : 1 + 0 ≤ _), (by decide : 3 + 0 ≤ _)⟩)
  dsimp only [Pt.U, Pt.locs, Pt.cells, Pt.slots] at X5 l5 y5 z5 st5 hQ5
  subst l5 y5 z5
  obtain ⟨rfl, N5q, eq5⟩ := hQ5
  have N5 := Fr.app N2 N5q
  obtain ⟨cq8, kq8, q8a, q8b, q8c⟩ := isOf hZ eq5 qf2_0
  obtain ⟨_, _, ⟨T8, L8, k8, n8⟩, -, X8, ⟨Lc8, hQ8, l8, y8, z8⟩, st8⟩ := X5.virtualBack hx (y := (⟨"com/example/linkstride/linkstride/engine/Completeness", "budgetReached", "()Z"⟩ : MethodName)) (z := (⟨"com/example/linkstride/linkstride/engine/Completeness", "budgetReached", "()Z"⟩ : MethodName)) hown (mvT hZ (hw _ (List.mem_of_getElem? (i := 25) rfl))) (mvT hZ (hw _ (List.mem_of_getElem? (i := 26) rfl))) (notFace_of_selects (args := #[]) (mvT hZ (hw _ (List.mem_of_getElem? (i := 28) rfl)))) (mvT hZ (hw _ (List.mem_of_getElem? (i := 28) rfl))) (mvT hZ (hw _ (List.mem_of_getElem? (i := 27) rfl))) (by decide) (backOf (W := 0) (rm5 l Z a0 hw [] b1 (0 : Int32) T2.heap n0 z6 o7 qf2_1) hZ (hw _ (List.mem_of_getElem? (i := 29) rfl)) (hw _ (List.mem_of_getElem? (i := 2) rfl)) (by decide) (by decide)) q8a q8c (g := (mkF m 82 #[.val (.int pi1), .val (.int pi2), .val (.int (0 : Int32)), .val (.int (0 : Int32)), .val (.int ((pi2.toUInt32 >>> ((2 : Int32) &&& 31).toUInt32).toInt32)), .val (.ref b1), .val (.int (1 : Int32))] [(.ref b1)])) rfl (by rw [hml]; rfl) (Steps.refl _) (argsL := []) (rest := []) (lenOf pd_2 rfl) rfl (by show 2 * 0 + _ ≤ _; exact Nat.le_of_eq rfl) (hb hby at_82) (fun _ _ => ⟨rfl, eq5, (by decide : 1 + 0 ≤ _), (by decide : 3 + 0 ≤ _)⟩)
  dsimp only [Pt.U, Pt.locs, Pt.cells, Pt.slots] at X8 l8 y8 z8 st8 hQ8
  subst l8 y8 z8
  obtain ⟨rfl, N8q, eq8⟩ := hQ8
  have N8 := Fr.app N5 N8q
  obtain ⟨cq9, kq9, q9a, q9b, q9c⟩ := isOf hZ eq8 qf2_0
  obtain ⟨_, _, ⟨T9, L9, k9, n9⟩, -, X9, ⟨Lc9, hQ9, l9, y9, z9⟩, st9⟩ := X8.virtualBack hx (y := (⟨"com/example/linkstride/linkstride/engine/Completeness", "lookupLimitReached", "()Z"⟩ : MethodName)) (z := (⟨"com/example/linkstride/linkstride/engine/Completeness", "lookupLimitReached", "()Z"⟩ : MethodName)) hown (mvT hZ (hw _ (List.mem_of_getElem? (i := 30) rfl))) (mvT hZ (hw _ (List.mem_of_getElem? (i := 31) rfl))) (notFace_of_selects (args := #[]) (mvT hZ (hw _ (List.mem_of_getElem? (i := 33) rfl)))) (mvT hZ (hw _ (List.mem_of_getElem? (i := 33) rfl))) (mvT hZ (hw _ (List.mem_of_getElem? (i := 32) rfl))) (by decide) (backOf (W := 0) (rm6 l Z a0 hw [] b1 (0 : Int32) T2.heap n0 z6 o7 qf2_2) hZ (hw _ (List.mem_of_getElem? (i := 34) rfl)) (hw _ (List.mem_of_getElem? (i := 2) rfl)) (by decide) (by decide)) q9a q9c (g := (mkF m 91 #[.val (.int pi1), .val (.int pi2), .val (.int (0 : Int32)), .val (.int (0 : Int32)), .val (.int ((pi2.toUInt32 >>> ((2 : Int32) &&& 31).toUInt32).toInt32)), .val (.ref b1), .val (.int (1 : Int32))] [(.ref b1)])) rfl (by rw [hml]; rfl) (Steps.refl _) (argsL := []) (rest := []) (lenOf pd_2 rfl) rfl (by show 2 * 0 + _ ≤ _; exact Nat.le_of_eq rfl) (hb hby at_91) (fun _ _ => ⟨rfl, eq8, (by decide : 1 + 0 ≤ _), (by decide : 3 + 0 ≤ _)⟩)
  dsimp only [Pt.U, Pt.locs, Pt.cells, Pt.slots] at X9 l9 y9 z9 st9 hQ9
  subst l9 y9 z9
  obtain ⟨rfl, N9q, eq9⟩ := hQ9
  have N9 := Fr.app N8 N9q
  obtain ⟨cq10, kq10, q10a, q10b, q10c⟩ := isOf hZ eq9 qf2_0
  obtain ⟨_, _, ⟨T10, L10, k10, n10⟩, -, X10, ⟨Lc10, hQ10, l10, y10, z10⟩, st10⟩ := X9.virtualBack hx (y := (⟨"com/example/linkstride/linkstride/engine/Completeness", "lookupsCut", "()I"⟩ : MethodName)) (z := (⟨"com/example/linkstride/linkstride/engine/Completeness", "lookupsCut", "()I"⟩ : MethodName)) hown (mvT hZ (hw _ (List.mem_of_getElem? (i := 35) rfl))) (mvT hZ (hw _ (List.mem_of_getElem? (i := 36) rfl))) (notFace_of_selects (args := #[]) (mvT hZ (hw _ (List.mem_of_getElem? (i := 38) rfl)))) (mvT hZ (hw _ (List.mem_of_getElem? (i := 38) rfl))) (mvT hZ (hw _ (List.mem_of_getElem? (i := 37) rfl))) (by decide) (backOf (W := 0) (rm7 l Z a0 hw [] b1 ((pi2.toUInt32 >>> ((2 : Int32) &&& 31).toUInt32).toInt32) T2.heap n0 z6 o7 qf2_3) hZ (hw _ (List.mem_of_getElem? (i := 39) rfl)) (hw _ (List.mem_of_getElem? (i := 2) rfl)) (by decide) (by decide)) q10a q10c (g := (mkF m 100 #[.val (.int pi1), .val (.int pi2), .val (.int (0 : Int32)), .val (.int (0 : Int32)), .val (.int ((pi2.toUInt32 >>> ((2 : Int32) &&& 31).toUInt32).toInt32)), .val (.ref b1), .val (.int (1 : Int32))] [(.ref b1)])) rfl (by rw [hml]; rfl) (Steps.refl _) (argsL := []) (rest := []) (lenOf pd_3 rfl) rfl (by show 2 * 0 + _ ≤ _; exact Nat.le_of_eq rfl) (hb hby at_100) (fun _ _ => ⟨rfl, eq9, (by decide : 1 + 0 ≤ _), (by decide : 3 + 0 ≤ _)⟩)
  dsimp only [Pt.U, Pt.locs, Pt.cells, Pt.slots] at X10 l10 y10 z10 st10 hQ10
  subst l10 y10 z10
  obtain ⟨rfl, N10q, eq10⟩ := hQ10
  have N10 := Fr.app N9 N10q
  obtain ⟨fs, hr, hrun, hended, hW, hsame⟩ := X10.leave (v := some (.int (1 : Int32))) (fun h => by rw [Bd.returns] at h; cases h)
  refine ⟨_, _, pre0 _ ?_, hrun, hended, _, _, rfl, ?_, ⟨_, rfl⟩, hW, hsame.mono (by decide) (by decide)⟩
  · show Steps p.tables e below (s₁.setTop (mkF m 0 #[.val (.int pi1), .val (.int pi2), .unset, .unset, .unset, .unset, .unset] [])) _
    refine XS.iloadN X0.here hx rfl (hb hby at_0) rfl ?_
    show Steps p.tables e below (s₁.setTop (mkF m 1 #[.val (.int pi1), .val (.int pi2), .unset, .unset, .unset, .unset, .unset] [(.int pi1)])) _
    refine XS.iconst X0.here hx rfl (hb hby at_1) ?_
    show Steps p.tables e below (s₁.setTop (mkF m 2 #[.val (.int pi1), .val (.int pi2), .unset, .unset, .unset, .unset, .unset] [(.int (1 : Int32)), (.int pi1)])) _
    refine XS.iand X0.here hx rfl (hb hby at_2) rfl ?_
    show Steps p.tables e below (s₁.setTop (mkF m 3 #[.val (.int pi1), .val (.int pi2), .unset, .unset, .unset, .unset, .unset] [(.int (pi1 &&& (1 : Int32)))])) _
    refine XS.ifYes X0.here hx rfl (pc0 := 3) (pc' := 10) rfl (hb hby at_3) rfl ((if0 _ _).trans (teq hc3_0).1) (by decide) (by decide) ?_
    show Steps p.tables e below (s₁.setTop (mkF m 10 #[.val (.int pi1), .val (.int pi2), .unset, .unset, .unset, .unset, .unset] [])) _
    refine XS.iconst X0.here hx rfl (hb hby at_10) ?_
    show Steps p.tables e below (s₁.setTop (mkF m 11 #[.val (.int pi1), .val (.int pi2), .unset, .unset, .unset, .unset, .unset] [(.int (0 : Int32))])) _
    refine XS.istoreN X0.here hx rfl (hb hby at_11) rfl (l' := #[.val (.int pi1), .val (.int pi2), .val (.int (0 : Int32)), .unset, .unset, .unset, .unset]) rfl ?_
    show Steps p.tables e below (s₁.setTop (mkF m 12 #[.val (.int pi1), .val (.int pi2), .val (.int (0 : Int32)), .unset, .unset, .unset, .unset] [])) _
    refine XS.iloadN X0.here hx rfl (hb hby at_12) rfl ?_
    show Steps p.tables e below (s₁.setTop (mkF m 13 #[.val (.int pi1), .val (.int pi2), .val (.int (0 : Int32)), .unset, .unset, .unset, .unset] [(.int pi1)])) _
    refine XS.iconst X0.here hx rfl (hb hby at_13) ?_
    show Steps p.tables e below (s₁.setTop (mkF m 14 #[.val (.int pi1), .val (.int pi2), .val (.int (0 : Int32)), .unset, .unset, .unset, .unset] [(.int (2 : Int32)), (.int pi1)])) _
    refine XS.iand X0.here hx rfl (hb hby at_14) rfl ?_
    show Steps p.tables e below (s₁.setTop (mkF m 15 #[.val (.int pi1), .val (.int pi2), .val (.int (0 : Int32)), .unset, .unset, .unset, .unset] [(.int (pi1 &&& (2 : Int32)))])) _
    refine XS.ifYes X0.here hx rfl (pc0 := 15) (pc' := 22) rfl (hb hby at_15) rfl ((if0 _ _).trans (teq hc15_1).1) (by decide) (by decide) ?_
    show Steps p.tables e below (s₁.setTop (mkF m 22 #[.val (.int pi1), .val (.int pi2), .val (.int (0 : Int32)), .unset, .unset, .unset, .unset] [])) _
    refine XS.iconst X0.here hx rfl (hb hby at_22) ?_
    show Steps p.tables e below (s₁.setTop (mkF m 23 #[.val (.int pi1), .val (.int pi2), .val (.int (0 : Int32)), .unset, .unset, .unset, .unset] [(.int (0 : Int32))])) _
    refine XS.istoreN X0.here hx rfl (hb hby at_23) rfl (l' := #[.val (.int pi1), .val (.int pi2), .val (.int (0 : Int32)), .val (.int (0 : Int32)), .unset, .unset, .unset]) rfl ?_
    show Steps p.tables e below (s₁.setTop (mkF m 24 #[.val (.int pi1), .val (.int pi2), .val (.int (0 : Int32)), .val (.int (0 : Int32)), .unset, .unset, .unset] [])) _
    refine XS.iloadN X0.here hx rfl (hb hby at_24) rfl ?_
    show Steps p.tables e below (s₁.setTop (mkF m 25 #[.val (.int pi1), .val (.int pi2), .val (.int (0 : Int32)), .val (.int (0 : Int32)), .unset, .unset, .unset] [(.int pi2)])) _
    refine XS.iconst X0.here hx rfl (hb hby at_25) ?_
    show Steps p.tables e below (s₁.setTop (mkF m 26 #[.val (.int pi1), .val (.int pi2), .val (.int (0 : Int32)), .val (.int (0 : Int32)), .unset, .unset, .unset] [(.int (3 : Int32)), (.int pi2)])) _
    refine XS.iand X0.here hx rfl (hb hby at_26) rfl ?_
    show Steps p.tables e below (s₁.setTop (mkF m 27 #[.val (.int pi1), .val (.int pi2), .val (.int (0 : Int32)), .val (.int (0 : Int32)), .unset, .unset, .unset] [(.int (pi2 &&& (3 : Int32)))])) _
    refine XS.ifYes X0.here hx rfl (pc0 := 27) (pc' := 34) rfl (hb hby at_27) rfl ((if0 _ _).trans (feq hc27_2).2) (by decide) (by decide) ?_
    show Steps p.tables e below (s₁.setTop (mkF m 34 #[.val (.int pi1), .val (.int pi2), .val (.int (0 : Int32)), .val (.int (0 : Int32)), .unset, .unset, .unset] [])) _
    refine XS.iloadN X0.here hx rfl (hb hby at_34) rfl ?_
    show Steps p.tables e below (s₁.setTop (mkF m 35 #[.val (.int pi1), .val (.int pi2), .val (.int (0 : Int32)), .val (.int (0 : Int32)), .unset, .unset, .unset] [(.int pi2)])) _
    refine XS.iconst X0.here hx rfl (hb hby at_35) ?_
    show Steps p.tables e below (s₁.setTop (mkF m 36 #[.val (.int pi1), .val (.int pi2), .val (.int (0 : Int32)), .val (.int (0 : Int32)), .unset, .unset, .unset] [(.int (2 : Int32)), (.int pi2)])) _
    refine XS.iushr X0.here hx rfl (hb hby at_36) rfl ?_
    show Steps p.tables e below (s₁.setTop (mkF m 37 #[.val (.int pi1), .val (.int pi2), .val (.int (0 : Int32)), .val (.int (0 : Int32)), .unset, .unset, .unset] [(.int ((pi2.toUInt32 >>> ((2 : Int32) &&& 31).toUInt32).toInt32))])) _
    refine XS.istore X0.here hx rfl (hb hby at_37) rfl (l' := #[.val (.int pi1), .val (.int pi2), .val (.int (0 : Int32)), .val (.int (0 : Int32)), .val (.int ((pi2.toUInt32 >>> ((2 : Int32) &&& 31).toUInt32).toInt32)), .unset, .unset]) rfl ?_
    show Steps p.tables e below (s₁.setTop (mkF m 39 #[.val (.int pi1), .val (.int pi2), .val (.int (0 : Int32)), .val (.int (0 : Int32)), .val (.int ((pi2.toUInt32 >>> ((2 : Int32) &&& 31).toUInt32).toInt32)), .unset, .unset] [])) _
    refine st1 _ ?_
    show Steps p.tables e below (T1.setTop (mkF m 42 #[.val (.int pi1), .val (.int pi2), .val (.int (0 : Int32)), .val (.int (0 : Int32)), .val (.int ((pi2.toUInt32 >>> ((2 : Int32) &&& 31).toUInt32).toInt32)), .unset, .unset] [(.ref b1)])) _
    refine XS.dup X1.here hx rfl (hb hby at_42) rfl rfl ?_
    show Steps p.tables e below (T1.setTop (mkF m 43 #[.val (.int pi1), .val (.int pi2), .val (.int (0 : Int32)), .val (.int (0 : Int32)), .val (.int ((pi2.toUInt32 >>> ((2 : Int32) &&& 31).toUInt32).toInt32)), .unset, .unset] [(.ref b1), (.ref b1)])) _
    refine XS.iloadN X1.here hx rfl (hb hby at_43) rfl ?_
    show Steps p.tables e below (T1.setTop (mkF m 44 #[.val (.int pi1), .val (.int pi2), .val (.int (0 : Int32)), .val (.int (0 : Int32)), .val (.int ((pi2.toUInt32 >>> ((2 : Int32) &&& 31).toUInt32).toInt32)), .unset, .unset] [(.int (0 : Int32)), (.ref b1), (.ref b1)])) _
    refine XS.iloadN X1.here hx rfl (hb hby at_44) rfl ?_
    show Steps p.tables e below (T1.setTop (mkF m 45 #[.val (.int pi1), .val (.int pi2), .val (.int (0 : Int32)), .val (.int (0 : Int32)), .val (.int ((pi2.toUInt32 >>> ((2 : Int32) &&& 31).toUInt32).toInt32)), .unset, .unset] [(.int (0 : Int32)), (.int (0 : Int32)), (.ref b1), (.ref b1)])) _
    refine XS.iload X1.here hx rfl (hb hby at_45) rfl ?_
    show Steps p.tables e below (T1.setTop (mkF m 47 #[.val (.int pi1), .val (.int pi2), .val (.int (0 : Int32)), .val (.int (0 : Int32)), .val (.int ((pi2.toUInt32 >>> ((2 : Int32) &&& 31).toUInt32).toInt32)), .unset, .unset] [(.int ((pi2.toUInt32 >>> ((2 : Int32) &&& 31).toUInt32).toInt32)), (.int (0 : Int32)), (.int (0 : Int32)), (.ref b1), (.ref b1)])) _
    refine st2.trans ?_
    show Steps p.tables e below (T2.setTop (mkF m 50 #[.val (.int pi1), .val (.int pi2), .val (.int (0 : Int32)), .val (.int (0 : Int32)), .val (.int ((pi2.toUInt32 >>> ((2 : Int32) &&& 31).toUInt32).toInt32)), .unset, .unset] [(.ref b1)])) _
    refine XS.astore X2.here hx rfl (hb hby at_50) rfl rfl (l' := #[.val (.int pi1), .val (.int pi2), .val (.int (0 : Int32)), .val (.int (0 : Int32)), .val (.int ((pi2.toUInt32 >>> ((2 : Int32) &&& 31).toUInt32).toInt32)), .val (.ref b1), .unset]) rfl ?_
    show Steps p.tables e below (T2.setTop (mkF m 52 #[.val (.int pi1), .val (.int pi2), .val (.int (0 : Int32)), .val (.int (0 : Int32)), .val (.int ((pi2.toUInt32 >>> ((2 : Int32) &&& 31).toUInt32).toInt32)), .val (.ref b1), .unset] [])) _
    refine XS.iloadN X2.here hx rfl (hb hby at_52) rfl ?_
    show Steps p.tables e below (T2.setTop (mkF m 53 #[.val (.int pi1), .val (.int pi2), .val (.int (0 : Int32)), .val (.int (0 : Int32)), .val (.int ((pi2.toUInt32 >>> ((2 : Int32) &&& 31).toUInt32).toInt32)), .val (.ref b1), .unset] [(.int pi1)])) _
    refine XS.iconst X2.here hx rfl (hb hby at_53) ?_
    show Steps p.tables e below (T2.setTop (mkF m 54 #[.val (.int pi1), .val (.int pi2), .val (.int (0 : Int32)), .val (.int (0 : Int32)), .val (.int ((pi2.toUInt32 >>> ((2 : Int32) &&& 31).toUInt32).toInt32)), .val (.ref b1), .unset] [(.int (3 : Int32)), (.int pi1)])) _
    refine XS.iand X2.here hx rfl (hb hby at_54) rfl ?_
    show Steps p.tables e below (T2.setTop (mkF m 55 #[.val (.int pi1), .val (.int pi2), .val (.int (0 : Int32)), .val (.int (0 : Int32)), .val (.int ((pi2.toUInt32 >>> ((2 : Int32) &&& 31).toUInt32).toInt32)), .val (.ref b1), .unset] [(.int (pi1 &&& (3 : Int32)))])) _
    refine XS.ifNo X2.here hx rfl (hb hby at_55) rfl ((if0 _ _).trans (teq (own_z hc3_0 hc15_1)).2) ?_
    show Steps p.tables e below (T2.setTop (mkF m 58 #[.val (.int pi1), .val (.int pi2), .val (.int (0 : Int32)), .val (.int (0 : Int32)), .val (.int ((pi2.toUInt32 >>> ((2 : Int32) &&& 31).toUInt32).toInt32)), .val (.ref b1), .unset] [])) _
    refine XS.iload X2.here hx rfl (hb hby at_58) rfl ?_
    show Steps p.tables e below (T2.setTop (mkF m 60 #[.val (.int pi1), .val (.int pi2), .val (.int (0 : Int32)), .val (.int (0 : Int32)), .val (.int ((pi2.toUInt32 >>> ((2 : Int32) &&& 31).toUInt32).toInt32)), .val (.ref b1), .unset] [(.int ((pi2.toUInt32 >>> ((2 : Int32) &&& 31).toUInt32).toInt32))])) _
    refine XS.ifNo X2.here hx rfl (hb hby at_60) rfl ((if0 _ _).trans (teq hc60_3).2) ?_
    show Steps p.tables e below (T2.setTop (mkF m 63 #[.val (.int pi1), .val (.int pi2), .val (.int (0 : Int32)), .val (.int (0 : Int32)), .val (.int ((pi2.toUInt32 >>> ((2 : Int32) &&& 31).toUInt32).toInt32)), .val (.ref b1), .unset] [])) _
    refine XS.iconst X2.here hx rfl (hb hby at_63) ?_
    show Steps p.tables e below (T2.setTop (mkF m 64 #[.val (.int pi1), .val (.int pi2), .val (.int (0 : Int32)), .val (.int (0 : Int32)), .val (.int ((pi2.toUInt32 >>> ((2 : Int32) &&& 31).toUInt32).toInt32)), .val (.ref b1), .unset] [(.int (1 : Int32))])) _
    refine XS.goto X2.here hx rfl (pc0 := 64) (pc' := 68) rfl (hb hby at_64) (by decide) (by decide) ?_
    show Steps p.tables e below (T2.setTop (mkF m 68 #[.val (.int pi1), .val (.int pi2), .val (.int (0 : Int32)), .val (.int (0 : Int32)), .val (.int ((pi2.toUInt32 >>> ((2 : Int32) &&& 31).toUInt32).toInt32)), .val (.ref b1), .unset] [(.int (1 : Int32))])) _
    refine XS.istore X2.here hx rfl (hb hby at_68) rfl (l' := #[.val (.int pi1), .val (.int pi2), .val (.int (0 : Int32)), .val (.int (0 : Int32)), .val (.int ((pi2.toUInt32 >>> ((2 : Int32) &&& 31).toUInt32).toInt32)), .val (.ref b1), .val (.int (1 : Int32))]) rfl ?_
    show Steps p.tables e below (T2.setTop (mkF m 70 #[.val (.int pi1), .val (.int pi2), .val (.int (0 : Int32)), .val (.int (0 : Int32)), .val (.int ((pi2.toUInt32 >>> ((2 : Int32) &&& 31).toUInt32).toInt32)), .val (.ref b1), .val (.int (1 : Int32))] [])) _
    refine XS.aload X2.here hx rfl (hb hby at_70) rfl rfl ?_
    show Steps p.tables e below (T2.setTop (mkF m 72 #[.val (.int pi1), .val (.int pi2), .val (.int (0 : Int32)), .val (.int (0 : Int32)), .val (.int ((pi2.toUInt32 >>> ((2 : Int32) &&& 31).toUInt32).toInt32)), .val (.ref b1), .val (.int (1 : Int32))] [(.ref b1)])) _
    refine st5.trans ?_
    show Steps p.tables e below (T5.setTop (mkF m 75 #[.val (.int pi1), .val (.int pi2), .val (.int (0 : Int32)), .val (.int (0 : Int32)), .val (.int ((pi2.toUInt32 >>> ((2 : Int32) &&& 31).toUInt32).toInt32)), .val (.ref b1), .val (.int (1 : Int32))] [(.int (1 : Int32))])) _
    refine XS.iload X5.here hx rfl (hb hby at_75) rfl ?_
    show Steps p.tables e below (T5.setTop (mkF m 77 #[.val (.int pi1), .val (.int pi2), .val (.int (0 : Int32)), .val (.int (0 : Int32)), .val (.int ((pi2.toUInt32 >>> ((2 : Int32) &&& 31).toUInt32).toInt32)), .val (.ref b1), .val (.int (1 : Int32))] [(.int (1 : Int32)), (.int (1 : Int32))])) _
    refine XS.icmpNo X5.here hx rfl (hb hby at_77) rfl (teq (rfl : (1 : Int32) = (1 : Int32))).2 ?_
    show Steps p.tables e below (T5.setTop (mkF m 80 #[.val (.int pi1), .val (.int pi2), .val (.int (0 : Int32)), .val (.int (0 : Int32)), .val (.int ((pi2.toUInt32 >>> ((2 : Int32) &&& 31).toUInt32).toInt32)), .val (.ref b1), .val (.int (1 : Int32))] [])) _
    refine XS.aload X5.here hx rfl (hb hby at_80) rfl rfl ?_
    show Steps p.tables e below (T5.setTop (mkF m 82 #[.val (.int pi1), .val (.int pi2), .val (.int (0 : Int32)), .val (.int (0 : Int32)), .val (.int ((pi2.toUInt32 >>> ((2 : Int32) &&& 31).toUInt32).toInt32)), .val (.ref b1), .val (.int (1 : Int32))] [(.ref b1)])) _
    refine st8.trans ?_
    show Steps p.tables e below (T8.setTop (mkF m 85 #[.val (.int pi1), .val (.int pi2), .val (.int (0 : Int32)), .val (.int (0 : Int32)), .val (.int ((pi2.toUInt32 >>> ((2 : Int32) &&& 31).toUInt32).toInt32)), .val (.ref b1), .val (.int (1 : Int32))] [(.int (0 : Int32))])) _
    refine XS.iloadN X8.here hx rfl (hb hby at_85) rfl ?_
    show Steps p.tables e below (T8.setTop (mkF m 86 #[.val (.int pi1), .val (.int pi2), .val (.int (0 : Int32)), .val (.int (0 : Int32)), .val (.int ((pi2.toUInt32 >>> ((2 : Int32) &&& 31).toUInt32).toInt32)), .val (.ref b1), .val (.int (1 : Int32))] [(.int (0 : Int32)), (.int (0 : Int32))])) _
    refine XS.icmpNo X8.here hx rfl (hb hby at_86) rfl (teq (rfl : (0 : Int32) = (0 : Int32))).2 ?_
    show Steps p.tables e below (T8.setTop (mkF m 89 #[.val (.int pi1), .val (.int pi2), .val (.int (0 : Int32)), .val (.int (0 : Int32)), .val (.int ((pi2.toUInt32 >>> ((2 : Int32) &&& 31).toUInt32).toInt32)), .val (.ref b1), .val (.int (1 : Int32))] [])) _
    refine XS.aload X8.here hx rfl (hb hby at_89) rfl rfl ?_
    show Steps p.tables e below (T8.setTop (mkF m 91 #[.val (.int pi1), .val (.int pi2), .val (.int (0 : Int32)), .val (.int (0 : Int32)), .val (.int ((pi2.toUInt32 >>> ((2 : Int32) &&& 31).toUInt32).toInt32)), .val (.ref b1), .val (.int (1 : Int32))] [(.ref b1)])) _
    refine st9.trans ?_
    show Steps p.tables e below (T9.setTop (mkF m 94 #[.val (.int pi1), .val (.int pi2), .val (.int (0 : Int32)), .val (.int (0 : Int32)), .val (.int ((pi2.toUInt32 >>> ((2 : Int32) &&& 31).toUInt32).toInt32)), .val (.ref b1), .val (.int (1 : Int32))] [(.int (0 : Int32))])) _
    refine XS.iloadN X9.here hx rfl (hb hby at_94) rfl ?_
    show Steps p.tables e below (T9.setTop (mkF m 95 #[.val (.int pi1), .val (.int pi2), .val (.int (0 : Int32)), .val (.int (0 : Int32)), .val (.int ((pi2.toUInt32 >>> ((2 : Int32) &&& 31).toUInt32).toInt32)), .val (.ref b1), .val (.int (1 : Int32))] [(.int (0 : Int32)), (.int (0 : Int32))])) _
    refine XS.icmpNo X9.here hx rfl (hb hby at_95) rfl (teq (rfl : (0 : Int32) = (0 : Int32))).2 ?_
    show Steps p.tables e below (T9.setTop (mkF m 98 #[.val (.int pi1), .val (.int pi2), .val (.int (0 : Int32)), .val (.int (0 : Int32)), .val (.int ((pi2.toUInt32 >>> ((2 : Int32) &&& 31).toUInt32).toInt32)), .val (.ref b1), .val (.int (1 : Int32))] [])) _
    refine XS.aload X9.here hx rfl (hb hby at_98) rfl rfl ?_
    show Steps p.tables e below (T9.setTop (mkF m 100 #[.val (.int pi1), .val (.int pi2), .val (.int (0 : Int32)), .val (.int (0 : Int32)), .val (.int ((pi2.toUInt32 >>> ((2 : Int32) &&& 31).toUInt32).toInt32)), .val (.ref b1), .val (.int (1 : Int32))] [(.ref b1)])) _
    refine st10.trans ?_
    show Steps p.tables e below (T10.setTop (mkF m 103 #[.val (.int pi1), .val (.int pi2), .val (.int (0 : Int32)), .val (.int (0 : Int32)), .val (.int ((pi2.toUInt32 >>> ((2 : Int32) &&& 31).toUInt32).toInt32)), .val (.ref b1), .val (.int (1 : Int32))] [(.int ((pi2.toUInt32 >>> ((2 : Int32) &&& 31).toUInt32).toInt32))])) _
    refine XS.iload X10.here hx rfl (hb hby at_103) rfl ?_
    show Steps p.tables e below (T10.setTop (mkF m 105 #[.val (.int pi1), .val (.int pi2), .val (.int (0 : Int32)), .val (.int (0 : Int32)), .val (.int ((pi2.toUInt32 >>> ((2 : Int32) &&& 31).toUInt32).toInt32)), .val (.ref b1), .val (.int (1 : Int32))] [(.int ((pi2.toUInt32 >>> ((2 : Int32) &&& 31).toUInt32).toInt32)), (.int ((pi2.toUInt32 >>> ((2 : Int32) &&& 31).toUInt32).toInt32))])) _
    refine XS.icmpNo X10.here hx rfl (hb hby at_105) rfl (teq (rfl : ((pi2.toUInt32 >>> ((2 : Int32) &&& 31).toUInt32).toInt32) = ((pi2.toUInt32 >>> ((2 : Int32) &&& 31).toUInt32).toInt32))).2 ?_
    show Steps p.tables e below (T10.setTop (mkF m 108 #[.val (.int pi1), .val (.int pi2), .val (.int (0 : Int32)), .val (.int (0 : Int32)), .val (.int ((pi2.toUInt32 >>> ((2 : Int32) &&& 31).toUInt32).toInt32)), .val (.ref b1), .val (.int (1 : Int32))] [])) _
    refine XS.iconst X10.here hx rfl (hb hby at_108) ?_
    show Steps p.tables e below (T10.setTop (mkF m 109 #[.val (.int pi1), .val (.int pi2), .val (.int (0 : Int32)), .val (.int (0 : Int32)), .val (.int ((pi2.toUInt32 >>> ((2 : Int32) &&& 31).toUInt32).toInt32)), .val (.ref b1), .val (.int (1 : Int32))] [(.int (1 : Int32))])) _
    refine XS.goto X10.here hx rfl (pc0 := 109) (pc' := 113) rfl (hb hby at_109) (by decide) (by decide) ?_
    show Steps p.tables e below (T10.setTop (mkF m 113 #[.val (.int pi1), .val (.int pi2), .val (.int (0 : Int32)), .val (.int (0 : Int32)), .val (.int ((pi2.toUInt32 >>> ((2 : Int32) &&& 31).toUInt32).toInt32)), .val (.ref b1), .val (.int (1 : Int32))] [(.int (1 : Int32))])) _
    exact retN X10 hx (t := .boolean) Bd.returns (by simp) (hb hby at_113) hr
  · exact ⟨rfl, N10⟩
set_option maxRecDepth 65536 in
set_option maxHeartbeats 40000000 in
theorem rm0_ttff (l : Launch) (Z : State) (a0 : Array Value) (hw : ∀ d ∈ tables_1, d.before a0 Z = true) (ws : List Jvm.Cond) (pi1 : Int32) (pi2 : Int32) (h0 : Heap) (n0 : Nat) (Z0 : n0 ≤ h0.size) (O0 : Old Z n0 h0) (hc3_0 : (pi1 &&& (1 : Int32)) = (0 : Int32)) (hc15_1 : (pi1 &&& (2 : Int32)) = (0 : Int32)) (hc27_2 : ¬ ((pi2 &&& (3 : Int32)) = (0 : Int32))) (hc60_3 : ¬ (((pi2.toUInt32 >>> ((2 : Int32) &&& 31).toUInt32).toInt32) = (0 : Int32))) :
    MetFree l x (head1 (Jvm.Cond.code x code maxLocals ret :: ws) room_1) (fun a U => a = #[(.int pi1), (.int pi2)] ∧ Z.Warmed39 U.vm ∧ U.heap = h0) (fun _ _ _ _ _ => True) (fun _ U o U' => ∃ v L, o = .returned v ∧ Q0 v L n0 ∧ FrameEnd U o U' L room_1.cells room_1.slots) := by
  refine MetFree.of_bodySF (plainFor_of_name pn_0) hisR ?_
  intro p e s m args below meth c s₁ Bd hml0 hP hK
  obtain ⟨rfl, hZ, hh⟩ := hP
  have hx := Bd.exec
  have hby := Bd.bytes
  have hml : c.maxLocals = 7 := hml0
  have hown : s.vm.findClass "com/example/linkstride/linkstride/engine/CompletenessCompletePinLaw" = some m.cls := findClass_of_methodNamed Bd.named
  have hnm := (name_of_methodNamed Bd.named Bd.method).1
  have X0 : Stand p l e room_1 s m #[(.int pi1), (.int pi2)] below meth c s₁ [] 0 0 := Stand.of_body Bd
  have e0 : s₁.heap = h0 := by rw [← hh, Bd.state]; rfl
  have N0 := Fr.nil n0
  have pre0 : ∀ t, Steps p.tables e below (s₁.setTop (mkF m 0 #[.val (.int pi1), .val (.int pi2), .unset, .unset, .unset, .unset, .unset] [])) t → Steps p.tables e below (s₁.setTop (entryFrame m #[(.int pi1), (.int pi2)] maxLocals)) t := fun t k => castTop (ef_0 m pi1 pi2) k
  obtain ⟨T1, h1, X1, e1, E1, A1, D1, -, st1⟩ := newO X0 hx hZ hown (hw _ (List.mem_of_getElem? (i := 0) rfl)) (hw _ (List.mem_of_getElem? (i := 1) rfl)) (hw _ (List.mem_of_getElem? (i := 2) rfl)) e0 (g := (mkF m 39 #[.val (.int pi1), .val (.int pi2), .val (.int (0 : Int32)), .val (.int (0 : Int32)), .val (.int ((pi2.toUInt32 >>> ((2 : Int32) &&& 31).toUInt32).toInt32)), .unset, .unset] [])) rfl (hb hby at_39) (by decide) (by decide)
  obtain ⟨b1, g1⟩ : ∃ z, z = h0.size := ⟨_, rfl⟩
  rw [← g1] at A1 D1 st1
  have F_budgetReached_b1 : Fld Z h1 b1 "com/example/linkstride/linkstride/engine/Completeness" "budgetReached" "Z" (.int (0 : Int32)) := D1 (Or.inr (hw _ (List.mem_of_getElem? (i := 15) rfl))) (ty := .boolean) (by decide)
  have F_lookupLimitReached_b1 : Fld Z h1 b1 "com/example/linkstride/linkstride/engine/Completeness" "lookupLimitReached" "Z" (.int (0 : Int32)) := D1 (Or.inr (hw _ (List.mem_of_getElem? (i := 17) rfl))) (ty := .boolean) (by decide)
  have F_lookupsCut_b1 : Fld Z h1 b1 "com/example/linkstride/linkstride/engine/Completeness" "lookupsCut" "I" (.int (0 : Int32)) := D1 (Or.inr (hw _ (List.mem_of_getElem? (i := 19) rfl))) (ty := .int) (by decide)
  have g_b1 : n0 ≤ b1 := Nat.le_trans Z0 (Nat.le_of_eq g1.symm)
  have z3 := Nat.le_trans Z0 E1.1
  have o4 := O0.ext E1
  obtain ⟨_, _, ⟨T2, L2, k2, n2⟩, -, X2, ⟨Lc2, hQ2, l2, y2, z2⟩, st2⟩ := X1.specialBack hx (y := (⟨"com/example/linkstride/linkstride/engine/Completeness", "<init>", "(ZZI)V"⟩ : MethodName)) rfl hown (mvT hZ (hw _ (List.mem_of_getElem? (i := 3) rfl))) (mvT hZ (hw _ (List.mem_of_getElem? (i := 4) rfl))) (mvT hZ (hw _ (List.mem_of_getElem? (i := 5) rfl))) (by decide) (backOf (W := 1) (rm1 l Z a0 hw [] b1 (0 : Int32) (0 : Int32) ((pi2.toUInt32 >>> ((2 : Int32) &&& 31).toUInt32).toInt32) (.int (0 : Int32)) (.int (0 : Int32)) (.int (0 : Int32)) h1 n0 z3 o4 A1 F_budgetReached_b1 g_b1 F_lookupLimitReached_b1 F_lookupsCut_b1) hZ (hw _ (List.mem_of_getElem? (i := 5) rfl)) (hw _ (List.mem_of_getElem? (i := 2) rfl)) (by decide) (by decide)) (g := (mkF m 47 #[.val (.int pi1), .val (.int pi2), .val (.int (0 : Int32)), .val (.int (0 : Int32)), .val (.int ((pi2.toUInt32 >>> ((2 : Int32) &&& 31).toUInt32).toInt32)), .unset, .unset] [(.int ((pi2.toUInt32 >>> ((2 : Int32) &&& 31).toUInt32).toInt32)), (.int (0 : Int32)), (.int (0 : Int32)), (.ref b1), (.ref b1)])) rfl (by rw [hml]; rfl) (Steps.refl _) (a := b1) (argsL := [(.int (0 : Int32)), (.int (0 : Int32)), (.int ((pi2.toUInt32 >>> ((2 : Int32) &&& 31).toUInt32).toInt32))]) (rest := [(.ref b1)]) (lenOf pd_0 rfl) rfl (by show 2 * 0 + _ ≤ _; exact Nat.le_of_eq rfl) (hb hby at_47) (fun _ _ => ⟨rfl, e1, (by decide : 1 + 0 ≤ _), (by decide : 3 + 0 ≤ _)⟩)
  dsimp only [Pt.U, Pt.locs, Pt.cells, Pt.slots] at X2 l2 y2 z2 st2 hQ2
  subst l2 y2 z2
  obtain ⟨rfl, N2q, K2, qf2_0, qf2_1, qf2_2, qf2_3⟩ := hQ2
  have N2 := Fr.app N0 N2q
  have z6 := Nat.le_trans z3 K2.1
  have o7 := o4.keep K2 (allS g_b1 all0)
  obtain ⟨cq5, kq5, q5a, q5b, q5c⟩ := isOf hZ rfl qf2_0
  obtain ⟨_, _, ⟨T5, L5, k5, n5⟩, -, X5, ⟨Lc5, hQ5, l5, y5, z5⟩, st5⟩ := X2.virtualBack hx (y := (⟨"com/example/linkstride/linkstride/engine/Completeness", "complete", "()Z"⟩ : MethodName)) (z := (⟨"com/example/linkstride/linkstride/engine/Completeness", "complete", "()Z"⟩ : MethodName)) hown (mvT hZ (hw _ (List.mem_of_getElem? (i := 20) rfl))) (mvT hZ (hw _ (List.mem_of_getElem? (i := 21) rfl))) (notFace_of_selects (args := #[]) (mvT hZ (hw _ (List.mem_of_getElem? (i := 23) rfl)))) (mvT hZ (hw _ (List.mem_of_getElem? (i := 23) rfl))) (mvT hZ (hw _ (List.mem_of_getElem? (i := 22) rfl))) (by decide) (backOf (W := 0) (rm4_ttf l Z a0 hw [] b1 (0 : Int32) (0 : Int32) ((pi2.toUInt32 >>> ((2 : Int32) &&& 31).toUInt32).toInt32) T2.heap n0 z6 o7 qf2_1 qf2_2 qf2_3 rfl rfl hc60_3) hZ (hw _ (List.mem_of_getElem? (i := 24) rfl)) (hw _ (List.mem_of_getElem? (i := 2) rfl)) (by decide) (by decide)) q5a q5c (g := (mkF m 72 #[.val (.int pi1), .val (.int pi2), .val (.int (0 : Int32)), .val (.int (0 : Int32)), .val (.int ((pi2.toUInt32 >>> ((2 : Int32) &&& 31).toUInt32).toInt32)), .val (.ref b1), .val (.int (0 : Int32))] [(.ref b1)])) rfl (by rw [hml]; rfl) (Steps.refl _) (argsL := []) (rest := []) (lenOf pd_2 rfl) rfl (by show 2 * 0 + _ ≤ _; exact Nat.le_of_eq rfl) (hb hby at_72) (fun _ _ => ⟨rfl, rfl, (by decide : 1 + 0 ≤ _), (by decide : 3 + 0 ≤ _)⟩)
  dsimp only [Pt.U, Pt.locs, Pt.cells, Pt.slots] at X5 l5 y5 z5 st5 hQ5
  subst l5 y5 z5
  obtain ⟨rfl, N5q, eq5⟩ := hQ5
  have N5 := Fr.app N2 N5q
  obtain ⟨cq8, kq8, q8a, q8b, q8c⟩ := isOf hZ eq5 qf2_0
  obtain ⟨_, _, ⟨T8, L8, k8, n8⟩, -, X8, ⟨Lc8, hQ8, l8, y8, z8⟩, st8⟩ := X5.virtualBack hx (y := (⟨"com/example/linkstride/linkstride/engine/Completeness", "budgetReached", "()Z"⟩ : MethodName)) (z := (⟨"com/example/linkstride/linkstride/engine/Completeness", "budgetReached", "()Z"⟩ : MethodName)) hown (mvT hZ (hw _ (List.mem_of_getElem? (i := 25) rfl))) (mvT hZ (hw _ (List.mem_of_getElem? (i := 26) rfl))) (notFace_of_selects (args := #[]) (mvT hZ (hw _ (List.mem_of_getElem? (i := 28) rfl)))) (mvT hZ (hw _ (List.mem_of_getElem? (i := 28) rfl))) (mvT hZ (hw _ (List.mem_of_getElem? (i := 27) rfl))) (by decide) (backOf (W := 0) (rm5 l Z a0 hw [] b1 (0 : Int32) T2.heap n0 z6 o7 qf2_1) hZ (hw _ (List.mem_of_getElem? (i := 29) rfl)) (hw _ (List.mem_of_getElem? (i := 2) rfl)) (by decide) (by decide)) q8a q8c (g := (mkF m 82 #[.val (.int pi1), .val (.int pi2), .val (.int (0 : Int32)), .val (.int (0 : Int32)), .val (.int ((pi2.toUInt32 >>> ((2 : Int32) &&& 31).toUInt32).toInt32)), .val (.ref b1), .val (.int (0 : Int32))] [(.ref b1)])) rfl (by rw [hml]; rfl) (Steps.refl _) (argsL := []) (rest := []) (lenOf pd_2 rfl) rfl (by show 2 * 0 + _ ≤ _; exact Nat.le_of_eq rfl) (hb hby at_82) (fun _ _ => ⟨rfl, eq5, (by decide : 1 + 0 ≤ _), (by decide : 3 + 0 ≤ _)⟩)
  dsimp only [Pt.U, Pt.locs, Pt.cells, Pt.slots] at X8 l8 y8 z8 st8 hQ8
  subst l8 y8 z8
  obtain ⟨rfl, N8q, eq8⟩ := hQ8
  have N8 := Fr.app N5 N8q
  obtain ⟨cq9, kq9, q9a, q9b, q9c⟩ := isOf hZ eq8 qf2_0
  obtain ⟨_, _, ⟨T9, L9, k9, n9⟩, -, X9, ⟨Lc9, hQ9, l9, y9, z9⟩, st9⟩ := X8.virtualBack hx (y := (⟨"com/example/linkstride/linkstride/engine/Completeness", "lookupLimitReached", "()Z"⟩ : MethodName)) (z := (⟨"com/example/linkstride/linkstride/engine/Completeness", "lookupLimitReached", "()Z"⟩ : MethodName)) hown (mvT hZ (hw _ (List.mem_of_getElem? (i := 30) rfl))) (mvT hZ (hw _ (List.mem_of_getElem? (i := 31) rfl))) (notFace_of_selects (args := #[]) (mvT hZ (hw _ (List.mem_of_getElem? (i := 33) rfl)))) (mvT hZ (hw _ (List.mem_of_getElem? (i := 33) rfl))) (mvT hZ (hw _ (List.mem_of_getElem? (i := 32) rfl))) (by decide) (backOf (W := 0) (rm6 l Z a0 hw [] b1 (0 : Int32) T2.heap n0 z6 o7 qf2_2) hZ (hw _ (List.mem_of_getElem? (i := 34) rfl)) (hw _ (List.mem_of_getElem? (i := 2) rfl)) (by decide) (by decide)) q9a q9c (g := (mkF m 91 #[.val (.int pi1), .val (.int pi2), .val (.int (0 : Int32)), .val (.int (0 : Int32)), .val (.int ((pi2.toUInt32 >>> ((2 : Int32) &&& 31).toUInt32).toInt32)), .val (.ref b1), .val (.int (0 : Int32))] [(.ref b1)])) rfl (by rw [hml]; rfl) (Steps.refl _) (argsL := []) (rest := []) (lenOf pd_2 rfl) rfl (by show 2 * 0 + _ ≤ _; exact Nat.le_of_eq rfl) (hb hby at_91) (fun _ _ => ⟨rfl, eq8, (by decide : 1 + 0 ≤ _), (by decide : 3 + 0 ≤ _)⟩)
  dsimp only [Pt.U, Pt.locs, Pt.cells, Pt.slots] at X9 l9 y9 z9 st9 hQ9
  subst l9 y9 z9
  obtain ⟨rfl, N9q, eq9⟩ := hQ9
  have N9 := Fr.app N8 N9q
  obtain ⟨cq10, kq10, q10a, q10b, q10c⟩ := isOf hZ eq9 qf2_0
  obtain ⟨_, _, ⟨T10, L10, k10, n10⟩, -, X10, ⟨Lc10, hQ10, l10, y10, z10⟩, st10⟩ := X9.virtualBack hx (y := (⟨"com/example/linkstride/linkstride/engine/Completeness", "lookupsCut", "()I"⟩ : MethodName)) (z := (⟨"com/example/linkstride/linkstride/engine/Completeness", "lookupsCut", "()I"⟩ : MethodName)) hown (mvT hZ (hw _ (List.mem_of_getElem? (i := 35) rfl))) (mvT hZ (hw _ (List.mem_of_getElem? (i := 36) rfl))) (notFace_of_selects (args := #[]) (mvT hZ (hw _ (List.mem_of_getElem? (i := 38) rfl)))) (mvT hZ (hw _ (List.mem_of_getElem? (i := 38) rfl))) (mvT hZ (hw _ (List.mem_of_getElem? (i := 37) rfl))) (by decide) (backOf (W := 0) (rm7 l Z a0 hw [] b1 ((pi2.toUInt32 >>> ((2 : Int32) &&& 31).toUInt32).toInt32) T2.heap n0 z6 o7 qf2_3) hZ (hw _ (List.mem_of_getElem? (i := 39) rfl)) (hw _ (List.mem_of_getElem? (i := 2) rfl)) (by decide) (by decide)) q10a q10c (g := (mkF m 100 #[.val (.int pi1), .val (.int pi2), .val (.int (0 : Int32)), .val (.int (0 : Int32)), .val (.int ((pi2.toUInt32 >>> ((2 : Int32) &&& 31).toUInt32).toInt32)), .val (.ref b1), .val (.int (0 : Int32))] [(.ref b1)])) rfl (by rw [hml]; rfl) (Steps.refl _) (argsL := []) (rest := []) (lenOf pd_3 rfl) rfl (by show 2 * 0 + _ ≤ _; exact Nat.le_of_eq rfl) (hb hby at_100) (fun _ _ => ⟨rfl, eq9, (by decide : 1 + 0 ≤ _), (by decide : 3 + 0 ≤ _)⟩)
  dsimp only [Pt.U, Pt.locs, Pt.cells, Pt.slots] at X10 l10 y10 z10 st10 hQ10
  subst l10 y10 z10
  obtain ⟨rfl, N10q, eq10⟩ := hQ10
  have N10 := Fr.app N9 N10q
  obtain ⟨fs, hr, hrun, hended, hW, hsame⟩ := X10.leave (v := some (.int (1 : Int32))) (fun h => by rw [Bd.returns] at h; cases h)
  refine ⟨_, _, pre0 _ ?_, hrun, hended, _, _, rfl, ?_, ⟨_, rfl⟩, hW, hsame.mono (by decide) (by decide)⟩
  · show Steps p.tables e below (s₁.setTop (mkF m 0 #[.val (.int pi1), .val (.int pi2), .unset, .unset, .unset, .unset, .unset] [])) _
    refine XS.iloadN X0.here hx rfl (hb hby at_0) rfl ?_
    show Steps p.tables e below (s₁.setTop (mkF m 1 #[.val (.int pi1), .val (.int pi2), .unset, .unset, .unset, .unset, .unset] [(.int pi1)])) _
    refine XS.iconst X0.here hx rfl (hb hby at_1) ?_
    show Steps p.tables e below (s₁.setTop (mkF m 2 #[.val (.int pi1), .val (.int pi2), .unset, .unset, .unset, .unset, .unset] [(.int (1 : Int32)), (.int pi1)])) _
    refine XS.iand X0.here hx rfl (hb hby at_2) rfl ?_
    show Steps p.tables e below (s₁.setTop (mkF m 3 #[.val (.int pi1), .val (.int pi2), .unset, .unset, .unset, .unset, .unset] [(.int (pi1 &&& (1 : Int32)))])) _
    refine XS.ifYes X0.here hx rfl (pc0 := 3) (pc' := 10) rfl (hb hby at_3) rfl ((if0 _ _).trans (teq hc3_0).1) (by decide) (by decide) ?_
    show Steps p.tables e below (s₁.setTop (mkF m 10 #[.val (.int pi1), .val (.int pi2), .unset, .unset, .unset, .unset, .unset] [])) _
    refine XS.iconst X0.here hx rfl (hb hby at_10) ?_
    show Steps p.tables e below (s₁.setTop (mkF m 11 #[.val (.int pi1), .val (.int pi2), .unset, .unset, .unset, .unset, .unset] [(.int (0 : Int32))])) _
    refine XS.istoreN X0.here hx rfl (hb hby at_11) rfl (l' := #[.val (.int pi1), .val (.int pi2), .val (.int (0 : Int32)), .unset, .unset, .unset, .unset]) rfl ?_
    show Steps p.tables e below (s₁.setTop (mkF m 12 #[.val (.int pi1), .val (.int pi2), .val (.int (0 : Int32)), .unset, .unset, .unset, .unset] [])) _
    refine XS.iloadN X0.here hx rfl (hb hby at_12) rfl ?_
    show Steps p.tables e below (s₁.setTop (mkF m 13 #[.val (.int pi1), .val (.int pi2), .val (.int (0 : Int32)), .unset, .unset, .unset, .unset] [(.int pi1)])) _
    refine XS.iconst X0.here hx rfl (hb hby at_13) ?_
    show Steps p.tables e below (s₁.setTop (mkF m 14 #[.val (.int pi1), .val (.int pi2), .val (.int (0 : Int32)), .unset, .unset, .unset, .unset] [(.int (2 : Int32)), (.int pi1)])) _
    refine XS.iand X0.here hx rfl (hb hby at_14) rfl ?_
    show Steps p.tables e below (s₁.setTop (mkF m 15 #[.val (.int pi1), .val (.int pi2), .val (.int (0 : Int32)), .unset, .unset, .unset, .unset] [(.int (pi1 &&& (2 : Int32)))])) _
    refine XS.ifYes X0.here hx rfl (pc0 := 15) (pc' := 22) rfl (hb hby at_15) rfl ((if0 _ _).trans (teq hc15_1).1) (by decide) (by decide) ?_
    show Steps p.tables e below (s₁.setTop (mkF m 22 #[.val (.int pi1), .val (.int pi2), .val (.int (0 : Int32)), .unset, .unset, .unset, .unset] [])) _
    refine XS.iconst X0.here hx rfl (hb hby at_22) ?_
    show Steps p.tables e below (s₁.setTop (mkF m 23 #[.val (.int pi1), .val (.int pi2), .val (.int (0 : Int32)), .unset, .unset, .unset, .unset] [(.int (0 : Int32))])) _
    refine XS.istoreN X0.here hx rfl (hb hby at_23) rfl (l' := #[.val (.int pi1), .val (.int pi2), .val (.int (0 : Int32)), .val (.int (0 : Int32)), .unset, .unset, .unset]) rfl ?_
    show Steps p.tables e below (s₁.setTop (mkF m 24 #[.val (.int pi1), .val (.int pi2), .val (.int (0 : Int32)), .val (.int (0 : Int32)), .unset, .unset, .unset] [])) _
    refine XS.iloadN X0.here hx rfl (hb hby at_24) rfl ?_
    show Steps p.tables e below (s₁.setTop (mkF m 25 #[.val (.int pi1), .val (.int pi2), .val (.int (0 : Int32)), .val (.int (0 : Int32)), .unset, .unset, .unset] [(.int pi2)])) _
    refine XS.iconst X0.here hx rfl (hb hby at_25) ?_
    show Steps p.tables e below (s₁.setTop (mkF m 26 #[.val (.int pi1), .val (.int pi2), .val (.int (0 : Int32)), .val (.int (0 : Int32)), .unset, .unset, .unset] [(.int (3 : Int32)), (.int pi2)])) _
    refine XS.iand X0.here hx rfl (hb hby at_26) rfl ?_
    show Steps p.tables e below (s₁.setTop (mkF m 27 #[.val (.int pi1), .val (.int pi2), .val (.int (0 : Int32)), .val (.int (0 : Int32)), .unset, .unset, .unset] [(.int (pi2 &&& (3 : Int32)))])) _
    refine XS.ifYes X0.here hx rfl (pc0 := 27) (pc' := 34) rfl (hb hby at_27) rfl ((if0 _ _).trans (feq hc27_2).2) (by decide) (by decide) ?_
    show Steps p.tables e below (s₁.setTop (mkF m 34 #[.val (.int pi1), .val (.int pi2), .val (.int (0 : Int32)), .val (.int (0 : Int32)), .unset, .unset, .unset] [])) _
    refine XS.iloadN X0.here hx rfl (hb hby at_34) rfl ?_
    show Steps p.tables e below (s₁.setTop (mkF m 35 #[.val (.int pi1), .val (.int pi2), .val (.int (0 : Int32)), .val (.int (0 : Int32)), .unset, .unset, .unset] [(.int pi2)])) _
    refine XS.iconst X0.here hx rfl (hb hby at_35) ?_
    show Steps p.tables e below (s₁.setTop (mkF m 36 #[.val (.int pi1), .val (.int pi2), .val (.int (0 : Int32)), .val (.int (0 : Int32)), .unset, .unset, .unset] [(.int (2 : Int32)), (.int pi2)])) _
    refine XS.iushr X0.here hx rfl (hb hby at_36) rfl ?_
    show Steps p.tables e below (s₁.setTop (mkF m 37 #[.val (.int pi1), .val (.int pi2), .val (.int (0 : Int32)), .val (.int (0 : Int32)), .unset, .unset, .unset] [(.int ((pi2.toUInt32 >>> ((2 : Int32) &&& 31).toUInt32).toInt32))])) _
    refine XS.istore X0.here hx rfl (hb hby at_37) rfl (l' := #[.val (.int pi1), .val (.int pi2), .val (.int (0 : Int32)), .val (.int (0 : Int32)), .val (.int ((pi2.toUInt32 >>> ((2 : Int32) &&& 31).toUInt32).toInt32)), .unset, .unset]) rfl ?_
    show Steps p.tables e below (s₁.setTop (mkF m 39 #[.val (.int pi1), .val (.int pi2), .val (.int (0 : Int32)), .val (.int (0 : Int32)), .val (.int ((pi2.toUInt32 >>> ((2 : Int32) &&& 31).toUInt32).toInt32)), .unset, .unset] [])) _
    refine st1 _ ?_
    show Steps p.tables e below (T1.setTop (mkF m 42 #[.val (.int pi1), .val (.int pi2), .val (.int (0 : Int32)), .val (.int (0 : Int32)), .val (.int ((pi2.toUInt32 >>> ((2 : Int32) &&& 31).toUInt32).toInt32)), .unset, .unset] [(.ref b1)])) _
    refine XS.dup X1.here hx rfl (hb hby at_42) rfl rfl ?_
    show Steps p.tables e below (T1.setTop (mkF m 43 #[.val (.int pi1), .val (.int pi2), .val (.int (0 : Int32)), .val (.int (0 : Int32)), .val (.int ((pi2.toUInt32 >>> ((2 : Int32) &&& 31).toUInt32).toInt32)), .unset, .unset] [(.ref b1), (.ref b1)])) _
    refine XS.iloadN X1.here hx rfl (hb hby at_43) rfl ?_
    show Steps p.tables e below (T1.setTop (mkF m 44 #[.val (.int pi1), .val (.int pi2), .val (.int (0 : Int32)), .val (.int (0 : Int32)), .val (.int ((pi2.toUInt32 >>> ((2 : Int32) &&& 31).toUInt32).toInt32)), .unset, .unset] [(.int (0 : Int32)), (.ref b1), (.ref b1)])) _
    refine XS.iloadN X1.here hx rfl (hb hby at_44) rfl ?_
    show Steps p.tables e below (T1.setTop (mkF m 45 #[.val (.int pi1), .val (.int pi2), .val (.int (0 : Int32)), .val (.int (0 : Int32)), .val (.int ((pi2.toUInt32 >>> ((2 : Int32) &&& 31).toUInt32).toInt32)), .unset, .unset] [(.int (0 : Int32)), (.int (0 : Int32)), (.ref b1), (.ref b1)])) _
    refine XS.iload X1.here hx rfl (hb hby at_45) rfl ?_
    show Steps p.tables e below (T1.setTop (mkF m 47 #[.val (.int pi1), .val (.int pi2), .val (.int (0 : Int32)), .val (.int (0 : Int32)), .val (.int ((pi2.toUInt32 >>> ((2 : Int32) &&& 31).toUInt32).toInt32)), .unset, .unset] [(.int ((pi2.toUInt32 >>> ((2 : Int32) &&& 31).toUInt32).toInt32)), (.int (0 : Int32)), (.int (0 : Int32)), (.ref b1), (.ref b1)])) _
    refine st2.trans ?_
    show Steps p.tables e below (T2.setTop (mkF m 50 #[.val (.int pi1), .val (.int pi2), .val (.int (0 : Int32)), .val (.int (0 : Int32)), .val (.int ((pi2.toUInt32 >>> ((2 : Int32) &&& 31).toUInt32).toInt32)), .unset, .unset] [(.ref b1)])) _
    refine XS.astore X2.here hx rfl (hb hby at_50) rfl rfl (l' := #[.val (.int pi1), .val (.int pi2), .val (.int (0 : Int32)), .val (.int (0 : Int32)), .val (.int ((pi2.toUInt32 >>> ((2 : Int32) &&& 31).toUInt32).toInt32)), .val (.ref b1), .unset]) rfl ?_
    show Steps p.tables e below (T2.setTop (mkF m 52 #[.val (.int pi1), .val (.int pi2), .val (.int (0 : Int32)), .val (.int (0 : Int32)), .val (.int ((pi2.toUInt32 >>> ((2 : Int32) &&& 31).toUInt32).toInt32)), .val (.ref b1), .unset] [])) _
    refine XS.iloadN X2.here hx rfl (hb hby at_52) rfl ?_
    show Steps p.tables e below (T2.setTop (mkF m 53 #[.val (.int pi1), .val (.int pi2), .val (.int (0 : Int32)), .val (.int (0 : Int32)), .val (.int ((pi2.toUInt32 >>> ((2 : Int32) &&& 31).toUInt32).toInt32)), .val (.ref b1), .unset] [(.int pi1)])) _
    refine XS.iconst X2.here hx rfl (hb hby at_53) ?_
    show Steps p.tables e below (T2.setTop (mkF m 54 #[.val (.int pi1), .val (.int pi2), .val (.int (0 : Int32)), .val (.int (0 : Int32)), .val (.int ((pi2.toUInt32 >>> ((2 : Int32) &&& 31).toUInt32).toInt32)), .val (.ref b1), .unset] [(.int (3 : Int32)), (.int pi1)])) _
    refine XS.iand X2.here hx rfl (hb hby at_54) rfl ?_
    show Steps p.tables e below (T2.setTop (mkF m 55 #[.val (.int pi1), .val (.int pi2), .val (.int (0 : Int32)), .val (.int (0 : Int32)), .val (.int ((pi2.toUInt32 >>> ((2 : Int32) &&& 31).toUInt32).toInt32)), .val (.ref b1), .unset] [(.int (pi1 &&& (3 : Int32)))])) _
    refine XS.ifNo X2.here hx rfl (hb hby at_55) rfl ((if0 _ _).trans (teq (own_z hc3_0 hc15_1)).2) ?_
    show Steps p.tables e below (T2.setTop (mkF m 58 #[.val (.int pi1), .val (.int pi2), .val (.int (0 : Int32)), .val (.int (0 : Int32)), .val (.int ((pi2.toUInt32 >>> ((2 : Int32) &&& 31).toUInt32).toInt32)), .val (.ref b1), .unset] [])) _
    refine XS.iload X2.here hx rfl (hb hby at_58) rfl ?_
    show Steps p.tables e below (T2.setTop (mkF m 60 #[.val (.int pi1), .val (.int pi2), .val (.int (0 : Int32)), .val (.int (0 : Int32)), .val (.int ((pi2.toUInt32 >>> ((2 : Int32) &&& 31).toUInt32).toInt32)), .val (.ref b1), .unset] [(.int ((pi2.toUInt32 >>> ((2 : Int32) &&& 31).toUInt32).toInt32))])) _
    refine XS.ifYes X2.here hx rfl (pc0 := 60) (pc' := 67) rfl (hb hby at_60) rfl ((if0 _ _).trans (feq hc60_3).2) (by decide) (by decide) ?_
    show Steps p.tables e below (T2.setTop (mkF m 67 #[.val (.int pi1), .val (.int pi2), .val (.int (0 : Int32)), .val (.int (0 : Int32)), .val (.int ((pi2.toUInt32 >>> ((2 : Int32) &&& 31).toUInt32).toInt32)), .val (.ref b1), .unset] [])) _
    refine XS.iconst X2.here hx rfl (hb hby at_67) ?_
    show Steps p.tables e below (T2.setTop (mkF m 68 #[.val (.int pi1), .val (.int pi2), .val (.int (0 : Int32)), .val (.int (0 : Int32)), .val (.int ((pi2.toUInt32 >>> ((2 : Int32) &&& 31).toUInt32).toInt32)), .val (.ref b1), .unset] [(.int (0 : Int32))])) _
    refine XS.istore X2.here hx rfl (hb hby at_68) rfl (l' := #[.val (.int pi1), .val (.int pi2), .val (.int (0 : Int32)), .val (.int (0 : Int32)), .val (.int ((pi2.toUInt32 >>> ((2 : Int32) &&& 31).toUInt32).toInt32)), .val (.ref b1), .val (.int (0 : Int32))]) rfl ?_
    show Steps p.tables e below (T2.setTop (mkF m 70 #[.val (.int pi1), .val (.int pi2), .val (.int (0 : Int32)), .val (.int (0 : Int32)), .val (.int ((pi2.toUInt32 >>> ((2 : Int32) &&& 31).toUInt32).toInt32)), .val (.ref b1), .val (.int (0 : Int32))] [])) _
    refine XS.aload X2.here hx rfl (hb hby at_70) rfl rfl ?_
    show Steps p.tables e below (T2.setTop (mkF m 72 #[.val (.int pi1), .val (.int pi2), .val (.int (0 : Int32)), .val (.int (0 : Int32)), .val (.int ((pi2.toUInt32 >>> ((2 : Int32) &&& 31).toUInt32).toInt32)), .val (.ref b1), .val (.int (0 : Int32))] [(.ref b1)])) _
    refine st5.trans ?_
    show Steps p.tables e below (T5.setTop (mkF m 75 #[.val (.int pi1), .val (.int pi2), .val (.int (0 : Int32)), .val (.int (0 : Int32)), .val (.int ((pi2.toUInt32 >>> ((2 : Int32) &&& 31).toUInt32).toInt32)), .val (.ref b1), .val (.int (0 : Int32))] [(.int (0 : Int32))])) _
    refine XS.iload X5.here hx rfl (hb hby at_75) rfl ?_
    show Steps p.tables e below (T5.setTop (mkF m 77 #[.val (.int pi1), .val (.int pi2), .val (.int (0 : Int32)), .val (.int (0 : Int32)), .val (.int ((pi2.toUInt32 >>> ((2 : Int32) &&& 31).toUInt32).toInt32)), .val (.ref b1), .val (.int (0 : Int32))] [(.int (0 : Int32)), (.int (0 : Int32))])) _
    refine XS.icmpNo X5.here hx rfl (hb hby at_77) rfl (teq (rfl : (0 : Int32) = (0 : Int32))).2 ?_
    show Steps p.tables e below (T5.setTop (mkF m 80 #[.val (.int pi1), .val (.int pi2), .val (.int (0 : Int32)), .val (.int (0 : Int32)), .val (.int ((pi2.toUInt32 >>> ((2 : Int32) &&& 31).toUInt32).toInt32)), .val (.ref b1), .val (.int (0 : Int32))] [])) _
    refine XS.aload X5.here hx rfl (hb hby at_80) rfl rfl ?_
    show Steps p.tables e below (T5.setTop (mkF m 82 #[.val (.int pi1), .val (.int pi2), .val (.int (0 : Int32)), .val (.int (0 : Int32)), .val (.int ((pi2.toUInt32 >>> ((2 : Int32) &&& 31).toUInt32).toInt32)), .val (.ref b1), .val (.int (0 : Int32))] [(.ref b1)])) _
    refine st8.trans ?_
    show Steps p.tables e below (T8.setTop (mkF m 85 #[.val (.int pi1), .val (.int pi2), .val (.int (0 : Int32)), .val (.int (0 : Int32)), .val (.int ((pi2.toUInt32 >>> ((2 : Int32) &&& 31).toUInt32).toInt32)), .val (.ref b1), .val (.int (0 : Int32))] [(.int (0 : Int32))])) _
    refine XS.iloadN X8.here hx rfl (hb hby at_85) rfl ?_
    show Steps p.tables e below (T8.setTop (mkF m 86 #[.val (.int pi1), .val (.int pi2), .val (.int (0 : Int32)), .val (.int (0 : Int32)), .val (.int ((pi2.toUInt32 >>> ((2 : Int32) &&& 31).toUInt32).toInt32)), .val (.ref b1), .val (.int (0 : Int32))] [(.int (0 : Int32)), (.int (0 : Int32))])) _
    refine XS.icmpNo X8.here hx rfl (hb hby at_86) rfl (teq (rfl : (0 : Int32) = (0 : Int32))).2 ?_
    show Steps p.tables e below (T8.setTop (mkF m 89 #[.val (.int pi1), .val (.int pi2), .val (.int (0 : Int32)), .val (.int (0 : Int32)), .val (.int ((pi2.toUInt32 >>> ((2 : Int32) &&& 31).toUInt32).toInt32)), .val (.ref b1), .val (.int (0 : Int32))] [])) _
    refine XS.aload X8.here hx rfl (hb hby at_89) rfl rfl ?_
    show Steps p.tables e below (T8.setTop (mkF m 91 #[.val (.int pi1), .val (.int pi2), .val (.int (0 : Int32)), .val (.int (0 : Int32)), .val (.int ((pi2.toUInt32 >>> ((2 : Int32) &&& 31).toUInt32).toInt32)), .val (.ref b1), .val (.int (0 : Int32))] [(.ref b1)])) _
    refine st9.trans ?_
    show Steps p.tables e below (T9.setTop (mkF m 94 #[.val (.int pi1), .val (.int pi2), .val (.int (0 : Int32)), .val (.int (0 : Int32)), .val (.int ((pi2.toUInt32 >>> ((2 : Int32) &&& 31).toUInt32).toInt32)), .val (.ref b1), .val (.int (0 : Int32))] [(.int (0 : Int32))])) _
    refine XS.iloadN X9.here hx rfl (hb hby at_94) rfl ?_
    show Steps p.tables e below (T9.setTop (mkF m 95 #[.val (.int pi1), .val (.int pi2), .val (.int (0 : Int32)), .val (.int (0 : Int32)), .val (.int ((pi2.toUInt32 >>> ((2 : Int32) &&& 31).toUInt32).toInt32)), .val (.ref b1), .val (.int (0 : Int32))] [(.int (0 : Int32)), (.int (0 : Int32))])) _
    refine XS.icmpNo X9.here hx rfl (hb hby at_95) rfl (teq (rfl : (0 : Int32) = (0 : Int32))).2 ?_
    show Steps p.tables e below (T9.setTop (mkF m 98 #[.val (.int pi1), .val (.int pi2), .val (.int (0 : Int32)), .val (.int (0 : Int32)), .val (.int ((pi2.toUInt32 >>> ((2 : Int32) &&& 31).toUInt32).toInt32)), .val (.ref b1), .val (.int (0 : Int32))] [])) _
    refine XS.aload X9.here hx rfl (hb hby at_98) rfl rfl ?_
    show Steps p.tables e below (T9.setTop (mkF m 100 #[.val (.int pi1), .val (.int pi2), .val (.int (0 : Int32)), .val (.int (0 : Int32)), .val (.int ((pi2.toUInt32 >>> ((2 : Int32) &&& 31).toUInt32).toInt32)), .val (.ref b1), .val (.int (0 : Int32))] [(.ref b1)])) _
    refine st10.trans ?_
    show Steps p.tables e below (T10.setTop (mkF m 103 #[.val (.int pi1), .val (.int pi2), .val (.int (0 : Int32)), .val (.int (0 : Int32)), .val (.int ((pi2.toUInt32 >>> ((2 : Int32) &&& 31).toUInt32).toInt32)), .val (.ref b1), .val (.int (0 : Int32))] [(.int ((pi2.toUInt32 >>> ((2 : Int32) &&& 31).toUInt32).toInt32))])) _
    refine XS.iload X10.here hx rfl (hb hby at_103) rfl ?_
    show Steps p.tables e below (T10.setTop (mkF m 105 #[.val (.int pi1), .val (.int pi2), .val (.int (0 : Int32)), .val (.int (0 : Int32)), .val (.int ((pi2.toUInt32 >>> ((2 : Int32) &&& 31).toUInt32).toInt32)), .val (.ref b1), .val (.int (0 : Int32))] [(.int ((pi2.toUInt32 >>> ((2 : Int32) &&& 31).toUInt32).toInt32)), (.int ((pi2.toUInt32 >>> ((2 : Int32) &&& 31).toUInt32).toInt32))])) _
    refine XS.icmpNo X10.here hx rfl (hb hby at_105) rfl (teq (rfl : ((pi2.toUInt32 >>> ((2 : Int32) &&& 31).toUInt32).toInt32) = ((pi2.toUInt32 >>> ((2 : Int32) &&& 31).toUInt32).toInt32))).2 ?_
    show Steps p.tables e below (T10.setTop (mkF m 108 #[.val (.int pi1), .val (.int pi2), .val (.int (0 : Int32)), .val (.int (0 : Int32)), .val (.int ((pi2.toUInt32 >>> ((2 : Int32) &&& 31).toUInt32).toInt32)), .val (.ref b1), .val (.int (0 : Int32))] [])) _
    refine XS.iconst X10.here hx rfl (hb hby at_108) ?_
    show Steps p.tables e below (T10.setTop (mkF m 109 #[.val (.int pi1), .val (.int pi2), .val (.int (0 : Int32)), .val (.int (0 : Int32)), .val (.int ((pi2.toUInt32 >>> ((2 : Int32) &&& 31).toUInt32).toInt32)), .val (.ref b1), .val (.int (0 : Int32))] [(.int (1 : Int32))])) _
    refine XS.goto X10.here hx rfl (pc0 := 109) (pc' := 113) rfl (hb hby at_109) (by decide) (by decide) ?_
    show Steps p.tables e below (T10.setTop (mkF m 113 #[.val (.int pi1), .val (.int pi2), .val (.int (0 : Int32)), .val (.int (0 : Int32)), .val (.int ((pi2.toUInt32 >>> ((2 : Int32) &&& 31).toUInt32).toInt32)), .val (.ref b1), .val (.int (0 : Int32))] [(.int (1 : Int32))])) _
    exact retN X10 hx (t := .boolean) Bd.returns (by simp) (hb hby at_113) hr
  · exact ⟨rfl, N10⟩
set_option maxRecDepth 65536 in
set_option maxHeartbeats 40000000 in
theorem rm0_tft (l : Launch) (Z : State) (a0 : Array Value) (hw : ∀ d ∈ tables_1, d.before a0 Z = true) (ws : List Jvm.Cond) (pi1 : Int32) (pi2 : Int32) (h0 : Heap) (n0 : Nat) (Z0 : n0 ≤ h0.size) (O0 : Old Z n0 h0) (hc3_0 : (pi1 &&& (1 : Int32)) = (0 : Int32)) (hc15_1 : ¬ ((pi1 &&& (2 : Int32)) = (0 : Int32))) (hc27_2 : (pi2 &&& (3 : Int32)) = (0 : Int32)) :
    MetFree l x (head1 (Jvm.Cond.code x code maxLocals ret :: ws) room_1) (fun a U => a = #[(.int pi1), (.int pi2)] ∧ Z.Warmed39 U.vm ∧ U.heap = h0) (fun _ _ _ _ _ => True) (fun _ U o U' => ∃ v L, o = .returned v ∧ Q0 v L n0 ∧ FrameEnd U o U' L room_1.cells room_1.slots) := by
  refine MetFree.of_bodySF (plainFor_of_name pn_0) hisR ?_
  intro p e s m args below meth c s₁ Bd hml0 hP hK
  obtain ⟨rfl, hZ, hh⟩ := hP
  have hx := Bd.exec
  have hby := Bd.bytes
  have hml : c.maxLocals = 7 := hml0
  have hown : s.vm.findClass "com/example/linkstride/linkstride/engine/CompletenessCompletePinLaw" = some m.cls := findClass_of_methodNamed Bd.named
  have hnm := (name_of_methodNamed Bd.named Bd.method).1
  have X0 : Stand p l e room_1 s m #[(.int pi1), (.int pi2)] below meth c s₁ [] 0 0 := Stand.of_body Bd
  have e0 : s₁.heap = h0 := by rw [← hh, Bd.state]; rfl
  have N0 := Fr.nil n0
  have pre0 : ∀ t, Steps p.tables e below (s₁.setTop (mkF m 0 #[.val (.int pi1), .val (.int pi2), .unset, .unset, .unset, .unset, .unset] [])) t → Steps p.tables e below (s₁.setTop (entryFrame m #[(.int pi1), (.int pi2)] maxLocals)) t := fun t k => castTop (ef_0 m pi1 pi2) k
  obtain ⟨T1, h1, X1, e1, E1, A1, D1, -, st1⟩ := newO X0 hx hZ hown (hw _ (List.mem_of_getElem? (i := 0) rfl)) (hw _ (List.mem_of_getElem? (i := 1) rfl)) (hw _ (List.mem_of_getElem? (i := 2) rfl)) e0 (g := (mkF m 39 #[.val (.int pi1), .val (.int pi2), .val (.int (0 : Int32)), .val (.int (1 : Int32)), .val (.int (0 : Int32)), .unset, .unset] [])) rfl (hb hby at_39) (by decide) (by decide)
  obtain ⟨b1, g1⟩ : ∃ z, z = h0.size := ⟨_, rfl⟩
  rw [← g1] at A1 D1 st1
  have F_budgetReached_b1 : Fld Z h1 b1 "com/example/linkstride/linkstride/engine/Completeness" "budgetReached" "Z" (.int (0 : Int32)) := D1 (Or.inr (hw _ (List.mem_of_getElem? (i := 15) rfl))) (ty := .boolean) (by decide)
  have F_lookupLimitReached_b1 : Fld Z h1 b1 "com/example/linkstride/linkstride/engine/Completeness" "lookupLimitReached" "Z" (.int (0 : Int32)) := D1 (Or.inr (hw _ (List.mem_of_getElem? (i := 17) rfl))) (ty := .boolean) (by decide)
  have F_lookupsCut_b1 : Fld Z h1 b1 "com/example/linkstride/linkstride/engine/Completeness" "lookupsCut" "I" (.int (0 : Int32)) := D1 (Or.inr (hw _ (List.mem_of_getElem? (i := 19) rfl))) (ty := .int) (by decide)
  have g_b1 : n0 ≤ b1 := Nat.le_trans Z0 (Nat.le_of_eq g1.symm)
  have z3 := Nat.le_trans Z0 E1.1
  have o4 := O0.ext E1
  obtain ⟨_, _, ⟨T2, L2, k2, n2⟩, -, X2, ⟨Lc2, hQ2, l2, y2, z2⟩, st2⟩ := X1.specialBack hx (y := (⟨"com/example/linkstride/linkstride/engine/Completeness", "<init>", "(ZZI)V"⟩ : MethodName)) rfl hown (mvT hZ (hw _ (List.mem_of_getElem? (i := 3) rfl))) (mvT hZ (hw _ (List.mem_of_getElem? (i := 4) rfl))) (mvT hZ (hw _ (List.mem_of_getElem? (i := 5) rfl))) (by decide) (backOf (W := 1) (rm1 l Z a0 hw [] b1 (0 : Int32) (1 : Int32) (0 : Int32) (.int (0 : Int32)) (.int (0 : Int32)) (.int (0 : Int32)) h1 n0 z3 o4 A1 F_budgetReached_b1 g_b1 F_lookupLimitReached_b1 F_lookupsCut_b1) hZ (hw _ (List.mem_of_getElem? (i := 5) rfl)) (hw _ (List.mem_of_getElem? (i := 2) rfl)) (by decide) (by decide)) (g := (mkF m 47 #[.val (.int pi1), .val (.int pi2), .val (.int (0 : Int32)), .val (.int (1 : Int32)), .val (.int (0 : Int32)), .unset, .unset] [(.int (0 : Int32)), (.int (1 : Int32)), (.int (0 : Int32)), (.ref b1), (.ref b1)])) rfl (by rw [hml]; rfl) (Steps.refl _) (a := b1) (argsL := [(.int (0 : Int32)), (.int (1 : Int32)), (.int (0 : Int32))]) (rest := [(.ref b1)]) (lenOf pd_0 rfl) rfl (by show 2 * 0 + _ ≤ _; exact Nat.le_of_eq rfl) (hb hby at_47) (fun _ _ => ⟨rfl, e1, (by decide : 1 + 0 ≤ _), (by decide : 3 + 0 ≤ _)⟩)
  dsimp only [Pt.U, Pt.locs, Pt.cells, Pt.slots] at X2 l2 y2 z2 st2 hQ2
  subst l2 y2 z2
  obtain ⟨rfl, N2q, K2, qf2_0, qf2_1, qf2_2, qf2_3⟩ := hQ2
  have N2 := Fr.app N0 N2q
  have z6 := Nat.le_trans z3 K2.1
  have o7 := o4.keep K2 (allS g_b1 all0)
  obtain ⟨cq5, kq5, q5a, q5b, q5c⟩ := isOf hZ rfl qf2_0
  obtain ⟨_, _, ⟨T5, L5, k5, n5⟩, -, X5, ⟨Lc5, hQ5, l5, y5, z5⟩, st5⟩ := X2.virtualBack hx (y := (⟨"com/example/linkstride/linkstride/engine/Completeness", "complete", "()Z"⟩ : MethodName)) (z := (⟨"com/example/linkstride/linkstride/engine/Completeness", "complete", "()Z"⟩ : MethodName)) hown (mvT hZ (hw _ (List.mem_of_getElem? (i := 20) rfl))) (mvT hZ (hw _ (List.mem_of_getElem? (i := 21) rfl))) (notFace_of_selects (args := #[]) (mvT hZ (hw _ (List.mem_of_getElem? (i := 23) rfl)))) (mvT hZ (hw _ (List.mem_of_getElem? (i := 23) rfl))) (mvT hZ (hw _ (List.mem_of_getElem? (i := 22) rfl))) (by decide) (backOf (W := 0) (rm4_tf l Z a0 hw [] b1 (0 : Int32) (1 : Int32) T2.heap n0 z6 o7 qf2_1 qf2_2 rfl (by decide)) hZ (hw _ (List.mem_of_getElem? (i := 24) rfl)) (hw _ (List.mem_of_getElem? (i := 2) rfl)) (by decide) (by decide)) q5a q5c (g := (mkF m 72 #[.val (.int pi1), .val (.int pi2), .val (.int (0 : Int32)), .val (.int (1 : Int32)), .val (.int (0 : Int32)), .val (.ref b1), .val (.int (0 : Int32))] [(.ref b1)])) rfl (by rw [hml]; rfl) (Steps.refl _) (argsL := []) (rest := []) (lenOf pd_2 rfl) rfl (by show 2 * 0 + _ ≤ _; exact Nat.le_of_eq rfl) (hb hby at_72) (fun _ _ => ⟨rfl, rfl, (by decide : 1 + 0 ≤ _), (by decide : 3 + 0 ≤ _)⟩)
  dsimp only [Pt.U, Pt.locs, Pt.cells, Pt.slots] at X5 l5 y5 z5 st5 hQ5
  subst l5 y5 z5
  obtain ⟨rfl, N5q, eq5⟩ := hQ5
  have N5 := Fr.app N2 N5q
  obtain ⟨cq8, kq8, q8a, q8b, q8c⟩ := isOf hZ eq5 qf2_0
  obtain ⟨_, _, ⟨T8, L8, k8, n8⟩, -, X8, ⟨Lc8, hQ8, l8, y8, z8⟩, st8⟩ := X5.virtualBack hx (y := (⟨"com/example/linkstride/linkstride/engine/Completeness", "budgetReached", "()Z"⟩ : MethodName)) (z := (⟨"com/example/linkstride/linkstride/engine/Completeness", "budgetReached", "()Z"⟩ : MethodName)) hown (mvT hZ (hw _ (List.mem_of_getElem? (i := 25) rfl))) (mvT hZ (hw _ (List.mem_of_getElem? (i := 26) rfl))) (notFace_of_selects (args := #[]) (mvT hZ (hw _ (List.mem_of_getElem? (i := 28) rfl)))) (mvT hZ (hw _ (List.mem_of_getElem? (i := 28) rfl))) (mvT hZ (hw _ (List.mem_of_getElem? (i := 27) rfl))) (by decide) (backOf (W := 0) (rm5 l Z a0 hw [] b1 (0 : Int32) T2.heap n0 z6 o7 qf2_1) hZ (hw _ (List.mem_of_getElem? (i := 29) rfl)) (hw _ (List.mem_of_getElem? (i := 2) rfl)) (by decide) (by decide)) q8a q8c (g := (mkF m 82 #[.val (.int pi1), .val (.int pi2), .val (.int (0 : Int32)), .val (.int (1 : Int32)), .val (.int (0 : Int32)), .val (.ref b1), .val (.int (0 : Int32))] [(.ref b1)])) rfl (by rw [hml]; rfl) (Steps.refl _) (argsL := []) (rest := []) (lenOf pd_2 rfl) rfl (by show 2 * 0 + _ ≤ _; exact Nat.le_of_eq rfl) (hb hby at_82) (fun _ _ => ⟨rfl, eq5, (by decide : 1 + 0 ≤ _), (by decide : 3 + 0 ≤ _)⟩)
  dsimp only [Pt.U, Pt.locs, Pt.cells, Pt.slots] at X8 l8 y8 z8 st8 hQ8
  subst l8 y8 z8
  obtain ⟨rfl, N8q, eq8⟩ := hQ8
  have N8 := Fr.app N5 N8q
  obtain ⟨cq9, kq9, q9a, q9b, q9c⟩ := isOf hZ eq8 qf2_0
  obtain ⟨_, _, ⟨T9, L9, k9, n9⟩, -, X9, ⟨Lc9, hQ9, l9, y9, z9⟩, st9⟩ := X8.virtualBack hx (y := (⟨"com/example/linkstride/linkstride/engine/Completeness", "lookupLimitReached", "()Z"⟩ : MethodName)) (z := (⟨"com/example/linkstride/linkstride/engine/Completeness", "lookupLimitReached", "()Z"⟩ : MethodName)) hown (mvT hZ (hw _ (List.mem_of_getElem? (i := 30) rfl))) (mvT hZ (hw _ (List.mem_of_getElem? (i := 31) rfl))) (notFace_of_selects (args := #[]) (mvT hZ (hw _ (List.mem_of_getElem? (i := 33) rfl)))) (mvT hZ (hw _ (List.mem_of_getElem? (i := 33) rfl))) (mvT hZ (hw _ (List.mem_of_getElem? (i := 32) rfl))) (by decide) (backOf (W := 0) (rm6 l Z a0 hw [] b1 (1 : Int32) T2.heap n0 z6 o7 qf2_2) hZ (hw _ (List.mem_of_getElem? (i := 34) rfl)) (hw _ (List.mem_of_getElem? (i := 2) rfl)) (by decide) (by decide)) q9a q9c (g := (mkF m 91 #[.val (.int pi1), .val (.int pi2), .val (.int (0 : Int32)), .val (.int (1 : Int32)), .val (.int (0 : Int32)), .val (.ref b1), .val (.int (0 : Int32))] [(.ref b1)])) rfl (by rw [hml]; rfl) (Steps.refl _) (argsL := []) (rest := []) (lenOf pd_2 rfl) rfl (by show 2 * 0 + _ ≤ _; exact Nat.le_of_eq rfl) (hb hby at_91) (fun _ _ => ⟨rfl, eq8, (by decide : 1 + 0 ≤ _), (by decide : 3 + 0 ≤ _)⟩)
  dsimp only [Pt.U, Pt.locs, Pt.cells, Pt.slots] at X9 l9 y9 z9 st9 hQ9
  subst l9 y9 z9
  obtain ⟨rfl, N9q, eq9⟩ := hQ9
  have N9 := Fr.app N8 N9q
  obtain ⟨cq10, kq10, q10a, q10b, q10c⟩ := isOf hZ eq9 qf2_0
  obtain ⟨_, _, ⟨T10, L10, k10, n10⟩, -, X10, ⟨Lc10, hQ10, l10, y10, z10⟩, st10⟩ := X9.virtualBack hx (y := (⟨"com/example/linkstride/linkstride/engine/Completeness", "lookupsCut", "()I"⟩ : MethodName)) (z := (⟨"com/example/linkstride/linkstride/engine/Completeness", "lookupsCut", "()I"⟩ : MethodName)) hown (mvT hZ (hw _ (List.mem_of_getElem? (i := 35) rfl))) (mvT hZ (hw _ (List.mem_of_getElem? (i := 36) rfl))) (notFace_of_selects (args := #[]) (mvT hZ (hw _ (List.mem_of_getElem? (i := 38) rfl)))) (mvT hZ (hw _ (List.mem_of_getElem? (i := 38) rfl))) (mvT hZ (hw _ (List.mem_of_getElem? (i := 37) rfl))) (by decide) (backOf (W := 0) (rm7 l Z a0 hw [] b1 (0 : Int32) T2.heap n0 z6 o7 qf2_3) hZ (hw _ (List.mem_of_getElem? (i := 39) rfl)) (hw _ (List.mem_of_getElem? (i := 2) rfl)) (by decide) (by decide)) q10a q10c (g := (mkF m 100 #[.val (.int pi1), .val (.int pi2), .val (.int (0 : Int32)), .val (.int (1 : Int32)), .val (.int (0 : Int32)), .val (.ref b1), .val (.int (0 : Int32))] [(.ref b1)])) rfl (by rw [hml]; rfl) (Steps.refl _) (argsL := []) (rest := []) (lenOf pd_3 rfl) rfl (by show 2 * 0 + _ ≤ _; exact Nat.le_of_eq rfl) (hb hby at_100) (fun _ _ => ⟨rfl, eq9, (by decide : 1 + 0 ≤ _), (by decide : 3 + 0 ≤ _)⟩)
  dsimp only [Pt.U, Pt.locs, Pt.cells, Pt.slots] at X10 l10 y10 z10 st10 hQ10
  subst l10 y10 z10
  obtain ⟨rfl, N10q, eq10⟩ := hQ10
  have N10 := Fr.app N9 N10q
  obtain ⟨fs, hr, hrun, hended, hW, hsame⟩ := X10.leave (v := some (.int (1 : Int32))) (fun h => by rw [Bd.returns] at h; cases h)
  refine ⟨_, _, pre0 _ ?_, hrun, hended, _, _, rfl, ?_, ⟨_, rfl⟩, hW, hsame.mono (by decide) (by decide)⟩
  · show Steps p.tables e below (s₁.setTop (mkF m 0 #[.val (.int pi1), .val (.int pi2), .unset, .unset, .unset, .unset, .unset] [])) _
    refine XS.iloadN X0.here hx rfl (hb hby at_0) rfl ?_
    show Steps p.tables e below (s₁.setTop (mkF m 1 #[.val (.int pi1), .val (.int pi2), .unset, .unset, .unset, .unset, .unset] [(.int pi1)])) _
    refine XS.iconst X0.here hx rfl (hb hby at_1) ?_
    show Steps p.tables e below (s₁.setTop (mkF m 2 #[.val (.int pi1), .val (.int pi2), .unset, .unset, .unset, .unset, .unset] [(.int (1 : Int32)), (.int pi1)])) _
    refine XS.iand X0.here hx rfl (hb hby at_2) rfl ?_
    show Steps p.tables e below (s₁.setTop (mkF m 3 #[.val (.int pi1), .val (.int pi2), .unset, .unset, .unset, .unset, .unset] [(.int (pi1 &&& (1 : Int32)))])) _
    refine XS.ifYes X0.here hx rfl (pc0 := 3) (pc' := 10) rfl (hb hby at_3) rfl ((if0 _ _).trans (teq hc3_0).1) (by decide) (by decide) ?_
    show Steps p.tables e below (s₁.setTop (mkF m 10 #[.val (.int pi1), .val (.int pi2), .unset, .unset, .unset, .unset, .unset] [])) _
    refine XS.iconst X0.here hx rfl (hb hby at_10) ?_
    show Steps p.tables e below (s₁.setTop (mkF m 11 #[.val (.int pi1), .val (.int pi2), .unset, .unset, .unset, .unset, .unset] [(.int (0 : Int32))])) _
    refine XS.istoreN X0.here hx rfl (hb hby at_11) rfl (l' := #[.val (.int pi1), .val (.int pi2), .val (.int (0 : Int32)), .unset, .unset, .unset, .unset]) rfl ?_
    show Steps p.tables e below (s₁.setTop (mkF m 12 #[.val (.int pi1), .val (.int pi2), .val (.int (0 : Int32)), .unset, .unset, .unset, .unset] [])) _
    refine XS.iloadN X0.here hx rfl (hb hby at_12) rfl ?_
    show Steps p.tables e below (s₁.setTop (mkF m 13 #[.val (.int pi1), .val (.int pi2), .val (.int (0 : Int32)), .unset, .unset, .unset, .unset] [(.int pi1)])) _
    refine XS.iconst X0.here hx rfl (hb hby at_13) ?_
    show Steps p.tables e below (s₁.setTop (mkF m 14 #[.val (.int pi1), .val (.int pi2), .val (.int (0 : Int32)), .unset, .unset, .unset, .unset] [(.int (2 : Int32)), (.int pi1)])) _
    refine XS.iand X0.here hx rfl (hb hby at_14) rfl ?_
    show Steps p.tables e below (s₁.setTop (mkF m 15 #[.val (.int pi1), .val (.int pi2), .val (.int (0 : Int32)), .unset, .unset, .unset, .unset] [(.int (pi1 &&& (2 : Int32)))])) _
    refine XS.ifNo X0.here hx rfl (hb hby at_15) rfl ((if0 _ _).trans (feq hc15_1).1) ?_
    show Steps p.tables e below (s₁.setTop (mkF m 18 #[.val (.int pi1), .val (.int pi2), .val (.int (0 : Int32)), .unset, .unset, .unset, .unset] [])) _
    refine XS.iconst X0.here hx rfl (hb hby at_18) ?_
    show Steps p.tables e below (s₁.setTop (mkF m 19 #[.val (.int pi1), .val (.int pi2), .val (.int (0 : Int32)), .unset, .unset, .unset, .unset] [(.int (1 : Int32))])) _
    refine XS.goto X0.here hx rfl (pc0 := 19) (pc' := 23) rfl (hb hby at_19) (by decide) (by decide) ?_
    show Steps p.tables e below (s₁.setTop (mkF m 23 #[.val (.int pi1), .val (.int pi2), .val (.int (0 : Int32)), .unset, .unset, .unset, .unset] [(.int (1 : Int32))])) _
    refine XS.istoreN X0.here hx rfl (hb hby at_23) rfl (l' := #[.val (.int pi1), .val (.int pi2), .val (.int (0 : Int32)), .val (.int (1 : Int32)), .unset, .unset, .unset]) rfl ?_
    show Steps p.tables e below (s₁.setTop (mkF m 24 #[.val (.int pi1), .val (.int pi2), .val (.int (0 : Int32)), .val (.int (1 : Int32)), .unset, .unset, .unset] [])) _
    refine XS.iloadN X0.here hx rfl (hb hby at_24) rfl ?_
    show Steps p.tables e below (s₁.setTop (mkF m 25 #[.val (.int pi1), .val (.int pi2), .val (.int (0 : Int32)), .val (.int (1 : Int32)), .unset, .unset, .unset] [(.int pi2)])) _
    refine XS.iconst X0.here hx rfl (hb hby at_25) ?_
    show Steps p.tables e below (s₁.setTop (mkF m 26 #[.val (.int pi1), .val (.int pi2), .val (.int (0 : Int32)), .val (.int (1 : Int32)), .unset, .unset, .unset] [(.int (3 : Int32)), (.int pi2)])) _
    refine XS.iand X0.here hx rfl (hb hby at_26) rfl ?_
    show Steps p.tables e below (s₁.setTop (mkF m 27 #[.val (.int pi1), .val (.int pi2), .val (.int (0 : Int32)), .val (.int (1 : Int32)), .unset, .unset, .unset] [(.int (pi2 &&& (3 : Int32)))])) _
    refine XS.ifNo X0.here hx rfl (hb hby at_27) rfl ((if0 _ _).trans (teq hc27_2).2) ?_
    show Steps p.tables e below (s₁.setTop (mkF m 30 #[.val (.int pi1), .val (.int pi2), .val (.int (0 : Int32)), .val (.int (1 : Int32)), .unset, .unset, .unset] [])) _
    refine XS.iconst X0.here hx rfl (hb hby at_30) ?_
    show Steps p.tables e below (s₁.setTop (mkF m 31 #[.val (.int pi1), .val (.int pi2), .val (.int (0 : Int32)), .val (.int (1 : Int32)), .unset, .unset, .unset] [(.int (0 : Int32))])) _
    refine XS.goto X0.here hx rfl (pc0 := 31) (pc' := 37) rfl (hb hby at_31) (by decide) (by decide) ?_
    show Steps p.tables e below (s₁.setTop (mkF m 37 #[.val (.int pi1), .val (.int pi2), .val (.int (0 : Int32)), .val (.int (1 : Int32)), .unset, .unset, .unset] [(.int (0 : Int32))])) _
    refine XS.istore X0.here hx rfl (hb hby at_37) rfl (l' := #[.val (.int pi1), .val (.int pi2), .val (.int (0 : Int32)), .val (.int (1 : Int32)), .val (.int (0 : Int32)), .unset, .unset]) rfl ?_
    show Steps p.tables e below (s₁.setTop (mkF m 39 #[.val (.int pi1), .val (.int pi2), .val (.int (0 : Int32)), .val (.int (1 : Int32)), .val (.int (0 : Int32)), .unset, .unset] [])) _
    refine st1 _ ?_
    show Steps p.tables e below (T1.setTop (mkF m 42 #[.val (.int pi1), .val (.int pi2), .val (.int (0 : Int32)), .val (.int (1 : Int32)), .val (.int (0 : Int32)), .unset, .unset] [(.ref b1)])) _
    refine XS.dup X1.here hx rfl (hb hby at_42) rfl rfl ?_
    show Steps p.tables e below (T1.setTop (mkF m 43 #[.val (.int pi1), .val (.int pi2), .val (.int (0 : Int32)), .val (.int (1 : Int32)), .val (.int (0 : Int32)), .unset, .unset] [(.ref b1), (.ref b1)])) _
    refine XS.iloadN X1.here hx rfl (hb hby at_43) rfl ?_
    show Steps p.tables e below (T1.setTop (mkF m 44 #[.val (.int pi1), .val (.int pi2), .val (.int (0 : Int32)), .val (.int (1 : Int32)), .val (.int (0 : Int32)), .unset, .unset] [(.int (0 : Int32)), (.ref b1), (.ref b1)])) _
    refine XS.iloadN X1.here hx rfl (hb hby at_44) rfl ?_
    show Steps p.tables e below (T1.setTop (mkF m 45 #[.val (.int pi1), .val (.int pi2), .val (.int (0 : Int32)), .val (.int (1 : Int32)), .val (.int (0 : Int32)), .unset, .unset] [(.int (1 : Int32)), (.int (0 : Int32)), (.ref b1), (.ref b1)])) _
    refine XS.iload X1.here hx rfl (hb hby at_45) rfl ?_
    show Steps p.tables e below (T1.setTop (mkF m 47 #[.val (.int pi1), .val (.int pi2), .val (.int (0 : Int32)), .val (.int (1 : Int32)), .val (.int (0 : Int32)), .unset, .unset] [(.int (0 : Int32)), (.int (1 : Int32)), (.int (0 : Int32)), (.ref b1), (.ref b1)])) _
    refine st2.trans ?_
    show Steps p.tables e below (T2.setTop (mkF m 50 #[.val (.int pi1), .val (.int pi2), .val (.int (0 : Int32)), .val (.int (1 : Int32)), .val (.int (0 : Int32)), .unset, .unset] [(.ref b1)])) _
    refine XS.astore X2.here hx rfl (hb hby at_50) rfl rfl (l' := #[.val (.int pi1), .val (.int pi2), .val (.int (0 : Int32)), .val (.int (1 : Int32)), .val (.int (0 : Int32)), .val (.ref b1), .unset]) rfl ?_
    show Steps p.tables e below (T2.setTop (mkF m 52 #[.val (.int pi1), .val (.int pi2), .val (.int (0 : Int32)), .val (.int (1 : Int32)), .val (.int (0 : Int32)), .val (.ref b1), .unset] [])) _
    refine XS.iloadN X2.here hx rfl (hb hby at_52) rfl ?_
    show Steps p.tables e below (T2.setTop (mkF m 53 #[.val (.int pi1), .val (.int pi2), .val (.int (0 : Int32)), .val (.int (1 : Int32)), .val (.int (0 : Int32)), .val (.ref b1), .unset] [(.int pi1)])) _
    refine XS.iconst X2.here hx rfl (hb hby at_53) ?_
    show Steps p.tables e below (T2.setTop (mkF m 54 #[.val (.int pi1), .val (.int pi2), .val (.int (0 : Int32)), .val (.int (1 : Int32)), .val (.int (0 : Int32)), .val (.ref b1), .unset] [(.int (3 : Int32)), (.int pi1)])) _
    refine XS.iand X2.here hx rfl (hb hby at_54) rfl ?_
    show Steps p.tables e below (T2.setTop (mkF m 55 #[.val (.int pi1), .val (.int pi2), .val (.int (0 : Int32)), .val (.int (1 : Int32)), .val (.int (0 : Int32)), .val (.ref b1), .unset] [(.int (pi1 &&& (3 : Int32)))])) _
    refine XS.ifYes X2.here hx rfl (pc0 := 55) (pc' := 67) rfl (hb hby at_55) rfl ((if0 _ _).trans (feq (own_n2 hc15_1)).2) (by decide) (by decide) ?_
    show Steps p.tables e below (T2.setTop (mkF m 67 #[.val (.int pi1), .val (.int pi2), .val (.int (0 : Int32)), .val (.int (1 : Int32)), .val (.int (0 : Int32)), .val (.ref b1), .unset] [])) _
    refine XS.iconst X2.here hx rfl (hb hby at_67) ?_
    show Steps p.tables e below (T2.setTop (mkF m 68 #[.val (.int pi1), .val (.int pi2), .val (.int (0 : Int32)), .val (.int (1 : Int32)), .val (.int (0 : Int32)), .val (.ref b1), .unset] [(.int (0 : Int32))])) _
    refine XS.istore X2.here hx rfl (hb hby at_68) rfl (l' := #[.val (.int pi1), .val (.int pi2), .val (.int (0 : Int32)), .val (.int (1 : Int32)), .val (.int (0 : Int32)), .val (.ref b1), .val (.int (0 : Int32))]) rfl ?_
    show Steps p.tables e below (T2.setTop (mkF m 70 #[.val (.int pi1), .val (.int pi2), .val (.int (0 : Int32)), .val (.int (1 : Int32)), .val (.int (0 : Int32)), .val (.ref b1), .val (.int (0 : Int32))] [])) _
    refine XS.aload X2.here hx rfl (hb hby at_70) rfl rfl ?_
    show Steps p.tables e below (T2.setTop (mkF m 72 #[.val (.int pi1), .val (.int pi2), .val (.int (0 : Int32)), .val (.int (1 : Int32)), .val (.int (0 : Int32)), .val (.ref b1), .val (.int (0 : Int32))] [(.ref b1)])) _
    refine st5.trans ?_
    show Steps p.tables e below (T5.setTop (mkF m 75 #[.val (.int pi1), .val (.int pi2), .val (.int (0 : Int32)), .val (.int (1 : Int32)), .val (.int (0 : Int32)), .val (.ref b1), .val (.int (0 : Int32))] [(.int (0 : Int32))])) _
    refine XS.iload X5.here hx rfl (hb hby at_75) rfl ?_
    show Steps p.tables e below (T5.setTop (mkF m 77 #[.val (.int pi1), .val (.int pi2), .val (.int (0 : Int32)), .val (.int (1 : Int32)), .val (.int (0 : Int32)), .val (.ref b1), .val (.int (0 : Int32))] [(.int (0 : Int32)), (.int (0 : Int32))])) _
    refine XS.icmpNo X5.here hx rfl (hb hby at_77) rfl (teq (rfl : (0 : Int32) = (0 : Int32))).2 ?_
    show Steps p.tables e below (T5.setTop (mkF m 80 #[.val (.int pi1), .val (.int pi2), .val (.int (0 : Int32)), .val (.int (1 : Int32)), .val (.int (0 : Int32)), .val (.ref b1), .val (.int (0 : Int32))] [])) _
    refine XS.aload X5.here hx rfl (hb hby at_80) rfl rfl ?_
    show Steps p.tables e below (T5.setTop (mkF m 82 #[.val (.int pi1), .val (.int pi2), .val (.int (0 : Int32)), .val (.int (1 : Int32)), .val (.int (0 : Int32)), .val (.ref b1), .val (.int (0 : Int32))] [(.ref b1)])) _
    refine st8.trans ?_
    show Steps p.tables e below (T8.setTop (mkF m 85 #[.val (.int pi1), .val (.int pi2), .val (.int (0 : Int32)), .val (.int (1 : Int32)), .val (.int (0 : Int32)), .val (.ref b1), .val (.int (0 : Int32))] [(.int (0 : Int32))])) _
    refine XS.iloadN X8.here hx rfl (hb hby at_85) rfl ?_
    show Steps p.tables e below (T8.setTop (mkF m 86 #[.val (.int pi1), .val (.int pi2), .val (.int (0 : Int32)), .val (.int (1 : Int32)), .val (.int (0 : Int32)), .val (.ref b1), .val (.int (0 : Int32))] [(.int (0 : Int32)), (.int (0 : Int32))])) _
    refine XS.icmpNo X8.here hx rfl (hb hby at_86) rfl (teq (rfl : (0 : Int32) = (0 : Int32))).2 ?_
    show Steps p.tables e below (T8.setTop (mkF m 89 #[.val (.int pi1), .val (.int pi2), .val (.int (0 : Int32)), .val (.int (1 : Int32)), .val (.int (0 : Int32)), .val (.ref b1), .val (.int (0 : Int32))] [])) _
    refine XS.aload X8.here hx rfl (hb hby at_89) rfl rfl ?_
    show Steps p.tables e below (T8.setTop (mkF m 91 #[.val (.int pi1), .val (.int pi2), .val (.int (0 : Int32)), .val (.int (1 : Int32)), .val (.int (0 : Int32)), .val (.ref b1), .val (.int (0 : Int32))] [(.ref b1)])) _
    refine st9.trans ?_
    show Steps p.tables e below (T9.setTop (mkF m 94 #[.val (.int pi1), .val (.int pi2), .val (.int (0 : Int32)), .val (.int (1 : Int32)), .val (.int (0 : Int32)), .val (.ref b1), .val (.int (0 : Int32))] [(.int (1 : Int32))])) _
    refine XS.iloadN X9.here hx rfl (hb hby at_94) rfl ?_
    show Steps p.tables e below (T9.setTop (mkF m 95 #[.val (.int pi1), .val (.int pi2), .val (.int (0 : Int32)), .val (.int (1 : Int32)), .val (.int (0 : Int32)), .val (.ref b1), .val (.int (0 : Int32))] [(.int (1 : Int32)), (.int (1 : Int32))])) _
    refine XS.icmpNo X9.here hx rfl (hb hby at_95) rfl (teq (rfl : (1 : Int32) = (1 : Int32))).2 ?_
    show Steps p.tables e below (T9.setTop (mkF m 98 #[.val (.int pi1), .val (.int pi2), .val (.int (0 : Int32)), .val (.int (1 : Int32)), .val (.int (0 : Int32)), .val (.ref b1), .val (.int (0 : Int32))] [])) _
    refine XS.aload X9.here hx rfl (hb hby at_98) rfl rfl ?_
    show Steps p.tables e below (T9.setTop (mkF m 100 #[.val (.int pi1), .val (.int pi2), .val (.int (0 : Int32)), .val (.int (1 : Int32)), .val (.int (0 : Int32)), .val (.ref b1), .val (.int (0 : Int32))] [(.ref b1)])) _
    refine st10.trans ?_
    show Steps p.tables e below (T10.setTop (mkF m 103 #[.val (.int pi1), .val (.int pi2), .val (.int (0 : Int32)), .val (.int (1 : Int32)), .val (.int (0 : Int32)), .val (.ref b1), .val (.int (0 : Int32))] [(.int (0 : Int32))])) _
    refine XS.iload X10.here hx rfl (hb hby at_103) rfl ?_
    show Steps p.tables e below (T10.setTop (mkF m 105 #[.val (.int pi1), .val (.int pi2), .val (.int (0 : Int32)), .val (.int (1 : Int32)), .val (.int (0 : Int32)), .val (.ref b1), .val (.int (0 : Int32))] [(.int (0 : Int32)), (.int (0 : Int32))])) _
    refine XS.icmpNo X10.here hx rfl (hb hby at_105) rfl (teq (rfl : (0 : Int32) = (0 : Int32))).2 ?_
    show Steps p.tables e below (T10.setTop (mkF m 108 #[.val (.int pi1), .val (.int pi2), .val (.int (0 : Int32)), .val (.int (1 : Int32)), .val (.int (0 : Int32)), .val (.ref b1), .val (.int (0 : Int32))] [])) _
    refine XS.iconst X10.here hx rfl (hb hby at_108) ?_
    show Steps p.tables e below (T10.setTop (mkF m 109 #[.val (.int pi1), .val (.int pi2), .val (.int (0 : Int32)), .val (.int (1 : Int32)), .val (.int (0 : Int32)), .val (.ref b1), .val (.int (0 : Int32))] [(.int (1 : Int32))])) _
    refine XS.goto X10.here hx rfl (pc0 := 109) (pc' := 113) rfl (hb hby at_109) (by decide) (by decide) ?_
    show Steps p.tables e below (T10.setTop (mkF m 113 #[.val (.int pi1), .val (.int pi2), .val (.int (0 : Int32)), .val (.int (1 : Int32)), .val (.int (0 : Int32)), .val (.ref b1), .val (.int (0 : Int32))] [(.int (1 : Int32))])) _
    exact retN X10 hx (t := .boolean) Bd.returns (by simp) (hb hby at_113) hr
  · exact ⟨rfl, N10⟩
set_option maxRecDepth 65536 in
set_option maxHeartbeats 40000000 in
theorem rm0_tff (l : Launch) (Z : State) (a0 : Array Value) (hw : ∀ d ∈ tables_1, d.before a0 Z = true) (ws : List Jvm.Cond) (pi1 : Int32) (pi2 : Int32) (h0 : Heap) (n0 : Nat) (Z0 : n0 ≤ h0.size) (O0 : Old Z n0 h0) (hc3_0 : (pi1 &&& (1 : Int32)) = (0 : Int32)) (hc15_1 : ¬ ((pi1 &&& (2 : Int32)) = (0 : Int32))) (hc27_2 : ¬ ((pi2 &&& (3 : Int32)) = (0 : Int32))) :
    MetFree l x (head1 (Jvm.Cond.code x code maxLocals ret :: ws) room_1) (fun a U => a = #[(.int pi1), (.int pi2)] ∧ Z.Warmed39 U.vm ∧ U.heap = h0) (fun _ _ _ _ _ => True) (fun _ U o U' => ∃ v L, o = .returned v ∧ Q0 v L n0 ∧ FrameEnd U o U' L room_1.cells room_1.slots) := by
  refine MetFree.of_bodySF (plainFor_of_name pn_0) hisR ?_
  intro p e s m args below meth c s₁ Bd hml0 hP hK
  obtain ⟨rfl, hZ, hh⟩ := hP
  have hx := Bd.exec
  have hby := Bd.bytes
  have hml : c.maxLocals = 7 := hml0
  have hown : s.vm.findClass "com/example/linkstride/linkstride/engine/CompletenessCompletePinLaw" = some m.cls := findClass_of_methodNamed Bd.named
  have hnm := (name_of_methodNamed Bd.named Bd.method).1
  have X0 : Stand p l e room_1 s m #[(.int pi1), (.int pi2)] below meth c s₁ [] 0 0 := Stand.of_body Bd
  have e0 : s₁.heap = h0 := by rw [← hh, Bd.state]; rfl
  have N0 := Fr.nil n0
  have pre0 : ∀ t, Steps p.tables e below (s₁.setTop (mkF m 0 #[.val (.int pi1), .val (.int pi2), .unset, .unset, .unset, .unset, .unset] [])) t → Steps p.tables e below (s₁.setTop (entryFrame m #[(.int pi1), (.int pi2)] maxLocals)) t := fun t k => castTop (ef_0 m pi1 pi2) k
  obtain ⟨T1, h1, X1, e1, E1, A1, D1, -, st1⟩ := newO X0 hx hZ hown (hw _ (List.mem_of_getElem? (i := 0) rfl)) (hw _ (List.mem_of_getElem? (i := 1) rfl)) (hw _ (List.mem_of_getElem? (i := 2) rfl)) e0 (g := (mkF m 39 #[.val (.int pi1), .val (.int pi2), .val (.int (0 : Int32)), .val (.int (1 : Int32)), .val (.int ((pi2.toUInt32 >>> ((2 : Int32) &&& 31).toUInt32).toInt32)), .unset, .unset] [])) rfl (hb hby at_39) (by decide) (by decide)
  obtain ⟨b1, g1⟩ : ∃ z, z = h0.size := ⟨_, rfl⟩
  rw [← g1] at A1 D1 st1
  have F_budgetReached_b1 : Fld Z h1 b1 "com/example/linkstride/linkstride/engine/Completeness" "budgetReached" "Z" (.int (0 : Int32)) := D1 (Or.inr (hw _ (List.mem_of_getElem? (i := 15) rfl))) (ty := .boolean) (by decide)
  have F_lookupLimitReached_b1 : Fld Z h1 b1 "com/example/linkstride/linkstride/engine/Completeness" "lookupLimitReached" "Z" (.int (0 : Int32)) := D1 (Or.inr (hw _ (List.mem_of_getElem? (i := 17) rfl))) (ty := .boolean) (by decide)
  have F_lookupsCut_b1 : Fld Z h1 b1 "com/example/linkstride/linkstride/engine/Completeness" "lookupsCut" "I" (.int (0 : Int32)) := D1 (Or.inr (hw _ (List.mem_of_getElem? (i := 19) rfl))) (ty := .int) (by decide)
  have g_b1 : n0 ≤ b1 := Nat.le_trans Z0 (Nat.le_of_eq g1.symm)
  have z3 := Nat.le_trans Z0 E1.1
  have o4 := O0.ext E1
  obtain ⟨_, _, ⟨T2, L2, k2, n2⟩, -, X2, ⟨Lc2, hQ2, l2, y2, z2⟩, st2⟩ := X1.specialBack hx (y := (⟨"com/example/linkstride/linkstride/engine/Completeness", "<init>", "(ZZI)V"⟩ : MethodName)) rfl hown (mvT hZ (hw _ (List.mem_of_getElem? (i := 3) rfl))) (mvT hZ (hw _ (List.mem_of_getElem? (i := 4) rfl))) (mvT hZ (hw _ (List.mem_of_getElem? (i := 5) rfl))) (by decide) (backOf (W := 1) (rm1 l Z a0 hw [] b1 (0 : Int32) (1 : Int32) ((pi2.toUInt32 >>> ((2 : Int32) &&& 31).toUInt32).toInt32) (.int (0 : Int32)) (.int (0 : Int32)) (.int (0 : Int32)) h1 n0 z3 o4 A1 F_budgetReached_b1 g_b1 F_lookupLimitReached_b1 F_lookupsCut_b1) hZ (hw _ (List.mem_of_getElem? (i := 5) rfl)) (hw _ (List.mem_of_getElem? (i := 2) rfl)) (by decide) (by decide)) (g := (mkF m 47 #[.val (.int pi1), .val (.int pi2), .val (.int (0 : Int32)), .val (.int (1 : Int32)), .val (.int ((pi2.toUInt32 >>> ((2 : Int32) &&& 31).toUInt32).toInt32)), .unset, .unset] [(.int ((pi2.toUInt32 >>> ((2 : Int32) &&& 31).toUInt32).toInt32)), (.int (1 : Int32)), (.int (0 : Int32)), (.ref b1), (.ref b1)])) rfl (by rw [hml]; rfl) (Steps.refl _) (a := b1) (argsL := [(.int (0 : Int32)), (.int (1 : Int32)), (.int ((pi2.toUInt32 >>> ((2 : Int32) &&& 31).toUInt32).toInt32))]) (rest := [(.ref b1)]) (lenOf pd_0 rfl) rfl (by show 2 * 0 + _ ≤ _; exact Nat.le_of_eq rfl) (hb hby at_47) (fun _ _ => ⟨rfl, e1, (by decide : 1 + 0 ≤ _), (by decide : 3 + 0 ≤ _)⟩)
  dsimp only [Pt.U, Pt.locs, Pt.cells, Pt.slots] at X2 l2 y2 z2 st2 hQ2
  subst l2 y2 z2
  obtain ⟨rfl, N2q, K2, qf2_0, qf2_1, qf2_2, qf2_3⟩ := hQ2
  have N2 := Fr.app N0 N2q
  have z6 := Nat.le_trans z3 K2.1
  have o7 := o4.keep K2 (allS g_b1 all0)
  obtain ⟨cq5, kq5, q5a, q5b, q5c⟩ := isOf hZ rfl qf2_0
  obtain ⟨_, _, ⟨T5, L5, k5, n5⟩, -, X5, ⟨Lc5, hQ5, l5, y5, z5⟩, st5⟩ := X2.virtualBack hx (y := (⟨"com/example/linkstride/linkstride/engine/Completeness", "complete", "()Z"⟩ : MethodName)) (z := (⟨"com/example/linkstride/linkstride/engine/Completeness", "complete", "()Z"⟩ : MethodName)) hown (mvT hZ (hw _ (List.mem_of_getElem? (i := 20) rfl))) (mvT hZ (hw _ (List.mem_of_getElem? (i := 21) rfl))) (notFace_of_selects (args := #[]) (mvT hZ (hw _ (List.mem_of_getElem? (i := 23) rfl)))) (mvT hZ (hw _ (List.mem_of_getElem? (i := 23) rfl))) (mvT hZ (hw _ (List.mem_of_getElem? (i := 22) rfl))) (by decide) (backOf (W := 0) (rm4_tf l Z a0 hw [] b1 (0 : Int32) (1 : Int32) T2.heap n0 z6 o7 qf2_1 qf2_2 rfl (by decide)) hZ (hw _ (List.mem_of_getElem? (i := 24) rfl)) (hw _ (List.mem_of_getElem? (i := 2) rfl)) (by decide) (by decide)) q5a q5c (g := (mkF m 72 #[.val (.int pi1), .val (.int pi2), .val (.int (0 : Int32)), .val (.int (1 : Int32)), .val (.int ((pi2.toUInt32 >>> ((2 : Int32) &&& 31).toUInt32).toInt32)), .val (.ref b1), .val (.int (0 : Int32))] [(.ref b1)])) rfl (by rw [hml]; rfl) (Steps.refl _) (argsL := []) (rest := []) (lenOf pd_2 rfl) rfl (by show 2 * 0 + _ ≤ _; exact Nat.le_of_eq rfl) (hb hby at_72) (fun _ _ => ⟨rfl, rfl, (by decide : 1 + 0 ≤ _), (by decide : 3 + 0 ≤ _)⟩)
  dsimp only [Pt.U, Pt.locs, Pt.cells, Pt.slots] at X5 l5 y5 z5 st5 hQ5
  subst l5 y5 z5
  obtain ⟨rfl, N5q, eq5⟩ := hQ5
  have N5 := Fr.app N2 N5q
  obtain ⟨cq8, kq8, q8a, q8b, q8c⟩ := isOf hZ eq5 qf2_0
  obtain ⟨_, _, ⟨T8, L8, k8, n8⟩, -, X8, ⟨Lc8, hQ8, l8, y8, z8⟩, st8⟩ := X5.virtualBack hx (y := (⟨"com/example/linkstride/linkstride/engine/Completeness", "budgetReached", "()Z"⟩ : MethodName)) (z := (⟨"com/example/linkstride/linkstride/engine/Completeness", "budgetReached", "()Z"⟩ : MethodName)) hown (mvT hZ (hw _ (List.mem_of_getElem? (i := 25) rfl))) (mvT hZ (hw _ (List.mem_of_getElem? (i := 26) rfl))) (notFace_of_selects (args := #[]) (mvT hZ (hw _ (List.mem_of_getElem? (i := 28) rfl)))) (mvT hZ (hw _ (List.mem_of_getElem? (i := 28) rfl))) (mvT hZ (hw _ (List.mem_of_getElem? (i := 27) rfl))) (by decide) (backOf (W := 0) (rm5 l Z a0 hw [] b1 (0 : Int32) T2.heap n0 z6 o7 qf2_1) hZ (hw _ (List.mem_of_getElem? (i := 29) rfl)) (hw _ (List.mem_of_getElem? (i := 2) rfl)) (by decide) (by decide)) q8a q8c (g := (mkF m 82 #[.val (.int pi1), .val (.int pi2), .val (.int (0 : Int32)), .val (.int (1 : Int32)), .val (.int ((pi2.toUInt32 >>> ((2 : Int32) &&& 31).toUInt32).toInt32)), .val (.ref b1), .val (.int (0 : Int32))] [(.ref b1)])) rfl (by rw [hml]; rfl) (Steps.refl _) (argsL := []) (rest := []) (lenOf pd_2 rfl) rfl (by show 2 * 0 + _ ≤ _; exact Nat.le_of_eq rfl) (hb hby at_82) (fun _ _ => ⟨rfl, eq5, (by decide : 1 + 0 ≤ _), (by decide : 3 + 0 ≤ _)⟩)
  dsimp only [Pt.U, Pt.locs, Pt.cells, Pt.slots] at X8 l8 y8 z8 st8 hQ8
  subst l8 y8 z8
  obtain ⟨rfl, N8q, eq8⟩ := hQ8
  have N8 := Fr.app N5 N8q
  obtain ⟨cq9, kq9, q9a, q9b, q9c⟩ := isOf hZ eq8 qf2_0
  obtain ⟨_, _, ⟨T9, L9, k9, n9⟩, -, X9, ⟨Lc9, hQ9, l9, y9, z9⟩, st9⟩ := X8.virtualBack hx (y := (⟨"com/example/linkstride/linkstride/engine/Completeness", "lookupLimitReached", "()Z"⟩ : MethodName)) (z := (⟨"com/example/linkstride/linkstride/engine/Completeness", "lookupLimitReached", "()Z"⟩ : MethodName)) hown (mvT hZ (hw _ (List.mem_of_getElem? (i := 30) rfl))) (mvT hZ (hw _ (List.mem_of_getElem? (i := 31) rfl))) (notFace_of_selects (args := #[]) (mvT hZ (hw _ (List.mem_of_getElem? (i := 33) rfl)))) (mvT hZ (hw _ (List.mem_of_getElem? (i := 33) rfl))) (mvT hZ (hw _ (List.mem_of_getElem? (i := 32) rfl))) (by decide) (backOf (W := 0) (rm6 l Z a0 hw [] b1 (1 : Int32) T2.heap n0 z6 o7 qf2_2) hZ (hw _ (List.mem_of_getElem? (i := 34) rfl)) (hw _ (List.mem_of_getElem? (i := 2) rfl)) (by decide) (by decide)) q9a q9c (g := (mkF m 91 #[.val (.int pi1), .val (.int pi2), .val (.int (0 : Int32)), .val (.int (1 : Int32)), .val (.int ((pi2.toUInt32 >>> ((2 : Int32) &&& 31).toUInt32).toInt32)), .val (.ref b1), .val (.int (0 : Int32))] [(.ref b1)])) rfl (by rw [hml]; rfl) (Steps.refl _) (argsL := []) (rest := []) (lenOf pd_2 rfl) rfl (by show 2 * 0 + _ ≤ _; exact Nat.le_of_eq rfl) (hb hby at_91) (fun _ _ => ⟨rfl, eq8, (by decide : 1 + 0 ≤ _), (by decide : 3 + 0 ≤ _)⟩)
  dsimp only [Pt.U, Pt.locs, Pt.cells, Pt.slots] at X9 l9 y9 z9 st9 hQ9
  subst l9 y9 z9
  obtain ⟨rfl, N9q, eq9⟩ := hQ9
  have N9 := Fr.app N8 N9q
  obtain ⟨cq10, kq10, q10a, q10b, q10c⟩ := isOf hZ eq9 qf2_0
  obtain ⟨_, _, ⟨T10, L10, k10, n10⟩, -, X10, ⟨Lc10, hQ10, l10, y10, z10⟩, st10⟩ := X9.virtualBack hx (y := (⟨"com/example/linkstride/linkstride/engine/Completeness", "lookupsCut", "()I"⟩ : MethodName)) (z := (⟨"com/example/linkstride/linkstride/engine/Completeness", "lookupsCut", "()I"⟩ : MethodName)) hown (mvT hZ (hw _ (List.mem_of_getElem? (i := 35) rfl))) (mvT hZ (hw _ (List.mem_of_getElem? (i := 36) rfl))) (notFace_of_selects (args := #[]) (mvT hZ (hw _ (List.mem_of_getElem? (i := 38) rfl)))) (mvT hZ (hw _ (List.mem_of_getElem? (i := 38) rfl))) (mvT hZ (hw _ (List.mem_of_getElem? (i := 37) rfl))) (by decide) (backOf (W := 0) (rm7 l Z a0 hw [] b1 ((pi2.toUInt32 >>> ((2 : Int32) &&& 31).toUInt32).toInt32) T2.heap n0 z6 o7 qf2_3) hZ (hw _ (List.mem_of_getElem? (i := 39) rfl)) (hw _ (List.mem_of_getElem? (i := 2) rfl)) (by decide) (by decide)) q10a q10c (g := (mkF m 100 #[.val (.int pi1), .val (.int pi2), .val (.int (0 : Int32)), .val (.int (1 : Int32)), .val (.int ((pi2.toUInt32 >>> ((2 : Int32) &&& 31).toUInt32).toInt32)), .val (.ref b1), .val (.int (0 : Int32))] [(.ref b1)])) rfl (by rw [hml]; rfl) (Steps.refl _) (argsL := []) (rest := []) (lenOf pd_3 rfl) rfl (by show 2 * 0 + _ ≤ _; exact Nat.le_of_eq rfl) (hb hby at_100) (fun _ _ => ⟨rfl, eq9, (by decide : 1 + 0 ≤ _), (by decide : 3 + 0 ≤ _)⟩)
  dsimp only [Pt.U, Pt.locs, Pt.cells, Pt.slots] at X10 l10 y10 z10 st10 hQ10
  subst l10 y10 z10
  obtain ⟨rfl, N10q, eq10⟩ := hQ10
  have N10 := Fr.app N9 N10q
  obtain ⟨fs, hr, hrun, hended, hW, hsame⟩ := X10.leave (v := some (.int (1 : Int32))) (fun h => by rw [Bd.returns] at h; cases h)
  refine ⟨_, _, pre0 _ ?_, hrun, hended, _, _, rfl, ?_, ⟨_, rfl⟩, hW, hsame.mono (by decide) (by decide)⟩
  · show Steps p.tables e below (s₁.setTop (mkF m 0 #[.val (.int pi1), .val (.int pi2), .unset, .unset, .unset, .unset, .unset] [])) _
    refine XS.iloadN X0.here hx rfl (hb hby at_0) rfl ?_
    show Steps p.tables e below (s₁.setTop (mkF m 1 #[.val (.int pi1), .val (.int pi2), .unset, .unset, .unset, .unset, .unset] [(.int pi1)])) _
    refine XS.iconst X0.here hx rfl (hb hby at_1) ?_
    show Steps p.tables e below (s₁.setTop (mkF m 2 #[.val (.int pi1), .val (.int pi2), .unset, .unset, .unset, .unset, .unset] [(.int (1 : Int32)), (.int pi1)])) _
    refine XS.iand X0.here hx rfl (hb hby at_2) rfl ?_
    show Steps p.tables e below (s₁.setTop (mkF m 3 #[.val (.int pi1), .val (.int pi2), .unset, .unset, .unset, .unset, .unset] [(.int (pi1 &&& (1 : Int32)))])) _
    refine XS.ifYes X0.here hx rfl (pc0 := 3) (pc' := 10) rfl (hb hby at_3) rfl ((if0 _ _).trans (teq hc3_0).1) (by decide) (by decide) ?_
    show Steps p.tables e below (s₁.setTop (mkF m 10 #[.val (.int pi1), .val (.int pi2), .unset, .unset, .unset, .unset, .unset] [])) _
    refine XS.iconst X0.here hx rfl (hb hby at_10) ?_
    show Steps p.tables e below (s₁.setTop (mkF m 11 #[.val (.int pi1), .val (.int pi2), .unset, .unset, .unset, .unset, .unset] [(.int (0 : Int32))])) _
    refine XS.istoreN X0.here hx rfl (hb hby at_11) rfl (l' := #[.val (.int pi1), .val (.int pi2), .val (.int (0 : Int32)), .unset, .unset, .unset, .unset]) rfl ?_
    show Steps p.tables e below (s₁.setTop (mkF m 12 #[.val (.int pi1), .val (.int pi2), .val (.int (0 : Int32)), .unset, .unset, .unset, .unset] [])) _
    refine XS.iloadN X0.here hx rfl (hb hby at_12) rfl ?_
    show Steps p.tables e below (s₁.setTop (mkF m 13 #[.val (.int pi1), .val (.int pi2), .val (.int (0 : Int32)), .unset, .unset, .unset, .unset] [(.int pi1)])) _
    refine XS.iconst X0.here hx rfl (hb hby at_13) ?_
    show Steps p.tables e below (s₁.setTop (mkF m 14 #[.val (.int pi1), .val (.int pi2), .val (.int (0 : Int32)), .unset, .unset, .unset, .unset] [(.int (2 : Int32)), (.int pi1)])) _
    refine XS.iand X0.here hx rfl (hb hby at_14) rfl ?_
    show Steps p.tables e below (s₁.setTop (mkF m 15 #[.val (.int pi1), .val (.int pi2), .val (.int (0 : Int32)), .unset, .unset, .unset, .unset] [(.int (pi1 &&& (2 : Int32)))])) _
    refine XS.ifNo X0.here hx rfl (hb hby at_15) rfl ((if0 _ _).trans (feq hc15_1).1) ?_
    show Steps p.tables e below (s₁.setTop (mkF m 18 #[.val (.int pi1), .val (.int pi2), .val (.int (0 : Int32)), .unset, .unset, .unset, .unset] [])) _
    refine XS.iconst X0.here hx rfl (hb hby at_18) ?_
    show Steps p.tables e below (s₁.setTop (mkF m 19 #[.val (.int pi1), .val (.int pi2), .val (.int (0 : Int32)), .unset, .unset, .unset, .unset] [(.int (1 : Int32))])) _
    refine XS.goto X0.here hx rfl (pc0 := 19) (pc' := 23) rfl (hb hby at_19) (by decide) (by decide) ?_
    show Steps p.tables e below (s₁.setTop (mkF m 23 #[.val (.int pi1), .val (.int pi2), .val (.int (0 : Int32)), .unset, .unset, .unset, .unset] [(.int (1 : Int32))])) _
    refine XS.istoreN X0.here hx rfl (hb hby at_23) rfl (l' := #[.val (.int pi1), .val (.int pi2), .val (.int (0 : Int32)), .val (.int (1 : Int32)), .unset, .unset, .unset]) rfl ?_
    show Steps p.tables e below (s₁.setTop (mkF m 24 #[.val (.int pi1), .val (.int pi2), .val (.int (0 : Int32)), .val (.int (1 : Int32)), .unset, .unset, .unset] [])) _
    refine XS.iloadN X0.here hx rfl (hb hby at_24) rfl ?_
    show Steps p.tables e below (s₁.setTop (mkF m 25 #[.val (.int pi1), .val (.int pi2), .val (.int (0 : Int32)), .val (.int (1 : Int32)), .unset, .unset, .unset] [(.int pi2)])) _
    refine XS.iconst X0.here hx rfl (hb hby at_25) ?_
    show Steps p.tables e below (s₁.setTop (mkF m 26 #[.val (.int pi1), .val (.int pi2), .val (.int (0 : Int32)), .val (.int (1 : Int32)), .unset, .unset, .unset] [(.int (3 : Int32)), (.int pi2)])) _
    refine XS.iand X0.here hx rfl (hb hby at_26) rfl ?_
    show Steps p.tables e below (s₁.setTop (mkF m 27 #[.val (.int pi1), .val (.int pi2), .val (.int (0 : Int32)), .val (.int (1 : Int32)), .unset, .unset, .unset] [(.int (pi2 &&& (3 : Int32)))])) _
    refine XS.ifYes X0.here hx rfl (pc0 := 27) (pc' := 34) rfl (hb hby at_27) rfl ((if0 _ _).trans (feq hc27_2).2) (by decide) (by decide) ?_
    show Steps p.tables e below (s₁.setTop (mkF m 34 #[.val (.int pi1), .val (.int pi2), .val (.int (0 : Int32)), .val (.int (1 : Int32)), .unset, .unset, .unset] [])) _
    refine XS.iloadN X0.here hx rfl (hb hby at_34) rfl ?_
    show Steps p.tables e below (s₁.setTop (mkF m 35 #[.val (.int pi1), .val (.int pi2), .val (.int (0 : Int32)), .val (.int (1 : Int32)), .unset, .unset, .unset] [(.int pi2)])) _
    refine XS.iconst X0.here hx rfl (hb hby at_35) ?_
    show Steps p.tables e below (s₁.setTop (mkF m 36 #[.val (.int pi1), .val (.int pi2), .val (.int (0 : Int32)), .val (.int (1 : Int32)), .unset, .unset, .unset] [(.int (2 : Int32)), (.int pi2)])) _
    refine XS.iushr X0.here hx rfl (hb hby at_36) rfl ?_
    show Steps p.tables e below (s₁.setTop (mkF m 37 #[.val (.int pi1), .val (.int pi2), .val (.int (0 : Int32)), .val (.int (1 : Int32)), .unset, .unset, .unset] [(.int ((pi2.toUInt32 >>> ((2 : Int32) &&& 31).toUInt32).toInt32))])) _
    refine XS.istore X0.here hx rfl (hb hby at_37) rfl (l' := #[.val (.int pi1), .val (.int pi2), .val (.int (0 : Int32)), .val (.int (1 : Int32)), .val (.int ((pi2.toUInt32 >>> ((2 : Int32) &&& 31).toUInt32).toInt32)), .unset, .unset]) rfl ?_
    show Steps p.tables e below (s₁.setTop (mkF m 39 #[.val (.int pi1), .val (.int pi2), .val (.int (0 : Int32)), .val (.int (1 : Int32)), .val (.int ((pi2.toUInt32 >>> ((2 : Int32) &&& 31).toUInt32).toInt32)), .unset, .unset] [])) _
    refine st1 _ ?_
    show Steps p.tables e below (T1.setTop (mkF m 42 #[.val (.int pi1), .val (.int pi2), .val (.int (0 : Int32)), .val (.int (1 : Int32)), .val (.int ((pi2.toUInt32 >>> ((2 : Int32) &&& 31).toUInt32).toInt32)), .unset, .unset] [(.ref b1)])) _
    refine XS.dup X1.here hx rfl (hb hby at_42) rfl rfl ?_
    show Steps p.tables e below (T1.setTop (mkF m 43 #[.val (.int pi1), .val (.int pi2), .val (.int (0 : Int32)), .val (.int (1 : Int32)), .val (.int ((pi2.toUInt32 >>> ((2 : Int32) &&& 31).toUInt32).toInt32)), .unset, .unset] [(.ref b1), (.ref b1)])) _
    refine XS.iloadN X1.here hx rfl (hb hby at_43) rfl ?_
    show Steps p.tables e below (T1.setTop (mkF m 44 #[.val (.int pi1), .val (.int pi2), .val (.int (0 : Int32)), .val (.int (1 : Int32)), .val (.int ((pi2.toUInt32 >>> ((2 : Int32) &&& 31).toUInt32).toInt32)), .unset, .unset] [(.int (0 : Int32)), (.ref b1), (.ref b1)])) _
    refine XS.iloadN X1.here hx rfl (hb hby at_44) rfl ?_
    show Steps p.tables e below (T1.setTop (mkF m 45 #[.val (.int pi1), .val (.int pi2), .val (.int (0 : Int32)), .val (.int (1 : Int32)), .val (.int ((pi2.toUInt32 >>> ((2 : Int32) &&& 31).toUInt32).toInt32)), .unset, .unset] [(.int (1 : Int32)), (.int (0 : Int32)), (.ref b1), (.ref b1)])) _
    refine XS.iload X1.here hx rfl (hb hby at_45) rfl ?_
    show Steps p.tables e below (T1.setTop (mkF m 47 #[.val (.int pi1), .val (.int pi2), .val (.int (0 : Int32)), .val (.int (1 : Int32)), .val (.int ((pi2.toUInt32 >>> ((2 : Int32) &&& 31).toUInt32).toInt32)), .unset, .unset] [(.int ((pi2.toUInt32 >>> ((2 : Int32) &&& 31).toUInt32).toInt32)), (.int (1 : Int32)), (.int (0 : Int32)), (.ref b1), (.ref b1)])) _
    refine st2.trans ?_
    show Steps p.tables e below (T2.setTop (mkF m 50 #[.val (.int pi1), .val (.int pi2), .val (.int (0 : Int32)), .val (.int (1 : Int32)), .val (.int ((pi2.toUInt32 >>> ((2 : Int32) &&& 31).toUInt32).toInt32)), .unset, .unset] [(.ref b1)])) _
    refine XS.astore X2.here hx rfl (hb hby at_50) rfl rfl (l' := #[.val (.int pi1), .val (.int pi2), .val (.int (0 : Int32)), .val (.int (1 : Int32)), .val (.int ((pi2.toUInt32 >>> ((2 : Int32) &&& 31).toUInt32).toInt32)), .val (.ref b1), .unset]) rfl ?_
    show Steps p.tables e below (T2.setTop (mkF m 52 #[.val (.int pi1), .val (.int pi2), .val (.int (0 : Int32)), .val (.int (1 : Int32)), .val (.int ((pi2.toUInt32 >>> ((2 : Int32) &&& 31).toUInt32).toInt32)), .val (.ref b1), .unset] [])) _
    refine XS.iloadN X2.here hx rfl (hb hby at_52) rfl ?_
    show Steps p.tables e below (T2.setTop (mkF m 53 #[.val (.int pi1), .val (.int pi2), .val (.int (0 : Int32)), .val (.int (1 : Int32)), .val (.int ((pi2.toUInt32 >>> ((2 : Int32) &&& 31).toUInt32).toInt32)), .val (.ref b1), .unset] [(.int pi1)])) _
    refine XS.iconst X2.here hx rfl (hb hby at_53) ?_
    show Steps p.tables e below (T2.setTop (mkF m 54 #[.val (.int pi1), .val (.int pi2), .val (.int (0 : Int32)), .val (.int (1 : Int32)), .val (.int ((pi2.toUInt32 >>> ((2 : Int32) &&& 31).toUInt32).toInt32)), .val (.ref b1), .unset] [(.int (3 : Int32)), (.int pi1)])) _
    refine XS.iand X2.here hx rfl (hb hby at_54) rfl ?_
    show Steps p.tables e below (T2.setTop (mkF m 55 #[.val (.int pi1), .val (.int pi2), .val (.int (0 : Int32)), .val (.int (1 : Int32)), .val (.int ((pi2.toUInt32 >>> ((2 : Int32) &&& 31).toUInt32).toInt32)), .val (.ref b1), .unset] [(.int (pi1 &&& (3 : Int32)))])) _
    refine XS.ifYes X2.here hx rfl (pc0 := 55) (pc' := 67) rfl (hb hby at_55) rfl ((if0 _ _).trans (feq (own_n2 hc15_1)).2) (by decide) (by decide) ?_
    show Steps p.tables e below (T2.setTop (mkF m 67 #[.val (.int pi1), .val (.int pi2), .val (.int (0 : Int32)), .val (.int (1 : Int32)), .val (.int ((pi2.toUInt32 >>> ((2 : Int32) &&& 31).toUInt32).toInt32)), .val (.ref b1), .unset] [])) _
    refine XS.iconst X2.here hx rfl (hb hby at_67) ?_
    show Steps p.tables e below (T2.setTop (mkF m 68 #[.val (.int pi1), .val (.int pi2), .val (.int (0 : Int32)), .val (.int (1 : Int32)), .val (.int ((pi2.toUInt32 >>> ((2 : Int32) &&& 31).toUInt32).toInt32)), .val (.ref b1), .unset] [(.int (0 : Int32))])) _
    refine XS.istore X2.here hx rfl (hb hby at_68) rfl (l' := #[.val (.int pi1), .val (.int pi2), .val (.int (0 : Int32)), .val (.int (1 : Int32)), .val (.int ((pi2.toUInt32 >>> ((2 : Int32) &&& 31).toUInt32).toInt32)), .val (.ref b1), .val (.int (0 : Int32))]) rfl ?_
    show Steps p.tables e below (T2.setTop (mkF m 70 #[.val (.int pi1), .val (.int pi2), .val (.int (0 : Int32)), .val (.int (1 : Int32)), .val (.int ((pi2.toUInt32 >>> ((2 : Int32) &&& 31).toUInt32).toInt32)), .val (.ref b1), .val (.int (0 : Int32))] [])) _
    refine XS.aload X2.here hx rfl (hb hby at_70) rfl rfl ?_
    show Steps p.tables e below (T2.setTop (mkF m 72 #[.val (.int pi1), .val (.int pi2), .val (.int (0 : Int32)), .val (.int (1 : Int32)), .val (.int ((pi2.toUInt32 >>> ((2 : Int32) &&& 31).toUInt32).toInt32)), .val (.ref b1), .val (.int (0 : Int32))] [(.ref b1)])) _
    refine st5.trans ?_
    show Steps p.tables e below (T5.setTop (mkF m 75 #[.val (.int pi1), .val (.int pi2), .val (.int (0 : Int32)), .val (.int (1 : Int32)), .val (.int ((pi2.toUInt32 >>> ((2 : Int32) &&& 31).toUInt32).toInt32)), .val (.ref b1), .val (.int (0 : Int32))] [(.int (0 : Int32))])) _
    refine XS.iload X5.here hx rfl (hb hby at_75) rfl ?_
    show Steps p.tables e below (T5.setTop (mkF m 77 #[.val (.int pi1), .val (.int pi2), .val (.int (0 : Int32)), .val (.int (1 : Int32)), .val (.int ((pi2.toUInt32 >>> ((2 : Int32) &&& 31).toUInt32).toInt32)), .val (.ref b1), .val (.int (0 : Int32))] [(.int (0 : Int32)), (.int (0 : Int32))])) _
    refine XS.icmpNo X5.here hx rfl (hb hby at_77) rfl (teq (rfl : (0 : Int32) = (0 : Int32))).2 ?_
    show Steps p.tables e below (T5.setTop (mkF m 80 #[.val (.int pi1), .val (.int pi2), .val (.int (0 : Int32)), .val (.int (1 : Int32)), .val (.int ((pi2.toUInt32 >>> ((2 : Int32) &&& 31).toUInt32).toInt32)), .val (.ref b1), .val (.int (0 : Int32))] [])) _
    refine XS.aload X5.here hx rfl (hb hby at_80) rfl rfl ?_
    show Steps p.tables e below (T5.setTop (mkF m 82 #[.val (.int pi1), .val (.int pi2), .val (.int (0 : Int32)), .val (.int (1 : Int32)), .val (.int ((pi2.toUInt32 >>> ((2 : Int32) &&& 31).toUInt32).toInt32)), .val (.ref b1), .val (.int (0 : Int32))] [(.ref b1)])) _
    refine st8.trans ?_
    show Steps p.tables e below (T8.setTop (mkF m 85 #[.val (.int pi1), .val (.int pi2), .val (.int (0 : Int32)), .val (.int (1 : Int32)), .val (.int ((pi2.toUInt32 >>> ((2 : Int32) &&& 31).toUInt32).toInt32)), .val (.ref b1), .val (.int (0 : Int32))] [(.int (0 : Int32))])) _
    refine XS.iloadN X8.here hx rfl (hb hby at_85) rfl ?_
    show Steps p.tables e below (T8.setTop (mkF m 86 #[.val (.int pi1), .val (.int pi2), .val (.int (0 : Int32)), .val (.int (1 : Int32)), .val (.int ((pi2.toUInt32 >>> ((2 : Int32) &&& 31).toUInt32).toInt32)), .val (.ref b1), .val (.int (0 : Int32))] [(.int (0 : Int32)), (.int (0 : Int32))])) _
    refine XS.icmpNo X8.here hx rfl (hb hby at_86) rfl (teq (rfl : (0 : Int32) = (0 : Int32))).2 ?_
    show Steps p.tables e below (T8.setTop (mkF m 89 #[.val (.int pi1), .val (.int pi2), .val (.int (0 : Int32)), .val (.int (1 : Int32)), .val (.int ((pi2.toUInt32 >>> ((2 : Int32) &&& 31).toUInt32).toInt32)), .val (.ref b1), .val (.int (0 : Int32))] [])) _
    refine XS.aload X8.here hx rfl (hb hby at_89) rfl rfl ?_
    show Steps p.tables e below (T8.setTop (mkF m 91 #[.val (.int pi1), .val (.int pi2), .val (.int (0 : Int32)), .val (.int (1 : Int32)), .val (.int ((pi2.toUInt32 >>> ((2 : Int32) &&& 31).toUInt32).toInt32)), .val (.ref b1), .val (.int (0 : Int32))] [(.ref b1)])) _
    refine st9.trans ?_
    show Steps p.tables e below (T9.setTop (mkF m 94 #[.val (.int pi1), .val (.int pi2), .val (.int (0 : Int32)), .val (.int (1 : Int32)), .val (.int ((pi2.toUInt32 >>> ((2 : Int32) &&& 31).toUInt32).toInt32)), .val (.ref b1), .val (.int (0 : Int32))] [(.int (1 : Int32))])) _
    refine XS.iloadN X9.here hx rfl (hb hby at_94) rfl ?_
    show Steps p.tables e below (T9.setTop (mkF m 95 #[.val (.int pi1), .val (.int pi2), .val (.int (0 : Int32)), .val (.int (1 : Int32)), .val (.int ((pi2.toUInt32 >>> ((2 : Int32) &&& 31).toUInt32).toInt32)), .val (.ref b1), .val (.int (0 : Int32))] [(.int (1 : Int32)), (.int (1 : Int32))])) _
    refine XS.icmpNo X9.here hx rfl (hb hby at_95) rfl (teq (rfl : (1 : Int32) = (1 : Int32))).2 ?_
    show Steps p.tables e below (T9.setTop (mkF m 98 #[.val (.int pi1), .val (.int pi2), .val (.int (0 : Int32)), .val (.int (1 : Int32)), .val (.int ((pi2.toUInt32 >>> ((2 : Int32) &&& 31).toUInt32).toInt32)), .val (.ref b1), .val (.int (0 : Int32))] [])) _
    refine XS.aload X9.here hx rfl (hb hby at_98) rfl rfl ?_
    show Steps p.tables e below (T9.setTop (mkF m 100 #[.val (.int pi1), .val (.int pi2), .val (.int (0 : Int32)), .val (.int (1 : Int32)), .val (.int ((pi2.toUInt32 >>> ((2 : Int32) &&& 31).toUInt32).toInt32)), .val (.ref b1), .val (.int (0 : Int32))] [(.ref b1)])) _
    refine st10.trans ?_
    show Steps p.tables e below (T10.setTop (mkF m 103 #[.val (.int pi1), .val (.int pi2), .val (.int (0 : Int32)), .val (.int (1 : Int32)), .val (.int ((pi2.toUInt32 >>> ((2 : Int32) &&& 31).toUInt32).toInt32)), .val (.ref b1), .val (.int (0 : Int32))] [(.int ((pi2.toUInt32 >>> ((2 : Int32) &&& 31).toUInt32).toInt32))])) _
    refine XS.iload X10.here hx rfl (hb hby at_103) rfl ?_
    show Steps p.tables e below (T10.setTop (mkF m 105 #[.val (.int pi1), .val (.int pi2), .val (.int (0 : Int32)), .val (.int (1 : Int32)), .val (.int ((pi2.toUInt32 >>> ((2 : Int32) &&& 31).toUInt32).toInt32)), .val (.ref b1), .val (.int (0 : Int32))] [(.int ((pi2.toUInt32 >>> ((2 : Int32) &&& 31).toUInt32).toInt32)), (.int ((pi2.toUInt32 >>> ((2 : Int32) &&& 31).toUInt32).toInt32))])) _
    refine XS.icmpNo X10.here hx rfl (hb hby at_105) rfl (teq (rfl : ((pi2.toUInt32 >>> ((2 : Int32) &&& 31).toUInt32).toInt32) = ((pi2.toUInt32 >>> ((2 : Int32) &&& 31).toUInt32).toInt32))).2 ?_
    show Steps p.tables e below (T10.setTop (mkF m 108 #[.val (.int pi1), .val (.int pi2), .val (.int (0 : Int32)), .val (.int (1 : Int32)), .val (.int ((pi2.toUInt32 >>> ((2 : Int32) &&& 31).toUInt32).toInt32)), .val (.ref b1), .val (.int (0 : Int32))] [])) _
    refine XS.iconst X10.here hx rfl (hb hby at_108) ?_
    show Steps p.tables e below (T10.setTop (mkF m 109 #[.val (.int pi1), .val (.int pi2), .val (.int (0 : Int32)), .val (.int (1 : Int32)), .val (.int ((pi2.toUInt32 >>> ((2 : Int32) &&& 31).toUInt32).toInt32)), .val (.ref b1), .val (.int (0 : Int32))] [(.int (1 : Int32))])) _
    refine XS.goto X10.here hx rfl (pc0 := 109) (pc' := 113) rfl (hb hby at_109) (by decide) (by decide) ?_
    show Steps p.tables e below (T10.setTop (mkF m 113 #[.val (.int pi1), .val (.int pi2), .val (.int (0 : Int32)), .val (.int (1 : Int32)), .val (.int ((pi2.toUInt32 >>> ((2 : Int32) &&& 31).toUInt32).toInt32)), .val (.ref b1), .val (.int (0 : Int32))] [(.int (1 : Int32))])) _
    exact retN X10 hx (t := .boolean) Bd.returns (by simp) (hb hby at_113) hr
  · exact ⟨rfl, N10⟩
set_option maxRecDepth 65536 in
set_option maxHeartbeats 40000000 in
theorem rm0_ftt (l : Launch) (Z : State) (a0 : Array Value) (hw : ∀ d ∈ tables_1, d.before a0 Z = true) (ws : List Jvm.Cond) (pi1 : Int32) (pi2 : Int32) (h0 : Heap) (n0 : Nat) (Z0 : n0 ≤ h0.size) (O0 : Old Z n0 h0) (hc3_0 : ¬ ((pi1 &&& (1 : Int32)) = (0 : Int32))) (hc15_1 : (pi1 &&& (2 : Int32)) = (0 : Int32)) (hc27_2 : (pi2 &&& (3 : Int32)) = (0 : Int32)) :
    MetFree l x (head1 (Jvm.Cond.code x code maxLocals ret :: ws) room_1) (fun a U => a = #[(.int pi1), (.int pi2)] ∧ Z.Warmed39 U.vm ∧ U.heap = h0) (fun _ _ _ _ _ => True) (fun _ U o U' => ∃ v L, o = .returned v ∧ Q0 v L n0 ∧ FrameEnd U o U' L room_1.cells room_1.slots) := by
  refine MetFree.of_bodySF (plainFor_of_name pn_0) hisR ?_
  intro p e s m args below meth c s₁ Bd hml0 hP hK
  obtain ⟨rfl, hZ, hh⟩ := hP
  have hx := Bd.exec
  have hby := Bd.bytes
  have hml : c.maxLocals = 7 := hml0
  have hown : s.vm.findClass "com/example/linkstride/linkstride/engine/CompletenessCompletePinLaw" = some m.cls := findClass_of_methodNamed Bd.named
  have hnm := (name_of_methodNamed Bd.named Bd.method).1
  have X0 : Stand p l e room_1 s m #[(.int pi1), (.int pi2)] below meth c s₁ [] 0 0 := Stand.of_body Bd
  have e0 : s₁.heap = h0 := by rw [← hh, Bd.state]; rfl
  have N0 := Fr.nil n0
  have pre0 : ∀ t, Steps p.tables e below (s₁.setTop (mkF m 0 #[.val (.int pi1), .val (.int pi2), .unset, .unset, .unset, .unset, .unset] [])) t → Steps p.tables e below (s₁.setTop (entryFrame m #[(.int pi1), (.int pi2)] maxLocals)) t := fun t k => castTop (ef_0 m pi1 pi2) k
  obtain ⟨T1, h1, X1, e1, E1, A1, D1, -, st1⟩ := newO X0 hx hZ hown (hw _ (List.mem_of_getElem? (i := 0) rfl)) (hw _ (List.mem_of_getElem? (i := 1) rfl)) (hw _ (List.mem_of_getElem? (i := 2) rfl)) e0 (g := (mkF m 39 #[.val (.int pi1), .val (.int pi2), .val (.int (1 : Int32)), .val (.int (0 : Int32)), .val (.int (0 : Int32)), .unset, .unset] [])) rfl (hb hby at_39) (by decide) (by decide)
  obtain ⟨b1, g1⟩ : ∃ z, z = h0.size := ⟨_, rfl⟩
  rw [← g1] at A1 D1 st1
  have F_budgetReached_b1 : Fld Z h1 b1 "com/example/linkstride/linkstride/engine/Completeness" "budgetReached" "Z" (.int (0 : Int32)) := D1 (Or.inr (hw _ (List.mem_of_getElem? (i := 15) rfl))) (ty := .boolean) (by decide)
  have F_lookupLimitReached_b1 : Fld Z h1 b1 "com/example/linkstride/linkstride/engine/Completeness" "lookupLimitReached" "Z" (.int (0 : Int32)) := D1 (Or.inr (hw _ (List.mem_of_getElem? (i := 17) rfl))) (ty := .boolean) (by decide)
  have F_lookupsCut_b1 : Fld Z h1 b1 "com/example/linkstride/linkstride/engine/Completeness" "lookupsCut" "I" (.int (0 : Int32)) := D1 (Or.inr (hw _ (List.mem_of_getElem? (i := 19) rfl))) (ty := .int) (by decide)
  have g_b1 : n0 ≤ b1 := Nat.le_trans Z0 (Nat.le_of_eq g1.symm)
  have z3 := Nat.le_trans Z0 E1.1
  have o4 := O0.ext E1
  obtain ⟨_, _, ⟨T2, L2, k2, n2⟩, -, X2, ⟨Lc2, hQ2, l2, y2, z2⟩, st2⟩ := X1.specialBack hx (y := (⟨"com/example/linkstride/linkstride/engine/Completeness", "<init>", "(ZZI)V"⟩ : MethodName)) rfl hown (mvT hZ (hw _ (List.mem_of_getElem? (i := 3) rfl))) (mvT hZ (hw _ (List.mem_of_getElem? (i := 4) rfl))) (mvT hZ (hw _ (List.mem_of_getElem? (i := 5) rfl))) (by decide) (backOf (W := 1) (rm1 l Z a0 hw [] b1 (1 : Int32) (0 : Int32) (0 : Int32) (.int (0 : Int32)) (.int (0 : Int32)) (.int (0 : Int32)) h1 n0 z3 o4 A1 F_budgetReached_b1 g_b1 F_lookupLimitReached_b1 F_lookupsCut_b1) hZ (hw _ (List.mem_of_getElem? (i := 5) rfl)) (hw _ (List.mem_of_getElem? (i := 2) rfl)) (by decide) (by decide)) (g := (mkF m 47 #[.val (.int pi1), .val (.int pi2), .val (.int (1 : Int32)), .val (.int (0 : Int32)), .val (.int (0 : Int32)), .unset, .unset] [(.int (0 : Int32)), (.int (0 : Int32)), (.int (1 : Int32)), (.ref b1), (.ref b1)])) rfl (by rw [hml]; rfl) (Steps.refl _) (a := b1) (argsL := [(.int (1 : Int32)), (.int (0 : Int32)), (.int (0 : Int32))]) (rest := [(.ref b1)]) (lenOf pd_0 rfl) rfl (by show 2 * 0 + _ ≤ _; exact Nat.le_of_eq rfl) (hb hby at_47) (fun _ _ => ⟨rfl, e1, (by decide : 1 + 0 ≤ _), (by decide : 3 + 0 ≤ _)⟩)
  dsimp only [Pt.U, Pt.locs, Pt.cells, Pt.slots] at X2 l2 y2 z2 st2 hQ2
  subst l2 y2 z2
  obtain ⟨rfl, N2q, K2, qf2_0, qf2_1, qf2_2, qf2_3⟩ := hQ2
  have N2 := Fr.app N0 N2q
  have z6 := Nat.le_trans z3 K2.1
  have o7 := o4.keep K2 (allS g_b1 all0)
  obtain ⟨cq5, kq5, q5a, q5b, q5c⟩ := isOf hZ rfl qf2_0
  obtain ⟨_, _, ⟨T5, L5, k5, n5⟩, -, X5, ⟨Lc5, hQ5, l5, y5, z5⟩, st5⟩ := X2.virtualBack hx (y := (⟨"com/example/linkstride/linkstride/engine/Completeness", "complete", "()Z"⟩ : MethodName)) (z := (⟨"com/example/linkstride/linkstride/engine/Completeness", "complete", "()Z"⟩ : MethodName)) hown (mvT hZ (hw _ (List.mem_of_getElem? (i := 20) rfl))) (mvT hZ (hw _ (List.mem_of_getElem? (i := 21) rfl))) (notFace_of_selects (args := #[]) (mvT hZ (hw _ (List.mem_of_getElem? (i := 23) rfl)))) (mvT hZ (hw _ (List.mem_of_getElem? (i := 23) rfl))) (mvT hZ (hw _ (List.mem_of_getElem? (i := 22) rfl))) (by decide) (backOf (W := 0) (rm4_f l Z a0 hw [] b1 (1 : Int32) T2.heap n0 z6 o7 qf2_1 (by decide)) hZ (hw _ (List.mem_of_getElem? (i := 24) rfl)) (hw _ (List.mem_of_getElem? (i := 2) rfl)) (by decide) (by decide)) q5a q5c (g := (mkF m 72 #[.val (.int pi1), .val (.int pi2), .val (.int (1 : Int32)), .val (.int (0 : Int32)), .val (.int (0 : Int32)), .val (.ref b1), .val (.int (0 : Int32))] [(.ref b1)])) rfl (by rw [hml]; rfl) (Steps.refl _) (argsL := []) (rest := []) (lenOf pd_2 rfl) rfl (by show 2 * 0 + _ ≤ _; exact Nat.le_of_eq rfl) (hb hby at_72) (fun _ _ => ⟨rfl, rfl, (by decide : 1 + 0 ≤ _), (by decide : 3 + 0 ≤ _)⟩)
  dsimp only [Pt.U, Pt.locs, Pt.cells, Pt.slots] at X5 l5 y5 z5 st5 hQ5
  subst l5 y5 z5
  obtain ⟨rfl, N5q, eq5⟩ := hQ5
  have N5 := Fr.app N2 N5q
  obtain ⟨cq8, kq8, q8a, q8b, q8c⟩ := isOf hZ eq5 qf2_0
  obtain ⟨_, _, ⟨T8, L8, k8, n8⟩, -, X8, ⟨Lc8, hQ8, l8, y8, z8⟩, st8⟩ := X5.virtualBack hx (y := (⟨"com/example/linkstride/linkstride/engine/Completeness", "budgetReached", "()Z"⟩ : MethodName)) (z := (⟨"com/example/linkstride/linkstride/engine/Completeness", "budgetReached", "()Z"⟩ : MethodName)) hown (mvT hZ (hw _ (List.mem_of_getElem? (i := 25) rfl))) (mvT hZ (hw _ (List.mem_of_getElem? (i := 26) rfl))) (notFace_of_selects (args := #[]) (mvT hZ (hw _ (List.mem_of_getElem? (i := 28) rfl)))) (mvT hZ (hw _ (List.mem_of_getElem? (i := 28) rfl))) (mvT hZ (hw _ (List.mem_of_getElem? (i := 27) rfl))) (by decide) (backOf (W := 0) (rm5 l Z a0 hw [] b1 (1 : Int32) T2.heap n0 z6 o7 qf2_1) hZ (hw _ (List.mem_of_getElem? (i := 29) rfl)) (hw _ (List.mem_of_getElem? (i := 2) rfl)) (by decide) (by decide)) q8a q8c (g := (mkF m 82 #[.val (.int pi1), .val (.int pi2), .val (.int (1 : Int32)), .val (.int (0 : Int32)), .val (.int (0 : Int32)), .val (.ref b1), .val (.int (0 : Int32))] [(.ref b1)])) rfl (by rw [hml]; rfl) (Steps.refl _) (argsL := []) (rest := []) (lenOf pd_2 rfl) rfl (by show 2 * 0 + _ ≤ _; exact Nat.le_of_eq rfl) (hb hby at_82) (fun _ _ => ⟨rfl, eq5, (by decide : 1 + 0 ≤ _), (by decide : 3 + 0 ≤ _)⟩)
  dsimp only [Pt.U, Pt.locs, Pt.cells, Pt.slots] at X8 l8 y8 z8 st8 hQ8
  subst l8 y8 z8
  obtain ⟨rfl, N8q, eq8⟩ := hQ8
  have N8 := Fr.app N5 N8q
  obtain ⟨cq9, kq9, q9a, q9b, q9c⟩ := isOf hZ eq8 qf2_0
  obtain ⟨_, _, ⟨T9, L9, k9, n9⟩, -, X9, ⟨Lc9, hQ9, l9, y9, z9⟩, st9⟩ := X8.virtualBack hx (y := (⟨"com/example/linkstride/linkstride/engine/Completeness", "lookupLimitReached", "()Z"⟩ : MethodName)) (z := (⟨"com/example/linkstride/linkstride/engine/Completeness", "lookupLimitReached", "()Z"⟩ : MethodName)) hown (mvT hZ (hw _ (List.mem_of_getElem? (i := 30) rfl))) (mvT hZ (hw _ (List.mem_of_getElem? (i := 31) rfl))) (notFace_of_selects (args := #[]) (mvT hZ (hw _ (List.mem_of_getElem? (i := 33) rfl)))) (mvT hZ (hw _ (List.mem_of_getElem? (i := 33) rfl))) (mvT hZ (hw _ (List.mem_of_getElem? (i := 32) rfl))) (by decide) (backOf (W := 0) (rm6 l Z a0 hw [] b1 (0 : Int32) T2.heap n0 z6 o7 qf2_2) hZ (hw _ (List.mem_of_getElem? (i := 34) rfl)) (hw _ (List.mem_of_getElem? (i := 2) rfl)) (by decide) (by decide)) q9a q9c (g := (mkF m 91 #[.val (.int pi1), .val (.int pi2), .val (.int (1 : Int32)), .val (.int (0 : Int32)), .val (.int (0 : Int32)), .val (.ref b1), .val (.int (0 : Int32))] [(.ref b1)])) rfl (by rw [hml]; rfl) (Steps.refl _) (argsL := []) (rest := []) (lenOf pd_2 rfl) rfl (by show 2 * 0 + _ ≤ _; exact Nat.le_of_eq rfl) (hb hby at_91) (fun _ _ => ⟨rfl, eq8, (by decide : 1 + 0 ≤ _), (by decide : 3 + 0 ≤ _)⟩)
  dsimp only [Pt.U, Pt.locs, Pt.cells, Pt.slots] at X9 l9 y9 z9 st9 hQ9
  subst l9 y9 z9
  obtain ⟨rfl, N9q, eq9⟩ := hQ9
  have N9 := Fr.app N8 N9q
  obtain ⟨cq10, kq10, q10a, q10b, q10c⟩ := isOf hZ eq9 qf2_0
  obtain ⟨_, _, ⟨T10, L10, k10, n10⟩, -, X10, ⟨Lc10, hQ10, l10, y10, z10⟩, st10⟩ := X9.virtualBack hx (y := (⟨"com/example/linkstride/linkstride/engine/Completeness", "lookupsCut", "()I"⟩ : MethodName)) (z := (⟨"com/example/linkstride/linkstride/engine/Completeness", "lookupsCut", "()I"⟩ : MethodName)) hown (mvT hZ (hw _ (List.mem_of_getElem? (i := 35) rfl))) (mvT hZ (hw _ (List.mem_of_getElem? (i := 36) rfl))) (notFace_of_selects (args := #[]) (mvT hZ (hw _ (List.mem_of_getElem? (i := 38) rfl)))) (mvT hZ (hw _ (List.mem_of_getElem? (i := 38) rfl))) (mvT hZ (hw _ (List.mem_of_getElem? (i := 37) rfl))) (by decide) (backOf (W := 0) (rm7 l Z a0 hw [] b1 (0 : Int32) T2.heap n0 z6 o7 qf2_3) hZ (hw _ (List.mem_of_getElem? (i := 39) rfl)) (hw _ (List.mem_of_getElem? (i := 2) rfl)) (by decide) (by decide)) q10a q10c (g := (mkF m 100 #[.val (.int pi1), .val (.int pi2), .val (.int (1 : Int32)), .val (.int (0 : Int32)), .val (.int (0 : Int32)), .val (.ref b1), .val (.int (0 : Int32))] [(.ref b1)])) rfl (by rw [hml]; rfl) (Steps.refl _) (argsL := []) (rest := []) (lenOf pd_3 rfl) rfl (by show 2 * 0 + _ ≤ _; exact Nat.le_of_eq rfl) (hb hby at_100) (fun _ _ => ⟨rfl, eq9, (by decide : 1 + 0 ≤ _), (by decide : 3 + 0 ≤ _)⟩)
  dsimp only [Pt.U, Pt.locs, Pt.cells, Pt.slots] at X10 l10 y10 z10 st10 hQ10
  subst l10 y10 z10
  obtain ⟨rfl, N10q, eq10⟩ := hQ10
  have N10 := Fr.app N9 N10q
  obtain ⟨fs, hr, hrun, hended, hW, hsame⟩ := X10.leave (v := some (.int (1 : Int32))) (fun h => by rw [Bd.returns] at h; cases h)
  refine ⟨_, _, pre0 _ ?_, hrun, hended, _, _, rfl, ?_, ⟨_, rfl⟩, hW, hsame.mono (by decide) (by decide)⟩
  · show Steps p.tables e below (s₁.setTop (mkF m 0 #[.val (.int pi1), .val (.int pi2), .unset, .unset, .unset, .unset, .unset] [])) _
    refine XS.iloadN X0.here hx rfl (hb hby at_0) rfl ?_
    show Steps p.tables e below (s₁.setTop (mkF m 1 #[.val (.int pi1), .val (.int pi2), .unset, .unset, .unset, .unset, .unset] [(.int pi1)])) _
    refine XS.iconst X0.here hx rfl (hb hby at_1) ?_
    show Steps p.tables e below (s₁.setTop (mkF m 2 #[.val (.int pi1), .val (.int pi2), .unset, .unset, .unset, .unset, .unset] [(.int (1 : Int32)), (.int pi1)])) _
    refine XS.iand X0.here hx rfl (hb hby at_2) rfl ?_
    show Steps p.tables e below (s₁.setTop (mkF m 3 #[.val (.int pi1), .val (.int pi2), .unset, .unset, .unset, .unset, .unset] [(.int (pi1 &&& (1 : Int32)))])) _
    refine XS.ifNo X0.here hx rfl (hb hby at_3) rfl ((if0 _ _).trans (feq hc3_0).1) ?_
    show Steps p.tables e below (s₁.setTop (mkF m 6 #[.val (.int pi1), .val (.int pi2), .unset, .unset, .unset, .unset, .unset] [])) _
    refine XS.iconst X0.here hx rfl (hb hby at_6) ?_
    show Steps p.tables e below (s₁.setTop (mkF m 7 #[.val (.int pi1), .val (.int pi2), .unset, .unset, .unset, .unset, .unset] [(.int (1 : Int32))])) _
    refine XS.goto X0.here hx rfl (pc0 := 7) (pc' := 11) rfl (hb hby at_7) (by decide) (by decide) ?_
    show Steps p.tables e below (s₁.setTop (mkF m 11 #[.val (.int pi1), .val (.int pi2), .unset, .unset, .unset, .unset, .unset] [(.int (1 : Int32))])) _
    refine XS.istoreN X0.here hx rfl (hb hby at_11) rfl (l' := #[.val (.int pi1), .val (.int pi2), .val (.int (1 : Int32)), .unset, .unset, .unset, .unset]) rfl ?_
    show Steps p.tables e below (s₁.setTop (mkF m 12 #[.val (.int pi1), .val (.int pi2), .val (.int (1 : Int32)), .unset, .unset, .unset, .unset] [])) _
    refine XS.iloadN X0.here hx rfl (hb hby at_12) rfl ?_
    show Steps p.tables e below (s₁.setTop (mkF m 13 #[.val (.int pi1), .val (.int pi2), .val (.int (1 : Int32)), .unset, .unset, .unset, .unset] [(.int pi1)])) _
    refine XS.iconst X0.here hx rfl (hb hby at_13) ?_
    show Steps p.tables e below (s₁.setTop (mkF m 14 #[.val (.int pi1), .val (.int pi2), .val (.int (1 : Int32)), .unset, .unset, .unset, .unset] [(.int (2 : Int32)), (.int pi1)])) _
    refine XS.iand X0.here hx rfl (hb hby at_14) rfl ?_
    show Steps p.tables e below (s₁.setTop (mkF m 15 #[.val (.int pi1), .val (.int pi2), .val (.int (1 : Int32)), .unset, .unset, .unset, .unset] [(.int (pi1 &&& (2 : Int32)))])) _
    refine XS.ifYes X0.here hx rfl (pc0 := 15) (pc' := 22) rfl (hb hby at_15) rfl ((if0 _ _).trans (teq hc15_1).1) (by decide) (by decide) ?_
    show Steps p.tables e below (s₁.setTop (mkF m 22 #[.val (.int pi1), .val (.int pi2), .val (.int (1 : Int32)), .unset, .unset, .unset, .unset] [])) _
    refine XS.iconst X0.here hx rfl (hb hby at_22) ?_
    show Steps p.tables e below (s₁.setTop (mkF m 23 #[.val (.int pi1), .val (.int pi2), .val (.int (1 : Int32)), .unset, .unset, .unset, .unset] [(.int (0 : Int32))])) _
    refine XS.istoreN X0.here hx rfl (hb hby at_23) rfl (l' := #[.val (.int pi1), .val (.int pi2), .val (.int (1 : Int32)), .val (.int (0 : Int32)), .unset, .unset, .unset]) rfl ?_
    show Steps p.tables e below (s₁.setTop (mkF m 24 #[.val (.int pi1), .val (.int pi2), .val (.int (1 : Int32)), .val (.int (0 : Int32)), .unset, .unset, .unset] [])) _
    refine XS.iloadN X0.here hx rfl (hb hby at_24) rfl ?_
    show Steps p.tables e below (s₁.setTop (mkF m 25 #[.val (.int pi1), .val (.int pi2), .val (.int (1 : Int32)), .val (.int (0 : Int32)), .unset, .unset, .unset] [(.int pi2)])) _
    refine XS.iconst X0.here hx rfl (hb hby at_25) ?_
    show Steps p.tables e below (s₁.setTop (mkF m 26 #[.val (.int pi1), .val (.int pi2), .val (.int (1 : Int32)), .val (.int (0 : Int32)), .unset, .unset, .unset] [(.int (3 : Int32)), (.int pi2)])) _
    refine XS.iand X0.here hx rfl (hb hby at_26) rfl ?_
    show Steps p.tables e below (s₁.setTop (mkF m 27 #[.val (.int pi1), .val (.int pi2), .val (.int (1 : Int32)), .val (.int (0 : Int32)), .unset, .unset, .unset] [(.int (pi2 &&& (3 : Int32)))])) _
    refine XS.ifNo X0.here hx rfl (hb hby at_27) rfl ((if0 _ _).trans (teq hc27_2).2) ?_
    show Steps p.tables e below (s₁.setTop (mkF m 30 #[.val (.int pi1), .val (.int pi2), .val (.int (1 : Int32)), .val (.int (0 : Int32)), .unset, .unset, .unset] [])) _
    refine XS.iconst X0.here hx rfl (hb hby at_30) ?_
    show Steps p.tables e below (s₁.setTop (mkF m 31 #[.val (.int pi1), .val (.int pi2), .val (.int (1 : Int32)), .val (.int (0 : Int32)), .unset, .unset, .unset] [(.int (0 : Int32))])) _
    refine XS.goto X0.here hx rfl (pc0 := 31) (pc' := 37) rfl (hb hby at_31) (by decide) (by decide) ?_
    show Steps p.tables e below (s₁.setTop (mkF m 37 #[.val (.int pi1), .val (.int pi2), .val (.int (1 : Int32)), .val (.int (0 : Int32)), .unset, .unset, .unset] [(.int (0 : Int32))])) _
    refine XS.istore X0.here hx rfl (hb hby at_37) rfl (l' := #[.val (.int pi1), .val (.int pi2), .val (.int (1 : Int32)), .val (.int (0 : Int32)), .val (.int (0 : Int32)), .unset, .unset]) rfl ?_
    show Steps p.tables e below (s₁.setTop (mkF m 39 #[.val (.int pi1), .val (.int pi2), .val (.int (1 : Int32)), .val (.int (0 : Int32)), .val (.int (0 : Int32)), .unset, .unset] [])) _
    refine st1 _ ?_
    show Steps p.tables e below (T1.setTop (mkF m 42 #[.val (.int pi1), .val (.int pi2), .val (.int (1 : Int32)), .val (.int (0 : Int32)), .val (.int (0 : Int32)), .unset, .unset] [(.ref b1)])) _
    refine XS.dup X1.here hx rfl (hb hby at_42) rfl rfl ?_
    show Steps p.tables e below (T1.setTop (mkF m 43 #[.val (.int pi1), .val (.int pi2), .val (.int (1 : Int32)), .val (.int (0 : Int32)), .val (.int (0 : Int32)), .unset, .unset] [(.ref b1), (.ref b1)])) _
    refine XS.iloadN X1.here hx rfl (hb hby at_43) rfl ?_
    show Steps p.tables e below (T1.setTop (mkF m 44 #[.val (.int pi1), .val (.int pi2), .val (.int (1 : Int32)), .val (.int (0 : Int32)), .val (.int (0 : Int32)), .unset, .unset] [(.int (1 : Int32)), (.ref b1), (.ref b1)])) _
    refine XS.iloadN X1.here hx rfl (hb hby at_44) rfl ?_
    show Steps p.tables e below (T1.setTop (mkF m 45 #[.val (.int pi1), .val (.int pi2), .val (.int (1 : Int32)), .val (.int (0 : Int32)), .val (.int (0 : Int32)), .unset, .unset] [(.int (0 : Int32)), (.int (1 : Int32)), (.ref b1), (.ref b1)])) _
    refine XS.iload X1.here hx rfl (hb hby at_45) rfl ?_
    show Steps p.tables e below (T1.setTop (mkF m 47 #[.val (.int pi1), .val (.int pi2), .val (.int (1 : Int32)), .val (.int (0 : Int32)), .val (.int (0 : Int32)), .unset, .unset] [(.int (0 : Int32)), (.int (0 : Int32)), (.int (1 : Int32)), (.ref b1), (.ref b1)])) _
    refine st2.trans ?_
    show Steps p.tables e below (T2.setTop (mkF m 50 #[.val (.int pi1), .val (.int pi2), .val (.int (1 : Int32)), .val (.int (0 : Int32)), .val (.int (0 : Int32)), .unset, .unset] [(.ref b1)])) _
    refine XS.astore X2.here hx rfl (hb hby at_50) rfl rfl (l' := #[.val (.int pi1), .val (.int pi2), .val (.int (1 : Int32)), .val (.int (0 : Int32)), .val (.int (0 : Int32)), .val (.ref b1), .unset]) rfl ?_
    show Steps p.tables e below (T2.setTop (mkF m 52 #[.val (.int pi1), .val (.int pi2), .val (.int (1 : Int32)), .val (.int (0 : Int32)), .val (.int (0 : Int32)), .val (.ref b1), .unset] [])) _
    refine XS.iloadN X2.here hx rfl (hb hby at_52) rfl ?_
    show Steps p.tables e below (T2.setTop (mkF m 53 #[.val (.int pi1), .val (.int pi2), .val (.int (1 : Int32)), .val (.int (0 : Int32)), .val (.int (0 : Int32)), .val (.ref b1), .unset] [(.int pi1)])) _
    refine XS.iconst X2.here hx rfl (hb hby at_53) ?_
    show Steps p.tables e below (T2.setTop (mkF m 54 #[.val (.int pi1), .val (.int pi2), .val (.int (1 : Int32)), .val (.int (0 : Int32)), .val (.int (0 : Int32)), .val (.ref b1), .unset] [(.int (3 : Int32)), (.int pi1)])) _
    refine XS.iand X2.here hx rfl (hb hby at_54) rfl ?_
    show Steps p.tables e below (T2.setTop (mkF m 55 #[.val (.int pi1), .val (.int pi2), .val (.int (1 : Int32)), .val (.int (0 : Int32)), .val (.int (0 : Int32)), .val (.ref b1), .unset] [(.int (pi1 &&& (3 : Int32)))])) _
    refine XS.ifYes X2.here hx rfl (pc0 := 55) (pc' := 67) rfl (hb hby at_55) rfl ((if0 _ _).trans (feq (own_n1 hc3_0)).2) (by decide) (by decide) ?_
    show Steps p.tables e below (T2.setTop (mkF m 67 #[.val (.int pi1), .val (.int pi2), .val (.int (1 : Int32)), .val (.int (0 : Int32)), .val (.int (0 : Int32)), .val (.ref b1), .unset] [])) _
    refine XS.iconst X2.here hx rfl (hb hby at_67) ?_
    show Steps p.tables e below (T2.setTop (mkF m 68 #[.val (.int pi1), .val (.int pi2), .val (.int (1 : Int32)), .val (.int (0 : Int32)), .val (.int (0 : Int32)), .val (.ref b1), .unset] [(.int (0 : Int32))])) _
    refine XS.istore X2.here hx rfl (hb hby at_68) rfl (l' := #[.val (.int pi1), .val (.int pi2), .val (.int (1 : Int32)), .val (.int (0 : Int32)), .val (.int (0 : Int32)), .val (.ref b1), .val (.int (0 : Int32))]) rfl ?_
    show Steps p.tables e below (T2.setTop (mkF m 70 #[.val (.int pi1), .val (.int pi2), .val (.int (1 : Int32)), .val (.int (0 : Int32)), .val (.int (0 : Int32)), .val (.ref b1), .val (.int (0 : Int32))] [])) _
    refine XS.aload X2.here hx rfl (hb hby at_70) rfl rfl ?_
    show Steps p.tables e below (T2.setTop (mkF m 72 #[.val (.int pi1), .val (.int pi2), .val (.int (1 : Int32)), .val (.int (0 : Int32)), .val (.int (0 : Int32)), .val (.ref b1), .val (.int (0 : Int32))] [(.ref b1)])) _
    refine st5.trans ?_
    show Steps p.tables e below (T5.setTop (mkF m 75 #[.val (.int pi1), .val (.int pi2), .val (.int (1 : Int32)), .val (.int (0 : Int32)), .val (.int (0 : Int32)), .val (.ref b1), .val (.int (0 : Int32))] [(.int (0 : Int32))])) _
    refine XS.iload X5.here hx rfl (hb hby at_75) rfl ?_
    show Steps p.tables e below (T5.setTop (mkF m 77 #[.val (.int pi1), .val (.int pi2), .val (.int (1 : Int32)), .val (.int (0 : Int32)), .val (.int (0 : Int32)), .val (.ref b1), .val (.int (0 : Int32))] [(.int (0 : Int32)), (.int (0 : Int32))])) _
    refine XS.icmpNo X5.here hx rfl (hb hby at_77) rfl (teq (rfl : (0 : Int32) = (0 : Int32))).2 ?_
    show Steps p.tables e below (T5.setTop (mkF m 80 #[.val (.int pi1), .val (.int pi2), .val (.int (1 : Int32)), .val (.int (0 : Int32)), .val (.int (0 : Int32)), .val (.ref b1), .val (.int (0 : Int32))] [])) _
    refine XS.aload X5.here hx rfl (hb hby at_80) rfl rfl ?_
    show Steps p.tables e below (T5.setTop (mkF m 82 #[.val (.int pi1), .val (.int pi2), .val (.int (1 : Int32)), .val (.int (0 : Int32)), .val (.int (0 : Int32)), .val (.ref b1), .val (.int (0 : Int32))] [(.ref b1)])) _
    refine st8.trans ?_
    show Steps p.tables e below (T8.setTop (mkF m 85 #[.val (.int pi1), .val (.int pi2), .val (.int (1 : Int32)), .val (.int (0 : Int32)), .val (.int (0 : Int32)), .val (.ref b1), .val (.int (0 : Int32))] [(.int (1 : Int32))])) _
    refine XS.iloadN X8.here hx rfl (hb hby at_85) rfl ?_
    show Steps p.tables e below (T8.setTop (mkF m 86 #[.val (.int pi1), .val (.int pi2), .val (.int (1 : Int32)), .val (.int (0 : Int32)), .val (.int (0 : Int32)), .val (.ref b1), .val (.int (0 : Int32))] [(.int (1 : Int32)), (.int (1 : Int32))])) _
    refine XS.icmpNo X8.here hx rfl (hb hby at_86) rfl (teq (rfl : (1 : Int32) = (1 : Int32))).2 ?_
    show Steps p.tables e below (T8.setTop (mkF m 89 #[.val (.int pi1), .val (.int pi2), .val (.int (1 : Int32)), .val (.int (0 : Int32)), .val (.int (0 : Int32)), .val (.ref b1), .val (.int (0 : Int32))] [])) _
    refine XS.aload X8.here hx rfl (hb hby at_89) rfl rfl ?_
    show Steps p.tables e below (T8.setTop (mkF m 91 #[.val (.int pi1), .val (.int pi2), .val (.int (1 : Int32)), .val (.int (0 : Int32)), .val (.int (0 : Int32)), .val (.ref b1), .val (.int (0 : Int32))] [(.ref b1)])) _
    refine st9.trans ?_
    show Steps p.tables e below (T9.setTop (mkF m 94 #[.val (.int pi1), .val (.int pi2), .val (.int (1 : Int32)), .val (.int (0 : Int32)), .val (.int (0 : Int32)), .val (.ref b1), .val (.int (0 : Int32))] [(.int (0 : Int32))])) _
    refine XS.iloadN X9.here hx rfl (hb hby at_94) rfl ?_
    show Steps p.tables e below (T9.setTop (mkF m 95 #[.val (.int pi1), .val (.int pi2), .val (.int (1 : Int32)), .val (.int (0 : Int32)), .val (.int (0 : Int32)), .val (.ref b1), .val (.int (0 : Int32))] [(.int (0 : Int32)), (.int (0 : Int32))])) _
    refine XS.icmpNo X9.here hx rfl (hb hby at_95) rfl (teq (rfl : (0 : Int32) = (0 : Int32))).2 ?_
    show Steps p.tables e below (T9.setTop (mkF m 98 #[.val (.int pi1), .val (.int pi2), .val (.int (1 : Int32)), .val (.int (0 : Int32)), .val (.int (0 : Int32)), .val (.ref b1), .val (.int (0 : Int32))] [])) _
    refine XS.aload X9.here hx rfl (hb hby at_98) rfl rfl ?_
    show Steps p.tables e below (T9.setTop (mkF m 100 #[.val (.int pi1), .val (.int pi2), .val (.int (1 : Int32)), .val (.int (0 : Int32)), .val (.int (0 : Int32)), .val (.ref b1), .val (.int (0 : Int32))] [(.ref b1)])) _
    refine st10.trans ?_
    show Steps p.tables e below (T10.setTop (mkF m 103 #[.val (.int pi1), .val (.int pi2), .val (.int (1 : Int32)), .val (.int (0 : Int32)), .val (.int (0 : Int32)), .val (.ref b1), .val (.int (0 : Int32))] [(.int (0 : Int32))])) _
    refine XS.iload X10.here hx rfl (hb hby at_103) rfl ?_
    show Steps p.tables e below (T10.setTop (mkF m 105 #[.val (.int pi1), .val (.int pi2), .val (.int (1 : Int32)), .val (.int (0 : Int32)), .val (.int (0 : Int32)), .val (.ref b1), .val (.int (0 : Int32))] [(.int (0 : Int32)), (.int (0 : Int32))])) _
    refine XS.icmpNo X10.here hx rfl (hb hby at_105) rfl (teq (rfl : (0 : Int32) = (0 : Int32))).2 ?_
    show Steps p.tables e below (T10.setTop (mkF m 108 #[.val (.int pi1), .val (.int pi2), .val (.int (1 : Int32)), .val (.int (0 : Int32)), .val (.int (0 : Int32)), .val (.ref b1), .val (.int (0 : Int32))] [])) _
    refine XS.iconst X10.here hx rfl (hb hby at_108) ?_
    show Steps p.tables e below (T10.setTop (mkF m 109 #[.val (.int pi1), .val (.int pi2), .val (.int (1 : Int32)), .val (.int (0 : Int32)), .val (.int (0 : Int32)), .val (.ref b1), .val (.int (0 : Int32))] [(.int (1 : Int32))])) _
    refine XS.goto X10.here hx rfl (pc0 := 109) (pc' := 113) rfl (hb hby at_109) (by decide) (by decide) ?_
    show Steps p.tables e below (T10.setTop (mkF m 113 #[.val (.int pi1), .val (.int pi2), .val (.int (1 : Int32)), .val (.int (0 : Int32)), .val (.int (0 : Int32)), .val (.ref b1), .val (.int (0 : Int32))] [(.int (1 : Int32))])) _
    exact retN X10 hx (t := .boolean) Bd.returns (by simp) (hb hby at_113) hr
  · exact ⟨rfl, N10⟩
set_option maxRecDepth 65536 in
set_option maxHeartbeats 40000000 in
theorem rm0_ftf (l : Launch) (Z : State) (a0 : Array Value) (hw : ∀ d ∈ tables_1, d.before a0 Z = true) (ws : List Jvm.Cond) (pi1 : Int32) (pi2 : Int32) (h0 : Heap) (n0 : Nat) (Z0 : n0 ≤ h0.size) (O0 : Old Z n0 h0) (hc3_0 : ¬ ((pi1 &&& (1 : Int32)) = (0 : Int32))) (hc15_1 : (pi1 &&& (2 : Int32)) = (0 : Int32)) (hc27_2 : ¬ ((pi2 &&& (3 : Int32)) = (0 : Int32))) :
    MetFree l x (head1 (Jvm.Cond.code x code maxLocals ret :: ws) room_1) (fun a U => a = #[(.int pi1), (.int pi2)] ∧ Z.Warmed39 U.vm ∧ U.heap = h0) (fun _ _ _ _ _ => True) (fun _ U o U' => ∃ v L, o = .returned v ∧ Q0 v L n0 ∧ FrameEnd U o U' L room_1.cells room_1.slots) := by
  refine MetFree.of_bodySF (plainFor_of_name pn_0) hisR ?_
  intro p e s m args below meth c s₁ Bd hml0 hP hK
  obtain ⟨rfl, hZ, hh⟩ := hP
  have hx := Bd.exec
  have hby := Bd.bytes
  have hml : c.maxLocals = 7 := hml0
  have hown : s.vm.findClass "com/example/linkstride/linkstride/engine/CompletenessCompletePinLaw" = some m.cls := findClass_of_methodNamed Bd.named
  have hnm := (name_of_methodNamed Bd.named Bd.method).1
  have X0 : Stand p l e room_1 s m #[(.int pi1), (.int pi2)] below meth c s₁ [] 0 0 := Stand.of_body Bd
  have e0 : s₁.heap = h0 := by rw [← hh, Bd.state]; rfl
  have N0 := Fr.nil n0
  have pre0 : ∀ t, Steps p.tables e below (s₁.setTop (mkF m 0 #[.val (.int pi1), .val (.int pi2), .unset, .unset, .unset, .unset, .unset] [])) t → Steps p.tables e below (s₁.setTop (entryFrame m #[(.int pi1), (.int pi2)] maxLocals)) t := fun t k => castTop (ef_0 m pi1 pi2) k
  obtain ⟨T1, h1, X1, e1, E1, A1, D1, -, st1⟩ := newO X0 hx hZ hown (hw _ (List.mem_of_getElem? (i := 0) rfl)) (hw _ (List.mem_of_getElem? (i := 1) rfl)) (hw _ (List.mem_of_getElem? (i := 2) rfl)) e0 (g := (mkF m 39 #[.val (.int pi1), .val (.int pi2), .val (.int (1 : Int32)), .val (.int (0 : Int32)), .val (.int ((pi2.toUInt32 >>> ((2 : Int32) &&& 31).toUInt32).toInt32)), .unset, .unset] [])) rfl (hb hby at_39) (by decide) (by decide)
  obtain ⟨b1, g1⟩ : ∃ z, z = h0.size := ⟨_, rfl⟩
  rw [← g1] at A1 D1 st1
  have F_budgetReached_b1 : Fld Z h1 b1 "com/example/linkstride/linkstride/engine/Completeness" "budgetReached" "Z" (.int (0 : Int32)) := D1 (Or.inr (hw _ (List.mem_of_getElem? (i := 15) rfl))) (ty := .boolean) (by decide)
  have F_lookupLimitReached_b1 : Fld Z h1 b1 "com/example/linkstride/linkstride/engine/Completeness" "lookupLimitReached" "Z" (.int (0 : Int32)) := D1 (Or.inr (hw _ (List.mem_of_getElem? (i := 17) rfl))) (ty := .boolean) (by decide)
  have F_lookupsCut_b1 : Fld Z h1 b1 "com/example/linkstride/linkstride/engine/Completeness" "lookupsCut" "I" (.int (0 : Int32)) := D1 (Or.inr (hw _ (List.mem_of_getElem? (i := 19) rfl))) (ty := .int) (by decide)
  have g_b1 : n0 ≤ b1 := Nat.le_trans Z0 (Nat.le_of_eq g1.symm)
  have z3 := Nat.le_trans Z0 E1.1
  have o4 := O0.ext E1
  obtain ⟨_, _, ⟨T2, L2, k2, n2⟩, -, X2, ⟨Lc2, hQ2, l2, y2, z2⟩, st2⟩ := X1.specialBack hx (y := (⟨"com/example/linkstride/linkstride/engine/Completeness", "<init>", "(ZZI)V"⟩ : MethodName)) rfl hown (mvT hZ (hw _ (List.mem_of_getElem? (i := 3) rfl))) (mvT hZ (hw _ (List.mem_of_getElem? (i := 4) rfl))) (mvT hZ (hw _ (List.mem_of_getElem? (i := 5) rfl))) (by decide) (backOf (W := 1) (rm1 l Z a0 hw [] b1 (1 : Int32) (0 : Int32) ((pi2.toUInt32 >>> ((2 : Int32) &&& 31).toUInt32).toInt32) (.int (0 : Int32)) (.int (0 : Int32)) (.int (0 : Int32)) h1 n0 z3 o4 A1 F_budgetReached_b1 g_b1 F_lookupLimitReached_b1 F_lookupsCut_b1) hZ (hw _ (List.mem_of_getElem? (i := 5) rfl)) (hw _ (List.mem_of_getElem? (i := 2) rfl)) (by decide) (by decide)) (g := (mkF m 47 #[.val (.int pi1), .val (.int pi2), .val (.int (1 : Int32)), .val (.int (0 : Int32)), .val (.int ((pi2.toUInt32 >>> ((2 : Int32) &&& 31).toUInt32).toInt32)), .unset, .unset] [(.int ((pi2.toUInt32 >>> ((2 : Int32) &&& 31).toUInt32).toInt32)), (.int (0 : Int32)), (.int (1 : Int32)), (.ref b1), (.ref b1)])) rfl (by rw [hml]; rfl) (Steps.refl _) (a := b1) (argsL := [(.int (1 : Int32)), (.int (0 : Int32)), (.int ((pi2.toUInt32 >>> ((2 : Int32) &&& 31).toUInt32).toInt32))]) (rest := [(.ref b1)]) (lenOf pd_0 rfl) rfl (by show 2 * 0 + _ ≤ _; exact Nat.le_of_eq rfl) (hb hby at_47) (fun _ _ => ⟨rfl, e1, (by decide : 1 + 0 ≤ _), (by decide : 3 + 0 ≤ _)⟩)
  dsimp only [Pt.U, Pt.locs, Pt.cells, Pt.slots] at X2 l2 y2 z2 st2 hQ2
  subst l2 y2 z2
  obtain ⟨rfl, N2q, K2, qf2_0, qf2_1, qf2_2, qf2_3⟩ := hQ2
  have N2 := Fr.app N0 N2q
  have z6 := Nat.le_trans z3 K2.1
  have o7 := o4.keep K2 (allS g_b1 all0)
  obtain ⟨cq5, kq5, q5a, q5b, q5c⟩ := isOf hZ rfl qf2_0
  obtain ⟨_, _, ⟨T5, L5, k5, n5⟩, -, X5, ⟨Lc5, hQ5, l5, y5, z5⟩, st5⟩ := X2.virtualBack hx (y := (⟨"com/example/linkstride/linkstride/engine/Completeness", "complete", "()Z"⟩ : MethodName)) (z := (⟨"com/example/linkstride/linkstride/engine/Completeness", "complete", "()Z"⟩ : MethodName)) hown (mvT hZ (hw _ (List.mem_of_getElem? (i := 20) rfl))) (mvT hZ (hw _ (List.mem_of_getElem? (i := 21) rfl))) (notFace_of_selects (args := #[]) (mvT hZ (hw _ (List.mem_of_getElem? (i := 23) rfl)))) (mvT hZ (hw _ (List.mem_of_getElem? (i := 23) rfl))) (mvT hZ (hw _ (List.mem_of_getElem? (i := 22) rfl))) (by decide) (backOf (W := 0) (rm4_f l Z a0 hw [] b1 (1 : Int32) T2.heap n0 z6 o7 qf2_1 (by decide)) hZ (hw _ (List.mem_of_getElem? (i := 24) rfl)) (hw _ (List.mem_of_getElem? (i := 2) rfl)) (by decide) (by decide)) q5a q5c (g := (mkF m 72 #[.val (.int pi1), .val (.int pi2), .val (.int (1 : Int32)), .val (.int (0 : Int32)), .val (.int ((pi2.toUInt32 >>> ((2 : Int32) &&& 31).toUInt32).toInt32)), .val (.ref b1), .val (.int (0 : Int32))] [(.ref b1)])) rfl (by rw [hml]; rfl) (Steps.refl _) (argsL := []) (rest := []) (lenOf pd_2 rfl) rfl (by show 2 * 0 + _ ≤ _; exact Nat.le_of_eq rfl) (hb hby at_72) (fun _ _ => ⟨rfl, rfl, (by decide : 1 + 0 ≤ _), (by decide : 3 + 0 ≤ _)⟩)
  dsimp only [Pt.U, Pt.locs, Pt.cells, Pt.slots] at X5 l5 y5 z5 st5 hQ5
  subst l5 y5 z5
  obtain ⟨rfl, N5q, eq5⟩ := hQ5
  have N5 := Fr.app N2 N5q
  obtain ⟨cq8, kq8, q8a, q8b, q8c⟩ := isOf hZ eq5 qf2_0
  obtain ⟨_, _, ⟨T8, L8, k8, n8⟩, -, X8, ⟨Lc8, hQ8, l8, y8, z8⟩, st8⟩ := X5.virtualBack hx (y := (⟨"com/example/linkstride/linkstride/engine/Completeness", "budgetReached", "()Z"⟩ : MethodName)) (z := (⟨"com/example/linkstride/linkstride/engine/Completeness", "budgetReached", "()Z"⟩ : MethodName)) hown (mvT hZ (hw _ (List.mem_of_getElem? (i := 25) rfl))) (mvT hZ (hw _ (List.mem_of_getElem? (i := 26) rfl))) (notFace_of_selects (args := #[]) (mvT hZ (hw _ (List.mem_of_getElem? (i := 28) rfl)))) (mvT hZ (hw _ (List.mem_of_getElem? (i := 28) rfl))) (mvT hZ (hw _ (List.mem_of_getElem? (i := 27) rfl))) (by decide) (backOf (W := 0) (rm5 l Z a0 hw [] b1 (1 : Int32) T2.heap n0 z6 o7 qf2_1) hZ (hw _ (List.mem_of_getElem? (i := 29) rfl)) (hw _ (List.mem_of_getElem? (i := 2) rfl)) (by decide) (by decide)) q8a q8c (g := (mkF m 82 #[.val (.int pi1), .val (.int pi2), .val (.int (1 : Int32)), .val (.int (0 : Int32)), .val (.int ((pi2.toUInt32 >>> ((2 : Int32) &&& 31).toUInt32).toInt32)), .val (.ref b1), .val (.int (0 : Int32))] [(.ref b1)])) rfl (by rw [hml]; rfl) (Steps.refl _) (argsL := []) (rest := []) (lenOf pd_2 rfl) rfl (by show 2 * 0 + _ ≤ _; exact Nat.le_of_eq rfl) (hb hby at_82) (fun _ _ => ⟨rfl, eq5, (by decide : 1 + 0 ≤ _), (by decide : 3 + 0 ≤ _)⟩)
  dsimp only [Pt.U, Pt.locs, Pt.cells, Pt.slots] at X8 l8 y8 z8 st8 hQ8
  subst l8 y8 z8
  obtain ⟨rfl, N8q, eq8⟩ := hQ8
  have N8 := Fr.app N5 N8q
  obtain ⟨cq9, kq9, q9a, q9b, q9c⟩ := isOf hZ eq8 qf2_0
  obtain ⟨_, _, ⟨T9, L9, k9, n9⟩, -, X9, ⟨Lc9, hQ9, l9, y9, z9⟩, st9⟩ := X8.virtualBack hx (y := (⟨"com/example/linkstride/linkstride/engine/Completeness", "lookupLimitReached", "()Z"⟩ : MethodName)) (z := (⟨"com/example/linkstride/linkstride/engine/Completeness", "lookupLimitReached", "()Z"⟩ : MethodName)) hown (mvT hZ (hw _ (List.mem_of_getElem? (i := 30) rfl))) (mvT hZ (hw _ (List.mem_of_getElem? (i := 31) rfl))) (notFace_of_selects (args := #[]) (mvT hZ (hw _ (List.mem_of_getElem? (i := 33) rfl)))) (mvT hZ (hw _ (List.mem_of_getElem? (i := 33) rfl))) (mvT hZ (hw _ (List.mem_of_getElem? (i := 32) rfl))) (by decide) (backOf (W := 0) (rm6 l Z a0 hw [] b1 (0 : Int32) T2.heap n0 z6 o7 qf2_2) hZ (hw _ (List.mem_of_getElem? (i := 34) rfl)) (hw _ (List.mem_of_getElem? (i := 2) rfl)) (by decide) (by decide)) q9a q9c (g := (mkF m 91 #[.val (.int pi1), .val (.int pi2), .val (.int (1 : Int32)), .val (.int (0 : Int32)), .val (.int ((pi2.toUInt32 >>> ((2 : Int32) &&& 31).toUInt32).toInt32)), .val (.ref b1), .val (.int (0 : Int32))] [(.ref b1)])) rfl (by rw [hml]; rfl) (Steps.refl _) (argsL := []) (rest := []) (lenOf pd_2 rfl) rfl (by show 2 * 0 + _ ≤ _; exact Nat.le_of_eq rfl) (hb hby at_91) (fun _ _ => ⟨rfl, eq8, (by decide : 1 + 0 ≤ _), (by decide : 3 + 0 ≤ _)⟩)
  dsimp only [Pt.U, Pt.locs, Pt.cells, Pt.slots] at X9 l9 y9 z9 st9 hQ9
  subst l9 y9 z9
  obtain ⟨rfl, N9q, eq9⟩ := hQ9
  have N9 := Fr.app N8 N9q
  obtain ⟨cq10, kq10, q10a, q10b, q10c⟩ := isOf hZ eq9 qf2_0
  obtain ⟨_, _, ⟨T10, L10, k10, n10⟩, -, X10, ⟨Lc10, hQ10, l10, y10, z10⟩, st10⟩ := X9.virtualBack hx (y := (⟨"com/example/linkstride/linkstride/engine/Completeness", "lookupsCut", "()I"⟩ : MethodName)) (z := (⟨"com/example/linkstride/linkstride/engine/Completeness", "lookupsCut", "()I"⟩ : MethodName)) hown (mvT hZ (hw _ (List.mem_of_getElem? (i := 35) rfl))) (mvT hZ (hw _ (List.mem_of_getElem? (i := 36) rfl))) (notFace_of_selects (args := #[]) (mvT hZ (hw _ (List.mem_of_getElem? (i := 38) rfl)))) (mvT hZ (hw _ (List.mem_of_getElem? (i := 38) rfl))) (mvT hZ (hw _ (List.mem_of_getElem? (i := 37) rfl))) (by decide) (backOf (W := 0) (rm7 l Z a0 hw [] b1 ((pi2.toUInt32 >>> ((2 : Int32) &&& 31).toUInt32).toInt32) T2.heap n0 z6 o7 qf2_3) hZ (hw _ (List.mem_of_getElem? (i := 39) rfl)) (hw _ (List.mem_of_getElem? (i := 2) rfl)) (by decide) (by decide)) q10a q10c (g := (mkF m 100 #[.val (.int pi1), .val (.int pi2), .val (.int (1 : Int32)), .val (.int (0 : Int32)), .val (.int ((pi2.toUInt32 >>> ((2 : Int32) &&& 31).toUInt32).toInt32)), .val (.ref b1), .val (.int (0 : Int32))] [(.ref b1)])) rfl (by rw [hml]; rfl) (Steps.refl _) (argsL := []) (rest := []) (lenOf pd_3 rfl) rfl (by show 2 * 0 + _ ≤ _; exact Nat.le_of_eq rfl) (hb hby at_100) (fun _ _ => ⟨rfl, eq9, (by decide : 1 + 0 ≤ _), (by decide : 3 + 0 ≤ _)⟩)
  dsimp only [Pt.U, Pt.locs, Pt.cells, Pt.slots] at X10 l10 y10 z10 st10 hQ10
  subst l10 y10 z10
  obtain ⟨rfl, N10q, eq10⟩ := hQ10
  have N10 := Fr.app N9 N10q
  obtain ⟨fs, hr, hrun, hended, hW, hsame⟩ := X10.leave (v := some (.int (1 : Int32))) (fun h => by rw [Bd.returns] at h; cases h)
  refine ⟨_, _, pre0 _ ?_, hrun, hended, _, _, rfl, ?_, ⟨_, rfl⟩, hW, hsame.mono (by decide) (by decide)⟩
  · show Steps p.tables e below (s₁.setTop (mkF m 0 #[.val (.int pi1), .val (.int pi2), .unset, .unset, .unset, .unset, .unset] [])) _
    refine XS.iloadN X0.here hx rfl (hb hby at_0) rfl ?_
    show Steps p.tables e below (s₁.setTop (mkF m 1 #[.val (.int pi1), .val (.int pi2), .unset, .unset, .unset, .unset, .unset] [(.int pi1)])) _
    refine XS.iconst X0.here hx rfl (hb hby at_1) ?_
    show Steps p.tables e below (s₁.setTop (mkF m 2 #[.val (.int pi1), .val (.int pi2), .unset, .unset, .unset, .unset, .unset] [(.int (1 : Int32)), (.int pi1)])) _
    refine XS.iand X0.here hx rfl (hb hby at_2) rfl ?_
    show Steps p.tables e below (s₁.setTop (mkF m 3 #[.val (.int pi1), .val (.int pi2), .unset, .unset, .unset, .unset, .unset] [(.int (pi1 &&& (1 : Int32)))])) _
    refine XS.ifNo X0.here hx rfl (hb hby at_3) rfl ((if0 _ _).trans (feq hc3_0).1) ?_
    show Steps p.tables e below (s₁.setTop (mkF m 6 #[.val (.int pi1), .val (.int pi2), .unset, .unset, .unset, .unset, .unset] [])) _
    refine XS.iconst X0.here hx rfl (hb hby at_6) ?_
    show Steps p.tables e below (s₁.setTop (mkF m 7 #[.val (.int pi1), .val (.int pi2), .unset, .unset, .unset, .unset, .unset] [(.int (1 : Int32))])) _
    refine XS.goto X0.here hx rfl (pc0 := 7) (pc' := 11) rfl (hb hby at_7) (by decide) (by decide) ?_
    show Steps p.tables e below (s₁.setTop (mkF m 11 #[.val (.int pi1), .val (.int pi2), .unset, .unset, .unset, .unset, .unset] [(.int (1 : Int32))])) _
    refine XS.istoreN X0.here hx rfl (hb hby at_11) rfl (l' := #[.val (.int pi1), .val (.int pi2), .val (.int (1 : Int32)), .unset, .unset, .unset, .unset]) rfl ?_
    show Steps p.tables e below (s₁.setTop (mkF m 12 #[.val (.int pi1), .val (.int pi2), .val (.int (1 : Int32)), .unset, .unset, .unset, .unset] [])) _
    refine XS.iloadN X0.here hx rfl (hb hby at_12) rfl ?_
    show Steps p.tables e below (s₁.setTop (mkF m 13 #[.val (.int pi1), .val (.int pi2), .val (.int (1 : Int32)), .unset, .unset, .unset, .unset] [(.int pi1)])) _
    refine XS.iconst X0.here hx rfl (hb hby at_13) ?_
    show Steps p.tables e below (s₁.setTop (mkF m 14 #[.val (.int pi1), .val (.int pi2), .val (.int (1 : Int32)), .unset, .unset, .unset, .unset] [(.int (2 : Int32)), (.int pi1)])) _
    refine XS.iand X0.here hx rfl (hb hby at_14) rfl ?_
    show Steps p.tables e below (s₁.setTop (mkF m 15 #[.val (.int pi1), .val (.int pi2), .val (.int (1 : Int32)), .unset, .unset, .unset, .unset] [(.int (pi1 &&& (2 : Int32)))])) _
    refine XS.ifYes X0.here hx rfl (pc0 := 15) (pc' := 22) rfl (hb hby at_15) rfl ((if0 _ _).trans (teq hc15_1).1) (by decide) (by decide) ?_
    show Steps p.tables e below (s₁.setTop (mkF m 22 #[.val (.int pi1), .val (.int pi2), .val (.int (1 : Int32)), .unset, .unset, .unset, .unset] [])) _
    refine XS.iconst X0.here hx rfl (hb hby at_22) ?_
    show Steps p.tables e below (s₁.setTop (mkF m 23 #[.val (.int pi1), .val (.int pi2), .val (.int (1 : Int32)), .unset, .unset, .unset, .unset] [(.int (0 : Int32))])) _
    refine XS.istoreN X0.here hx rfl (hb hby at_23) rfl (l' := #[.val (.int pi1), .val (.int pi2), .val (.int (1 : Int32)), .val (.int (0 : Int32)), .unset, .unset, .unset]) rfl ?_
    show Steps p.tables e below (s₁.setTop (mkF m 24 #[.val (.int pi1), .val (.int pi2), .val (.int (1 : Int32)), .val (.int (0 : Int32)), .unset, .unset, .unset] [])) _
    refine XS.iloadN X0.here hx rfl (hb hby at_24) rfl ?_
    show Steps p.tables e below (s₁.setTop (mkF m 25 #[.val (.int pi1), .val (.int pi2), .val (.int (1 : Int32)), .val (.int (0 : Int32)), .unset, .unset, .unset] [(.int pi2)])) _
    refine XS.iconst X0.here hx rfl (hb hby at_25) ?_
    show Steps p.tables e below (s₁.setTop (mkF m 26 #[.val (.int pi1), .val (.int pi2), .val (.int (1 : Int32)), .val (.int (0 : Int32)), .unset, .unset, .unset] [(.int (3 : Int32)), (.int pi2)])) _
    refine XS.iand X0.here hx rfl (hb hby at_26) rfl ?_
    show Steps p.tables e below (s₁.setTop (mkF m 27 #[.val (.int pi1), .val (.int pi2), .val (.int (1 : Int32)), .val (.int (0 : Int32)), .unset, .unset, .unset] [(.int (pi2 &&& (3 : Int32)))])) _
    refine XS.ifYes X0.here hx rfl (pc0 := 27) (pc' := 34) rfl (hb hby at_27) rfl ((if0 _ _).trans (feq hc27_2).2) (by decide) (by decide) ?_
    show Steps p.tables e below (s₁.setTop (mkF m 34 #[.val (.int pi1), .val (.int pi2), .val (.int (1 : Int32)), .val (.int (0 : Int32)), .unset, .unset, .unset] [])) _
    refine XS.iloadN X0.here hx rfl (hb hby at_34) rfl ?_
    show Steps p.tables e below (s₁.setTop (mkF m 35 #[.val (.int pi1), .val (.int pi2), .val (.int (1 : Int32)), .val (.int (0 : Int32)), .unset, .unset, .unset] [(.int pi2)])) _
    refine XS.iconst X0.here hx rfl (hb hby at_35) ?_
    show Steps p.tables e below (s₁.setTop (mkF m 36 #[.val (.int pi1), .val (.int pi2), .val (.int (1 : Int32)), .val (.int (0 : Int32)), .unset, .unset, .unset] [(.int (2 : Int32)), (.int pi2)])) _
    refine XS.iushr X0.here hx rfl (hb hby at_36) rfl ?_
    show Steps p.tables e below (s₁.setTop (mkF m 37 #[.val (.int pi1), .val (.int pi2), .val (.int (1 : Int32)), .val (.int (0 : Int32)), .unset, .unset, .unset] [(.int ((pi2.toUInt32 >>> ((2 : Int32) &&& 31).toUInt32).toInt32))])) _
    refine XS.istore X0.here hx rfl (hb hby at_37) rfl (l' := #[.val (.int pi1), .val (.int pi2), .val (.int (1 : Int32)), .val (.int (0 : Int32)), .val (.int ((pi2.toUInt32 >>> ((2 : Int32) &&& 31).toUInt32).toInt32)), .unset, .unset]) rfl ?_
    show Steps p.tables e below (s₁.setTop (mkF m 39 #[.val (.int pi1), .val (.int pi2), .val (.int (1 : Int32)), .val (.int (0 : Int32)), .val (.int ((pi2.toUInt32 >>> ((2 : Int32) &&& 31).toUInt32).toInt32)), .unset, .unset] [])) _
    refine st1 _ ?_
    show Steps p.tables e below (T1.setTop (mkF m 42 #[.val (.int pi1), .val (.int pi2), .val (.int (1 : Int32)), .val (.int (0 : Int32)), .val (.int ((pi2.toUInt32 >>> ((2 : Int32) &&& 31).toUInt32).toInt32)), .unset, .unset] [(.ref b1)])) _
    refine XS.dup X1.here hx rfl (hb hby at_42) rfl rfl ?_
    show Steps p.tables e below (T1.setTop (mkF m 43 #[.val (.int pi1), .val (.int pi2), .val (.int (1 : Int32)), .val (.int (0 : Int32)), .val (.int ((pi2.toUInt32 >>> ((2 : Int32) &&& 31).toUInt32).toInt32)), .unset, .unset] [(.ref b1), (.ref b1)])) _
    refine XS.iloadN X1.here hx rfl (hb hby at_43) rfl ?_
    show Steps p.tables e below (T1.setTop (mkF m 44 #[.val (.int pi1), .val (.int pi2), .val (.int (1 : Int32)), .val (.int (0 : Int32)), .val (.int ((pi2.toUInt32 >>> ((2 : Int32) &&& 31).toUInt32).toInt32)), .unset, .unset] [(.int (1 : Int32)), (.ref b1), (.ref b1)])) _
    refine XS.iloadN X1.here hx rfl (hb hby at_44) rfl ?_
    show Steps p.tables e below (T1.setTop (mkF m 45 #[.val (.int pi1), .val (.int pi2), .val (.int (1 : Int32)), .val (.int (0 : Int32)), .val (.int ((pi2.toUInt32 >>> ((2 : Int32) &&& 31).toUInt32).toInt32)), .unset, .unset] [(.int (0 : Int32)), (.int (1 : Int32)), (.ref b1), (.ref b1)])) _
    refine XS.iload X1.here hx rfl (hb hby at_45) rfl ?_
    show Steps p.tables e below (T1.setTop (mkF m 47 #[.val (.int pi1), .val (.int pi2), .val (.int (1 : Int32)), .val (.int (0 : Int32)), .val (.int ((pi2.toUInt32 >>> ((2 : Int32) &&& 31).toUInt32).toInt32)), .unset, .unset] [(.int ((pi2.toUInt32 >>> ((2 : Int32) &&& 31).toUInt32).toInt32)), (.int (0 : Int32)), (.int (1 : Int32)), (.ref b1), (.ref b1)])) _
    refine st2.trans ?_
    show Steps p.tables e below (T2.setTop (mkF m 50 #[.val (.int pi1), .val (.int pi2), .val (.int (1 : Int32)), .val (.int (0 : Int32)), .val (.int ((pi2.toUInt32 >>> ((2 : Int32) &&& 31).toUInt32).toInt32)), .unset, .unset] [(.ref b1)])) _
    refine XS.astore X2.here hx rfl (hb hby at_50) rfl rfl (l' := #[.val (.int pi1), .val (.int pi2), .val (.int (1 : Int32)), .val (.int (0 : Int32)), .val (.int ((pi2.toUInt32 >>> ((2 : Int32) &&& 31).toUInt32).toInt32)), .val (.ref b1), .unset]) rfl ?_
    show Steps p.tables e below (T2.setTop (mkF m 52 #[.val (.int pi1), .val (.int pi2), .val (.int (1 : Int32)), .val (.int (0 : Int32)), .val (.int ((pi2.toUInt32 >>> ((2 : Int32) &&& 31).toUInt32).toInt32)), .val (.ref b1), .unset] [])) _
    refine XS.iloadN X2.here hx rfl (hb hby at_52) rfl ?_
    show Steps p.tables e below (T2.setTop (mkF m 53 #[.val (.int pi1), .val (.int pi2), .val (.int (1 : Int32)), .val (.int (0 : Int32)), .val (.int ((pi2.toUInt32 >>> ((2 : Int32) &&& 31).toUInt32).toInt32)), .val (.ref b1), .unset] [(.int pi1)])) _
    refine XS.iconst X2.here hx rfl (hb hby at_53) ?_
    show Steps p.tables e below (T2.setTop (mkF m 54 #[.val (.int pi1), .val (.int pi2), .val (.int (1 : Int32)), .val (.int (0 : Int32)), .val (.int ((pi2.toUInt32 >>> ((2 : Int32) &&& 31).toUInt32).toInt32)), .val (.ref b1), .unset] [(.int (3 : Int32)), (.int pi1)])) _
    refine XS.iand X2.here hx rfl (hb hby at_54) rfl ?_
    show Steps p.tables e below (T2.setTop (mkF m 55 #[.val (.int pi1), .val (.int pi2), .val (.int (1 : Int32)), .val (.int (0 : Int32)), .val (.int ((pi2.toUInt32 >>> ((2 : Int32) &&& 31).toUInt32).toInt32)), .val (.ref b1), .unset] [(.int (pi1 &&& (3 : Int32)))])) _
    refine XS.ifYes X2.here hx rfl (pc0 := 55) (pc' := 67) rfl (hb hby at_55) rfl ((if0 _ _).trans (feq (own_n1 hc3_0)).2) (by decide) (by decide) ?_
    show Steps p.tables e below (T2.setTop (mkF m 67 #[.val (.int pi1), .val (.int pi2), .val (.int (1 : Int32)), .val (.int (0 : Int32)), .val (.int ((pi2.toUInt32 >>> ((2 : Int32) &&& 31).toUInt32).toInt32)), .val (.ref b1), .unset] [])) _
    refine XS.iconst X2.here hx rfl (hb hby at_67) ?_
    show Steps p.tables e below (T2.setTop (mkF m 68 #[.val (.int pi1), .val (.int pi2), .val (.int (1 : Int32)), .val (.int (0 : Int32)), .val (.int ((pi2.toUInt32 >>> ((2 : Int32) &&& 31).toUInt32).toInt32)), .val (.ref b1), .unset] [(.int (0 : Int32))])) _
    refine XS.istore X2.here hx rfl (hb hby at_68) rfl (l' := #[.val (.int pi1), .val (.int pi2), .val (.int (1 : Int32)), .val (.int (0 : Int32)), .val (.int ((pi2.toUInt32 >>> ((2 : Int32) &&& 31).toUInt32).toInt32)), .val (.ref b1), .val (.int (0 : Int32))]) rfl ?_
    show Steps p.tables e below (T2.setTop (mkF m 70 #[.val (.int pi1), .val (.int pi2), .val (.int (1 : Int32)), .val (.int (0 : Int32)), .val (.int ((pi2.toUInt32 >>> ((2 : Int32) &&& 31).toUInt32).toInt32)), .val (.ref b1), .val (.int (0 : Int32))] [])) _
    refine XS.aload X2.here hx rfl (hb hby at_70) rfl rfl ?_
    show Steps p.tables e below (T2.setTop (mkF m 72 #[.val (.int pi1), .val (.int pi2), .val (.int (1 : Int32)), .val (.int (0 : Int32)), .val (.int ((pi2.toUInt32 >>> ((2 : Int32) &&& 31).toUInt32).toInt32)), .val (.ref b1), .val (.int (0 : Int32))] [(.ref b1)])) _
    refine st5.trans ?_
    show Steps p.tables e below (T5.setTop (mkF m 75 #[.val (.int pi1), .val (.int pi2), .val (.int (1 : Int32)), .val (.int (0 : Int32)), .val (.int ((pi2.toUInt32 >>> ((2 : Int32) &&& 31).toUInt32).toInt32)), .val (.ref b1), .val (.int (0 : Int32))] [(.int (0 : Int32))])) _
    refine XS.iload X5.here hx rfl (hb hby at_75) rfl ?_
    show Steps p.tables e below (T5.setTop (mkF m 77 #[.val (.int pi1), .val (.int pi2), .val (.int (1 : Int32)), .val (.int (0 : Int32)), .val (.int ((pi2.toUInt32 >>> ((2 : Int32) &&& 31).toUInt32).toInt32)), .val (.ref b1), .val (.int (0 : Int32))] [(.int (0 : Int32)), (.int (0 : Int32))])) _
    refine XS.icmpNo X5.here hx rfl (hb hby at_77) rfl (teq (rfl : (0 : Int32) = (0 : Int32))).2 ?_
    show Steps p.tables e below (T5.setTop (mkF m 80 #[.val (.int pi1), .val (.int pi2), .val (.int (1 : Int32)), .val (.int (0 : Int32)), .val (.int ((pi2.toUInt32 >>> ((2 : Int32) &&& 31).toUInt32).toInt32)), .val (.ref b1), .val (.int (0 : Int32))] [])) _
    refine XS.aload X5.here hx rfl (hb hby at_80) rfl rfl ?_
    show Steps p.tables e below (T5.setTop (mkF m 82 #[.val (.int pi1), .val (.int pi2), .val (.int (1 : Int32)), .val (.int (0 : Int32)), .val (.int ((pi2.toUInt32 >>> ((2 : Int32) &&& 31).toUInt32).toInt32)), .val (.ref b1), .val (.int (0 : Int32))] [(.ref b1)])) _
    refine st8.trans ?_
    show Steps p.tables e below (T8.setTop (mkF m 85 #[.val (.int pi1), .val (.int pi2), .val (.int (1 : Int32)), .val (.int (0 : Int32)), .val (.int ((pi2.toUInt32 >>> ((2 : Int32) &&& 31).toUInt32).toInt32)), .val (.ref b1), .val (.int (0 : Int32))] [(.int (1 : Int32))])) _
    refine XS.iloadN X8.here hx rfl (hb hby at_85) rfl ?_
    show Steps p.tables e below (T8.setTop (mkF m 86 #[.val (.int pi1), .val (.int pi2), .val (.int (1 : Int32)), .val (.int (0 : Int32)), .val (.int ((pi2.toUInt32 >>> ((2 : Int32) &&& 31).toUInt32).toInt32)), .val (.ref b1), .val (.int (0 : Int32))] [(.int (1 : Int32)), (.int (1 : Int32))])) _
    refine XS.icmpNo X8.here hx rfl (hb hby at_86) rfl (teq (rfl : (1 : Int32) = (1 : Int32))).2 ?_
    show Steps p.tables e below (T8.setTop (mkF m 89 #[.val (.int pi1), .val (.int pi2), .val (.int (1 : Int32)), .val (.int (0 : Int32)), .val (.int ((pi2.toUInt32 >>> ((2 : Int32) &&& 31).toUInt32).toInt32)), .val (.ref b1), .val (.int (0 : Int32))] [])) _
    refine XS.aload X8.here hx rfl (hb hby at_89) rfl rfl ?_
    show Steps p.tables e below (T8.setTop (mkF m 91 #[.val (.int pi1), .val (.int pi2), .val (.int (1 : Int32)), .val (.int (0 : Int32)), .val (.int ((pi2.toUInt32 >>> ((2 : Int32) &&& 31).toUInt32).toInt32)), .val (.ref b1), .val (.int (0 : Int32))] [(.ref b1)])) _
    refine st9.trans ?_
    show Steps p.tables e below (T9.setTop (mkF m 94 #[.val (.int pi1), .val (.int pi2), .val (.int (1 : Int32)), .val (.int (0 : Int32)), .val (.int ((pi2.toUInt32 >>> ((2 : Int32) &&& 31).toUInt32).toInt32)), .val (.ref b1), .val (.int (0 : Int32))] [(.int (0 : Int32))])) _
    refine XS.iloadN X9.here hx rfl (hb hby at_94) rfl ?_
    show Steps p.tables e below (T9.setTop (mkF m 95 #[.val (.int pi1), .val (.int pi2), .val (.int (1 : Int32)), .val (.int (0 : Int32)), .val (.int ((pi2.toUInt32 >>> ((2 : Int32) &&& 31).toUInt32).toInt32)), .val (.ref b1), .val (.int (0 : Int32))] [(.int (0 : Int32)), (.int (0 : Int32))])) _
    refine XS.icmpNo X9.here hx rfl (hb hby at_95) rfl (teq (rfl : (0 : Int32) = (0 : Int32))).2 ?_
    show Steps p.tables e below (T9.setTop (mkF m 98 #[.val (.int pi1), .val (.int pi2), .val (.int (1 : Int32)), .val (.int (0 : Int32)), .val (.int ((pi2.toUInt32 >>> ((2 : Int32) &&& 31).toUInt32).toInt32)), .val (.ref b1), .val (.int (0 : Int32))] [])) _
    refine XS.aload X9.here hx rfl (hb hby at_98) rfl rfl ?_
    show Steps p.tables e below (T9.setTop (mkF m 100 #[.val (.int pi1), .val (.int pi2), .val (.int (1 : Int32)), .val (.int (0 : Int32)), .val (.int ((pi2.toUInt32 >>> ((2 : Int32) &&& 31).toUInt32).toInt32)), .val (.ref b1), .val (.int (0 : Int32))] [(.ref b1)])) _
    refine st10.trans ?_
    show Steps p.tables e below (T10.setTop (mkF m 103 #[.val (.int pi1), .val (.int pi2), .val (.int (1 : Int32)), .val (.int (0 : Int32)), .val (.int ((pi2.toUInt32 >>> ((2 : Int32) &&& 31).toUInt32).toInt32)), .val (.ref b1), .val (.int (0 : Int32))] [(.int ((pi2.toUInt32 >>> ((2 : Int32) &&& 31).toUInt32).toInt32))])) _
    refine XS.iload X10.here hx rfl (hb hby at_103) rfl ?_
    show Steps p.tables e below (T10.setTop (mkF m 105 #[.val (.int pi1), .val (.int pi2), .val (.int (1 : Int32)), .val (.int (0 : Int32)), .val (.int ((pi2.toUInt32 >>> ((2 : Int32) &&& 31).toUInt32).toInt32)), .val (.ref b1), .val (.int (0 : Int32))] [(.int ((pi2.toUInt32 >>> ((2 : Int32) &&& 31).toUInt32).toInt32)), (.int ((pi2.toUInt32 >>> ((2 : Int32) &&& 31).toUInt32).toInt32))])) _
    refine XS.icmpNo X10.here hx rfl (hb hby at_105) rfl (teq (rfl : ((pi2.toUInt32 >>> ((2 : Int32) &&& 31).toUInt32).toInt32) = ((pi2.toUInt32 >>> ((2 : Int32) &&& 31).toUInt32).toInt32))).2 ?_
    show Steps p.tables e below (T10.setTop (mkF m 108 #[.val (.int pi1), .val (.int pi2), .val (.int (1 : Int32)), .val (.int (0 : Int32)), .val (.int ((pi2.toUInt32 >>> ((2 : Int32) &&& 31).toUInt32).toInt32)), .val (.ref b1), .val (.int (0 : Int32))] [])) _
    refine XS.iconst X10.here hx rfl (hb hby at_108) ?_
    show Steps p.tables e below (T10.setTop (mkF m 109 #[.val (.int pi1), .val (.int pi2), .val (.int (1 : Int32)), .val (.int (0 : Int32)), .val (.int ((pi2.toUInt32 >>> ((2 : Int32) &&& 31).toUInt32).toInt32)), .val (.ref b1), .val (.int (0 : Int32))] [(.int (1 : Int32))])) _
    refine XS.goto X10.here hx rfl (pc0 := 109) (pc' := 113) rfl (hb hby at_109) (by decide) (by decide) ?_
    show Steps p.tables e below (T10.setTop (mkF m 113 #[.val (.int pi1), .val (.int pi2), .val (.int (1 : Int32)), .val (.int (0 : Int32)), .val (.int ((pi2.toUInt32 >>> ((2 : Int32) &&& 31).toUInt32).toInt32)), .val (.ref b1), .val (.int (0 : Int32))] [(.int (1 : Int32))])) _
    exact retN X10 hx (t := .boolean) Bd.returns (by simp) (hb hby at_113) hr
  · exact ⟨rfl, N10⟩
set_option maxRecDepth 65536 in
set_option maxHeartbeats 40000000 in
theorem rm0_fft (l : Launch) (Z : State) (a0 : Array Value) (hw : ∀ d ∈ tables_1, d.before a0 Z = true) (ws : List Jvm.Cond) (pi1 : Int32) (pi2 : Int32) (h0 : Heap) (n0 : Nat) (Z0 : n0 ≤ h0.size) (O0 : Old Z n0 h0) (hc3_0 : ¬ ((pi1 &&& (1 : Int32)) = (0 : Int32))) (hc15_1 : ¬ ((pi1 &&& (2 : Int32)) = (0 : Int32))) (hc27_2 : (pi2 &&& (3 : Int32)) = (0 : Int32)) :
    MetFree l x (head1 (Jvm.Cond.code x code maxLocals ret :: ws) room_1) (fun a U => a = #[(.int pi1), (.int pi2)] ∧ Z.Warmed39 U.vm ∧ U.heap = h0) (fun _ _ _ _ _ => True) (fun _ U o U' => ∃ v L, o = .returned v ∧ Q0 v L n0 ∧ FrameEnd U o U' L room_1.cells room_1.slots) := by
  refine MetFree.of_bodySF (plainFor_of_name pn_0) hisR ?_
  intro p e s m args below meth c s₁ Bd hml0 hP hK
  obtain ⟨rfl, hZ, hh⟩ := hP
  have hx := Bd.exec
  have hby := Bd.bytes
  have hml : c.maxLocals = 7 := hml0
  have hown : s.vm.findClass "com/example/linkstride/linkstride/engine/CompletenessCompletePinLaw" = some m.cls := findClass_of_methodNamed Bd.named
  have hnm := (name_of_methodNamed Bd.named Bd.method).1
  have X0 : Stand p l e room_1 s m #[(.int pi1), (.int pi2)] below meth c s₁ [] 0 0 := Stand.of_body Bd
  have e0 : s₁.heap = h0 := by rw [← hh, Bd.state]; rfl
  have N0 := Fr.nil n0
  have pre0 : ∀ t, Steps p.tables e below (s₁.setTop (mkF m 0 #[.val (.int pi1), .val (.int pi2), .unset, .unset, .unset, .unset, .unset] [])) t → Steps p.tables e below (s₁.setTop (entryFrame m #[(.int pi1), (.int pi2)] maxLocals)) t := fun t k => castTop (ef_0 m pi1 pi2) k
  obtain ⟨T1, h1, X1, e1, E1, A1, D1, -, st1⟩ := newO X0 hx hZ hown (hw _ (List.mem_of_getElem? (i := 0) rfl)) (hw _ (List.mem_of_getElem? (i := 1) rfl)) (hw _ (List.mem_of_getElem? (i := 2) rfl)) e0 (g := (mkF m 39 #[.val (.int pi1), .val (.int pi2), .val (.int (1 : Int32)), .val (.int (1 : Int32)), .val (.int (0 : Int32)), .unset, .unset] [])) rfl (hb hby at_39) (by decide) (by decide)
  obtain ⟨b1, g1⟩ : ∃ z, z = h0.size := ⟨_, rfl⟩
  rw [← g1] at A1 D1 st1
  have F_budgetReached_b1 : Fld Z h1 b1 "com/example/linkstride/linkstride/engine/Completeness" "budgetReached" "Z" (.int (0 : Int32)) := D1 (Or.inr (hw _ (List.mem_of_getElem? (i := 15) rfl))) (ty := .boolean) (by decide)
  have F_lookupLimitReached_b1 : Fld Z h1 b1 "com/example/linkstride/linkstride/engine/Completeness" "lookupLimitReached" "Z" (.int (0 : Int32)) := D1 (Or.inr (hw _ (List.mem_of_getElem? (i := 17) rfl))) (ty := .boolean) (by decide)
  have F_lookupsCut_b1 : Fld Z h1 b1 "com/example/linkstride/linkstride/engine/Completeness" "lookupsCut" "I" (.int (0 : Int32)) := D1 (Or.inr (hw _ (List.mem_of_getElem? (i := 19) rfl))) (ty := .int) (by decide)
  have g_b1 : n0 ≤ b1 := Nat.le_trans Z0 (Nat.le_of_eq g1.symm)
  have z3 := Nat.le_trans Z0 E1.1
  have o4 := O0.ext E1
  obtain ⟨_, _, ⟨T2, L2, k2, n2⟩, -, X2, ⟨Lc2, hQ2, l2, y2, z2⟩, st2⟩ := X1.specialBack hx (y := (⟨"com/example/linkstride/linkstride/engine/Completeness", "<init>", "(ZZI)V"⟩ : MethodName)) rfl hown (mvT hZ (hw _ (List.mem_of_getElem? (i := 3) rfl))) (mvT hZ (hw _ (List.mem_of_getElem? (i := 4) rfl))) (mvT hZ (hw _ (List.mem_of_getElem? (i := 5) rfl))) (by decide) (backOf (W := 1) (rm1 l Z a0 hw [] b1 (1 : Int32) (1 : Int32) (0 : Int32) (.int (0 : Int32)) (.int (0 : Int32)) (.int (0 : Int32)) h1 n0 z3 o4 A1 F_budgetReached_b1 g_b1 F_lookupLimitReached_b1 F_lookupsCut_b1) hZ (hw _ (List.mem_of_getElem? (i := 5) rfl)) (hw _ (List.mem_of_getElem? (i := 2) rfl)) (by decide) (by decide)) (g := (mkF m 47 #[.val (.int pi1), .val (.int pi2), .val (.int (1 : Int32)), .val (.int (1 : Int32)), .val (.int (0 : Int32)), .unset, .unset] [(.int (0 : Int32)), (.int (1 : Int32)), (.int (1 : Int32)), (.ref b1), (.ref b1)])) rfl (by rw [hml]; rfl) (Steps.refl _) (a := b1) (argsL := [(.int (1 : Int32)), (.int (1 : Int32)), (.int (0 : Int32))]) (rest := [(.ref b1)]) (lenOf pd_0 rfl) rfl (by show 2 * 0 + _ ≤ _; exact Nat.le_of_eq rfl) (hb hby at_47) (fun _ _ => ⟨rfl, e1, (by decide : 1 + 0 ≤ _), (by decide : 3 + 0 ≤ _)⟩)
  dsimp only [Pt.U, Pt.locs, Pt.cells, Pt.slots] at X2 l2 y2 z2 st2 hQ2
  subst l2 y2 z2
  obtain ⟨rfl, N2q, K2, qf2_0, qf2_1, qf2_2, qf2_3⟩ := hQ2
  have N2 := Fr.app N0 N2q
  have z6 := Nat.le_trans z3 K2.1
  have o7 := o4.keep K2 (allS g_b1 all0)
  obtain ⟨cq5, kq5, q5a, q5b, q5c⟩ := isOf hZ rfl qf2_0
  obtain ⟨_, _, ⟨T5, L5, k5, n5⟩, -, X5, ⟨Lc5, hQ5, l5, y5, z5⟩, st5⟩ := X2.virtualBack hx (y := (⟨"com/example/linkstride/linkstride/engine/Completeness", "complete", "()Z"⟩ : MethodName)) (z := (⟨"com/example/linkstride/linkstride/engine/Completeness", "complete", "()Z"⟩ : MethodName)) hown (mvT hZ (hw _ (List.mem_of_getElem? (i := 20) rfl))) (mvT hZ (hw _ (List.mem_of_getElem? (i := 21) rfl))) (notFace_of_selects (args := #[]) (mvT hZ (hw _ (List.mem_of_getElem? (i := 23) rfl)))) (mvT hZ (hw _ (List.mem_of_getElem? (i := 23) rfl))) (mvT hZ (hw _ (List.mem_of_getElem? (i := 22) rfl))) (by decide) (backOf (W := 0) (rm4_f l Z a0 hw [] b1 (1 : Int32) T2.heap n0 z6 o7 qf2_1 (by decide)) hZ (hw _ (List.mem_of_getElem? (i := 24) rfl)) (hw _ (List.mem_of_getElem? (i := 2) rfl)) (by decide) (by decide)) q5a q5c (g := (mkF m 72 #[.val (.int pi1), .val (.int pi2), .val (.int (1 : Int32)), .val (.int (1 : Int32)), .val (.int (0 : Int32)), .val (.ref b1), .val (.int (0 : Int32))] [(.ref b1)])) rfl (by rw [hml]; rfl) (Steps.refl _) (argsL := []) (rest := []) (lenOf pd_2 rfl) rfl (by show 2 * 0 + _ ≤ _; exact Nat.le_of_eq rfl) (hb hby at_72) (fun _ _ => ⟨rfl, rfl, (by decide : 1 + 0 ≤ _), (by decide : 3 + 0 ≤ _)⟩)
  dsimp only [Pt.U, Pt.locs, Pt.cells, Pt.slots] at X5 l5 y5 z5 st5 hQ5
  subst l5 y5 z5
  obtain ⟨rfl, N5q, eq5⟩ := hQ5
  have N5 := Fr.app N2 N5q
  obtain ⟨cq8, kq8, q8a, q8b, q8c⟩ := isOf hZ eq5 qf2_0
  obtain ⟨_, _, ⟨T8, L8, k8, n8⟩, -, X8, ⟨Lc8, hQ8, l8, y8, z8⟩, st8⟩ := X5.virtualBack hx (y := (⟨"com/example/linkstride/linkstride/engine/Completeness", "budgetReached", "()Z"⟩ : MethodName)) (z := (⟨"com/example/linkstride/linkstride/engine/Completeness", "budgetReached", "()Z"⟩ : MethodName)) hown (mvT hZ (hw _ (List.mem_of_getElem? (i := 25) rfl))) (mvT hZ (hw _ (List.mem_of_getElem? (i := 26) rfl))) (notFace_of_selects (args := #[]) (mvT hZ (hw _ (List.mem_of_getElem? (i := 28) rfl)))) (mvT hZ (hw _ (List.mem_of_getElem? (i := 28) rfl))) (mvT hZ (hw _ (List.mem_of_getElem? (i := 27) rfl))) (by decide) (backOf (W := 0) (rm5 l Z a0 hw [] b1 (1 : Int32) T2.heap n0 z6 o7 qf2_1) hZ (hw _ (List.mem_of_getElem? (i := 29) rfl)) (hw _ (List.mem_of_getElem? (i := 2) rfl)) (by decide) (by decide)) q8a q8c (g := (mkF m 82 #[.val (.int pi1), .val (.int pi2), .val (.int (1 : Int32)), .val (.int (1 : Int32)), .val (.int (0 : Int32)), .val (.ref b1), .val (.int (0 : Int32))] [(.ref b1)])) rfl (by rw [hml]; rfl) (Steps.refl _) (argsL := []) (rest := []) (lenOf pd_2 rfl) rfl (by show 2 * 0 + _ ≤ _; exact Nat.le_of_eq rfl) (hb hby at_82) (fun _ _ => ⟨rfl, eq5, (by decide : 1 + 0 ≤ _), (by decide : 3 + 0 ≤ _)⟩)
  dsimp only [Pt.U, Pt.locs, Pt.cells, Pt.slots] at X8 l8 y8 z8 st8 hQ8
  subst l8 y8 z8
  obtain ⟨rfl, N8q, eq8⟩ := hQ8
  have N8 := Fr.app N5 N8q
  obtain ⟨cq9, kq9, q9a, q9b, q9c⟩ := isOf hZ eq8 qf2_0
  obtain ⟨_, _, ⟨T9, L9, k9, n9⟩, -, X9, ⟨Lc9, hQ9, l9, y9, z9⟩, st9⟩ := X8.virtualBack hx (y := (⟨"com/example/linkstride/linkstride/engine/Completeness", "lookupLimitReached", "()Z"⟩ : MethodName)) (z := (⟨"com/example/linkstride/linkstride/engine/Completeness", "lookupLimitReached", "()Z"⟩ : MethodName)) hown (mvT hZ (hw _ (List.mem_of_getElem? (i := 30) rfl))) (mvT hZ (hw _ (List.mem_of_getElem? (i := 31) rfl))) (notFace_of_selects (args := #[]) (mvT hZ (hw _ (List.mem_of_getElem? (i := 33) rfl)))) (mvT hZ (hw _ (List.mem_of_getElem? (i := 33) rfl))) (mvT hZ (hw _ (List.mem_of_getElem? (i := 32) rfl))) (by decide) (backOf (W := 0) (rm6 l Z a0 hw [] b1 (1 : Int32) T2.heap n0 z6 o7 qf2_2) hZ (hw _ (List.mem_of_getElem? (i := 34) rfl)) (hw _ (List.mem_of_getElem? (i := 2) rfl)) (by decide) (by decide)) q9a q9c (g := (mkF m 91 #[.val (.int pi1), .val (.int pi2), .val (.int (1 : Int32)), .val (.int (1 : Int32)), .val (.int (0 : Int32)), .val (.ref b1), .val (.int (0 : Int32))] [(.ref b1)])) rfl (by rw [hml]; rfl) (Steps.refl _) (argsL := []) (rest := []) (lenOf pd_2 rfl) rfl (by show 2 * 0 + _ ≤ _; exact Nat.le_of_eq rfl) (hb hby at_91) (fun _ _ => ⟨rfl, eq8, (by decide : 1 + 0 ≤ _), (by decide : 3 + 0 ≤ _)⟩)
  dsimp only [Pt.U, Pt.locs, Pt.cells, Pt.slots] at X9 l9 y9 z9 st9 hQ9
  subst l9 y9 z9
  obtain ⟨rfl, N9q, eq9⟩ := hQ9
  have N9 := Fr.app N8 N9q
  obtain ⟨cq10, kq10, q10a, q10b, q10c⟩ := isOf hZ eq9 qf2_0
  obtain ⟨_, _, ⟨T10, L10, k10, n10⟩, -, X10, ⟨Lc10, hQ10, l10, y10, z10⟩, st10⟩ := X9.virtualBack hx (y := (⟨"com/example/linkstride/linkstride/engine/Completeness", "lookupsCut", "()I"⟩ : MethodName)) (z := (⟨"com/example/linkstride/linkstride/engine/Completeness", "lookupsCut", "()I"⟩ : MethodName)) hown (mvT hZ (hw _ (List.mem_of_getElem? (i := 35) rfl))) (mvT hZ (hw _ (List.mem_of_getElem? (i := 36) rfl))) (notFace_of_selects (args := #[]) (mvT hZ (hw _ (List.mem_of_getElem? (i := 38) rfl)))) (mvT hZ (hw _ (List.mem_of_getElem? (i := 38) rfl))) (mvT hZ (hw _ (List.mem_of_getElem? (i := 37) rfl))) (by decide) (backOf (W := 0) (rm7 l Z a0 hw [] b1 (0 : Int32) T2.heap n0 z6 o7 qf2_3) hZ (hw _ (List.mem_of_getElem? (i := 39) rfl)) (hw _ (List.mem_of_getElem? (i := 2) rfl)) (by decide) (by decide)) q10a q10c (g := (mkF m 100 #[.val (.int pi1), .val (.int pi2), .val (.int (1 : Int32)), .val (.int (1 : Int32)), .val (.int (0 : Int32)), .val (.ref b1), .val (.int (0 : Int32))] [(.ref b1)])) rfl (by rw [hml]; rfl) (Steps.refl _) (argsL := []) (rest := []) (lenOf pd_3 rfl) rfl (by show 2 * 0 + _ ≤ _; exact Nat.le_of_eq rfl) (hb hby at_100) (fun _ _ => ⟨rfl, eq9, (by decide : 1 + 0 ≤ _), (by decide : 3 + 0 ≤ _)⟩)
  dsimp only [Pt.U, Pt.locs, Pt.cells, Pt.slots] at X10 l10 y10 z10 st10 hQ10
  subst l10 y10 z10
  obtain ⟨rfl, N10q, eq10⟩ := hQ10
  have N10 := Fr.app N9 N10q
  obtain ⟨fs, hr, hrun, hended, hW, hsame⟩ := X10.leave (v := some (.int (1 : Int32))) (fun h => by rw [Bd.returns] at h; cases h)
  refine ⟨_, _, pre0 _ ?_, hrun, hended, _, _, rfl, ?_, ⟨_, rfl⟩, hW, hsame.mono (by decide) (by decide)⟩
  · show Steps p.tables e below (s₁.setTop (mkF m 0 #[.val (.int pi1), .val (.int pi2), .unset, .unset, .unset, .unset, .unset] [])) _
    refine XS.iloadN X0.here hx rfl (hb hby at_0) rfl ?_
    show Steps p.tables e below (s₁.setTop (mkF m 1 #[.val (.int pi1), .val (.int pi2), .unset, .unset, .unset, .unset, .unset] [(.int pi1)])) _
    refine XS.iconst X0.here hx rfl (hb hby at_1) ?_
    show Steps p.tables e below (s₁.setTop (mkF m 2 #[.val (.int pi1), .val (.int pi2), .unset, .unset, .unset, .unset, .unset] [(.int (1 : Int32)), (.int pi1)])) _
    refine XS.iand X0.here hx rfl (hb hby at_2) rfl ?_
    show Steps p.tables e below (s₁.setTop (mkF m 3 #[.val (.int pi1), .val (.int pi2), .unset, .unset, .unset, .unset, .unset] [(.int (pi1 &&& (1 : Int32)))])) _
    refine XS.ifNo X0.here hx rfl (hb hby at_3) rfl ((if0 _ _).trans (feq hc3_0).1) ?_
    show Steps p.tables e below (s₁.setTop (mkF m 6 #[.val (.int pi1), .val (.int pi2), .unset, .unset, .unset, .unset, .unset] [])) _
    refine XS.iconst X0.here hx rfl (hb hby at_6) ?_
    show Steps p.tables e below (s₁.setTop (mkF m 7 #[.val (.int pi1), .val (.int pi2), .unset, .unset, .unset, .unset, .unset] [(.int (1 : Int32))])) _
    refine XS.goto X0.here hx rfl (pc0 := 7) (pc' := 11) rfl (hb hby at_7) (by decide) (by decide) ?_
    show Steps p.tables e below (s₁.setTop (mkF m 11 #[.val (.int pi1), .val (.int pi2), .unset, .unset, .unset, .unset, .unset] [(.int (1 : Int32))])) _
    refine XS.istoreN X0.here hx rfl (hb hby at_11) rfl (l' := #[.val (.int pi1), .val (.int pi2), .val (.int (1 : Int32)), .unset, .unset, .unset, .unset]) rfl ?_
    show Steps p.tables e below (s₁.setTop (mkF m 12 #[.val (.int pi1), .val (.int pi2), .val (.int (1 : Int32)), .unset, .unset, .unset, .unset] [])) _
    refine XS.iloadN X0.here hx rfl (hb hby at_12) rfl ?_
    show Steps p.tables e below (s₁.setTop (mkF m 13 #[.val (.int pi1), .val (.int pi2), .val (.int (1 : Int32)), .unset, .unset, .unset, .unset] [(.int pi1)])) _
    refine XS.iconst X0.here hx rfl (hb hby at_13) ?_
    show Steps p.tables e below (s₁.setTop (mkF m 14 #[.val (.int pi1), .val (.int pi2), .val (.int (1 : Int32)), .unset, .unset, .unset, .unset] [(.int (2 : Int32)), (.int pi1)])) _
    refine XS.iand X0.here hx rfl (hb hby at_14) rfl ?_
    show Steps p.tables e below (s₁.setTop (mkF m 15 #[.val (.int pi1), .val (.int pi2), .val (.int (1 : Int32)), .unset, .unset, .unset, .unset] [(.int (pi1 &&& (2 : Int32)))])) _
    refine XS.ifNo X0.here hx rfl (hb hby at_15) rfl ((if0 _ _).trans (feq hc15_1).1) ?_
    show Steps p.tables e below (s₁.setTop (mkF m 18 #[.val (.int pi1), .val (.int pi2), .val (.int (1 : Int32)), .unset, .unset, .unset, .unset] [])) _
    refine XS.iconst X0.here hx rfl (hb hby at_18) ?_
    show Steps p.tables e below (s₁.setTop (mkF m 19 #[.val (.int pi1), .val (.int pi2), .val (.int (1 : Int32)), .unset, .unset, .unset, .unset] [(.int (1 : Int32))])) _
    refine XS.goto X0.here hx rfl (pc0 := 19) (pc' := 23) rfl (hb hby at_19) (by decide) (by decide) ?_
    show Steps p.tables e below (s₁.setTop (mkF m 23 #[.val (.int pi1), .val (.int pi2), .val (.int (1 : Int32)), .unset, .unset, .unset, .unset] [(.int (1 : Int32))])) _
    refine XS.istoreN X0.here hx rfl (hb hby at_23) rfl (l' := #[.val (.int pi1), .val (.int pi2), .val (.int (1 : Int32)), .val (.int (1 : Int32)), .unset, .unset, .unset]) rfl ?_
    show Steps p.tables e below (s₁.setTop (mkF m 24 #[.val (.int pi1), .val (.int pi2), .val (.int (1 : Int32)), .val (.int (1 : Int32)), .unset, .unset, .unset] [])) _
    refine XS.iloadN X0.here hx rfl (hb hby at_24) rfl ?_
    show Steps p.tables e below (s₁.setTop (mkF m 25 #[.val (.int pi1), .val (.int pi2), .val (.int (1 : Int32)), .val (.int (1 : Int32)), .unset, .unset, .unset] [(.int pi2)])) _
    refine XS.iconst X0.here hx rfl (hb hby at_25) ?_
    show Steps p.tables e below (s₁.setTop (mkF m 26 #[.val (.int pi1), .val (.int pi2), .val (.int (1 : Int32)), .val (.int (1 : Int32)), .unset, .unset, .unset] [(.int (3 : Int32)), (.int pi2)])) _
    refine XS.iand X0.here hx rfl (hb hby at_26) rfl ?_
    show Steps p.tables e below (s₁.setTop (mkF m 27 #[.val (.int pi1), .val (.int pi2), .val (.int (1 : Int32)), .val (.int (1 : Int32)), .unset, .unset, .unset] [(.int (pi2 &&& (3 : Int32)))])) _
    refine XS.ifNo X0.here hx rfl (hb hby at_27) rfl ((if0 _ _).trans (teq hc27_2).2) ?_
    show Steps p.tables e below (s₁.setTop (mkF m 30 #[.val (.int pi1), .val (.int pi2), .val (.int (1 : Int32)), .val (.int (1 : Int32)), .unset, .unset, .unset] [])) _
    refine XS.iconst X0.here hx rfl (hb hby at_30) ?_
    show Steps p.tables e below (s₁.setTop (mkF m 31 #[.val (.int pi1), .val (.int pi2), .val (.int (1 : Int32)), .val (.int (1 : Int32)), .unset, .unset, .unset] [(.int (0 : Int32))])) _
    refine XS.goto X0.here hx rfl (pc0 := 31) (pc' := 37) rfl (hb hby at_31) (by decide) (by decide) ?_
    show Steps p.tables e below (s₁.setTop (mkF m 37 #[.val (.int pi1), .val (.int pi2), .val (.int (1 : Int32)), .val (.int (1 : Int32)), .unset, .unset, .unset] [(.int (0 : Int32))])) _
    refine XS.istore X0.here hx rfl (hb hby at_37) rfl (l' := #[.val (.int pi1), .val (.int pi2), .val (.int (1 : Int32)), .val (.int (1 : Int32)), .val (.int (0 : Int32)), .unset, .unset]) rfl ?_
    show Steps p.tables e below (s₁.setTop (mkF m 39 #[.val (.int pi1), .val (.int pi2), .val (.int (1 : Int32)), .val (.int (1 : Int32)), .val (.int (0 : Int32)), .unset, .unset] [])) _
    refine st1 _ ?_
    show Steps p.tables e below (T1.setTop (mkF m 42 #[.val (.int pi1), .val (.int pi2), .val (.int (1 : Int32)), .val (.int (1 : Int32)), .val (.int (0 : Int32)), .unset, .unset] [(.ref b1)])) _
    refine XS.dup X1.here hx rfl (hb hby at_42) rfl rfl ?_
    show Steps p.tables e below (T1.setTop (mkF m 43 #[.val (.int pi1), .val (.int pi2), .val (.int (1 : Int32)), .val (.int (1 : Int32)), .val (.int (0 : Int32)), .unset, .unset] [(.ref b1), (.ref b1)])) _
    refine XS.iloadN X1.here hx rfl (hb hby at_43) rfl ?_
    show Steps p.tables e below (T1.setTop (mkF m 44 #[.val (.int pi1), .val (.int pi2), .val (.int (1 : Int32)), .val (.int (1 : Int32)), .val (.int (0 : Int32)), .unset, .unset] [(.int (1 : Int32)), (.ref b1), (.ref b1)])) _
    refine XS.iloadN X1.here hx rfl (hb hby at_44) rfl ?_
    show Steps p.tables e below (T1.setTop (mkF m 45 #[.val (.int pi1), .val (.int pi2), .val (.int (1 : Int32)), .val (.int (1 : Int32)), .val (.int (0 : Int32)), .unset, .unset] [(.int (1 : Int32)), (.int (1 : Int32)), (.ref b1), (.ref b1)])) _
    refine XS.iload X1.here hx rfl (hb hby at_45) rfl ?_
    show Steps p.tables e below (T1.setTop (mkF m 47 #[.val (.int pi1), .val (.int pi2), .val (.int (1 : Int32)), .val (.int (1 : Int32)), .val (.int (0 : Int32)), .unset, .unset] [(.int (0 : Int32)), (.int (1 : Int32)), (.int (1 : Int32)), (.ref b1), (.ref b1)])) _
    refine st2.trans ?_
    show Steps p.tables e below (T2.setTop (mkF m 50 #[.val (.int pi1), .val (.int pi2), .val (.int (1 : Int32)), .val (.int (1 : Int32)), .val (.int (0 : Int32)), .unset, .unset] [(.ref b1)])) _
    refine XS.astore X2.here hx rfl (hb hby at_50) rfl rfl (l' := #[.val (.int pi1), .val (.int pi2), .val (.int (1 : Int32)), .val (.int (1 : Int32)), .val (.int (0 : Int32)), .val (.ref b1), .unset]) rfl ?_
    show Steps p.tables e below (T2.setTop (mkF m 52 #[.val (.int pi1), .val (.int pi2), .val (.int (1 : Int32)), .val (.int (1 : Int32)), .val (.int (0 : Int32)), .val (.ref b1), .unset] [])) _
    refine XS.iloadN X2.here hx rfl (hb hby at_52) rfl ?_
    show Steps p.tables e below (T2.setTop (mkF m 53 #[.val (.int pi1), .val (.int pi2), .val (.int (1 : Int32)), .val (.int (1 : Int32)), .val (.int (0 : Int32)), .val (.ref b1), .unset] [(.int pi1)])) _
    refine XS.iconst X2.here hx rfl (hb hby at_53) ?_
    show Steps p.tables e below (T2.setTop (mkF m 54 #[.val (.int pi1), .val (.int pi2), .val (.int (1 : Int32)), .val (.int (1 : Int32)), .val (.int (0 : Int32)), .val (.ref b1), .unset] [(.int (3 : Int32)), (.int pi1)])) _
    refine XS.iand X2.here hx rfl (hb hby at_54) rfl ?_
    show Steps p.tables e below (T2.setTop (mkF m 55 #[.val (.int pi1), .val (.int pi2), .val (.int (1 : Int32)), .val (.int (1 : Int32)), .val (.int (0 : Int32)), .val (.ref b1), .unset] [(.int (pi1 &&& (3 : Int32)))])) _
    refine XS.ifYes X2.here hx rfl (pc0 := 55) (pc' := 67) rfl (hb hby at_55) rfl ((if0 _ _).trans (feq (own_n1 hc3_0)).2) (by decide) (by decide) ?_
    show Steps p.tables e below (T2.setTop (mkF m 67 #[.val (.int pi1), .val (.int pi2), .val (.int (1 : Int32)), .val (.int (1 : Int32)), .val (.int (0 : Int32)), .val (.ref b1), .unset] [])) _
    refine XS.iconst X2.here hx rfl (hb hby at_67) ?_
    show Steps p.tables e below (T2.setTop (mkF m 68 #[.val (.int pi1), .val (.int pi2), .val (.int (1 : Int32)), .val (.int (1 : Int32)), .val (.int (0 : Int32)), .val (.ref b1), .unset] [(.int (0 : Int32))])) _
    refine XS.istore X2.here hx rfl (hb hby at_68) rfl (l' := #[.val (.int pi1), .val (.int pi2), .val (.int (1 : Int32)), .val (.int (1 : Int32)), .val (.int (0 : Int32)), .val (.ref b1), .val (.int (0 : Int32))]) rfl ?_
    show Steps p.tables e below (T2.setTop (mkF m 70 #[.val (.int pi1), .val (.int pi2), .val (.int (1 : Int32)), .val (.int (1 : Int32)), .val (.int (0 : Int32)), .val (.ref b1), .val (.int (0 : Int32))] [])) _
    refine XS.aload X2.here hx rfl (hb hby at_70) rfl rfl ?_
    show Steps p.tables e below (T2.setTop (mkF m 72 #[.val (.int pi1), .val (.int pi2), .val (.int (1 : Int32)), .val (.int (1 : Int32)), .val (.int (0 : Int32)), .val (.ref b1), .val (.int (0 : Int32))] [(.ref b1)])) _
    refine st5.trans ?_
    show Steps p.tables e below (T5.setTop (mkF m 75 #[.val (.int pi1), .val (.int pi2), .val (.int (1 : Int32)), .val (.int (1 : Int32)), .val (.int (0 : Int32)), .val (.ref b1), .val (.int (0 : Int32))] [(.int (0 : Int32))])) _
    refine XS.iload X5.here hx rfl (hb hby at_75) rfl ?_
    show Steps p.tables e below (T5.setTop (mkF m 77 #[.val (.int pi1), .val (.int pi2), .val (.int (1 : Int32)), .val (.int (1 : Int32)), .val (.int (0 : Int32)), .val (.ref b1), .val (.int (0 : Int32))] [(.int (0 : Int32)), (.int (0 : Int32))])) _
    refine XS.icmpNo X5.here hx rfl (hb hby at_77) rfl (teq (rfl : (0 : Int32) = (0 : Int32))).2 ?_
    show Steps p.tables e below (T5.setTop (mkF m 80 #[.val (.int pi1), .val (.int pi2), .val (.int (1 : Int32)), .val (.int (1 : Int32)), .val (.int (0 : Int32)), .val (.ref b1), .val (.int (0 : Int32))] [])) _
    refine XS.aload X5.here hx rfl (hb hby at_80) rfl rfl ?_
    show Steps p.tables e below (T5.setTop (mkF m 82 #[.val (.int pi1), .val (.int pi2), .val (.int (1 : Int32)), .val (.int (1 : Int32)), .val (.int (0 : Int32)), .val (.ref b1), .val (.int (0 : Int32))] [(.ref b1)])) _
    refine st8.trans ?_
    show Steps p.tables e below (T8.setTop (mkF m 85 #[.val (.int pi1), .val (.int pi2), .val (.int (1 : Int32)), .val (.int (1 : Int32)), .val (.int (0 : Int32)), .val (.ref b1), .val (.int (0 : Int32))] [(.int (1 : Int32))])) _
    refine XS.iloadN X8.here hx rfl (hb hby at_85) rfl ?_
    show Steps p.tables e below (T8.setTop (mkF m 86 #[.val (.int pi1), .val (.int pi2), .val (.int (1 : Int32)), .val (.int (1 : Int32)), .val (.int (0 : Int32)), .val (.ref b1), .val (.int (0 : Int32))] [(.int (1 : Int32)), (.int (1 : Int32))])) _
    refine XS.icmpNo X8.here hx rfl (hb hby at_86) rfl (teq (rfl : (1 : Int32) = (1 : Int32))).2 ?_
    show Steps p.tables e below (T8.setTop (mkF m 89 #[.val (.int pi1), .val (.int pi2), .val (.int (1 : Int32)), .val (.int (1 : Int32)), .val (.int (0 : Int32)), .val (.ref b1), .val (.int (0 : Int32))] [])) _
    refine XS.aload X8.here hx rfl (hb hby at_89) rfl rfl ?_
    show Steps p.tables e below (T8.setTop (mkF m 91 #[.val (.int pi1), .val (.int pi2), .val (.int (1 : Int32)), .val (.int (1 : Int32)), .val (.int (0 : Int32)), .val (.ref b1), .val (.int (0 : Int32))] [(.ref b1)])) _
    refine st9.trans ?_
    show Steps p.tables e below (T9.setTop (mkF m 94 #[.val (.int pi1), .val (.int pi2), .val (.int (1 : Int32)), .val (.int (1 : Int32)), .val (.int (0 : Int32)), .val (.ref b1), .val (.int (0 : Int32))] [(.int (1 : Int32))])) _
    refine XS.iloadN X9.here hx rfl (hb hby at_94) rfl ?_
    show Steps p.tables e below (T9.setTop (mkF m 95 #[.val (.int pi1), .val (.int pi2), .val (.int (1 : Int32)), .val (.int (1 : Int32)), .val (.int (0 : Int32)), .val (.ref b1), .val (.int (0 : Int32))] [(.int (1 : Int32)), (.int (1 : Int32))])) _
    refine XS.icmpNo X9.here hx rfl (hb hby at_95) rfl (teq (rfl : (1 : Int32) = (1 : Int32))).2 ?_
    show Steps p.tables e below (T9.setTop (mkF m 98 #[.val (.int pi1), .val (.int pi2), .val (.int (1 : Int32)), .val (.int (1 : Int32)), .val (.int (0 : Int32)), .val (.ref b1), .val (.int (0 : Int32))] [])) _
    refine XS.aload X9.here hx rfl (hb hby at_98) rfl rfl ?_
    show Steps p.tables e below (T9.setTop (mkF m 100 #[.val (.int pi1), .val (.int pi2), .val (.int (1 : Int32)), .val (.int (1 : Int32)), .val (.int (0 : Int32)), .val (.ref b1), .val (.int (0 : Int32))] [(.ref b1)])) _
    refine st10.trans ?_
    show Steps p.tables e below (T10.setTop (mkF m 103 #[.val (.int pi1), .val (.int pi2), .val (.int (1 : Int32)), .val (.int (1 : Int32)), .val (.int (0 : Int32)), .val (.ref b1), .val (.int (0 : Int32))] [(.int (0 : Int32))])) _
    refine XS.iload X10.here hx rfl (hb hby at_103) rfl ?_
    show Steps p.tables e below (T10.setTop (mkF m 105 #[.val (.int pi1), .val (.int pi2), .val (.int (1 : Int32)), .val (.int (1 : Int32)), .val (.int (0 : Int32)), .val (.ref b1), .val (.int (0 : Int32))] [(.int (0 : Int32)), (.int (0 : Int32))])) _
    refine XS.icmpNo X10.here hx rfl (hb hby at_105) rfl (teq (rfl : (0 : Int32) = (0 : Int32))).2 ?_
    show Steps p.tables e below (T10.setTop (mkF m 108 #[.val (.int pi1), .val (.int pi2), .val (.int (1 : Int32)), .val (.int (1 : Int32)), .val (.int (0 : Int32)), .val (.ref b1), .val (.int (0 : Int32))] [])) _
    refine XS.iconst X10.here hx rfl (hb hby at_108) ?_
    show Steps p.tables e below (T10.setTop (mkF m 109 #[.val (.int pi1), .val (.int pi2), .val (.int (1 : Int32)), .val (.int (1 : Int32)), .val (.int (0 : Int32)), .val (.ref b1), .val (.int (0 : Int32))] [(.int (1 : Int32))])) _
    refine XS.goto X10.here hx rfl (pc0 := 109) (pc' := 113) rfl (hb hby at_109) (by decide) (by decide) ?_
    show Steps p.tables e below (T10.setTop (mkF m 113 #[.val (.int pi1), .val (.int pi2), .val (.int (1 : Int32)), .val (.int (1 : Int32)), .val (.int (0 : Int32)), .val (.ref b1), .val (.int (0 : Int32))] [(.int (1 : Int32))])) _
    exact retN X10 hx (t := .boolean) Bd.returns (by simp) (hb hby at_113) hr
  · exact ⟨rfl, N10⟩
set_option maxRecDepth 65536 in
set_option maxHeartbeats 40000000 in
theorem rm0_fff (l : Launch) (Z : State) (a0 : Array Value) (hw : ∀ d ∈ tables_1, d.before a0 Z = true) (ws : List Jvm.Cond) (pi1 : Int32) (pi2 : Int32) (h0 : Heap) (n0 : Nat) (Z0 : n0 ≤ h0.size) (O0 : Old Z n0 h0) (hc3_0 : ¬ ((pi1 &&& (1 : Int32)) = (0 : Int32))) (hc15_1 : ¬ ((pi1 &&& (2 : Int32)) = (0 : Int32))) (hc27_2 : ¬ ((pi2 &&& (3 : Int32)) = (0 : Int32))) :
    MetFree l x (head1 (Jvm.Cond.code x code maxLocals ret :: ws) room_1) (fun a U => a = #[(.int pi1), (.int pi2)] ∧ Z.Warmed39 U.vm ∧ U.heap = h0) (fun _ _ _ _ _ => True) (fun _ U o U' => ∃ v L, o = .returned v ∧ Q0 v L n0 ∧ FrameEnd U o U' L room_1.cells room_1.slots) := by
  refine MetFree.of_bodySF (plainFor_of_name pn_0) hisR ?_
  intro p e s m args below meth c s₁ Bd hml0 hP hK
  obtain ⟨rfl, hZ, hh⟩ := hP
  have hx := Bd.exec
  have hby := Bd.bytes
  have hml : c.maxLocals = 7 := hml0
  have hown : s.vm.findClass "com/example/linkstride/linkstride/engine/CompletenessCompletePinLaw" = some m.cls := findClass_of_methodNamed Bd.named
  have hnm := (name_of_methodNamed Bd.named Bd.method).1
  have X0 : Stand p l e room_1 s m #[(.int pi1), (.int pi2)] below meth c s₁ [] 0 0 := Stand.of_body Bd
  have e0 : s₁.heap = h0 := by rw [← hh, Bd.state]; rfl
  have N0 := Fr.nil n0
  have pre0 : ∀ t, Steps p.tables e below (s₁.setTop (mkF m 0 #[.val (.int pi1), .val (.int pi2), .unset, .unset, .unset, .unset, .unset] [])) t → Steps p.tables e below (s₁.setTop (entryFrame m #[(.int pi1), (.int pi2)] maxLocals)) t := fun t k => castTop (ef_0 m pi1 pi2) k
  obtain ⟨T1, h1, X1, e1, E1, A1, D1, -, st1⟩ := newO X0 hx hZ hown (hw _ (List.mem_of_getElem? (i := 0) rfl)) (hw _ (List.mem_of_getElem? (i := 1) rfl)) (hw _ (List.mem_of_getElem? (i := 2) rfl)) e0 (g := (mkF m 39 #[.val (.int pi1), .val (.int pi2), .val (.int (1 : Int32)), .val (.int (1 : Int32)), .val (.int ((pi2.toUInt32 >>> ((2 : Int32) &&& 31).toUInt32).toInt32)), .unset, .unset] [])) rfl (hb hby at_39) (by decide) (by decide)
  obtain ⟨b1, g1⟩ : ∃ z, z = h0.size := ⟨_, rfl⟩
  rw [← g1] at A1 D1 st1
  have F_budgetReached_b1 : Fld Z h1 b1 "com/example/linkstride/linkstride/engine/Completeness" "budgetReached" "Z" (.int (0 : Int32)) := D1 (Or.inr (hw _ (List.mem_of_getElem? (i := 15) rfl))) (ty := .boolean) (by decide)
  have F_lookupLimitReached_b1 : Fld Z h1 b1 "com/example/linkstride/linkstride/engine/Completeness" "lookupLimitReached" "Z" (.int (0 : Int32)) := D1 (Or.inr (hw _ (List.mem_of_getElem? (i := 17) rfl))) (ty := .boolean) (by decide)
  have F_lookupsCut_b1 : Fld Z h1 b1 "com/example/linkstride/linkstride/engine/Completeness" "lookupsCut" "I" (.int (0 : Int32)) := D1 (Or.inr (hw _ (List.mem_of_getElem? (i := 19) rfl))) (ty := .int) (by decide)
  have g_b1 : n0 ≤ b1 := Nat.le_trans Z0 (Nat.le_of_eq g1.symm)
  have z3 := Nat.le_trans Z0 E1.1
  have o4 := O0.ext E1
  obtain ⟨_, _, ⟨T2, L2, k2, n2⟩, -, X2, ⟨Lc2, hQ2, l2, y2, z2⟩, st2⟩ := X1.specialBack hx (y := (⟨"com/example/linkstride/linkstride/engine/Completeness", "<init>", "(ZZI)V"⟩ : MethodName)) rfl hown (mvT hZ (hw _ (List.mem_of_getElem? (i := 3) rfl))) (mvT hZ (hw _ (List.mem_of_getElem? (i := 4) rfl))) (mvT hZ (hw _ (List.mem_of_getElem? (i := 5) rfl))) (by decide) (backOf (W := 1) (rm1 l Z a0 hw [] b1 (1 : Int32) (1 : Int32) ((pi2.toUInt32 >>> ((2 : Int32) &&& 31).toUInt32).toInt32) (.int (0 : Int32)) (.int (0 : Int32)) (.int (0 : Int32)) h1 n0 z3 o4 A1 F_budgetReached_b1 g_b1 F_lookupLimitReached_b1 F_lookupsCut_b1) hZ (hw _ (List.mem_of_getElem? (i := 5) rfl)) (hw _ (List.mem_of_getElem? (i := 2) rfl)) (by decide) (by decide)) (g := (mkF m 47 #[.val (.int pi1), .val (.int pi2), .val (.int (1 : Int32)), .val (.int (1 : Int32)), .val (.int ((pi2.toUInt32 >>> ((2 : Int32) &&& 31).toUInt32).toInt32)), .unset, .unset] [(.int ((pi2.toUInt32 >>> ((2 : Int32) &&& 31).toUInt32).toInt32)), (.int (1 : Int32)), (.int (1 : Int32)), (.ref b1), (.ref b1)])) rfl (by rw [hml]; rfl) (Steps.refl _) (a := b1) (argsL := [(.int (1 : Int32)), (.int (1 : Int32)), (.int ((pi2.toUInt32 >>> ((2 : Int32) &&& 31).toUInt32).toInt32))]) (rest := [(.ref b1)]) (lenOf pd_0 rfl) rfl (by show 2 * 0 + _ ≤ _; exact Nat.le_of_eq rfl) (hb hby at_47) (fun _ _ => ⟨rfl, e1, (by decide : 1 + 0 ≤ _), (by decide : 3 + 0 ≤ _)⟩)
  dsimp only [Pt.U, Pt.locs, Pt.cells, Pt.slots] at X2 l2 y2 z2 st2 hQ2
  subst l2 y2 z2
  obtain ⟨rfl, N2q, K2, qf2_0, qf2_1, qf2_2, qf2_3⟩ := hQ2
  have N2 := Fr.app N0 N2q
  have z6 := Nat.le_trans z3 K2.1
  have o7 := o4.keep K2 (allS g_b1 all0)
  obtain ⟨cq5, kq5, q5a, q5b, q5c⟩ := isOf hZ rfl qf2_0
  obtain ⟨_, _, ⟨T5, L5, k5, n5⟩, -, X5, ⟨Lc5, hQ5, l5, y5, z5⟩, st5⟩ := X2.virtualBack hx (y := (⟨"com/example/linkstride/linkstride/engine/Completeness", "complete", "()Z"⟩ : MethodName)) (z := (⟨"com/example/linkstride/linkstride/engine/Completeness", "complete", "()Z"⟩ : MethodName)) hown (mvT hZ (hw _ (List.mem_of_getElem? (i := 20) rfl))) (mvT hZ (hw _ (List.mem_of_getElem? (i := 21) rfl))) (notFace_of_selects (args := #[]) (mvT hZ (hw _ (List.mem_of_getElem? (i := 23) rfl)))) (mvT hZ (hw _ (List.mem_of_getElem? (i := 23) rfl))) (mvT hZ (hw _ (List.mem_of_getElem? (i := 22) rfl))) (by decide) (backOf (W := 0) (rm4_f l Z a0 hw [] b1 (1 : Int32) T2.heap n0 z6 o7 qf2_1 (by decide)) hZ (hw _ (List.mem_of_getElem? (i := 24) rfl)) (hw _ (List.mem_of_getElem? (i := 2) rfl)) (by decide) (by decide)) q5a q5c (g := (mkF m 72 #[.val (.int pi1), .val (.int pi2), .val (.int (1 : Int32)), .val (.int (1 : Int32)), .val (.int ((pi2.toUInt32 >>> ((2 : Int32) &&& 31).toUInt32).toInt32)), .val (.ref b1), .val (.int (0 : Int32))] [(.ref b1)])) rfl (by rw [hml]; rfl) (Steps.refl _) (argsL := []) (rest := []) (lenOf pd_2 rfl) rfl (by show 2 * 0 + _ ≤ _; exact Nat.le_of_eq rfl) (hb hby at_72) (fun _ _ => ⟨rfl, rfl, (by decide : 1 + 0 ≤ _), (by decide : 3 + 0 ≤ _)⟩)
  dsimp only [Pt.U, Pt.locs, Pt.cells, Pt.slots] at X5 l5 y5 z5 st5 hQ5
  subst l5 y5 z5
  obtain ⟨rfl, N5q, eq5⟩ := hQ5
  have N5 := Fr.app N2 N5q
  obtain ⟨cq8, kq8, q8a, q8b, q8c⟩ := isOf hZ eq5 qf2_0
  obtain ⟨_, _, ⟨T8, L8, k8, n8⟩, -, X8, ⟨Lc8, hQ8, l8, y8, z8⟩, st8⟩ := X5.virtualBack hx (y := (⟨"com/example/linkstride/linkstride/engine/Completeness", "budgetReached", "()Z"⟩ : MethodName)) (z := (⟨"com/example/linkstride/linkstride/engine/Completeness", "budgetReached", "()Z"⟩ : MethodName)) hown (mvT hZ (hw _ (List.mem_of_getElem? (i := 25) rfl))) (mvT hZ (hw _ (List.mem_of_getElem? (i := 26) rfl))) (notFace_of_selects (args := #[]) (mvT hZ (hw _ (List.mem_of_getElem? (i := 28) rfl)))) (mvT hZ (hw _ (List.mem_of_getElem? (i := 28) rfl))) (mvT hZ (hw _ (List.mem_of_getElem? (i := 27) rfl))) (by decide) (backOf (W := 0) (rm5 l Z a0 hw [] b1 (1 : Int32) T2.heap n0 z6 o7 qf2_1) hZ (hw _ (List.mem_of_getElem? (i := 29) rfl)) (hw _ (List.mem_of_getElem? (i := 2) rfl)) (by decide) (by decide)) q8a q8c (g := (mkF m 82 #[.val (.int pi1), .val (.int pi2), .val (.int (1 : Int32)), .val (.int (1 : Int32)), .val (.int ((pi2.toUInt32 >>> ((2 : Int32) &&& 31).toUInt32).toInt32)), .val (.ref b1), .val (.int (0 : Int32))] [(.ref b1)])) rfl (by rw [hml]; rfl) (Steps.refl _) (argsL := []) (rest := []) (lenOf pd_2 rfl) rfl (by show 2 * 0 + _ ≤ _; exact Nat.le_of_eq rfl) (hb hby at_82) (fun _ _ => ⟨rfl, eq5, (by decide : 1 + 0 ≤ _), (by decide : 3 + 0 ≤ _)⟩)
  dsimp only [Pt.U, Pt.locs, Pt.cells, Pt.slots] at X8 l8 y8 z8 st8 hQ8
  subst l8 y8 z8
  obtain ⟨rfl, N8q, eq8⟩ := hQ8
  have N8 := Fr.app N5 N8q
  obtain ⟨cq9, kq9, q9a, q9b, q9c⟩ := isOf hZ eq8 qf2_0
  obtain ⟨_, _, ⟨T9, L9, k9, n9⟩, -, X9, ⟨Lc9, hQ9, l9, y9, z9⟩, st9⟩ := X8.virtualBack hx (y := (⟨"com/example/linkstride/linkstride/engine/Completeness", "lookupLimitReached", "()Z"⟩ : MethodName)) (z := (⟨"com/example/linkstride/linkstride/engine/Completeness", "lookupLimitReached", "()Z"⟩ : MethodName)) hown (mvT hZ (hw _ (List.mem_of_getElem? (i := 30) rfl))) (mvT hZ (hw _ (List.mem_of_getElem? (i := 31) rfl))) (notFace_of_selects (args := #[]) (mvT hZ (hw _ (List.mem_of_getElem? (i := 33) rfl)))) (mvT hZ (hw _ (List.mem_of_getElem? (i := 33) rfl))) (mvT hZ (hw _ (List.mem_of_getElem? (i := 32) rfl))) (by decide) (backOf (W := 0) (rm6 l Z a0 hw [] b1 (1 : Int32) T2.heap n0 z6 o7 qf2_2) hZ (hw _ (List.mem_of_getElem? (i := 34) rfl)) (hw _ (List.mem_of_getElem? (i := 2) rfl)) (by decide) (by decide)) q9a q9c (g := (mkF m 91 #[.val (.int pi1), .val (.int pi2), .val (.int (1 : Int32)), .val (.int (1 : Int32)), .val (.int ((pi2.toUInt32 >>> ((2 : Int32) &&& 31).toUInt32).toInt32)), .val (.ref b1), .val (.int (0 : Int32))] [(.ref b1)])) rfl (by rw [hml]; rfl) (Steps.refl _) (argsL := []) (rest := []) (lenOf pd_2 rfl) rfl (by show 2 * 0 + _ ≤ _; exact Nat.le_of_eq rfl) (hb hby at_91) (fun _ _ => ⟨rfl, eq8, (by decide : 1 + 0 ≤ _), (by decide : 3 + 0 ≤ _)⟩)
  dsimp only [Pt.U, Pt.locs, Pt.cells, Pt.slots] at X9 l9 y9 z9 st9 hQ9
  subst l9 y9 z9
  obtain ⟨rfl, N9q, eq9⟩ := hQ9
  have N9 := Fr.app N8 N9q
  obtain ⟨cq10, kq10, q10a, q10b, q10c⟩ := isOf hZ eq9 qf2_0
  obtain ⟨_, _, ⟨T10, L10, k10, n10⟩, -, X10, ⟨Lc10, hQ10, l10, y10, z10⟩, st10⟩ := X9.virtualBack hx (y := (⟨"com/example/linkstride/linkstride/engine/Completeness", "lookupsCut", "()I"⟩ : MethodName)) (z := (⟨"com/example/linkstride/linkstride/engine/Completeness", "lookupsCut", "()I"⟩ : MethodName)) hown (mvT hZ (hw _ (List.mem_of_getElem? (i := 35) rfl))) (mvT hZ (hw _ (List.mem_of_getElem? (i := 36) rfl))) (notFace_of_selects (args := #[]) (mvT hZ (hw _ (List.mem_of_getElem? (i := 38) rfl)))) (mvT hZ (hw _ (List.mem_of_getElem? (i := 38) rfl))) (mvT hZ (hw _ (List.mem_of_getElem? (i := 37) rfl))) (by decide) (backOf (W := 0) (rm7 l Z a0 hw [] b1 ((pi2.toUInt32 >>> ((2 : Int32) &&& 31).toUInt32).toInt32) T2.heap n0 z6 o7 qf2_3) hZ (hw _ (List.mem_of_getElem? (i := 39) rfl)) (hw _ (List.mem_of_getElem? (i := 2) rfl)) (by decide) (by decide)) q10a q10c (g := (mkF m 100 #[.val (.int pi1), .val (.int pi2), .val (.int (1 : Int32)), .val (.int (1 : Int32)), .val (.int ((pi2.toUInt32 >>> ((2 : Int32) &&& 31).toUInt32).toInt32)), .val (.ref b1), .val (.int (0 : Int32))] [(.ref b1)])) rfl (by rw [hml]; rfl) (Steps.refl _) (argsL := []) (rest := []) (lenOf pd_3 rfl) rfl (by show 2 * 0 + _ ≤ _; exact Nat.le_of_eq rfl) (hb hby at_100) (fun _ _ => ⟨rfl, eq9, (by decide : 1 + 0 ≤ _), (by decide : 3 + 0 ≤ _)⟩)
  dsimp only [Pt.U, Pt.locs, Pt.cells, Pt.slots] at X10 l10 y10 z10 st10 hQ10
  subst l10 y10 z10
  obtain ⟨rfl, N10q, eq10⟩ := hQ10
  have N10 := Fr.app N9 N10q
  obtain ⟨fs, hr, hrun, hended, hW, hsame⟩ := X10.leave (v := some (.int (1 : Int32))) (fun h => by rw [Bd.returns] at h; cases h)
  refine ⟨_, _, pre0 _ ?_, hrun, hended, _, _, rfl, ?_, ⟨_, rfl⟩, hW, hsame.mono (by decide) (by decide)⟩
  · show Steps p.tables e below (s₁.setTop (mkF m 0 #[.val (.int pi1), .val (.int pi2), .unset, .unset, .unset, .unset, .unset] [])) _
    refine XS.iloadN X0.here hx rfl (hb hby at_0) rfl ?_
    show Steps p.tables e below (s₁.setTop (mkF m 1 #[.val (.int pi1), .val (.int pi2), .unset, .unset, .unset, .unset, .unset] [(.int pi1)])) _
    refine XS.iconst X0.here hx rfl (hb hby at_1) ?_
    show Steps p.tables e below (s₁.setTop (mkF m 2 #[.val (.int pi1), .val (.int pi2), .unset, .unset, .unset, .unset, .unset] [(.int (1 : Int32)), (.int pi1)])) _
    refine XS.iand X0.here hx rfl (hb hby at_2) rfl ?_
    show Steps p.tables e below (s₁.setTop (mkF m 3 #[.val (.int pi1), .val (.int pi2), .unset, .unset, .unset, .unset, .unset] [(.int (pi1 &&& (1 : Int32)))])) _
    refine XS.ifNo X0.here hx rfl (hb hby at_3) rfl ((if0 _ _).trans (feq hc3_0).1) ?_
    show Steps p.tables e below (s₁.setTop (mkF m 6 #[.val (.int pi1), .val (.int pi2), .unset, .unset, .unset, .unset, .unset] [])) _
    refine XS.iconst X0.here hx rfl (hb hby at_6) ?_
    show Steps p.tables e below (s₁.setTop (mkF m 7 #[.val (.int pi1), .val (.int pi2), .unset, .unset, .unset, .unset, .unset] [(.int (1 : Int32))])) _
    refine XS.goto X0.here hx rfl (pc0 := 7) (pc' := 11) rfl (hb hby at_7) (by decide) (by decide) ?_
    show Steps p.tables e below (s₁.setTop (mkF m 11 #[.val (.int pi1), .val (.int pi2), .unset, .unset, .unset, .unset, .unset] [(.int (1 : Int32))])) _
    refine XS.istoreN X0.here hx rfl (hb hby at_11) rfl (l' := #[.val (.int pi1), .val (.int pi2), .val (.int (1 : Int32)), .unset, .unset, .unset, .unset]) rfl ?_
    show Steps p.tables e below (s₁.setTop (mkF m 12 #[.val (.int pi1), .val (.int pi2), .val (.int (1 : Int32)), .unset, .unset, .unset, .unset] [])) _
    refine XS.iloadN X0.here hx rfl (hb hby at_12) rfl ?_
    show Steps p.tables e below (s₁.setTop (mkF m 13 #[.val (.int pi1), .val (.int pi2), .val (.int (1 : Int32)), .unset, .unset, .unset, .unset] [(.int pi1)])) _
    refine XS.iconst X0.here hx rfl (hb hby at_13) ?_
    show Steps p.tables e below (s₁.setTop (mkF m 14 #[.val (.int pi1), .val (.int pi2), .val (.int (1 : Int32)), .unset, .unset, .unset, .unset] [(.int (2 : Int32)), (.int pi1)])) _
    refine XS.iand X0.here hx rfl (hb hby at_14) rfl ?_
    show Steps p.tables e below (s₁.setTop (mkF m 15 #[.val (.int pi1), .val (.int pi2), .val (.int (1 : Int32)), .unset, .unset, .unset, .unset] [(.int (pi1 &&& (2 : Int32)))])) _
    refine XS.ifNo X0.here hx rfl (hb hby at_15) rfl ((if0 _ _).trans (feq hc15_1).1) ?_
    show Steps p.tables e below (s₁.setTop (mkF m 18 #[.val (.int pi1), .val (.int pi2), .val (.int (1 : Int32)), .unset, .unset, .unset, .unset] [])) _
    refine XS.iconst X0.here hx rfl (hb hby at_18) ?_
    show Steps p.tables e below (s₁.setTop (mkF m 19 #[.val (.int pi1), .val (.int pi2), .val (.int (1 : Int32)), .unset, .unset, .unset, .unset] [(.int (1 : Int32))])) _
    refine XS.goto X0.here hx rfl (pc0 := 19) (pc' := 23) rfl (hb hby at_19) (by decide) (by decide) ?_
    show Steps p.tables e below (s₁.setTop (mkF m 23 #[.val (.int pi1), .val (.int pi2), .val (.int (1 : Int32)), .unset, .unset, .unset, .unset] [(.int (1 : Int32))])) _
    refine XS.istoreN X0.here hx rfl (hb hby at_23) rfl (l' := #[.val (.int pi1), .val (.int pi2), .val (.int (1 : Int32)), .val (.int (1 : Int32)), .unset, .unset, .unset]) rfl ?_
    show Steps p.tables e below (s₁.setTop (mkF m 24 #[.val (.int pi1), .val (.int pi2), .val (.int (1 : Int32)), .val (.int (1 : Int32)), .unset, .unset, .unset] [])) _
    refine XS.iloadN X0.here hx rfl (hb hby at_24) rfl ?_
    show Steps p.tables e below (s₁.setTop (mkF m 25 #[.val (.int pi1), .val (.int pi2), .val (.int (1 : Int32)), .val (.int (1 : Int32)), .unset, .unset, .unset] [(.int pi2)])) _
    refine XS.iconst X0.here hx rfl (hb hby at_25) ?_
    show Steps p.tables e below (s₁.setTop (mkF m 26 #[.val (.int pi1), .val (.int pi2), .val (.int (1 : Int32)), .val (.int (1 : Int32)), .unset, .unset, .unset] [(.int (3 : Int32)), (.int pi2)])) _
    refine XS.iand X0.here hx rfl (hb hby at_26) rfl ?_
    show Steps p.tables e below (s₁.setTop (mkF m 27 #[.val (.int pi1), .val (.int pi2), .val (.int (1 : Int32)), .val (.int (1 : Int32)), .unset, .unset, .unset] [(.int (pi2 &&& (3 : Int32)))])) _
    refine XS.ifYes X0.here hx rfl (pc0 := 27) (pc' := 34) rfl (hb hby at_27) rfl ((if0 _ _).trans (feq hc27_2).2) (by decide) (by decide) ?_
    show Steps p.tables e below (s₁.setTop (mkF m 34 #[.val (.int pi1), .val (.int pi2), .val (.int (1 : Int32)), .val (.int (1 : Int32)), .unset, .unset, .unset] [])) _
    refine XS.iloadN X0.here hx rfl (hb hby at_34) rfl ?_
    show Steps p.tables e below (s₁.setTop (mkF m 35 #[.val (.int pi1), .val (.int pi2), .val (.int (1 : Int32)), .val (.int (1 : Int32)), .unset, .unset, .unset] [(.int pi2)])) _
    refine XS.iconst X0.here hx rfl (hb hby at_35) ?_
    show Steps p.tables e below (s₁.setTop (mkF m 36 #[.val (.int pi1), .val (.int pi2), .val (.int (1 : Int32)), .val (.int (1 : Int32)), .unset, .unset, .unset] [(.int (2 : Int32)), (.int pi2)])) _
    refine XS.iushr X0.here hx rfl (hb hby at_36) rfl ?_
    show Steps p.tables e below (s₁.setTop (mkF m 37 #[.val (.int pi1), .val (.int pi2), .val (.int (1 : Int32)), .val (.int (1 : Int32)), .unset, .unset, .unset] [(.int ((pi2.toUInt32 >>> ((2 : Int32) &&& 31).toUInt32).toInt32))])) _
    refine XS.istore X0.here hx rfl (hb hby at_37) rfl (l' := #[.val (.int pi1), .val (.int pi2), .val (.int (1 : Int32)), .val (.int (1 : Int32)), .val (.int ((pi2.toUInt32 >>> ((2 : Int32) &&& 31).toUInt32).toInt32)), .unset, .unset]) rfl ?_
    show Steps p.tables e below (s₁.setTop (mkF m 39 #[.val (.int pi1), .val (.int pi2), .val (.int (1 : Int32)), .val (.int (1 : Int32)), .val (.int ((pi2.toUInt32 >>> ((2 : Int32) &&& 31).toUInt32).toInt32)), .unset, .unset] [])) _
    refine st1 _ ?_
    show Steps p.tables e below (T1.setTop (mkF m 42 #[.val (.int pi1), .val (.int pi2), .val (.int (1 : Int32)), .val (.int (1 : Int32)), .val (.int ((pi2.toUInt32 >>> ((2 : Int32) &&& 31).toUInt32).toInt32)), .unset, .unset] [(.ref b1)])) _
    refine XS.dup X1.here hx rfl (hb hby at_42) rfl rfl ?_
    show Steps p.tables e below (T1.setTop (mkF m 43 #[.val (.int pi1), .val (.int pi2), .val (.int (1 : Int32)), .val (.int (1 : Int32)), .val (.int ((pi2.toUInt32 >>> ((2 : Int32) &&& 31).toUInt32).toInt32)), .unset, .unset] [(.ref b1), (.ref b1)])) _
    refine XS.iloadN X1.here hx rfl (hb hby at_43) rfl ?_
    show Steps p.tables e below (T1.setTop (mkF m 44 #[.val (.int pi1), .val (.int pi2), .val (.int (1 : Int32)), .val (.int (1 : Int32)), .val (.int ((pi2.toUInt32 >>> ((2 : Int32) &&& 31).toUInt32).toInt32)), .unset, .unset] [(.int (1 : Int32)), (.ref b1), (.ref b1)])) _
    refine XS.iloadN X1.here hx rfl (hb hby at_44) rfl ?_
    show Steps p.tables e below (T1.setTop (mkF m 45 #[.val (.int pi1), .val (.int pi2), .val (.int (1 : Int32)), .val (.int (1 : Int32)), .val (.int ((pi2.toUInt32 >>> ((2 : Int32) &&& 31).toUInt32).toInt32)), .unset, .unset] [(.int (1 : Int32)), (.int (1 : Int32)), (.ref b1), (.ref b1)])) _
    refine XS.iload X1.here hx rfl (hb hby at_45) rfl ?_
    show Steps p.tables e below (T1.setTop (mkF m 47 #[.val (.int pi1), .val (.int pi2), .val (.int (1 : Int32)), .val (.int (1 : Int32)), .val (.int ((pi2.toUInt32 >>> ((2 : Int32) &&& 31).toUInt32).toInt32)), .unset, .unset] [(.int ((pi2.toUInt32 >>> ((2 : Int32) &&& 31).toUInt32).toInt32)), (.int (1 : Int32)), (.int (1 : Int32)), (.ref b1), (.ref b1)])) _
    refine st2.trans ?_
    show Steps p.tables e below (T2.setTop (mkF m 50 #[.val (.int pi1), .val (.int pi2), .val (.int (1 : Int32)), .val (.int (1 : Int32)), .val (.int ((pi2.toUInt32 >>> ((2 : Int32) &&& 31).toUInt32).toInt32)), .unset, .unset] [(.ref b1)])) _
    refine XS.astore X2.here hx rfl (hb hby at_50) rfl rfl (l' := #[.val (.int pi1), .val (.int pi2), .val (.int (1 : Int32)), .val (.int (1 : Int32)), .val (.int ((pi2.toUInt32 >>> ((2 : Int32) &&& 31).toUInt32).toInt32)), .val (.ref b1), .unset]) rfl ?_
    show Steps p.tables e below (T2.setTop (mkF m 52 #[.val (.int pi1), .val (.int pi2), .val (.int (1 : Int32)), .val (.int (1 : Int32)), .val (.int ((pi2.toUInt32 >>> ((2 : Int32) &&& 31).toUInt32).toInt32)), .val (.ref b1), .unset] [])) _
    refine XS.iloadN X2.here hx rfl (hb hby at_52) rfl ?_
    show Steps p.tables e below (T2.setTop (mkF m 53 #[.val (.int pi1), .val (.int pi2), .val (.int (1 : Int32)), .val (.int (1 : Int32)), .val (.int ((pi2.toUInt32 >>> ((2 : Int32) &&& 31).toUInt32).toInt32)), .val (.ref b1), .unset] [(.int pi1)])) _
    refine XS.iconst X2.here hx rfl (hb hby at_53) ?_
    show Steps p.tables e below (T2.setTop (mkF m 54 #[.val (.int pi1), .val (.int pi2), .val (.int (1 : Int32)), .val (.int (1 : Int32)), .val (.int ((pi2.toUInt32 >>> ((2 : Int32) &&& 31).toUInt32).toInt32)), .val (.ref b1), .unset] [(.int (3 : Int32)), (.int pi1)])) _
    refine XS.iand X2.here hx rfl (hb hby at_54) rfl ?_
    show Steps p.tables e below (T2.setTop (mkF m 55 #[.val (.int pi1), .val (.int pi2), .val (.int (1 : Int32)), .val (.int (1 : Int32)), .val (.int ((pi2.toUInt32 >>> ((2 : Int32) &&& 31).toUInt32).toInt32)), .val (.ref b1), .unset] [(.int (pi1 &&& (3 : Int32)))])) _
    refine XS.ifYes X2.here hx rfl (pc0 := 55) (pc' := 67) rfl (hb hby at_55) rfl ((if0 _ _).trans (feq (own_n1 hc3_0)).2) (by decide) (by decide) ?_
    show Steps p.tables e below (T2.setTop (mkF m 67 #[.val (.int pi1), .val (.int pi2), .val (.int (1 : Int32)), .val (.int (1 : Int32)), .val (.int ((pi2.toUInt32 >>> ((2 : Int32) &&& 31).toUInt32).toInt32)), .val (.ref b1), .unset] [])) _
    refine XS.iconst X2.here hx rfl (hb hby at_67) ?_
    show Steps p.tables e below (T2.setTop (mkF m 68 #[.val (.int pi1), .val (.int pi2), .val (.int (1 : Int32)), .val (.int (1 : Int32)), .val (.int ((pi2.toUInt32 >>> ((2 : Int32) &&& 31).toUInt32).toInt32)), .val (.ref b1), .unset] [(.int (0 : Int32))])) _
    refine XS.istore X2.here hx rfl (hb hby at_68) rfl (l' := #[.val (.int pi1), .val (.int pi2), .val (.int (1 : Int32)), .val (.int (1 : Int32)), .val (.int ((pi2.toUInt32 >>> ((2 : Int32) &&& 31).toUInt32).toInt32)), .val (.ref b1), .val (.int (0 : Int32))]) rfl ?_
    show Steps p.tables e below (T2.setTop (mkF m 70 #[.val (.int pi1), .val (.int pi2), .val (.int (1 : Int32)), .val (.int (1 : Int32)), .val (.int ((pi2.toUInt32 >>> ((2 : Int32) &&& 31).toUInt32).toInt32)), .val (.ref b1), .val (.int (0 : Int32))] [])) _
    refine XS.aload X2.here hx rfl (hb hby at_70) rfl rfl ?_
    show Steps p.tables e below (T2.setTop (mkF m 72 #[.val (.int pi1), .val (.int pi2), .val (.int (1 : Int32)), .val (.int (1 : Int32)), .val (.int ((pi2.toUInt32 >>> ((2 : Int32) &&& 31).toUInt32).toInt32)), .val (.ref b1), .val (.int (0 : Int32))] [(.ref b1)])) _
    refine st5.trans ?_
    show Steps p.tables e below (T5.setTop (mkF m 75 #[.val (.int pi1), .val (.int pi2), .val (.int (1 : Int32)), .val (.int (1 : Int32)), .val (.int ((pi2.toUInt32 >>> ((2 : Int32) &&& 31).toUInt32).toInt32)), .val (.ref b1), .val (.int (0 : Int32))] [(.int (0 : Int32))])) _
    refine XS.iload X5.here hx rfl (hb hby at_75) rfl ?_
    show Steps p.tables e below (T5.setTop (mkF m 77 #[.val (.int pi1), .val (.int pi2), .val (.int (1 : Int32)), .val (.int (1 : Int32)), .val (.int ((pi2.toUInt32 >>> ((2 : Int32) &&& 31).toUInt32).toInt32)), .val (.ref b1), .val (.int (0 : Int32))] [(.int (0 : Int32)), (.int (0 : Int32))])) _
    refine XS.icmpNo X5.here hx rfl (hb hby at_77) rfl (teq (rfl : (0 : Int32) = (0 : Int32))).2 ?_
    show Steps p.tables e below (T5.setTop (mkF m 80 #[.val (.int pi1), .val (.int pi2), .val (.int (1 : Int32)), .val (.int (1 : Int32)), .val (.int ((pi2.toUInt32 >>> ((2 : Int32) &&& 31).toUInt32).toInt32)), .val (.ref b1), .val (.int (0 : Int32))] [])) _
    refine XS.aload X5.here hx rfl (hb hby at_80) rfl rfl ?_
    show Steps p.tables e below (T5.setTop (mkF m 82 #[.val (.int pi1), .val (.int pi2), .val (.int (1 : Int32)), .val (.int (1 : Int32)), .val (.int ((pi2.toUInt32 >>> ((2 : Int32) &&& 31).toUInt32).toInt32)), .val (.ref b1), .val (.int (0 : Int32))] [(.ref b1)])) _
    refine st8.trans ?_
    show Steps p.tables e below (T8.setTop (mkF m 85 #[.val (.int pi1), .val (.int pi2), .val (.int (1 : Int32)), .val (.int (1 : Int32)), .val (.int ((pi2.toUInt32 >>> ((2 : Int32) &&& 31).toUInt32).toInt32)), .val (.ref b1), .val (.int (0 : Int32))] [(.int (1 : Int32))])) _
    refine XS.iloadN X8.here hx rfl (hb hby at_85) rfl ?_
    show Steps p.tables e below (T8.setTop (mkF m 86 #[.val (.int pi1), .val (.int pi2), .val (.int (1 : Int32)), .val (.int (1 : Int32)), .val (.int ((pi2.toUInt32 >>> ((2 : Int32) &&& 31).toUInt32).toInt32)), .val (.ref b1), .val (.int (0 : Int32))] [(.int (1 : Int32)), (.int (1 : Int32))])) _
    refine XS.icmpNo X8.here hx rfl (hb hby at_86) rfl (teq (rfl : (1 : Int32) = (1 : Int32))).2 ?_
    show Steps p.tables e below (T8.setTop (mkF m 89 #[.val (.int pi1), .val (.int pi2), .val (.int (1 : Int32)), .val (.int (1 : Int32)), .val (.int ((pi2.toUInt32 >>> ((2 : Int32) &&& 31).toUInt32).toInt32)), .val (.ref b1), .val (.int (0 : Int32))] [])) _
    refine XS.aload X8.here hx rfl (hb hby at_89) rfl rfl ?_
    show Steps p.tables e below (T8.setTop (mkF m 91 #[.val (.int pi1), .val (.int pi2), .val (.int (1 : Int32)), .val (.int (1 : Int32)), .val (.int ((pi2.toUInt32 >>> ((2 : Int32) &&& 31).toUInt32).toInt32)), .val (.ref b1), .val (.int (0 : Int32))] [(.ref b1)])) _
    refine st9.trans ?_
    show Steps p.tables e below (T9.setTop (mkF m 94 #[.val (.int pi1), .val (.int pi2), .val (.int (1 : Int32)), .val (.int (1 : Int32)), .val (.int ((pi2.toUInt32 >>> ((2 : Int32) &&& 31).toUInt32).toInt32)), .val (.ref b1), .val (.int (0 : Int32))] [(.int (1 : Int32))])) _
    refine XS.iloadN X9.here hx rfl (hb hby at_94) rfl ?_
    show Steps p.tables e below (T9.setTop (mkF m 95 #[.val (.int pi1), .val (.int pi2), .val (.int (1 : Int32)), .val (.int (1 : Int32)), .val (.int ((pi2.toUInt32 >>> ((2 : Int32) &&& 31).toUInt32).toInt32)), .val (.ref b1), .val (.int (0 : Int32))] [(.int (1 : Int32)), (.int (1 : Int32))])) _
    refine XS.icmpNo X9.here hx rfl (hb hby at_95) rfl (teq (rfl : (1 : Int32) = (1 : Int32))).2 ?_
    show Steps p.tables e below (T9.setTop (mkF m 98 #[.val (.int pi1), .val (.int pi2), .val (.int (1 : Int32)), .val (.int (1 : Int32)), .val (.int ((pi2.toUInt32 >>> ((2 : Int32) &&& 31).toUInt32).toInt32)), .val (.ref b1), .val (.int (0 : Int32))] [])) _
    refine XS.aload X9.here hx rfl (hb hby at_98) rfl rfl ?_
    show Steps p.tables e below (T9.setTop (mkF m 100 #[.val (.int pi1), .val (.int pi2), .val (.int (1 : Int32)), .val (.int (1 : Int32)), .val (.int ((pi2.toUInt32 >>> ((2 : Int32) &&& 31).toUInt32).toInt32)), .val (.ref b1), .val (.int (0 : Int32))] [(.ref b1)])) _
    refine st10.trans ?_
    show Steps p.tables e below (T10.setTop (mkF m 103 #[.val (.int pi1), .val (.int pi2), .val (.int (1 : Int32)), .val (.int (1 : Int32)), .val (.int ((pi2.toUInt32 >>> ((2 : Int32) &&& 31).toUInt32).toInt32)), .val (.ref b1), .val (.int (0 : Int32))] [(.int ((pi2.toUInt32 >>> ((2 : Int32) &&& 31).toUInt32).toInt32))])) _
    refine XS.iload X10.here hx rfl (hb hby at_103) rfl ?_
    show Steps p.tables e below (T10.setTop (mkF m 105 #[.val (.int pi1), .val (.int pi2), .val (.int (1 : Int32)), .val (.int (1 : Int32)), .val (.int ((pi2.toUInt32 >>> ((2 : Int32) &&& 31).toUInt32).toInt32)), .val (.ref b1), .val (.int (0 : Int32))] [(.int ((pi2.toUInt32 >>> ((2 : Int32) &&& 31).toUInt32).toInt32)), (.int ((pi2.toUInt32 >>> ((2 : Int32) &&& 31).toUInt32).toInt32))])) _
    refine XS.icmpNo X10.here hx rfl (hb hby at_105) rfl (teq (rfl : ((pi2.toUInt32 >>> ((2 : Int32) &&& 31).toUInt32).toInt32) = ((pi2.toUInt32 >>> ((2 : Int32) &&& 31).toUInt32).toInt32))).2 ?_
    show Steps p.tables e below (T10.setTop (mkF m 108 #[.val (.int pi1), .val (.int pi2), .val (.int (1 : Int32)), .val (.int (1 : Int32)), .val (.int ((pi2.toUInt32 >>> ((2 : Int32) &&& 31).toUInt32).toInt32)), .val (.ref b1), .val (.int (0 : Int32))] [])) _
    refine XS.iconst X10.here hx rfl (hb hby at_108) ?_
    show Steps p.tables e below (T10.setTop (mkF m 109 #[.val (.int pi1), .val (.int pi2), .val (.int (1 : Int32)), .val (.int (1 : Int32)), .val (.int ((pi2.toUInt32 >>> ((2 : Int32) &&& 31).toUInt32).toInt32)), .val (.ref b1), .val (.int (0 : Int32))] [(.int (1 : Int32))])) _
    refine XS.goto X10.here hx rfl (pc0 := 109) (pc' := 113) rfl (hb hby at_109) (by decide) (by decide) ?_
    show Steps p.tables e below (T10.setTop (mkF m 113 #[.val (.int pi1), .val (.int pi2), .val (.int (1 : Int32)), .val (.int (1 : Int32)), .val (.int ((pi2.toUInt32 >>> ((2 : Int32) &&& 31).toUInt32).toInt32)), .val (.ref b1), .val (.int (0 : Int32))] [(.int (1 : Int32))])) _
    exact retN X10 hx (t := .boolean) Bd.returns (by simp) (hb hby at_113) hr
  · exact ⟨rfl, N10⟩
set_option maxRecDepth 65536 in
set_option maxHeartbeats 40000000 in
theorem rm0 (l : Launch) (Z : State) (a0 : Array Value) (hw : ∀ d ∈ tables_1, d.before a0 Z = true) (ws : List Jvm.Cond) (pi1 : Int32) (pi2 : Int32) (h0 : Heap) (n0 : Nat) (Z0 : n0 ≤ h0.size) (O0 : Old Z n0 h0) :
    MetFree l x (head1 (Jvm.Cond.code x code maxLocals ret :: ws) room_1) (fun a U => a = #[(.int pi1), (.int pi2)] ∧ Z.Warmed39 U.vm ∧ U.heap = h0) (fun _ _ _ _ _ => True) (fun _ U o U' => ∃ v L, o = .returned v ∧ Q0 v L n0 ∧ FrameEnd U o U' L room_1.cells room_1.slots) := by
  by_cases H1 : (pi1 &&& (1 : Int32)) = (0 : Int32)
  · by_cases H2 : (pi1 &&& (2 : Int32)) = (0 : Int32)
    · by_cases H3 : (pi2 &&& (3 : Int32)) = (0 : Int32)
      · exact rm0_ttt l Z a0 hw ws pi1 pi2 h0 n0 Z0 O0  H1 H2 H3
      · by_cases H4 : ((pi2.toUInt32 >>> ((2 : Int32) &&& 31).toUInt32).toInt32) = (0 : Int32)
        · exact rm0_ttft l Z a0 hw ws pi1 pi2 h0 n0 Z0 O0  H1 H2 H3 H4
        · exact rm0_ttff l Z a0 hw ws pi1 pi2 h0 n0 Z0 O0  H1 H2 H3 H4
    · by_cases H5 : (pi2 &&& (3 : Int32)) = (0 : Int32)
      · exact rm0_tft l Z a0 hw ws pi1 pi2 h0 n0 Z0 O0  H1 H2 H5
      · exact rm0_tff l Z a0 hw ws pi1 pi2 h0 n0 Z0 O0  H1 H2 H5
  · by_cases H6 : (pi1 &&& (2 : Int32)) = (0 : Int32)
    · by_cases H7 : (pi2 &&& (3 : Int32)) = (0 : Int32)
      · exact rm0_ftt l Z a0 hw ws pi1 pi2 h0 n0 Z0 O0  H1 H6 H7
      · exact rm0_ftf l Z a0 hw ws pi1 pi2 h0 n0 Z0 O0  H1 H6 H7
    · by_cases H8 : (pi2 &&& (3 : Int32)) = (0 : Int32)
      · exact rm0_fft l Z a0 hw ws pi1 pi2 h0 n0 Z0 O0  H1 H6 H8
      · exact rm0_fff l Z a0 hw ws pi1 pi2 h0 n0 Z0 O0  H1 H6 H8
set_option maxRecDepth 65536 in
set_option maxHeartbeats 40000000 in
theorem comes_1 {Post : Tables → Env → Array Value → State → Outcome → State → Prop} (hpost : ∀ tb e args s v u, (limb_1_1.after args s (.returned v) u = true ∧ limb_1_2.after args s (.returned v) u = true ∧ True) → FrameEnd s (.returned v) u (Jvm.fieldLocs frame_1_writes args s ++ Jvm.arrayLocs frame_1_arrays args s ++ Jvm.staticLocs frame_1_statics s) 16 128 → Post tb e args s (.returned v) u) :
    ArmFor flags0 classFile x code maxLocals ret World_1 tables_1 room_1 Calls_1 rest_1 Pre_1 Post := by
  intro l hfl _ _ p e ha hc hk s m args below hf hA hF happ hP
  obtain ⟨hcalls, hrest, hpre⟩ := hP
  obtain ⟨-, -, -, hnamed, -, -, -, hat⟩ := (Spec.applies_iff hf).mp happ
  obtain ⟨hg, hn⟩ := and_e (Cond.before_iff.mp (show (Jvm.Cond.and given_1 narrow_1).before args s = true from hpre))
  obtain ⟨g1, g2⟩ := and_e hg
  obtain ⟨g3, g4⟩ := and_e g2
  obtain ⟨w0, w1, rfl⟩ : ∃ w0 w1 : Value, args = #[w0, w1] := by
    have hs : args.size = 2 := by simpa [Cond.value, given_1] using g1
    obtain ⟨L⟩ := args
    match L, hs with
    | [w0, w1], _ => exact ⟨w0, w1, rfl⟩
  have hw := fun d (hd : d ∈ tables_1) => atoms_spec (ws := Jvm.Cond.code x code maxLocals ret :: tables_1) hat d (List.mem_cons_of_mem _ hd)
  have hfit : Fit s := fun {y c} hc i hi => by
    obtain ⟨ha, rfl⟩ := Array.getElem?_eq_some_iff.mp hc
    have q := List.all_eq_true.mp ((Array.all_eq_true_iff_forall_mem.mp hF) _ (Array.getElem_mem ha)) i (List.mem_range.mpr hi)
    simpa [Array.getElem?_eq_getElem hi] using q
  obtain ⟨i0, ei0⟩ := is_v g3
  obtain rfl : w0 = (.int i0) := Option.some.inj ei0
  obtain ⟨i1, ei1⟩ := is_v g4
  obtain rfl : w1 = (.int i1) := Option.some.inj ei1
  obtain ⟨n, o, h1, h2, h3, _, L, rfl, ⟨rfl, N⟩, hq⟩ := rm0 l s _ hw tables_1 i0 i1  s.heap s.heap.size (Nat.le_refl _) (Old.start s)  p e ha hc hk s m _ below hf ((Spec.applies_iff_loose hf).mp happ).1 ⟨rfl, State.Warmed39.refl s, rfl⟩ trivial
  refine ⟨n, _, h1, h2, h3, hpost _ _ _ _ _ _ ⟨Cond.after_iff.mpr rfl, Cond.after_iff.mpr (eq_i res_at (Term.int_eval (1)) rfl), trivial⟩ ⟨hq.1, hq.2.1, (hq.2.2.sift fun y hy => Or.inr (N y hy)).mono (by decide) (by decide)⟩⟩
theorem main_1_1 : Claimed_1_1 := comes_1 fun _ _ _ _ _ _ h hF => ⟨h.1, hF⟩
theorem main_1_2 : Claimed_1_2 := comes_1 fun _ _ _ _ _ _ h hF => ⟨h.2.1, hF⟩
end Jvm.Pilot.@@N@@
namespace Jvm.Pilot.@@N@@
open Jvm Jvm.ClassFile Sem Op Lib Jvm.Free Jvm.Stand Jvm.Pilot.@@N@@.Jvm.D
/-! MADE BY PROGRAM (witnessworld.py) out of the Statement's table words and the real class files: 8 classes; the members and pool entries that the words name. The judged class is class 1, her method 1. -/
namespace start1
open Jvm.ClassFile
def u (s : String) : CpInfo := .utf8 (stringToUtf16 s)
/-- a pool by its gaps: so many unusable entries, then the entry; so many at the end -/
def gap : Nat → List CpInfo → List CpInfo
  | 0, r => r
  | n + 1, r => .unusable :: gap n r
def poolList (es : List (Nat × CpInfo)) (last : Nat) : List CpInfo := es.foldr (fun e r => gap e.1 (e.2 :: r)) (gap last [])
def pool (es : List (Nat × CpInfo)) (last : Nat) : Array CpInfo := ⟨poolList es last⟩
def fileOf (pool : Array CpInfo) (this : Nat) (attrs : Array Attribute := #[]) (ms : Array MethodInfo := #[]) (fl : Nat := 33) (sup : Nat := 0) (ifs : Array Nat := #[]) (fds : Array FieldInfo := #[]) : ClassFile where
  minorVersion := 0
  majorVersion := 65
  constantPool := pool
  accessFlags := fl
  thisClass := this
  superClass := sup
  interfaces := ifs
  fields := fds
  methods := ms
  attributes := attrs
def plain (name : String) (sup : Option ClassId) : Class where
  name := name
  kind := .ordinary
  loader := none
  accessFlags := 33
  super := sup
  interfaces := #[]
  cf := none
  fields := #[]
  methods := #[]
  instanceTypes := #[]
  staticTypes := #[]
  resolved := #[]
  callSites := []
  init := .initialized
  statics := none
  mirror := none

def pool0 : Array CpInfo := pool [(5, u "<init>"), (0, u "()V"), (1, .class_ 10), (1, u "java/lang/Object")] 113

def k0c0 : Code := { maxStack := 0, maxLocals := 1, code := object_method_1_code, exceptionTable := #[], attributes := #[] }
def k0m0 : Method := { name := "<init>", desc := "()V", sig := { parameters := [], returnType := none }, accessFlags := 1, code := some k0c0 }
/-- java/lang/Object -/
def k0 : Class := { plain "java/lang/Object" none with
  accessFlags := 33
  interfaces := #[]
  cf := some (fileOf pool0 8 #[] #[{ accessFlags := 1, nameIndex := 5, descriptorIndex := 6, attributes := #[] }] 33 0 #[] #[])
  fields := #[]
  methods := #[k0m0]
  instanceTypes := #[]
  staticTypes := #[]
  resolved := Array.replicate 124 none
  statics := none }

def pool1 : Array CpInfo := pool [(2, .class_ 4), (1, u "java/lang/Object"), (0, u "<init>"), (0, u "()V"), (0, .class_ 8), (0, u "com/example/linkstride/linkstride/engine/Completeness"), (0, .methodref 7 10), (0, .nameAndType 5 11), (0, u "(ZZI)V"), (0, .methodref 7 13), (0, .nameAndType 14 15), (0, u "complete"), (0, u "()Z"), (0, .methodref 7 17), (0, .nameAndType 18 15), (0, u "budgetReached"), (0, .methodref 7 20), (0, .nameAndType 21 15), (0, u "lookupLimitReached"), (0, .methodref 7 23), (0, .nameAndType 24 25), (0, u "lookupsCut"), (0, u "()I"), (0, .class_ 27), (0, u "com/example/linkstride/linkstride/engine/CompletenessCompletePinLaw"), (2, u "law"), (0, u "(II)Z")] 3

def k1m0 : Method := { name := "<init>", desc := "()V", sig := { parameters := [], returnType := none }, accessFlags := 2, code := none }
def k1c1 : Code := { maxStack := 5, maxLocals := 7, code := code, exceptionTable := #[], attributes := #[] }
def k1m1 : Method := { name := "law", desc := "(II)Z", sig := { parameters := [.int, .int], returnType := some .boolean }, accessFlags := 9, code := some k1c1 }
/-- com/example/linkstride/linkstride/engine/CompletenessCompletePinLaw -/
def k1 : Class := { plain "com/example/linkstride/linkstride/engine/CompletenessCompletePinLaw" (some 0) with
  accessFlags := 49
  interfaces := #[]
  cf := some (fileOf pool1 26 #[] #[{ accessFlags := 2, nameIndex := 5, descriptorIndex := 6, attributes := #[] }, { accessFlags := 9, nameIndex := 30, descriptorIndex := 31, attributes := #[] }] 49 2 #[] #[])
  fields := #[]
  methods := #[k1m0, k1m1]
  instanceTypes := #[]
  staticTypes := #[]
  resolved := Array.replicate 35 none
  statics := none }

def pool2 : Array CpInfo := pool [(1, .methodref 2 3), (0, .class_ 4), (0, .nameAndType 5 6), (0, u "java/lang/Object"), (0, u "<init>"), (0, u "()V"), (0, .class_ 8), (0, u "java/lang/Record")] 13

def k2c0 : Code := { maxStack := 1, maxLocals := 1, code := jdk_30_method_1_code, exceptionTable := #[], attributes := #[] }
def k2m0 : Method := { name := "<init>", desc := "()V", sig := { parameters := [], returnType := none }, accessFlags := 4, code := some k2c0 }
/-- java/lang/Record -/
def k2 : Class := { plain "java/lang/Record" (some 0) with
  accessFlags := 1057
  interfaces := #[]
  cf := some (fileOf pool2 7 #[] #[{ accessFlags := 4, nameIndex := 5, descriptorIndex := 6, attributes := #[] }] 1057 2 #[] #[])
  fields := #[]
  methods := #[k2m0]
  instanceTypes := #[]
  staticTypes := #[]
  resolved := Array.replicate 22 none
  statics := none }

def pool3 : Array CpInfo := pool [(1, .methodref 2 3), (0, .class_ 4), (0, .nameAndType 5 6), (0, u "java/lang/Record"), (0, u "<init>"), (0, u "()V"), (0, .fieldref 8 9), (0, .class_ 10), (0, .nameAndType 11 12), (0, u "com/example/linkstride/linkstride/engine/Completeness"), (0, u "budgetReached"), (0, u "Z"), (0, .fieldref 8 14), (0, .nameAndType 15 12), (0, u "lookupLimitReached"), (0, .fieldref 8 17), (0, .nameAndType 18 19), (0, u "lookupsCut"), (0, u "I"), (12, u "(ZZI)V"), (3, u "complete"), (0, u "()Z"), (2, u "()I")] 23

def k3c0 : Code := { maxStack := 2, maxLocals := 4, code := prog_13_method_1_code, exceptionTable := #[], attributes := #[] }
def k3m0 : Method := { name := "<init>", desc := "(ZZI)V", sig := { parameters := [.boolean, .boolean, .int], returnType := none }, accessFlags := 1, code := some k3c0 }
def k3c1 : Code := { maxStack := 1, maxLocals := 1, code := prog_13_method_2_code, exceptionTable := #[], attributes := #[] }
def k3m1 : Method := { name := "complete", desc := "()Z", sig := { parameters := [], returnType := some .boolean }, accessFlags := 1, code := some k3c1 }
def k3c2 : Code := { maxStack := 1, maxLocals := 1, code := prog_13_method_6_code, exceptionTable := #[], attributes := #[] }
def k3m2 : Method := { name := "budgetReached", desc := "()Z", sig := { parameters := [], returnType := some .boolean }, accessFlags := 1, code := some k3c2 }
def k3c3 : Code := { maxStack := 1, maxLocals := 1, code := prog_13_method_7_code, exceptionTable := #[], attributes := #[] }
def k3m3 : Method := { name := "lookupLimitReached", desc := "()Z", sig := { parameters := [], returnType := some .boolean }, accessFlags := 1, code := some k3c3 }
def k3c4 : Code := { maxStack := 1, maxLocals := 1, code := prog_13_method_8_code, exceptionTable := #[], attributes := #[] }
def k3m4 : Method := { name := "lookupsCut", desc := "()I", sig := { parameters := [], returnType := some .int }, accessFlags := 1, code := some k3c4 }
/-- com/example/linkstride/linkstride/engine/Completeness -/
def k3 : Class := { plain "com/example/linkstride/linkstride/engine/Completeness" (some 2) with
  accessFlags := 49
  interfaces := #[]
  cf := some (fileOf pool3 8 #[] #[{ accessFlags := 1, nameIndex := 5, descriptorIndex := 32, attributes := #[] }, { accessFlags := 1, nameIndex := 36, descriptorIndex := 37, attributes := #[] }, { accessFlags := 1, nameIndex := 11, descriptorIndex := 37, attributes := #[] }, { accessFlags := 1, nameIndex := 15, descriptorIndex := 37, attributes := #[] }, { accessFlags := 1, nameIndex := 18, descriptorIndex := 40, attributes := #[] }] 49 2 #[] #[{ accessFlags := 18, nameIndex := 11, descriptorIndex := 12, attributes := #[] }, { accessFlags := 18, nameIndex := 15, descriptorIndex := 12, attributes := #[] }, { accessFlags := 18, nameIndex := 18, descriptorIndex := 19, attributes := #[] }])
  fields := #[{ name := "budgetReached", type := .boolean, accessFlags := 18, slot := 0, constantValue := 0 }, { name := "lookupLimitReached", type := .boolean, accessFlags := 18, slot := 1, constantValue := 0 }, { name := "lookupsCut", type := .int, accessFlags := 18, slot := 2, constantValue := 0 }]
  methods := #[k3m0, k3m1, k3m2, k3m3, k3m4]
  instanceTypes := #[.boolean, .boolean, .int]
  staticTypes := #[]
  resolved := Array.replicate 64 none
  statics := none }

def pool4 : Array CpInfo := pool [(1, u "java/lang/Cloneable"), (0, .class_ 1), (0, u "java/lang/Object"), (0, .class_ 3)] 3

/-- java/lang/Cloneable -/
def k4 : Class := { plain "java/lang/Cloneable" (some 0) with
  accessFlags := 1537
  interfaces := #[]
  cf := some (fileOf pool4 2 #[] #[] 1537 4 #[] #[])
  fields := #[]
  methods := #[]
  instanceTypes := #[]
  staticTypes := #[]
  resolved := Array.replicate 8 none
  statics := none }

def pool5 : Array CpInfo := pool [(1, u "java/io/Serializable"), (0, .class_ 1), (0, u "java/lang/Object"), (0, .class_ 3)] 3

/-- java/io/Serializable -/
def k5 : Class := { plain "java/io/Serializable" (some 0) with
  accessFlags := 1537
  interfaces := #[]
  cf := some (fileOf pool5 2 #[] #[] 1537 4 #[] #[])
  fields := #[]
  methods := #[]
  instanceTypes := #[]
  staticTypes := #[]
  resolved := Array.replicate 8 none
  statics := none }

/-- the primitive byte -/
def k6 : Class := { plain "byte" none with kind := .primitive 'B', accessFlags := 0x411 }
/-- [B -/
def k7 : Class := { plain "[B" (some 0) with kind := .array 6 .byte, interfaces := #[4, 5], accessFlags := 1041 }

def heap : Heap := #[]
def classes : Array Class := #[k0, k1, k2, k3, k4, k5, k6, k7]
def interned : List (Array UInt16 × Addr) := []
def slotsUsed : Nat := 0
def theMethod : MethodId := ⟨1, 1⟩
def args0 : Array Value := #[.int 1, .int 2]
def aboutOver (below : List Frame) : State where
  vm := { classes := classes, interned := interned.toArray }
  heap := heap
  slotsUsed := slotsUsed
  threads := #[{ frames := .invoking theMethod args0 :: below }]
def below0 : List Frame := [.native { method := ⟨0, 0⟩, args := #[] }]
def about1 : State := aboutOver below0
def p0 : Program := .bare "" "" ""
def e0 : Env := launch0.env 0 0 0
theorem w_frames : about1.frames = Frame.invoking theMethod args0 :: below0 := rfl
set_option maxRecDepth 65536 in
theorem w_args : argsFit about1.vm theMethod args0 = true := by decide +kernel
set_option maxRecDepth 65536 in
theorem w_heap : heapFits about1 = true := by decide +kernel
set_option maxRecDepth 65536 in
theorem w_runnable : about1.curStatus? = some .runnable := by decide +kernel
set_option maxRecDepth 65536 in
theorem w_alone : about1.alone = true := by decide +kernel
set_option maxRecDepth 65536 in
theorem w_named : about1.methodNamed? x = some theMethod := by decide +kernel
set_option maxRecDepth 65536 in
theorem w_hears : about1.hears theMethod below0 = true := by decide +kernel
set_option maxRecDepth 65536 in
theorem w_ripe : about1.ripe theMethod args0 below0 = true := by decide +kernel
theorem w_running : about1.status = .running := rfl
set_option maxRecDepth 65536 in
theorem w_room : about1.hasRoom e0.platform room_1 = true :=
  launch0.hasRoom_least _ room_1 (by decide +kernel) (by decide +kernel) (by decide +kernel) (by decide +kernel) (by decide +kernel) (by decide +kernel)
theorem allAtoms_all (ts : List Jvm.Cond) (a : Array Jvm.Value) (st : Jvm.State) : (allAtoms ts).before a st = ts.all (fun c => c.before a st) := by
  induction ts with
  | nil => rfl
  | cons c t ih =>
    show (Jvm.Cond.and c (allAtoms t)).before a st = _
    rw [Jvm.Cond.before_and, ih, List.all_cons]
def words1 : List Jvm.Cond := Jvm.Cond.code x code maxLocals ret :: tables_1
/-- a 'code' word, met by the world's own term for the bytes: nothing is compared byte by byte -/
theorem code_word {y : MethodName} {bytes : ByteArray} {mx : Nat} {rt : Option FieldType} {a : Array Value} {s : State} {m : MethodId} {meth : Method} {c : Code} (h1 : s.methodNamed? y = some m) (h2 : s.vm.method? m = some meth) (h3 : meth.code = some c) (h4 : c.code = bytes)
    (h5 : (c.maxLocals == mx && c.exceptionTable.isEmpty && decide (c.maxStack ≤ mostOperands) && decide (meth.sig.returnType = rt) && !meth.locks && decide (parseMethodDescriptor y.desc = some meth.sig)) = true) : (Jvm.Cond.code y bytes mx rt).before a s = true := by
  simp only [Bool.and_eq_true, beq_iff_eq, Bool.not_eq_true', decide_eq_true_eq] at h5
  obtain ⟨⟨⟨⟨⟨g1, g2⟩, g3⟩, g4⟩, g5⟩, g6⟩ := h5
  simp [Cond.before, Cond.holds, Cond.value, h1, h2, h3, h4, g1, g2, g3, g4, g5, g6]
def isCode : Jvm.Cond → Bool
  | .code _ _ _ _ => true
  | _ => false
theorem all_split {L : List Jvm.Cond} {P : Jvm.Cond → Bool} (h1 : L.all (fun c => isCode c || P c) = true) (h2 : ∀ c ∈ L.filter isCode, P c = true) : L.all P = true := by
  refine List.all_eq_true.mpr fun c hc => ?_
  have h := List.all_eq_true.mp h1 c hc
  rcases Bool.eq_false_or_eq_true (isCode c) with hi | hi
  · exact h2 c (List.mem_filter.mpr ⟨hc, hi⟩)
  · simpa [hi] using h
set_option maxRecDepth 65536 in
theorem w_c0 : (Jvm.Cond.code x code maxLocals ret).before args0 about1 = true := code_word (m := ⟨1, 1⟩) (meth := k1m1) (c := k1c1) (by decide +kernel) rfl rfl rfl (by decide +kernel)
set_option maxRecDepth 65536 in
theorem w_c1 : (Jvm.Cond.code ({ cls := "com/example/linkstride/linkstride/engine/Completeness", name := "<init>", desc := "(ZZI)V" } : Jvm.MethodName) prog_13_method_1_code (4 : Nat) (Option.none : Option Jvm.ClassFile.FieldType)).before args0 about1 = true := code_word (m := ⟨3, 0⟩) (meth := k3m0) (c := k3c0) (by decide +kernel) rfl rfl rfl (by decide +kernel)
set_option maxRecDepth 65536 in
theorem w_c2 : (Jvm.Cond.code ({ cls := "java/lang/Record", name := "<init>", desc := "()V" } : Jvm.MethodName) jdk_30_method_1_code (1 : Nat) (Option.none : Option Jvm.ClassFile.FieldType)).before args0 about1 = true := code_word (m := ⟨2, 0⟩) (meth := k2m0) (c := k2c0) (by decide +kernel) rfl rfl rfl (by decide +kernel)
set_option maxRecDepth 65536 in
theorem w_c3 : (Jvm.Cond.code ({ cls := "java/lang/Object", name := "<init>", desc := "()V" } : Jvm.MethodName) object_method_1_code (1 : Nat) (Option.none : Option Jvm.ClassFile.FieldType)).before args0 about1 = true := code_word (m := ⟨0, 0⟩) (meth := k0m0) (c := k0c0) (by decide +kernel) rfl rfl rfl (by decide +kernel)
set_option maxRecDepth 65536 in
theorem w_c4 : (Jvm.Cond.code ({ cls := "com/example/linkstride/linkstride/engine/Completeness", name := "complete", desc := "()Z" } : Jvm.MethodName) prog_13_method_2_code (1 : Nat) (Option.some Jvm.ClassFile.FieldType.boolean)).before args0 about1 = true := code_word (m := ⟨3, 1⟩) (meth := k3m1) (c := k3c1) (by decide +kernel) rfl rfl rfl (by decide +kernel)
set_option maxRecDepth 65536 in
theorem w_c5 : (Jvm.Cond.code ({ cls := "com/example/linkstride/linkstride/engine/Completeness", name := "budgetReached", desc := "()Z" } : Jvm.MethodName) prog_13_method_6_code (1 : Nat) (Option.some Jvm.ClassFile.FieldType.boolean)).before args0 about1 = true := code_word (m := ⟨3, 2⟩) (meth := k3m2) (c := k3c2) (by decide +kernel) rfl rfl rfl (by decide +kernel)
set_option maxRecDepth 65536 in
theorem w_c6 : (Jvm.Cond.code ({ cls := "com/example/linkstride/linkstride/engine/Completeness", name := "lookupLimitReached", desc := "()Z" } : Jvm.MethodName) prog_13_method_7_code (1 : Nat) (Option.some Jvm.ClassFile.FieldType.boolean)).before args0 about1 = true := code_word (m := ⟨3, 3⟩) (meth := k3m3) (c := k3c3) (by decide +kernel) rfl rfl rfl (by decide +kernel)
set_option maxRecDepth 65536 in
theorem w_c7 : (Jvm.Cond.code ({ cls := "com/example/linkstride/linkstride/engine/Completeness", name := "lookupsCut", desc := "()I" } : Jvm.MethodName) prog_13_method_8_code (1 : Nat) (Option.some Jvm.ClassFile.FieldType.int)).before args0 about1 = true := code_word (m := ⟨3, 4⟩) (meth := k3m4) (c := k3c4) (by decide +kernel) rfl rfl rfl (by decide +kernel)
def codes1 : List Jvm.Cond := [Jvm.Cond.code x code maxLocals ret, Jvm.Cond.code ({ cls := "com/example/linkstride/linkstride/engine/Completeness", name := "<init>", desc := "(ZZI)V" } : Jvm.MethodName) prog_13_method_1_code (4 : Nat) (Option.none : Option Jvm.ClassFile.FieldType), Jvm.Cond.code ({ cls := "java/lang/Record", name := "<init>", desc := "()V" } : Jvm.MethodName) jdk_30_method_1_code (1 : Nat) (Option.none : Option Jvm.ClassFile.FieldType), Jvm.Cond.code ({ cls := "java/lang/Object", name := "<init>", desc := "()V" } : Jvm.MethodName) object_method_1_code (1 : Nat) (Option.none : Option Jvm.ClassFile.FieldType), Jvm.Cond.code ({ cls := "com/example/linkstride/linkstride/engine/Completeness", name := "complete", desc := "()Z" } : Jvm.MethodName) prog_13_method_2_code (1 : Nat) (Option.some Jvm.ClassFile.FieldType.boolean), Jvm.Cond.code ({ cls := "com/example/linkstride/linkstride/engine/Completeness", name := "budgetReached", desc := "()Z" } : Jvm.MethodName) prog_13_method_6_code (1 : Nat) (Option.some Jvm.ClassFile.FieldType.boolean), Jvm.Cond.code ({ cls := "com/example/linkstride/linkstride/engine/Completeness", name := "lookupLimitReached", desc := "()Z" } : Jvm.MethodName) prog_13_method_7_code (1 : Nat) (Option.some Jvm.ClassFile.FieldType.boolean), Jvm.Cond.code ({ cls := "com/example/linkstride/linkstride/engine/Completeness", name := "lookupsCut", desc := "()I" } : Jvm.MethodName) prog_13_method_8_code (1 : Nat) (Option.some Jvm.ClassFile.FieldType.int)]
set_option maxRecDepth 65536 in
theorem codes_eq : words1.filter isCode = codes1 := rfl
theorem w_codes : ∀ c ∈ words1.filter isCode, c.before args0 about1 = true := by
  rw [codes_eq]
  intro c hc
  simp only [codes1, List.mem_cons, List.not_mem_nil, or_false] at hc
  rcases hc with rfl | rfl | rfl | rfl | rfl | rfl | rfl | rfl
  · exact w_c0
  · exact w_c1
  · exact w_c2
  · exact w_c3
  · exact w_c4
  · exact w_c5
  · exact w_c6
  · exact w_c7
set_option maxRecDepth 65536 in
theorem w_t1 : (words1.take 24).all (fun c => isCode c || c.before args0 about1) = true := by decide +kernel
set_option maxRecDepth 65536 in
theorem w_t2 : (words1.drop 24).all (fun c => isCode c || c.before args0 about1) = true := by decide +kernel
theorem w_tables : (allAtoms (Jvm.Cond.code x code maxLocals ret :: tables_1)).before args0 about1 = true := by
  rw [allAtoms_all]
  show words1.all (fun c => c.before args0 about1) = true
  refine all_split ?_ w_codes
  rw [← List.take_append_drop 24 words1, List.all_append, w_t1, w_t2]
  rfl
set_option maxRecDepth 65536 in
theorem w_case : (Jvm.Cond.and given_1 narrow_1).before args0 about1 = true := by decide +kernel
theorem w_applies : (headSpec (Jvm.Cond.code x code maxLocals ret :: tables_1) room_1).applies x e0.platform about1 = true :=
  (Spec.applies_iff w_frames).mpr ⟨w_running, w_runnable, w_alone, w_named, w_hears, w_ripe, w_room, w_tables⟩
theorem atStart : AtStart classFile x code maxLocals ret World_1 tables_1 room_1 Calls_1 rest_1 Pre_1 launch0 p0 e0 about1 theMethod args0 below0 :=
  ⟨lists_1, trivial, launch0.admits_env _ _ _, launch0.least_env, fairChoices_fair.cas, fairChoices_fair.clock, w_frames, w_args, w_heap, w_applies, trivial, trivial, w_case⟩
end start1
theorem witness_1 : WitnessClaimed_1 := ⟨start1.p0, start1.e0, start1.about1, start1.theMethod, start1.args0, start1.below0, start1.atStart⟩
end Jvm.Pilot.@@N@@
