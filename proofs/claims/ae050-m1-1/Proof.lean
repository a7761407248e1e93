import JvmDerived
import JvmDerived.Pilot.@@N@@Statement
import JvmDerived.Pilot.@@N@@Code
set_option linter.unusedVariables false
set_option linter.unusedSimpArgs false
namespace Jvm.RoadKit
open Sem ClassFile Op Lib Jvm.Stand Jvm.Free Jvm.LawKit
section New
variable {p : Program} {l : Launch} {e : Env} {R : Room} {s : State} {m : MethodId} {args : Array Value} {below : List Frame} {meth : Method} {c : Code} {T : State} {locs : List Loc} {cells slots : Nat}
theorem retI (X : Stand p l e R s m args below meth c T locs cells slots) (hx : p.tables.exec = Jvm.exec) {pc : Nat} {Ls : Array Slot} {z : Int32} {rest : List Value} (hret : meth.sig.returnType = some .int) (hd : decode c.code pc = .ok (.ireturn, 1)) {fs : List Frame}
    (hl : ∀ (f : JFrame) (acts : List Action), f.method = m → f.locked = none → f.entered = [] → (doReturn e (T.setTop f) acts (some (.int z))).1 = T.setFrames fs) : Steps p.tables e below (T.setTop (mkF m pc Ls (.int z :: rest))) (T.setFrames fs) := by
  have hm' : T.vm.method? m = some meth := X.method'
  have hn : narrow .int (.int z) = .int z := rfl
  show Steps p.tables e below (T.setTop { method := m, pc := pc, locals := Ls, stack := _ :: rest, locked := none }) _
  jvm_step X.here [X.here.top, hx, hd, hm', hret, hn]
  first | (intro acts; rw [hl _ acts rfl rfl rfl]) | rw [hl _ _ rfl rfl rfl]
  exact Steps.refl _
theorem own_dia {c : Prop} [Decidable c] {tb : Tables} {S tgt : State} {F : Int32 → State} {A B : Int32} (hy : c → ∀ t, Steps tb e below (F A) t → Steps tb e below S t) (hn : ¬ c → ∀ t, Steps tb e below (F B) t → Steps tb e below S t) (k : Steps tb e below (F (if c then A else B)) tgt) : Steps tb e below S tgt := by
  by_cases q : c
  · rw [if_pos q] at k; exact hy q _ k
  · rw [if_neg q] at k; exact hn q _ k
end New
end Jvm.RoadKit
namespace Jvm.Pilot.@@N@@
open Jvm Jvm.ClassFile Sem Op Lib Jvm.Free Jvm.Stand Jvm.LawKit Jvm.RoadKit Bundle Jvm.Pilot.@@N@@.Jvm.D
theorem d1_0 : decode prog_43_method_1_code 0 = .ok (.aload_n 0, 1) := by decide +kernel
theorem d1_1 : decode prog_43_method_1_code 1 = .ok (.invokespecial 1, 3) := by decide +kernel
theorem d1_4 : decode prog_43_method_1_code 4 = .ok (.aload_n 0, 1) := by decide +kernel
theorem d1_5 : decode prog_43_method_1_code 5 = .ok (.iload_n 1, 1) := by decide +kernel
theorem d1_6 : decode prog_43_method_1_code 6 = .ok (.putfield 7, 3) := by decide +kernel
theorem d1_9 : decode prog_43_method_1_code 9 = .ok (.aload_n 0, 1) := by decide +kernel
theorem d1_10 : decode prog_43_method_1_code 10 = .ok (.iload_n 2, 1) := by decide +kernel
theorem d1_11 : decode prog_43_method_1_code 11 = .ok (.putfield 13, 3) := by decide +kernel
theorem d1_14 : decode prog_43_method_1_code 14 = .ok (.aload_n 0, 1) := by decide +kernel
theorem d1_15 : decode prog_43_method_1_code 15 = .ok (.iload_n 3, 1) := by decide +kernel
theorem d1_16 : decode prog_43_method_1_code 16 = .ok (.putfield 17, 3) := by decide +kernel
theorem d1_19 : decode prog_43_method_1_code 19 = .ok (.aload_n 0, 1) := by decide +kernel
theorem d1_20 : decode prog_43_method_1_code 20 = .ok (.iload 4, 2) := by decide +kernel
theorem d1_22 : decode prog_43_method_1_code 22 = .ok (.putfield 20, 3) := by decide +kernel
theorem d1_25 : decode prog_43_method_1_code 25 = .ok (.return_, 1) := by decide +kernel
theorem pn_1 : plainName "com/example/cascade/cascade/session/RowRead" = true := by first | (simp [plainName, overriddenIn]; done) | decide +kernel
theorem ef_1 (m : MethodId) (pr0 : Addr) (pi1 : Int32) (pi2 : Int32) (pi3 : Int32) (pi4 : Int32) : entryFrame m #[(.ref pr0), (.int pi1), (.int pi2), (.int pi3), (.int pi4)] 5 = mkF m 0 #[.val (.ref pr0), .val (.int pi1), .val (.int pi2), .val (.int pi3), .val (.int pi4)] [] := by first | (simp [entryFrame, mkF, argsToLocals, Value.category]; done) | rfl
def Q1 (Z : State) (pr0 : Addr) (pi1 : Int32) (pi2 : Int32) (pi3 : Int32) (pi4 : Int32) (u_locks_pr0 : Value) (u_timeout_pr0 : Value) (u_lockTimeout_pr0 : Value) (u_extended_pr0 : Value) (h0 : Heap) (n0 : Nat) (v : Option Value) (h : Heap) (L : List Loc) : Prop := v = none ∧ Fr n0 L ∧ Keep h0 h [pr0] ∧ Exa Z h pr0 "com/example/cascade/cascade/session/RowRead" ∧ Fld Z h pr0 "com/example/cascade/cascade/session/RowRead" "locks" "Z" (.int (nar .boolean pi1)) ∧ Fld Z h pr0 "com/example/cascade/cascade/session/RowRead" "timeout" "I" (.int pi2) ∧ Fld Z h pr0 "com/example/cascade/cascade/session/RowRead" "lockTimeout" "I" (.int pi3) ∧ Fld Z h pr0 "com/example/cascade/cascade/session/RowRead" "extended" "Z" (.int (nar .boolean pi4))
set_option maxRecDepth 65536 in
set_option maxHeartbeats 40000000 in
theorem rm1 (l : Launch) (Z : State) (a0 : Array Value) (hw : ∀ d ∈ tables_1, d.before a0 Z = true) (ws : List Jvm.Cond) (pr0 : Addr) (pi1 : Int32) (pi2 : Int32) (pi3 : Int32) (pi4 : Int32) (u_locks_pr0 : Value) (u_timeout_pr0 : Value) (u_lockTimeout_pr0 : Value) (u_extended_pr0 : Value) (h0 : Heap) (n0 : Nat) (Z0 : n0 ≤ h0.size) (O0 : Old Z n0 h0) (E_pr0 : Exa Z h0 pr0 "com/example/cascade/cascade/session/RowRead") (F_locks_pr0 : Fld Z h0 pr0 "com/example/cascade/cascade/session/RowRead" "locks" "Z" u_locks_pr0) (g_pr0 : n0 ≤ pr0) (F_timeout_pr0 : Fld Z h0 pr0 "com/example/cascade/cascade/session/RowRead" "timeout" "I" u_timeout_pr0) (F_lockTimeout_pr0 : Fld Z h0 pr0 "com/example/cascade/cascade/session/RowRead" "lockTimeout" "I" u_lockTimeout_pr0) (F_extended_pr0 : Fld Z h0 pr0 "com/example/cascade/cascade/session/RowRead" "extended" "Z" u_extended_pr0) :
    MetFree l (⟨"com/example/cascade/cascade/session/RowRead", "<init>", "(ZIIZ)V"⟩ : MethodName) (head1 (Jvm.Cond.code (⟨"com/example/cascade/cascade/session/RowRead", "<init>", "(ZIIZ)V"⟩ : MethodName) prog_43_method_1_code 5 none :: ws) ({ frames := 1, cells := 0, slots := 0, locals := 12 } : Room)) (fun a U => a = #[(.ref pr0), (.int pi1), (.int pi2), (.int pi3), (.int pi4)] ∧ Z.Warmed39 U.vm ∧ U.heap = h0) (fun _ _ _ _ _ => True) (fun _ U o U' => ∃ v L, o = .returned v ∧ Q1 Z pr0 pi1 pi2 pi3 pi4 u_locks_pr0 u_timeout_pr0 u_lockTimeout_pr0 u_extended_pr0 h0 n0 v U'.heap L ∧ FrameEnd U o U' L ({ frames := 1, cells := 0, slots := 0, locals := 12 } : Room).cells ({ frames := 1, cells := 0, slots := 0, locals := 12 } : Room).slots) := by
  refine MetFree.of_bodySF (plainFor_of_name pn_1) hisR ?_
  intro p e s m args below meth c s₁ Bd hml0 hP hK
  obtain ⟨rfl, hZ, hh⟩ := hP
  have hx := Bd.exec
  have hby := Bd.bytes
  have hml : c.maxLocals = 5 := hml0
  have hown : s.vm.findClass "com/example/cascade/cascade/session/RowRead" = some m.cls := findClass_of_methodNamed Bd.named
  have hnm := (name_of_methodNamed Bd.named Bd.method).1
  have X0 : Stand p l e ({ frames := 1, cells := 0, slots := 0, locals := 12 } : Room) s m #[(.ref pr0), (.int pi1), (.int pi2), (.int pi3), (.int pi4)] below meth c s₁ [] 0 0 := Stand.of_body Bd
  have e0 : s₁.heap = h0 := by rw [← hh, Bd.state]; rfl
  have N0 := Fr.nil n0
  have pre0 : ∀ t, Steps p.tables e below (s₁.setTop (mkF m 0 #[.val (.ref pr0), .val (.int pi1), .val (.int pi2), .val (.int pi3), .val (.int pi4)] [])) t → Steps p.tables e below (s₁.setTop (entryFrame m #[(.ref pr0), (.int pi1), (.int pi2), (.int pi3), (.int pi4)] 5)) t := fun t k => castTop (ef_1 m pr0 pi1 pi2 pi3 pi4) k
  obtain ⟨T1, X1, e1, st1⟩ := initO X0 hx hZ hown (hw _ (List.mem_of_getElem? (i := 6) rfl)) (hw _ (List.mem_of_getElem? (i := 7) rfl)) (hw _ (List.mem_of_getElem? (i := 8) rfl)) e0 (g := (mkF m 1 #[.val (.ref pr0), .val (.int pi1), .val (.int pi2), .val (.int pi3), .val (.int pi4)] [(.ref pr0)])) rfl (by rw [hml]; rfl) rfl (hb hby d1_1) (by decide) (W := 0) (by show 2 * 0 + _ ≤ _; exact Nat.le_of_eq rfl) (by decide)
  obtain ⟨T2, h2, X2, e2, W2, st2⟩ := putFN X1 hx hZ hown (hw _ (List.mem_of_getElem? (i := 9) rfl)) Via.refl e1 F_locks_pr0 E_pr0 (Or.inr ⟨(hw _ (List.mem_of_getElem? (i := 10) rfl)), rfl, hnm⟩) (hw _ (List.mem_of_getElem? (i := 1) rfl)) (ty := .boolean) (v' := (.int (nar .boolean pi1))) (by decide) rfl (fits_nar_bool _) (g := (mkF m 6 #[.val (.ref pr0), .val (.int pi1), .val (.int pi2), .val (.int pi3), .val (.int pi4)] [(.int pi1), (.ref pr0)])) rfl rfl (hb hby d1_6)
  have Fw2 := F_locks_pr0.same W2
  have N2 := Fr.snoc X2 N0 g_pr0
  have f3 := F_timeout_pr0.other W2 (Or.inr (slot_ne (Or.inr (hw _ (List.mem_of_getElem? (i := 12) rfl))) (Or.inr (hw _ (List.mem_of_getElem? (i := 10) rfl))) (by decide) (t := .int) (t' := .boolean) (by decide) (by decide)))
  have f4 := E_pr0.wr W2
  obtain ⟨T5, h5, X5, e5, W5, st5⟩ := putF X2 hx hZ hown (host := "") (Or.inl (hw _ (List.mem_of_getElem? (i := 11) rfl))) Via.refl e2 f3 f4 (Or.inr ⟨(hw _ (List.mem_of_getElem? (i := 12) rfl)), rfl, hnm⟩) (hw _ (List.mem_of_getElem? (i := 1) rfl)) (ty := .int) (by decide) rfl rfl (g := (mkF m 11 #[.val (.ref pr0), .val (.int pi1), .val (.int pi2), .val (.int pi3), .val (.int pi4)] [(.int pi2), (.ref pr0)])) rfl rfl (hb hby d1_11)
  have Fw5 := f3.same W5
  have N5 := Fr.snoc X5 N2 g_pr0
  have f6 := F_lockTimeout_pr0.other W2 (Or.inr (slot_ne (Or.inr (hw _ (List.mem_of_getElem? (i := 14) rfl))) (Or.inr (hw _ (List.mem_of_getElem? (i := 10) rfl))) (by decide) (t := .int) (t' := .boolean) (by decide) (by decide)))
  have f7 := f6.other W5 (Or.inr (slot_ne (Or.inr (hw _ (List.mem_of_getElem? (i := 14) rfl))) (Or.inr (hw _ (List.mem_of_getElem? (i := 12) rfl))) (by decide) (t := .int) (t' := .int) (by decide) (by decide)))
  have f8 := f4.wr W5
  obtain ⟨T9, h9, X9, e9, W9, st9⟩ := putF X5 hx hZ hown (host := "") (Or.inl (hw _ (List.mem_of_getElem? (i := 13) rfl))) Via.refl e5 f7 f8 (Or.inr ⟨(hw _ (List.mem_of_getElem? (i := 14) rfl)), rfl, hnm⟩) (hw _ (List.mem_of_getElem? (i := 1) rfl)) (ty := .int) (by decide) rfl rfl (g := (mkF m 16 #[.val (.ref pr0), .val (.int pi1), .val (.int pi2), .val (.int pi3), .val (.int pi4)] [(.int pi3), (.ref pr0)])) rfl rfl (hb hby d1_16)
  have Fw9 := f7.same W9
  have N9 := Fr.snoc X9 N5 g_pr0
  have f10 := F_extended_pr0.other W2 (Or.inr (slot_ne (Or.inr (hw _ (List.mem_of_getElem? (i := 16) rfl))) (Or.inr (hw _ (List.mem_of_getElem? (i := 10) rfl))) (by decide) (t := .boolean) (t' := .boolean) (by decide) (by decide)))
  have f11 := f10.other W5 (Or.inr (slot_ne (Or.inr (hw _ (List.mem_of_getElem? (i := 16) rfl))) (Or.inr (hw _ (List.mem_of_getElem? (i := 12) rfl))) (by decide) (t := .boolean) (t' := .int) (by decide) (by decide)))
  have f12 := f11.other W9 (Or.inr (slot_ne (Or.inr (hw _ (List.mem_of_getElem? (i := 16) rfl))) (Or.inr (hw _ (List.mem_of_getElem? (i := 14) rfl))) (by decide) (t := .boolean) (t' := .int) (by decide) (by decide)))
  have f13 := f8.wr W9
  obtain ⟨T14, h14, X14, e14, W14, st14⟩ := putFN X9 hx hZ hown (hw _ (List.mem_of_getElem? (i := 15) rfl)) Via.refl e9 f12 f13 (Or.inr ⟨(hw _ (List.mem_of_getElem? (i := 16) rfl)), rfl, hnm⟩) (hw _ (List.mem_of_getElem? (i := 1) rfl)) (ty := .boolean) (v' := (.int (nar .boolean pi4))) (by decide) rfl (fits_nar_bool _) (g := (mkF m 22 #[.val (.ref pr0), .val (.int pi1), .val (.int pi2), .val (.int pi3), .val (.int pi4)] [(.int pi4), (.ref pr0)])) rfl rfl (hb hby d1_22)
  have Fw14 := f12.same W14
  have N14 := Fr.snoc X14 N9 g_pr0
  have k15 : Keep h0 h2 [pr0] := (Keep.refl h0 [pr0]).wr W2 (Or.inl (List.mem_of_getElem? (i := 0) rfl))
  have k16 : Keep h0 h5 [pr0] := k15.wr W5 (Or.inl (List.mem_of_getElem? (i := 0) rfl))
  have k17 : Keep h0 h9 [pr0] := k16.wr W9 (Or.inl (List.mem_of_getElem? (i := 0) rfl))
  have k18 : Keep h0 h14 [pr0] := k17.wr W14 (Or.inl (List.mem_of_getElem? (i := 0) rfl))
  have f19 := f13.wr W14
  have f20 := Fw2.other W5 (Or.inr (slot_ne (Or.inr (hw _ (List.mem_of_getElem? (i := 10) rfl))) (Or.inr (hw _ (List.mem_of_getElem? (i := 12) rfl))) (by decide) (t := .boolean) (t' := .int) (by decide) (by decide)))
  have f21 := f20.other W9 (Or.inr (slot_ne (Or.inr (hw _ (List.mem_of_getElem? (i := 10) rfl))) (Or.inr (hw _ (List.mem_of_getElem? (i := 14) rfl))) (by decide) (t := .boolean) (t' := .int) (by decide) (by decide)))
  have f22 := f21.other W14 (Or.inr (slot_ne (Or.inr (hw _ (List.mem_of_getElem? (i := 10) rfl))) (Or.inr (hw _ (List.mem_of_getElem? (i := 16) rfl))) (by decide) (t := .boolean) (t' := .boolean) (by decide) (by decide)))
  have f23 := Fw5.other W9 (Or.inr (slot_ne (Or.inr (hw _ (List.mem_of_getElem? (i := 12) rfl))) (Or.inr (hw _ (List.mem_of_getElem? (i := 14) rfl))) (by decide) (t := .int) (t' := .int) (by decide) (by decide)))
  have f24 := f23.other W14 (Or.inr (slot_ne (Or.inr (hw _ (List.mem_of_getElem? (i := 12) rfl))) (Or.inr (hw _ (List.mem_of_getElem? (i := 16) rfl))) (by decide) (t := .int) (t' := .boolean) (by decide) (by decide)))
  have f25 := Fw9.other W14 (Or.inr (slot_ne (Or.inr (hw _ (List.mem_of_getElem? (i := 14) rfl))) (Or.inr (hw _ (List.mem_of_getElem? (i := 16) rfl))) (by decide) (t := .int) (t' := .boolean) (by decide) (by decide)))
  obtain ⟨fs, hr, hrun, hended, hW, hsame⟩ := X14.leave (v := none) (fun _ => rfl)
  refine ⟨_, _, pre0 _ ?_, hrun, hended, _, _, rfl, ?_, ⟨_, rfl⟩, hW, hsame.mono (by decide) (by decide)⟩
  · show Steps p.tables e below (s₁.setTop (mkF m 0 #[.val (.ref pr0), .val (.int pi1), .val (.int pi2), .val (.int pi3), .val (.int pi4)] [])) _
    refine XS.aloadN X0.here hx rfl (hb hby d1_0) rfl rfl ?_
    show Steps p.tables e below (s₁.setTop (mkF m 1 #[.val (.ref pr0), .val (.int pi1), .val (.int pi2), .val (.int pi3), .val (.int pi4)] [(.ref pr0)])) _
    refine st1 _ ?_
    show Steps p.tables e below (T1.setTop (mkF m 4 #[.val (.ref pr0), .val (.int pi1), .val (.int pi2), .val (.int pi3), .val (.int pi4)] [])) _
    refine XS.aloadN X1.here hx rfl (hb hby d1_4) rfl rfl ?_
    show Steps p.tables e below (T1.setTop (mkF m 5 #[.val (.ref pr0), .val (.int pi1), .val (.int pi2), .val (.int pi3), .val (.int pi4)] [(.ref pr0)])) _
    refine XS.iloadN X1.here hx rfl (hb hby d1_5) rfl ?_
    show Steps p.tables e below (T1.setTop (mkF m 6 #[.val (.ref pr0), .val (.int pi1), .val (.int pi2), .val (.int pi3), .val (.int pi4)] [(.int pi1), (.ref pr0)])) _
    refine st2 _ ?_
    show Steps p.tables e below (T2.setTop (mkF m 9 #[.val (.ref pr0), .val (.int pi1), .val (.int pi2), .val (.int pi3), .val (.int pi4)] [])) _
    refine XS.aloadN X2.here hx rfl (hb hby d1_9) rfl rfl ?_
    show Steps p.tables e below (T2.setTop (mkF m 10 #[.val (.ref pr0), .val (.int pi1), .val (.int pi2), .val (.int pi3), .val (.int pi4)] [(.ref pr0)])) _
    refine XS.iloadN X2.here hx rfl (hb hby d1_10) rfl ?_
    show Steps p.tables e below (T2.setTop (mkF m 11 #[.val (.ref pr0), .val (.int pi1), .val (.int pi2), .val (.int pi3), .val (.int pi4)] [(.int pi2), (.ref pr0)])) _
    refine st5 _ ?_
    show Steps p.tables e below (T5.setTop (mkF m 14 #[.val (.ref pr0), .val (.int pi1), .val (.int pi2), .val (.int pi3), .val (.int pi4)] [])) _
    refine XS.aloadN X5.here hx rfl (hb hby d1_14) rfl rfl ?_
    show Steps p.tables e below (T5.setTop (mkF m 15 #[.val (.ref pr0), .val (.int pi1), .val (.int pi2), .val (.int pi3), .val (.int pi4)] [(.ref pr0)])) _
    refine XS.iloadN X5.here hx rfl (hb hby d1_15) rfl ?_
    show Steps p.tables e below (T5.setTop (mkF m 16 #[.val (.ref pr0), .val (.int pi1), .val (.int pi2), .val (.int pi3), .val (.int pi4)] [(.int pi3), (.ref pr0)])) _
    refine st9 _ ?_
    show Steps p.tables e below (T9.setTop (mkF m 19 #[.val (.ref pr0), .val (.int pi1), .val (.int pi2), .val (.int pi3), .val (.int pi4)] [])) _
    refine XS.aloadN X9.here hx rfl (hb hby d1_19) rfl rfl ?_
    show Steps p.tables e below (T9.setTop (mkF m 20 #[.val (.ref pr0), .val (.int pi1), .val (.int pi2), .val (.int pi3), .val (.int pi4)] [(.ref pr0)])) _
    refine XS.iload X9.here hx rfl (hb hby d1_20) rfl ?_
    show Steps p.tables e below (T9.setTop (mkF m 22 #[.val (.ref pr0), .val (.int pi1), .val (.int pi2), .val (.int pi3), .val (.int pi4)] [(.int pi4), (.ref pr0)])) _
    refine st14 _ ?_
    show Steps p.tables e below (T14.setTop (mkF m 25 #[.val (.ref pr0), .val (.int pi1), .val (.int pi2), .val (.int pi3), .val (.int pi4)] [])) _
    exact X14.returnOut hx Bd.returns (hb hby d1_25) hr
  · show Q1 Z pr0 pi1 pi2 pi3 pi4 u_locks_pr0 u_timeout_pr0 u_lockTimeout_pr0 u_extended_pr0 h0 n0 _ T14.heap _
    rw [e14]
    exact ⟨rfl, N14, k18, f19, f22, f24, f25, Fw14⟩
theorem d3_0 : decode prog_43_method_7_code 0 = .ok (.aload_n 0, 1) := by decide +kernel
theorem d3_1 : decode prog_43_method_7_code 1 = .ok (.getfield 7, 3) := by decide +kernel
theorem d3_4 : decode prog_43_method_7_code 4 = .ok (.ifCond .eq 14, 3) := by decide +kernel
theorem d3_18 : decode prog_43_method_7_code 18 = .ok (.iconst 0, 1) := by decide +kernel
theorem d3_19 : decode prog_43_method_7_code 19 = .ok (.ireturn, 1) := by decide +kernel
theorem pn_3 : plainName "com/example/cascade/cascade/session/RowRead" = true := by first | (simp [plainName, overriddenIn]; done) | decide +kernel
theorem ef_3 (m : MethodId) (pr0 : Addr) : entryFrame m #[(.ref pr0)] 1 = mkF m 0 #[.val (.ref pr0)] [] := by first | (simp [entryFrame, mkF, argsToLocals, Value.category]; done) | rfl
def Q3_t (Z : State) (pr0 : Addr) (w_locks_pr0 : Int32) (h0 : Heap) (n0 : Nat) (v : Option Value) (h : Heap) (L : List Loc) : Prop := v = some (.int (0 : Int32)) ∧ Fr n0 L ∧ h = h0
set_option maxRecDepth 65536 in
set_option maxHeartbeats 40000000 in
theorem rm3_t (l : Launch) (Z : State) (a0 : Array Value) (hw : ∀ d ∈ tables_1, d.before a0 Z = true) (ws : List Jvm.Cond) (pr0 : Addr) (w_locks_pr0 : Int32) (h0 : Heap) (n0 : Nat) (Z0 : n0 ≤ h0.size) (O0 : Old Z n0 h0) (F_locks_pr0 : Fld Z h0 pr0 "com/example/cascade/cascade/session/RowRead" "locks" "Z" (.int w_locks_pr0)) (hc4_0 : w_locks_pr0 = (0 : Int32)) :
    MetFree l (⟨"com/example/cascade/cascade/session/RowRead", "isExtended", "()Z"⟩ : MethodName) (head1 (Jvm.Cond.code (⟨"com/example/cascade/cascade/session/RowRead", "isExtended", "()Z"⟩ : MethodName) prog_43_method_7_code 1 (some .boolean) :: ws) ({ frames := 0, cells := 0, slots := 0, locals := 0 } : Room)) (fun a U => a = #[(.ref pr0)] ∧ Z.Warmed39 U.vm ∧ U.heap = h0) (fun _ _ _ _ _ => True) (fun _ U o U' => ∃ v L, o = .returned v ∧ Q3_t Z pr0 w_locks_pr0 h0 n0 v U'.heap L ∧ FrameEnd U o U' L ({ frames := 0, cells := 0, slots := 0, locals := 0 } : Room).cells ({ frames := 0, cells := 0, slots := 0, locals := 0 } : Room).slots) := by
  refine MetFree.of_bodySF (plainFor_of_name pn_3) hisR ?_
  intro p e s m args below meth c s₁ Bd hml0 hP hK
  obtain ⟨rfl, hZ, hh⟩ := hP
  have hx := Bd.exec
  have hby := Bd.bytes
  have hml : c.maxLocals = 1 := hml0
  have hown : s.vm.findClass "com/example/cascade/cascade/session/RowRead" = some m.cls := findClass_of_methodNamed Bd.named
  have hnm := (name_of_methodNamed Bd.named Bd.method).1
  have X0 : Stand p l e ({ frames := 0, cells := 0, slots := 0, locals := 0 } : Room) s m #[(.ref pr0)] below meth c s₁ [] 0 0 := Stand.of_body Bd
  have e0 : s₁.heap = h0 := by rw [← hh, Bd.state]; rfl
  have N0 := Fr.nil n0
  have pre0 : ∀ t, Steps p.tables e below (s₁.setTop (mkF m 0 #[.val (.ref pr0)] [])) t → Steps p.tables e below (s₁.setTop (entryFrame m #[(.ref pr0)] 1)) t := fun t k => castTop (ef_3 m pr0) k
  obtain ⟨T1, X1, e1, st1⟩ := getF X0 hx hZ hown (host := "") (Or.inl (hw _ (List.mem_of_getElem? (i := 9) rfl))) Via.refl e0 F_locks_pr0 (g := (mkF m 1 #[.val (.ref pr0)] [(.ref pr0)])) rfl rfl (hb hby d3_1)
  obtain ⟨fs, hr, hrun, hended, hW, hsame⟩ := X1.leave (v := some (.int (0 : Int32))) (fun h => by rw [Bd.returns] at h; cases h)
  refine ⟨_, _, pre0 _ ?_, hrun, hended, _, _, rfl, ?_, ⟨_, rfl⟩, hW, hsame.mono (by decide) (by decide)⟩
  · show Steps p.tables e below (s₁.setTop (mkF m 0 #[.val (.ref pr0)] [])) _
    refine XS.aloadN X0.here hx rfl (hb hby d3_0) rfl rfl ?_
    show Steps p.tables e below (s₁.setTop (mkF m 1 #[.val (.ref pr0)] [(.ref pr0)])) _
    refine st1 _ ?_
    show Steps p.tables e below (T1.setTop (mkF m 4 #[.val (.ref pr0)] [(.int w_locks_pr0)])) _
    refine XS.ifYes X1.here hx rfl (pc0 := 4) (pc' := 18) rfl (hb hby d3_4) rfl ((if0 _ _).trans (teq hc4_0).1) (by decide) (by decide) ?_
    show Steps p.tables e below (T1.setTop (mkF m 18 #[.val (.ref pr0)] [])) _
    refine XS.iconst X1.here hx rfl (hb hby d3_18) ?_
    show Steps p.tables e below (T1.setTop (mkF m 19 #[.val (.ref pr0)] [(.int (0 : Int32))])) _
    exact retN X1 hx (t := .boolean) Bd.returns (by simp) (hb hby d3_19) hr
  · show Q3_t Z pr0 w_locks_pr0 h0 n0 _ T1.heap _
    rw [e1]
    exact ⟨rfl, N0, rfl⟩
theorem d3_7 : decode prog_43_method_7_code 7 = .ok (.aload_n 0, 1) := by decide +kernel
theorem d3_8 : decode prog_43_method_7_code 8 = .ok (.getfield 20, 3) := by decide +kernel
theorem d3_11 : decode prog_43_method_7_code 11 = .ok (.ifCond .eq 7, 3) := by decide +kernel
def Q3_ft (Z : State) (pr0 : Addr) (w_locks_pr0 : Int32) (w_extended_pr0 : Int32) (h0 : Heap) (n0 : Nat) (v : Option Value) (h : Heap) (L : List Loc) : Prop := v = some (.int (0 : Int32)) ∧ Fr n0 L ∧ h = h0
set_option maxRecDepth 65536 in
set_option maxHeartbeats 40000000 in
theorem rm3_ft (l : Launch) (Z : State) (a0 : Array Value) (hw : ∀ d ∈ tables_1, d.before a0 Z = true) (ws : List Jvm.Cond) (pr0 : Addr) (w_locks_pr0 : Int32) (w_extended_pr0 : Int32) (h0 : Heap) (n0 : Nat) (Z0 : n0 ≤ h0.size) (O0 : Old Z n0 h0) (F_locks_pr0 : Fld Z h0 pr0 "com/example/cascade/cascade/session/RowRead" "locks" "Z" (.int w_locks_pr0)) (F_extended_pr0 : Fld Z h0 pr0 "com/example/cascade/cascade/session/RowRead" "extended" "Z" (.int w_extended_pr0)) (hc4_0 : ¬ (w_locks_pr0 = (0 : Int32))) (hc11_1 : w_extended_pr0 = (0 : Int32)) :
    MetFree l (⟨"com/example/cascade/cascade/session/RowRead", "isExtended", "()Z"⟩ : MethodName) (head1 (Jvm.Cond.code (⟨"com/example/cascade/cascade/session/RowRead", "isExtended", "()Z"⟩ : MethodName) prog_43_method_7_code 1 (some .boolean) :: ws) ({ frames := 0, cells := 0, slots := 0, locals := 0 } : Room)) (fun a U => a = #[(.ref pr0)] ∧ Z.Warmed39 U.vm ∧ U.heap = h0) (fun _ _ _ _ _ => True) (fun _ U o U' => ∃ v L, o = .returned v ∧ Q3_ft Z pr0 w_locks_pr0 w_extended_pr0 h0 n0 v U'.heap L ∧ FrameEnd U o U' L ({ frames := 0, cells := 0, slots := 0, locals := 0 } : Room).cells ({ frames := 0, cells := 0, slots := 0, locals := 0 } : Room).slots) := by
  refine MetFree.of_bodySF (plainFor_of_name pn_3) hisR ?_
  intro p e s m args below meth c s₁ Bd hml0 hP hK
  obtain ⟨rfl, hZ, hh⟩ := hP
  have hx := Bd.exec
  have hby := Bd.bytes
  have hml : c.maxLocals = 1 := hml0
  have hown : s.vm.findClass "com/example/cascade/cascade/session/RowRead" = some m.cls := findClass_of_methodNamed Bd.named
  have hnm := (name_of_methodNamed Bd.named Bd.method).1
  have X0 : Stand p l e ({ frames := 0, cells := 0, slots := 0, locals := 0 } : Room) s m #[(.ref pr0)] below meth c s₁ [] 0 0 := Stand.of_body Bd
  have e0 : s₁.heap = h0 := by rw [← hh, Bd.state]; rfl
  have N0 := Fr.nil n0
  have pre0 : ∀ t, Steps p.tables e below (s₁.setTop (mkF m 0 #[.val (.ref pr0)] [])) t → Steps p.tables e below (s₁.setTop (entryFrame m #[(.ref pr0)] 1)) t := fun t k => castTop (ef_3 m pr0) k
  obtain ⟨T1, X1, e1, st1⟩ := getF X0 hx hZ hown (host := "") (Or.inl (hw _ (List.mem_of_getElem? (i := 9) rfl))) Via.refl e0 F_locks_pr0 (g := (mkF m 1 #[.val (.ref pr0)] [(.ref pr0)])) rfl rfl (hb hby d3_1)
  obtain ⟨T2, X2, e2, st2⟩ := getF X1 hx hZ hown (host := "") (Or.inl (hw _ (List.mem_of_getElem? (i := 15) rfl))) Via.refl e1 F_extended_pr0 (g := (mkF m 8 #[.val (.ref pr0)] [(.ref pr0)])) rfl rfl (hb hby d3_8)
  obtain ⟨fs, hr, hrun, hended, hW, hsame⟩ := X2.leave (v := some (.int (0 : Int32))) (fun h => by rw [Bd.returns] at h; cases h)
  refine ⟨_, _, pre0 _ ?_, hrun, hended, _, _, rfl, ?_, ⟨_, rfl⟩, hW, hsame.mono (by decide) (by decide)⟩
  · show Steps p.tables e below (s₁.setTop (mkF m 0 #[.val (.ref pr0)] [])) _
    refine XS.aloadN X0.here hx rfl (hb hby d3_0) rfl rfl ?_
    show Steps p.tables e below (s₁.setTop (mkF m 1 #[.val (.ref pr0)] [(.ref pr0)])) _
    refine st1 _ ?_
    show Steps p.tables e below (T1.setTop (mkF m 4 #[.val (.ref pr0)] [(.int w_locks_pr0)])) _
    refine XS.ifNo X1.here hx rfl (hb hby d3_4) rfl ((if0 _ _).trans (feq hc4_0).1) ?_
    show Steps p.tables e below (T1.setTop (mkF m 7 #[.val (.ref pr0)] [])) _
    refine XS.aloadN X1.here hx rfl (hb hby d3_7) rfl rfl ?_
    show Steps p.tables e below (T1.setTop (mkF m 8 #[.val (.ref pr0)] [(.ref pr0)])) _
    refine st2 _ ?_
    show Steps p.tables e below (T2.setTop (mkF m 11 #[.val (.ref pr0)] [(.int w_extended_pr0)])) _
    refine XS.ifYes X2.here hx rfl (pc0 := 11) (pc' := 18) rfl (hb hby d3_11) rfl ((if0 _ _).trans (teq hc11_1).1) (by decide) (by decide) ?_
    show Steps p.tables e below (T2.setTop (mkF m 18 #[.val (.ref pr0)] [])) _
    refine XS.iconst X2.here hx rfl (hb hby d3_18) ?_
    show Steps p.tables e below (T2.setTop (mkF m 19 #[.val (.ref pr0)] [(.int (0 : Int32))])) _
    exact retN X2 hx (t := .boolean) Bd.returns (by simp) (hb hby d3_19) hr
  · show Q3_ft Z pr0 w_locks_pr0 w_extended_pr0 h0 n0 _ T2.heap _
    rw [e2]
    exact ⟨rfl, N0, rfl⟩
theorem d3_14 : decode prog_43_method_7_code 14 = .ok (.iconst 1, 1) := by decide +kernel
theorem d3_15 : decode prog_43_method_7_code 15 = .ok (.goto 4, 3) := by decide +kernel
def Q3_ff (Z : State) (pr0 : Addr) (w_locks_pr0 : Int32) (w_extended_pr0 : Int32) (h0 : Heap) (n0 : Nat) (v : Option Value) (h : Heap) (L : List Loc) : Prop := v = some (.int (1 : Int32)) ∧ Fr n0 L ∧ h = h0
set_option maxRecDepth 65536 in
set_option maxHeartbeats 40000000 in
theorem rm3_ff (l : Launch) (Z : State) (a0 : Array Value) (hw : ∀ d ∈ tables_1, d.before a0 Z = true) (ws : List Jvm.Cond) (pr0 : Addr) (w_locks_pr0 : Int32) (w_extended_pr0 : Int32) (h0 : Heap) (n0 : Nat) (Z0 : n0 ≤ h0.size) (O0 : Old Z n0 h0) (F_locks_pr0 : Fld Z h0 pr0 "com/example/cascade/cascade/session/RowRead" "locks" "Z" (.int w_locks_pr0)) (F_extended_pr0 : Fld Z h0 pr0 "com/example/cascade/cascade/session/RowRead" "extended" "Z" (.int w_extended_pr0)) (hc4_0 : ¬ (w_locks_pr0 = (0 : Int32))) (hc11_1 : ¬ (w_extended_pr0 = (0 : Int32))) :
    MetFree l (⟨"com/example/cascade/cascade/session/RowRead", "isExtended", "()Z"⟩ : MethodName) (head1 (Jvm.Cond.code (⟨"com/example/cascade/cascade/session/RowRead", "isExtended", "()Z"⟩ : MethodName) prog_43_method_7_code 1 (some .boolean) :: ws) ({ frames := 0, cells := 0, slots := 0, locals := 0 } : Room)) (fun a U => a = #[(.ref pr0)] ∧ Z.Warmed39 U.vm ∧ U.heap = h0) (fun _ _ _ _ _ => True) (fun _ U o U' => ∃ v L, o = .returned v ∧ Q3_ff Z pr0 w_locks_pr0 w_extended_pr0 h0 n0 v U'.heap L ∧ FrameEnd U o U' L ({ frames := 0, cells := 0, slots := 0, locals := 0 } : Room).cells ({ frames := 0, cells := 0, slots := 0, locals := 0 } : Room).slots) := by
  refine MetFree.of_bodySF (plainFor_of_name pn_3) hisR ?_
  intro p e s m args below meth c s₁ Bd hml0 hP hK
  obtain ⟨rfl, hZ, hh⟩ := hP
  have hx := Bd.exec
  have hby := Bd.bytes
  have hml : c.maxLocals = 1 := hml0
  have hown : s.vm.findClass "com/example/cascade/cascade/session/RowRead" = some m.cls := findClass_of_methodNamed Bd.named
  have hnm := (name_of_methodNamed Bd.named Bd.method).1
  have X0 : Stand p l e ({ frames := 0, cells := 0, slots := 0, locals := 0 } : Room) s m #[(.ref pr0)] below meth c s₁ [] 0 0 := Stand.of_body Bd
  have e0 : s₁.heap = h0 := by rw [← hh, Bd.state]; rfl
  have N0 := Fr.nil n0
  have pre0 : ∀ t, Steps p.tables e below (s₁.setTop (mkF m 0 #[.val (.ref pr0)] [])) t → Steps p.tables e below (s₁.setTop (entryFrame m #[(.ref pr0)] 1)) t := fun t k => castTop (ef_3 m pr0) k
  obtain ⟨T1, X1, e1, st1⟩ := getF X0 hx hZ hown (host := "") (Or.inl (hw _ (List.mem_of_getElem? (i := 9) rfl))) Via.refl e0 F_locks_pr0 (g := (mkF m 1 #[.val (.ref pr0)] [(.ref pr0)])) rfl rfl (hb hby d3_1)
  obtain ⟨T2, X2, e2, st2⟩ := getF X1 hx hZ hown (host := "") (Or.inl (hw _ (List.mem_of_getElem? (i := 15) rfl))) Via.refl e1 F_extended_pr0 (g := (mkF m 8 #[.val (.ref pr0)] [(.ref pr0)])) rfl rfl (hb hby d3_8)
  obtain ⟨fs, hr, hrun, hended, hW, hsame⟩ := X2.leave (v := some (.int (1 : Int32))) (fun h => by rw [Bd.returns] at h; cases h)
  refine ⟨_, _, pre0 _ ?_, hrun, hended, _, _, rfl, ?_, ⟨_, rfl⟩, hW, hsame.mono (by decide) (by decide)⟩
  · show Steps p.tables e below (s₁.setTop (mkF m 0 #[.val (.ref pr0)] [])) _
    refine XS.aloadN X0.here hx rfl (hb hby d3_0) rfl rfl ?_
    show Steps p.tables e below (s₁.setTop (mkF m 1 #[.val (.ref pr0)] [(.ref pr0)])) _
    refine st1 _ ?_
    show Steps p.tables e below (T1.setTop (mkF m 4 #[.val (.ref pr0)] [(.int w_locks_pr0)])) _
    refine XS.ifNo X1.here hx rfl (hb hby d3_4) rfl ((if0 _ _).trans (feq hc4_0).1) ?_
    show Steps p.tables e below (T1.setTop (mkF m 7 #[.val (.ref pr0)] [])) _
    refine XS.aloadN X1.here hx rfl (hb hby d3_7) rfl rfl ?_
    show Steps p.tables e below (T1.setTop (mkF m 8 #[.val (.ref pr0)] [(.ref pr0)])) _
    refine st2 _ ?_
    show Steps p.tables e below (T2.setTop (mkF m 11 #[.val (.ref pr0)] [(.int w_extended_pr0)])) _
    refine XS.ifNo X2.here hx rfl (hb hby d3_11) rfl ((if0 _ _).trans (feq hc11_1).1) ?_
    show Steps p.tables e below (T2.setTop (mkF m 14 #[.val (.ref pr0)] [])) _
    refine XS.iconst X2.here hx rfl (hb hby d3_14) ?_
    show Steps p.tables e below (T2.setTop (mkF m 15 #[.val (.ref pr0)] [(.int (1 : Int32))])) _
    refine XS.goto X2.here hx rfl (pc0 := 15) (pc' := 19) rfl (hb hby d3_15) (by decide) (by decide) ?_
    show Steps p.tables e below (T2.setTop (mkF m 19 #[.val (.ref pr0)] [(.int (1 : Int32))])) _
    exact retN X2 hx (t := .boolean) Bd.returns (by simp) (hb hby d3_19) hr
  · show Q3_ff Z pr0 w_locks_pr0 w_extended_pr0 h0 n0 _ T2.heap _
    rw [e2]
    exact ⟨rfl, N0, rfl⟩
theorem d4_0 : decode prog_43_method_4_code 0 = .ok (.aload_n 0, 1) := by decide +kernel
theorem d4_1 : decode prog_43_method_4_code 1 = .ok (.getfield 7, 3) := by decide +kernel
theorem d4_4 : decode prog_43_method_4_code 4 = .ok (.ireturn, 1) := by decide +kernel
theorem pn_4 : plainName "com/example/cascade/cascade/session/RowRead" = true := by first | (simp [plainName, overriddenIn]; done) | decide +kernel
theorem ef_4 (m : MethodId) (pr0 : Addr) : entryFrame m #[(.ref pr0)] 1 = mkF m 0 #[.val (.ref pr0)] [] := by first | (simp [entryFrame, mkF, argsToLocals, Value.category]; done) | rfl
def Q4 (Z : State) (pr0 : Addr) (w_locks_pr0 : Int32) (h0 : Heap) (n0 : Nat) (v : Option Value) (h : Heap) (L : List Loc) : Prop := v = some (.int (nar .boolean w_locks_pr0)) ∧ Fr n0 L ∧ h = h0
set_option maxRecDepth 65536 in
set_option maxHeartbeats 40000000 in
theorem rm4 (l : Launch) (Z : State) (a0 : Array Value) (hw : ∀ d ∈ tables_1, d.before a0 Z = true) (ws : List Jvm.Cond) (pr0 : Addr) (w_locks_pr0 : Int32) (h0 : Heap) (n0 : Nat) (Z0 : n0 ≤ h0.size) (O0 : Old Z n0 h0) (F_locks_pr0 : Fld Z h0 pr0 "com/example/cascade/cascade/session/RowRead" "locks" "Z" (.int w_locks_pr0)) :
    MetFree l (⟨"com/example/cascade/cascade/session/RowRead", "locks", "()Z"⟩ : MethodName) (head1 (Jvm.Cond.code (⟨"com/example/cascade/cascade/session/RowRead", "locks", "()Z"⟩ : MethodName) prog_43_method_4_code 1 (some .boolean) :: ws) ({ frames := 0, cells := 0, slots := 0, locals := 0 } : Room)) (fun a U => a = #[(.ref pr0)] ∧ Z.Warmed39 U.vm ∧ U.heap = h0) (fun _ _ _ _ _ => True) (fun _ U o U' => ∃ v L, o = .returned v ∧ Q4 Z pr0 w_locks_pr0 h0 n0 v U'.heap L ∧ FrameEnd U o U' L ({ frames := 0, cells := 0, slots := 0, locals := 0 } : Room).cells ({ frames := 0, cells := 0, slots := 0, locals := 0 } : Room).slots) := by
  refine MetFree.of_bodySF (plainFor_of_name pn_4) hisR ?_
  intro p e s m args below meth c s₁ Bd hml0 hP hK
  obtain ⟨rfl, hZ, hh⟩ := hP
  have hx := Bd.exec
  have hby := Bd.bytes
  have hml : c.maxLocals = 1 := hml0
  have hown : s.vm.findClass "com/example/cascade/cascade/session/RowRead" = some m.cls := findClass_of_methodNamed Bd.named
  have hnm := (name_of_methodNamed Bd.named Bd.method).1
  have X0 : Stand p l e ({ frames := 0, cells := 0, slots := 0, locals := 0 } : Room) s m #[(.ref pr0)] below meth c s₁ [] 0 0 := Stand.of_body Bd
  have e0 : s₁.heap = h0 := by rw [← hh, Bd.state]; rfl
  have N0 := Fr.nil n0
  have pre0 : ∀ t, Steps p.tables e below (s₁.setTop (mkF m 0 #[.val (.ref pr0)] [])) t → Steps p.tables e below (s₁.setTop (entryFrame m #[(.ref pr0)] 1)) t := fun t k => castTop (ef_4 m pr0) k
  obtain ⟨T1, X1, e1, st1⟩ := getF X0 hx hZ hown (host := "") (Or.inl (hw _ (List.mem_of_getElem? (i := 9) rfl))) Via.refl e0 F_locks_pr0 (g := (mkF m 1 #[.val (.ref pr0)] [(.ref pr0)])) rfl rfl (hb hby d4_1)
  obtain ⟨fs, hr, hrun, hended, hW, hsame⟩ := X1.leave (v := some (.int (nar .boolean w_locks_pr0))) (fun h => by rw [Bd.returns] at h; cases h)
  refine ⟨_, _, pre0 _ ?_, hrun, hended, _, _, rfl, ?_, ⟨_, rfl⟩, hW, hsame.mono (by decide) (by decide)⟩
  · show Steps p.tables e below (s₁.setTop (mkF m 0 #[.val (.ref pr0)] [])) _
    refine XS.aloadN X0.here hx rfl (hb hby d4_0) rfl rfl ?_
    show Steps p.tables e below (s₁.setTop (mkF m 1 #[.val (.ref pr0)] [(.ref pr0)])) _
    refine st1 _ ?_
    show Steps p.tables e below (T1.setTop (mkF m 4 #[.val (.ref pr0)] [(.int w_locks_pr0)])) _
    exact retN X1 hx (t := .boolean) Bd.returns (by simp) (hb hby d4_4) hr
  · show Q4 Z pr0 w_locks_pr0 h0 n0 _ T1.heap _
    rw [e1]
    exact ⟨rfl, N0, rfl⟩
theorem pd_0 : parseMethodDescriptor "(ZIIZ)V" = some ⟨[.boolean, .int, .int, .boolean], none⟩ := by decide +kernel
theorem pd_2 : parseMethodDescriptor "()Z" = some ⟨[], some .boolean⟩ := by decide +kernel
theorem pn_0 : plainName "com/example/cascade/cascade/session/RowReadIsExtendedPinLaw" = true := by first | (simp [plainName, overriddenIn]; done) | decide +kernel
theorem ef_0 (m : MethodId) (pi1 : Int32) (pi2 : Int32) (pi3 : Int32) : entryFrame m #[(.int pi1), (.int pi2), (.int pi3)] maxLocals = mkF m 0 #[.val (.int pi1), .val (.int pi2), .val (.int pi3), .unset, .unset, .unset, .unset, .unset, .unset] [] := by first | (simp [entryFrame, mkF, argsToLocals, Value.category, maxLocals]; done) | rfl
def Q0 (v : Option Value) (L : List Loc) (n0 : Nat) : Prop := v = some (.int (1 : Int32)) ∧ Fr n0 L
set_option maxRecDepth 65536 in
set_option maxHeartbeats 40000000 in
theorem rm0_tt (l : Launch) (Z : State) (a0 : Array Value) (hw : ∀ d ∈ tables_1, d.before a0 Z = true) (ws : List Jvm.Cond) (pi1 : Int32) (pi2 : Int32) (pi3 : Int32) (h0 : Heap) (n0 : Nat) (Z0 : n0 ≤ h0.size) (O0 : Old Z n0 h0) (hc3_0 : (pi1 &&& (1 : Int32)) = (0 : Int32)) (hc15_1 : (pi1 &&& (2 : Int32)) = (0 : Int32)) :
    MetFree l x (head1 (Jvm.Cond.code x code maxLocals ret :: ws) room_1) (fun a U => a = #[(.int pi1), (.int pi2), (.int pi3)] ∧ Z.Warmed39 U.vm ∧ U.heap = h0) (fun _ _ _ _ _ => True) (fun _ U o U' => ∃ v L, o = .returned v ∧ Q0 v L n0 ∧ FrameEnd U o U' L room_1.cells room_1.slots) := by
  refine MetFree.of_bodySF (plainFor_of_name pn_0) hisR ?_
  intro p e s m args below meth c s₁ Bd hml0 hP hK
  obtain ⟨rfl, hZ, hh⟩ := hP
  have hx := Bd.exec
  have hby := Bd.bytes
  have hml : c.maxLocals = 9 := hml0
  have hown : s.vm.findClass "com/example/cascade/cascade/session/RowReadIsExtendedPinLaw" = some m.cls := findClass_of_methodNamed Bd.named
  have hnm := (name_of_methodNamed Bd.named Bd.method).1
  have X0 : Stand p l e room_1 s m #[(.int pi1), (.int pi2), (.int pi3)] below meth c s₁ [] 0 0 := Stand.of_body Bd
  have e0 : s₁.heap = h0 := by rw [← hh, Bd.state]; rfl
  have N0 := Fr.nil n0
  have pre0 : ∀ t, Steps p.tables e below (s₁.setTop (mkF m 0 #[.val (.int pi1), .val (.int pi2), .val (.int pi3), .unset, .unset, .unset, .unset, .unset, .unset] [])) t → Steps p.tables e below (s₁.setTop (entryFrame m #[(.int pi1), (.int pi2), (.int pi3)] maxLocals)) t := fun t k => castTop (ef_0 m pi1 pi2 pi3) k
  obtain ⟨T1, h1, X1, e1, E1, A1, D1, -, st1⟩ := newO X0 hx hZ hown (hw _ (List.mem_of_getElem? (i := 0) rfl)) (hw _ (List.mem_of_getElem? (i := 1) rfl)) (hw _ (List.mem_of_getElem? (i := 2) rfl)) e0 (g := (mkF m 25 #[.val (.int pi1), .val (.int pi2), .val (.int pi3), .val (.int (0 : Int32)), .val (.int (0 : Int32)), .unset, .unset, .unset, .unset] [])) rfl (hb hby at_25) (by decide) (by decide)
  obtain ⟨b1, g1⟩ : ∃ z, z = h0.size := ⟨_, rfl⟩
  rw [← g1] at A1 D1 st1
  have F_locks_b1 : Fld Z h1 b1 "com/example/cascade/cascade/session/RowRead" "locks" "Z" (.int (0 : Int32)) := D1 (Or.inr (hw _ (List.mem_of_getElem? (i := 10) rfl))) (ty := .boolean) (by decide)
  have F_timeout_b1 : Fld Z h1 b1 "com/example/cascade/cascade/session/RowRead" "timeout" "I" (.int (0 : Int32)) := D1 (Or.inr (hw _ (List.mem_of_getElem? (i := 12) rfl))) (ty := .int) (by decide)
  have F_lockTimeout_b1 : Fld Z h1 b1 "com/example/cascade/cascade/session/RowRead" "lockTimeout" "I" (.int (0 : Int32)) := D1 (Or.inr (hw _ (List.mem_of_getElem? (i := 14) rfl))) (ty := .int) (by decide)
  have F_extended_b1 : Fld Z h1 b1 "com/example/cascade/cascade/session/RowRead" "extended" "Z" (.int (0 : Int32)) := D1 (Or.inr (hw _ (List.mem_of_getElem? (i := 16) rfl))) (ty := .boolean) (by decide)
  have g_b1 : n0 ≤ b1 := Nat.le_trans Z0 (Nat.le_of_eq g1.symm)
  have z3 := Nat.le_trans Z0 E1.1
  have o4 := O0.ext E1
  obtain ⟨_, _, ⟨T2, L2, k2, n2⟩, -, X2, ⟨Lc2, hQ2, l2, y2, z2⟩, st2⟩ := X1.specialBack hx (y := (⟨"com/example/cascade/cascade/session/RowRead", "<init>", "(ZIIZ)V"⟩ : MethodName)) rfl hown (mvT hZ (hw _ (List.mem_of_getElem? (i := 3) rfl))) (mvT hZ (hw _ (List.mem_of_getElem? (i := 4) rfl))) (mvT hZ (hw _ (List.mem_of_getElem? (i := 5) rfl))) (by decide) (backOf (W := 1) (rm1 l Z a0 hw [] b1 (0 : Int32) pi2 pi3 (0 : Int32) (.int (0 : Int32)) (.int (0 : Int32)) (.int (0 : Int32)) (.int (0 : Int32)) h1 n0 z3 o4 A1 F_locks_b1 g_b1 F_timeout_b1 F_lockTimeout_b1 F_extended_b1) hZ (hw _ (List.mem_of_getElem? (i := 5) rfl)) (hw _ (List.mem_of_getElem? (i := 2) rfl)) (by decide) (by decide)) (g := (mkF m 34 #[.val (.int pi1), .val (.int pi2), .val (.int pi3), .val (.int (0 : Int32)), .val (.int (0 : Int32)), .unset, .unset, .unset, .unset] [(.int (0 : Int32)), (.int pi3), (.int pi2), (.int (0 : Int32)), (.ref b1), (.ref b1)])) rfl (by rw [hml]; rfl) (Steps.refl _) (a := b1) (argsL := [(.int (0 : Int32)), (.int pi2), (.int pi3), (.int (0 : Int32))]) (rest := [(.ref b1)]) (lenOf pd_0 rfl) rfl (by show 2 * 0 + _ ≤ _; exact Nat.le_of_eq rfl) (hb hby at_34) (fun _ _ => ⟨rfl, e1, (by decide : 1 + 0 ≤ _), (by decide : 4 + 0 ≤ _)⟩)
  dsimp only [Pt.U, Pt.locs, Pt.cells, Pt.slots] at X2 l2 y2 z2 st2 hQ2
  subst l2 y2 z2
  obtain ⟨rfl, N2q, K2, qf2_0, qf2_1, qf2_2, qf2_3, qf2_4⟩ := hQ2
  have N2 := Fr.app N0 N2q
  have z6 := Nat.le_trans z3 K2.1
  have o7 := o4.keep K2 (allS g_b1 all0)
  obtain ⟨cq5, kq5, q5a, q5b, q5c⟩ := isOf hZ rfl qf2_0
  obtain ⟨_, _, ⟨T5, L5, k5, n5⟩, -, X5, ⟨Lc5, hQ5, l5, y5, z5⟩, st5⟩ := X2.virtualBack hx (y := (⟨"com/example/cascade/cascade/session/RowRead", "isExtended", "()Z"⟩ : MethodName)) (z := (⟨"com/example/cascade/cascade/session/RowRead", "isExtended", "()Z"⟩ : MethodName)) hown (mvT hZ (hw _ (List.mem_of_getElem? (i := 17) rfl))) (mvT hZ (hw _ (List.mem_of_getElem? (i := 18) rfl))) (notFace_of_selects (args := #[]) (mvT hZ (hw _ (List.mem_of_getElem? (i := 20) rfl)))) (mvT hZ (hw _ (List.mem_of_getElem? (i := 20) rfl))) (mvT hZ (hw _ (List.mem_of_getElem? (i := 19) rfl))) (by decide) (backOf (W := 0) (rm3_t l Z a0 hw [] b1 (0 : Int32) T2.heap n0 z6 o7 qf2_1 rfl) hZ (hw _ (List.mem_of_getElem? (i := 21) rfl)) (hw _ (List.mem_of_getElem? (i := 2) rfl)) (by decide) (by decide)) q5a q5c (g := (mkF m 65 #[.val (.int pi1), .val (.int pi2), .val (.int pi3), .val (.int (0 : Int32)), .val (.int (0 : Int32)), .val (.ref b1), .val (.int (0 : Int32)), .unset, .unset] [(.ref b1)])) rfl (by rw [hml]; rfl) (Steps.refl _) (argsL := []) (rest := []) (lenOf pd_2 rfl) rfl (by show 2 * 0 + _ ≤ _; exact Nat.le_of_eq rfl) (hb hby at_65) (fun _ _ => ⟨rfl, rfl, (by decide : 1 + 0 ≤ _), (by decide : 4 + 0 ≤ _)⟩)
  dsimp only [Pt.U, Pt.locs, Pt.cells, Pt.slots] at X5 l5 y5 z5 st5 hQ5
  subst l5 y5 z5
  obtain ⟨rfl, N5q, eq5⟩ := hQ5
  have N5 := Fr.app N2 N5q
  obtain ⟨cq8, kq8, q8a, q8b, q8c⟩ := isOf hZ eq5 qf2_0
  obtain ⟨_, _, ⟨T8, L8, k8, n8⟩, -, X8, ⟨Lc8, hQ8, l8, y8, z8⟩, st8⟩ := X5.virtualBack hx (y := (⟨"com/example/cascade/cascade/session/RowRead", "locks", "()Z"⟩ : MethodName)) (z := (⟨"com/example/cascade/cascade/session/RowRead", "locks", "()Z"⟩ : MethodName)) hown (mvT hZ (hw _ (List.mem_of_getElem? (i := 22) rfl))) (mvT hZ (hw _ (List.mem_of_getElem? (i := 23) rfl))) (notFace_of_selects (args := #[]) (mvT hZ (hw _ (List.mem_of_getElem? (i := 25) rfl)))) (mvT hZ (hw _ (List.mem_of_getElem? (i := 25) rfl))) (mvT hZ (hw _ (List.mem_of_getElem? (i := 24) rfl))) (by decide) (backOf (W := 0) (rm4 l Z a0 hw [] b1 (0 : Int32) T2.heap n0 z6 o7 qf2_1) hZ (hw _ (List.mem_of_getElem? (i := 26) rfl)) (hw _ (List.mem_of_getElem? (i := 2) rfl)) (by decide) (by decide)) q8a q8c (g := (mkF m 72 #[.val (.int pi1), .val (.int pi2), .val (.int pi3), .val (.int (0 : Int32)), .val (.int (0 : Int32)), .val (.ref b1), .val (.int (0 : Int32)), .val (.int (0 : Int32)), .unset] [(.ref b1)])) rfl (by rw [hml]; rfl) (Steps.refl _) (argsL := []) (rest := []) (lenOf pd_2 rfl) rfl (by show 2 * 0 + _ ≤ _; exact Nat.le_of_eq rfl) (hb hby at_72) (fun _ _ => ⟨rfl, eq5, (by decide : 1 + 0 ≤ _), (by decide : 4 + 0 ≤ _)⟩)
  dsimp only [Pt.U, Pt.locs, Pt.cells, Pt.slots] at X8 l8 y8 z8 st8 hQ8
  subst l8 y8 z8
  obtain ⟨rfl, N8q, eq8⟩ := hQ8
  have N8 := Fr.app N5 N8q
  obtain ⟨fs, hr, hrun, hended, hW, hsame⟩ := X8.leave (v := some (.int (1 : Int32))) (fun h => by rw [Bd.returns] at h; cases h)
  refine ⟨_, _, pre0 _ ?_, hrun, hended, _, _, rfl, ?_, ⟨_, rfl⟩, hW, hsame.mono (by decide) (by decide)⟩
  · show Steps p.tables e below (s₁.setTop (mkF m 0 #[.val (.int pi1), .val (.int pi2), .val (.int pi3), .unset, .unset, .unset, .unset, .unset, .unset] [])) _
    refine XS.iloadN X0.here hx rfl (hb hby at_0) rfl ?_
    show Steps p.tables e below (s₁.setTop (mkF m 1 #[.val (.int pi1), .val (.int pi2), .val (.int pi3), .unset, .unset, .unset, .unset, .unset, .unset] [(.int pi1)])) _
    refine XS.iconst X0.here hx rfl (hb hby at_1) ?_
    show Steps p.tables e below (s₁.setTop (mkF m 2 #[.val (.int pi1), .val (.int pi2), .val (.int pi3), .unset, .unset, .unset, .unset, .unset, .unset] [(.int (1 : Int32)), (.int pi1)])) _
    refine XS.iand X0.here hx rfl (hb hby at_2) rfl ?_
    show Steps p.tables e below (s₁.setTop (mkF m 3 #[.val (.int pi1), .val (.int pi2), .val (.int pi3), .unset, .unset, .unset, .unset, .unset, .unset] [(.int (pi1 &&& (1 : Int32)))])) _
    refine XS.ifYes X0.here hx rfl (pc0 := 3) (pc' := 10) rfl (hb hby at_3) rfl ((if0 _ _).trans (teq hc3_0).1) (by decide) (by decide) ?_
    show Steps p.tables e below (s₁.setTop (mkF m 10 #[.val (.int pi1), .val (.int pi2), .val (.int pi3), .unset, .unset, .unset, .unset, .unset, .unset] [])) _
    refine XS.iconst X0.here hx rfl (hb hby at_10) ?_
    show Steps p.tables e below (s₁.setTop (mkF m 11 #[.val (.int pi1), .val (.int pi2), .val (.int pi3), .unset, .unset, .unset, .unset, .unset, .unset] [(.int (0 : Int32))])) _
    refine XS.istoreN X0.here hx rfl (hb hby at_11) rfl (l' := #[.val (.int pi1), .val (.int pi2), .val (.int pi3), .val (.int (0 : Int32)), .unset, .unset, .unset, .unset, .unset]) rfl ?_
    show Steps p.tables e below (s₁.setTop (mkF m 12 #[.val (.int pi1), .val (.int pi2), .val (.int pi3), .val (.int (0 : Int32)), .unset, .unset, .unset, .unset, .unset] [])) _
    refine XS.iloadN X0.here hx rfl (hb hby at_12) rfl ?_
    show Steps p.tables e below (s₁.setTop (mkF m 13 #[.val (.int pi1), .val (.int pi2), .val (.int pi3), .val (.int (0 : Int32)), .unset, .unset, .unset, .unset, .unset] [(.int pi1)])) _
    refine XS.iconst X0.here hx rfl (hb hby at_13) ?_
    show Steps p.tables e below (s₁.setTop (mkF m 14 #[.val (.int pi1), .val (.int pi2), .val (.int pi3), .val (.int (0 : Int32)), .unset, .unset, .unset, .unset, .unset] [(.int (2 : Int32)), (.int pi1)])) _
    refine XS.iand X0.here hx rfl (hb hby at_14) rfl ?_
    show Steps p.tables e below (s₁.setTop (mkF m 15 #[.val (.int pi1), .val (.int pi2), .val (.int pi3), .val (.int (0 : Int32)), .unset, .unset, .unset, .unset, .unset] [(.int (pi1 &&& (2 : Int32)))])) _
    refine XS.ifYes X0.here hx rfl (pc0 := 15) (pc' := 22) rfl (hb hby at_15) rfl ((if0 _ _).trans (teq hc15_1).1) (by decide) (by decide) ?_
    show Steps p.tables e below (s₁.setTop (mkF m 22 #[.val (.int pi1), .val (.int pi2), .val (.int pi3), .val (.int (0 : Int32)), .unset, .unset, .unset, .unset, .unset] [])) _
    refine XS.iconst X0.here hx rfl (hb hby at_22) ?_
    show Steps p.tables e below (s₁.setTop (mkF m 23 #[.val (.int pi1), .val (.int pi2), .val (.int pi3), .val (.int (0 : Int32)), .unset, .unset, .unset, .unset, .unset] [(.int (0 : Int32))])) _
    refine XS.istore X0.here hx rfl (hb hby at_23) rfl (l' := #[.val (.int pi1), .val (.int pi2), .val (.int pi3), .val (.int (0 : Int32)), .val (.int (0 : Int32)), .unset, .unset, .unset, .unset]) rfl ?_
    show Steps p.tables e below (s₁.setTop (mkF m 25 #[.val (.int pi1), .val (.int pi2), .val (.int pi3), .val (.int (0 : Int32)), .val (.int (0 : Int32)), .unset, .unset, .unset, .unset] [])) _
    refine st1 _ ?_
    show Steps p.tables e below (T1.setTop (mkF m 28 #[.val (.int pi1), .val (.int pi2), .val (.int pi3), .val (.int (0 : Int32)), .val (.int (0 : Int32)), .unset, .unset, .unset, .unset] [(.ref b1)])) _
    refine XS.dup X1.here hx rfl (hb hby at_28) rfl rfl ?_
    show Steps p.tables e below (T1.setTop (mkF m 29 #[.val (.int pi1), .val (.int pi2), .val (.int pi3), .val (.int (0 : Int32)), .val (.int (0 : Int32)), .unset, .unset, .unset, .unset] [(.ref b1), (.ref b1)])) _
    refine XS.iloadN X1.here hx rfl (hb hby at_29) rfl ?_
    show Steps p.tables e below (T1.setTop (mkF m 30 #[.val (.int pi1), .val (.int pi2), .val (.int pi3), .val (.int (0 : Int32)), .val (.int (0 : Int32)), .unset, .unset, .unset, .unset] [(.int (0 : Int32)), (.ref b1), (.ref b1)])) _
    refine XS.iloadN X1.here hx rfl (hb hby at_30) rfl ?_
    show Steps p.tables e below (T1.setTop (mkF m 31 #[.val (.int pi1), .val (.int pi2), .val (.int pi3), .val (.int (0 : Int32)), .val (.int (0 : Int32)), .unset, .unset, .unset, .unset] [(.int pi2), (.int (0 : Int32)), (.ref b1), (.ref b1)])) _
    refine XS.iloadN X1.here hx rfl (hb hby at_31) rfl ?_
    show Steps p.tables e below (T1.setTop (mkF m 32 #[.val (.int pi1), .val (.int pi2), .val (.int pi3), .val (.int (0 : Int32)), .val (.int (0 : Int32)), .unset, .unset, .unset, .unset] [(.int pi3), (.int pi2), (.int (0 : Int32)), (.ref b1), (.ref b1)])) _
    refine XS.iload X1.here hx rfl (hb hby at_32) rfl ?_
    show Steps p.tables e below (T1.setTop (mkF m 34 #[.val (.int pi1), .val (.int pi2), .val (.int pi3), .val (.int (0 : Int32)), .val (.int (0 : Int32)), .unset, .unset, .unset, .unset] [(.int (0 : Int32)), (.int pi3), (.int pi2), (.int (0 : Int32)), (.ref b1), (.ref b1)])) _
    refine st2.trans ?_
    show Steps p.tables e below (T2.setTop (mkF m 37 #[.val (.int pi1), .val (.int pi2), .val (.int pi3), .val (.int (0 : Int32)), .val (.int (0 : Int32)), .unset, .unset, .unset, .unset] [(.ref b1)])) _
    refine XS.astore X2.here hx rfl (hb hby at_37) rfl rfl (l' := #[.val (.int pi1), .val (.int pi2), .val (.int pi3), .val (.int (0 : Int32)), .val (.int (0 : Int32)), .val (.ref b1), .unset, .unset, .unset]) rfl ?_
    show Steps p.tables e below (T2.setTop (mkF m 39 #[.val (.int pi1), .val (.int pi2), .val (.int pi3), .val (.int (0 : Int32)), .val (.int (0 : Int32)), .val (.ref b1), .unset, .unset, .unset] [])) _
    refine XS.iloadN X2.here hx rfl (hb hby at_39) rfl ?_
    show Steps p.tables e below (T2.setTop (mkF m 40 #[.val (.int pi1), .val (.int pi2), .val (.int pi3), .val (.int (0 : Int32)), .val (.int (0 : Int32)), .val (.ref b1), .unset, .unset, .unset] [(.int (0 : Int32))])) _
    refine XS.ifYes X2.here hx rfl (pc0 := 40) (pc' := 60) rfl (hb hby at_40) rfl ((if0 _ _).trans (teq (rfl : (0 : Int32) = (0 : Int32))).1) (by decide) (by decide) ?_
    show Steps p.tables e below (T2.setTop (mkF m 60 #[.val (.int pi1), .val (.int pi2), .val (.int pi3), .val (.int (0 : Int32)), .val (.int (0 : Int32)), .val (.ref b1), .unset, .unset, .unset] [])) _
    refine XS.iconst X2.here hx rfl (hb hby at_60) ?_
    show Steps p.tables e below (T2.setTop (mkF m 61 #[.val (.int pi1), .val (.int pi2), .val (.int pi3), .val (.int (0 : Int32)), .val (.int (0 : Int32)), .val (.ref b1), .unset, .unset, .unset] [(.int (0 : Int32))])) _
    refine XS.istore X2.here hx rfl (hb hby at_61) rfl (l' := #[.val (.int pi1), .val (.int pi2), .val (.int pi3), .val (.int (0 : Int32)), .val (.int (0 : Int32)), .val (.ref b1), .val (.int (0 : Int32)), .unset, .unset]) rfl ?_
    show Steps p.tables e below (T2.setTop (mkF m 63 #[.val (.int pi1), .val (.int pi2), .val (.int pi3), .val (.int (0 : Int32)), .val (.int (0 : Int32)), .val (.ref b1), .val (.int (0 : Int32)), .unset, .unset] [])) _
    refine XS.aload X2.here hx rfl (hb hby at_63) rfl rfl ?_
    show Steps p.tables e below (T2.setTop (mkF m 65 #[.val (.int pi1), .val (.int pi2), .val (.int pi3), .val (.int (0 : Int32)), .val (.int (0 : Int32)), .val (.ref b1), .val (.int (0 : Int32)), .unset, .unset] [(.ref b1)])) _
    refine st5.trans ?_
    show Steps p.tables e below (T5.setTop (mkF m 68 #[.val (.int pi1), .val (.int pi2), .val (.int pi3), .val (.int (0 : Int32)), .val (.int (0 : Int32)), .val (.ref b1), .val (.int (0 : Int32)), .unset, .unset] [(.int (0 : Int32))])) _
    refine XS.istore X5.here hx rfl (hb hby at_68) rfl (l' := #[.val (.int pi1), .val (.int pi2), .val (.int pi3), .val (.int (0 : Int32)), .val (.int (0 : Int32)), .val (.ref b1), .val (.int (0 : Int32)), .val (.int (0 : Int32)), .unset]) rfl ?_
    show Steps p.tables e below (T5.setTop (mkF m 70 #[.val (.int pi1), .val (.int pi2), .val (.int pi3), .val (.int (0 : Int32)), .val (.int (0 : Int32)), .val (.ref b1), .val (.int (0 : Int32)), .val (.int (0 : Int32)), .unset] [])) _
    refine XS.aload X5.here hx rfl (hb hby at_70) rfl rfl ?_
    show Steps p.tables e below (T5.setTop (mkF m 72 #[.val (.int pi1), .val (.int pi2), .val (.int pi3), .val (.int (0 : Int32)), .val (.int (0 : Int32)), .val (.ref b1), .val (.int (0 : Int32)), .val (.int (0 : Int32)), .unset] [(.ref b1)])) _
    refine st8.trans ?_
    show Steps p.tables e below (T8.setTop (mkF m 75 #[.val (.int pi1), .val (.int pi2), .val (.int pi3), .val (.int (0 : Int32)), .val (.int (0 : Int32)), .val (.ref b1), .val (.int (0 : Int32)), .val (.int (0 : Int32)), .unset] [(.int (0 : Int32))])) _
    refine XS.istore X8.here hx rfl (hb hby at_75) rfl (l' := #[.val (.int pi1), .val (.int pi2), .val (.int pi3), .val (.int (0 : Int32)), .val (.int (0 : Int32)), .val (.ref b1), .val (.int (0 : Int32)), .val (.int (0 : Int32)), .val (.int (0 : Int32))]) rfl ?_
    show Steps p.tables e below (T8.setTop (mkF m 77 #[.val (.int pi1), .val (.int pi2), .val (.int pi3), .val (.int (0 : Int32)), .val (.int (0 : Int32)), .val (.ref b1), .val (.int (0 : Int32)), .val (.int (0 : Int32)), .val (.int (0 : Int32))] [])) _
    refine XS.iload X8.here hx rfl (hb hby at_77) rfl ?_
    show Steps p.tables e below (T8.setTop (mkF m 79 #[.val (.int pi1), .val (.int pi2), .val (.int pi3), .val (.int (0 : Int32)), .val (.int (0 : Int32)), .val (.ref b1), .val (.int (0 : Int32)), .val (.int (0 : Int32)), .val (.int (0 : Int32))] [(.int (0 : Int32))])) _
    refine XS.iload X8.here hx rfl (hb hby at_79) rfl ?_
    show Steps p.tables e below (T8.setTop (mkF m 81 #[.val (.int pi1), .val (.int pi2), .val (.int pi3), .val (.int (0 : Int32)), .val (.int (0 : Int32)), .val (.ref b1), .val (.int (0 : Int32)), .val (.int (0 : Int32)), .val (.int (0 : Int32))] [(.int (0 : Int32)), (.int (0 : Int32))])) _
    refine XS.icmpNo X8.here hx rfl (hb hby at_81) rfl (teq (rfl : (0 : Int32) = (0 : Int32))).2 ?_
    show Steps p.tables e below (T8.setTop (mkF m 84 #[.val (.int pi1), .val (.int pi2), .val (.int pi3), .val (.int (0 : Int32)), .val (.int (0 : Int32)), .val (.ref b1), .val (.int (0 : Int32)), .val (.int (0 : Int32)), .val (.int (0 : Int32))] [])) _
    refine XS.iload X8.here hx rfl (hb hby at_84) rfl ?_
    show Steps p.tables e below (T8.setTop (mkF m 86 #[.val (.int pi1), .val (.int pi2), .val (.int pi3), .val (.int (0 : Int32)), .val (.int (0 : Int32)), .val (.ref b1), .val (.int (0 : Int32)), .val (.int (0 : Int32)), .val (.int (0 : Int32))] [(.int (0 : Int32))])) _
    refine XS.ifYes X8.here hx rfl (pc0 := 86) (pc' := 94) rfl (hb hby at_86) rfl ((if0 _ _).trans (teq (rfl : (0 : Int32) = (0 : Int32))).1) (by decide) (by decide) ?_
    show Steps p.tables e below (T8.setTop (mkF m 94 #[.val (.int pi1), .val (.int pi2), .val (.int pi3), .val (.int (0 : Int32)), .val (.int (0 : Int32)), .val (.ref b1), .val (.int (0 : Int32)), .val (.int (0 : Int32)), .val (.int (0 : Int32))] [])) _
    refine XS.iconst X8.here hx rfl (hb hby at_94) ?_
    show Steps p.tables e below (T8.setTop (mkF m 95 #[.val (.int pi1), .val (.int pi2), .val (.int pi3), .val (.int (0 : Int32)), .val (.int (0 : Int32)), .val (.ref b1), .val (.int (0 : Int32)), .val (.int (0 : Int32)), .val (.int (0 : Int32))] [(.int (1 : Int32))])) _
    refine XS.goto X8.here hx rfl (pc0 := 95) (pc' := 99) rfl (hb hby at_95) (by decide) (by decide) ?_
    show Steps p.tables e below (T8.setTop (mkF m 99 #[.val (.int pi1), .val (.int pi2), .val (.int pi3), .val (.int (0 : Int32)), .val (.int (0 : Int32)), .val (.ref b1), .val (.int (0 : Int32)), .val (.int (0 : Int32)), .val (.int (0 : Int32))] [(.int (1 : Int32))])) _
    exact retN X8 hx (t := .boolean) Bd.returns (by simp) (hb hby at_99) hr
  · exact ⟨rfl, N8⟩
set_option maxRecDepth 65536 in
set_option maxHeartbeats 40000000 in
theorem rm0_tf (l : Launch) (Z : State) (a0 : Array Value) (hw : ∀ d ∈ tables_1, d.before a0 Z = true) (ws : List Jvm.Cond) (pi1 : Int32) (pi2 : Int32) (pi3 : Int32) (h0 : Heap) (n0 : Nat) (Z0 : n0 ≤ h0.size) (O0 : Old Z n0 h0) (hc3_0 : (pi1 &&& (1 : Int32)) = (0 : Int32)) (hc15_1 : ¬ ((pi1 &&& (2 : Int32)) = (0 : Int32))) :
    MetFree l x (head1 (Jvm.Cond.code x code maxLocals ret :: ws) room_1) (fun a U => a = #[(.int pi1), (.int pi2), (.int pi3)] ∧ Z.Warmed39 U.vm ∧ U.heap = h0) (fun _ _ _ _ _ => True) (fun _ U o U' => ∃ v L, o = .returned v ∧ Q0 v L n0 ∧ FrameEnd U o U' L room_1.cells room_1.slots) := by
  refine MetFree.of_bodySF (plainFor_of_name pn_0) hisR ?_
  intro p e s m args below meth c s₁ Bd hml0 hP hK
  obtain ⟨rfl, hZ, hh⟩ := hP
  have hx := Bd.exec
  have hby := Bd.bytes
  have hml : c.maxLocals = 9 := hml0
  have hown : s.vm.findClass "com/example/cascade/cascade/session/RowReadIsExtendedPinLaw" = some m.cls := findClass_of_methodNamed Bd.named
  have hnm := (name_of_methodNamed Bd.named Bd.method).1
  have X0 : Stand p l e room_1 s m #[(.int pi1), (.int pi2), (.int pi3)] below meth c s₁ [] 0 0 := Stand.of_body Bd
  have e0 : s₁.heap = h0 := by rw [← hh, Bd.state]; rfl
  have N0 := Fr.nil n0
  have pre0 : ∀ t, Steps p.tables e below (s₁.setTop (mkF m 0 #[.val (.int pi1), .val (.int pi2), .val (.int pi3), .unset, .unset, .unset, .unset, .unset, .unset] [])) t → Steps p.tables e below (s₁.setTop (entryFrame m #[(.int pi1), (.int pi2), (.int pi3)] maxLocals)) t := fun t k => castTop (ef_0 m pi1 pi2 pi3) k
  obtain ⟨T1, h1, X1, e1, E1, A1, D1, -, st1⟩ := newO X0 hx hZ hown (hw _ (List.mem_of_getElem? (i := 0) rfl)) (hw _ (List.mem_of_getElem? (i := 1) rfl)) (hw _ (List.mem_of_getElem? (i := 2) rfl)) e0 (g := (mkF m 25 #[.val (.int pi1), .val (.int pi2), .val (.int pi3), .val (.int (0 : Int32)), .val (.int (1 : Int32)), .unset, .unset, .unset, .unset] [])) rfl (hb hby at_25) (by decide) (by decide)
  obtain ⟨b1, g1⟩ : ∃ z, z = h0.size := ⟨_, rfl⟩
  rw [← g1] at A1 D1 st1
  have F_locks_b1 : Fld Z h1 b1 "com/example/cascade/cascade/session/RowRead" "locks" "Z" (.int (0 : Int32)) := D1 (Or.inr (hw _ (List.mem_of_getElem? (i := 10) rfl))) (ty := .boolean) (by decide)
  have F_timeout_b1 : Fld Z h1 b1 "com/example/cascade/cascade/session/RowRead" "timeout" "I" (.int (0 : Int32)) := D1 (Or.inr (hw _ (List.mem_of_getElem? (i := 12) rfl))) (ty := .int) (by decide)
  have F_lockTimeout_b1 : Fld Z h1 b1 "com/example/cascade/cascade/session/RowRead" "lockTimeout" "I" (.int (0 : Int32)) := D1 (Or.inr (hw _ (List.mem_of_getElem? (i := 14) rfl))) (ty := .int) (by decide)
  have F_extended_b1 : Fld Z h1 b1 "com/example/cascade/cascade/session/RowRead" "extended" "Z" (.int (0 : Int32)) := D1 (Or.inr (hw _ (List.mem_of_getElem? (i := 16) rfl))) (ty := .boolean) (by decide)
  have g_b1 : n0 ≤ b1 := Nat.le_trans Z0 (Nat.le_of_eq g1.symm)
  have z3 := Nat.le_trans Z0 E1.1
  have o4 := O0.ext E1
  obtain ⟨_, _, ⟨T2, L2, k2, n2⟩, -, X2, ⟨Lc2, hQ2, l2, y2, z2⟩, st2⟩ := X1.specialBack hx (y := (⟨"com/example/cascade/cascade/session/RowRead", "<init>", "(ZIIZ)V"⟩ : MethodName)) rfl hown (mvT hZ (hw _ (List.mem_of_getElem? (i := 3) rfl))) (mvT hZ (hw _ (List.mem_of_getElem? (i := 4) rfl))) (mvT hZ (hw _ (List.mem_of_getElem? (i := 5) rfl))) (by decide) (backOf (W := 1) (rm1 l Z a0 hw [] b1 (0 : Int32) pi2 pi3 (1 : Int32) (.int (0 : Int32)) (.int (0 : Int32)) (.int (0 : Int32)) (.int (0 : Int32)) h1 n0 z3 o4 A1 F_locks_b1 g_b1 F_timeout_b1 F_lockTimeout_b1 F_extended_b1) hZ (hw _ (List.mem_of_getElem? (i := 5) rfl)) (hw _ (List.mem_of_getElem? (i := 2) rfl)) (by decide) (by decide)) (g := (mkF m 34 #[.val (.int pi1), .val (.int pi2), .val (.int pi3), .val (.int (0 : Int32)), .val (.int (1 : Int32)), .unset, .unset, .unset, .unset] [(.int (1 : Int32)), (.int pi3), (.int pi2), (.int (0 : Int32)), (.ref b1), (.ref b1)])) rfl (by rw [hml]; rfl) (Steps.refl _) (a := b1) (argsL := [(.int (0 : Int32)), (.int pi2), (.int pi3), (.int (1 : Int32))]) (rest := [(.ref b1)]) (lenOf pd_0 rfl) rfl (by show 2 * 0 + _ ≤ _; exact Nat.le_of_eq rfl) (hb hby at_34) (fun _ _ => ⟨rfl, e1, (by decide : 1 + 0 ≤ _), (by decide : 4 + 0 ≤ _)⟩)
  dsimp only [Pt.U, Pt.locs, Pt.cells, Pt.slots] at X2 l2 y2 z2 st2 hQ2
  subst l2 y2 z2
  obtain ⟨rfl, N2q, K2, qf2_0, qf2_1, qf2_2, qf2_3, qf2_4⟩ := hQ2
  have N2 := Fr.app N0 N2q
  have z6 := Nat.le_trans z3 K2.1
  have o7 := o4.keep K2 (allS g_b1 all0)
  obtain ⟨cq5, kq5, q5a, q5b, q5c⟩ := isOf hZ rfl qf2_0
  obtain ⟨_, _, ⟨T5, L5, k5, n5⟩, -, X5, ⟨Lc5, hQ5, l5, y5, z5⟩, st5⟩ := X2.virtualBack hx (y := (⟨"com/example/cascade/cascade/session/RowRead", "isExtended", "()Z"⟩ : MethodName)) (z := (⟨"com/example/cascade/cascade/session/RowRead", "isExtended", "()Z"⟩ : MethodName)) hown (mvT hZ (hw _ (List.mem_of_getElem? (i := 17) rfl))) (mvT hZ (hw _ (List.mem_of_getElem? (i := 18) rfl))) (notFace_of_selects (args := #[]) (mvT hZ (hw _ (List.mem_of_getElem? (i := 20) rfl)))) (mvT hZ (hw _ (List.mem_of_getElem? (i := 20) rfl))) (mvT hZ (hw _ (List.mem_of_getElem? (i := 19) rfl))) (by decide) (backOf (W := 0) (rm3_t l Z a0 hw [] b1 (0 : Int32) T2.heap n0 z6 o7 qf2_1 rfl) hZ (hw _ (List.mem_of_getElem? (i := 21) rfl)) (hw _ (List.mem_of_getElem? (i := 2) rfl)) (by decide) (by decide)) q5a q5c (g := (mkF m 65 #[.val (.int pi1), .val (.int pi2), .val (.int pi3), .val (.int (0 : Int32)), .val (.int (1 : Int32)), .val (.ref b1), .val (.int (0 : Int32)), .unset, .unset] [(.ref b1)])) rfl (by rw [hml]; rfl) (Steps.refl _) (argsL := []) (rest := []) (lenOf pd_2 rfl) rfl (by show 2 * 0 + _ ≤ _; exact Nat.le_of_eq rfl) (hb hby at_65) (fun _ _ => ⟨rfl, rfl, (by decide : 1 + 0 ≤ _), (by decide : 4 + 0 ≤ _)⟩)
  dsimp only [Pt.U, Pt.locs, Pt.cells, Pt.slots] at X5 l5 y5 z5 st5 hQ5
  subst l5 y5 z5
  obtain ⟨rfl, N5q, eq5⟩ := hQ5
  have N5 := Fr.app N2 N5q
  obtain ⟨cq8, kq8, q8a, q8b, q8c⟩ := isOf hZ eq5 qf2_0
  obtain ⟨_, _, ⟨T8, L8, k8, n8⟩, -, X8, ⟨Lc8, hQ8, l8, y8, z8⟩, st8⟩ := X5.virtualBack hx (y := (⟨"com/example/cascade/cascade/session/RowRead", "locks", "()Z"⟩ : MethodName)) (z := (⟨"com/example/cascade/cascade/session/RowRead", "locks", "()Z"⟩ : MethodName)) hown (mvT hZ (hw _ (List.mem_of_getElem? (i := 22) rfl))) (mvT hZ (hw _ (List.mem_of_getElem? (i := 23) rfl))) (notFace_of_selects (args := #[]) (mvT hZ (hw _ (List.mem_of_getElem? (i := 25) rfl)))) (mvT hZ (hw _ (List.mem_of_getElem? (i := 25) rfl))) (mvT hZ (hw _ (List.mem_of_getElem? (i := 24) rfl))) (by decide) (backOf (W := 0) (rm4 l Z a0 hw [] b1 (0 : Int32) T2.heap n0 z6 o7 qf2_1) hZ (hw _ (List.mem_of_getElem? (i := 26) rfl)) (hw _ (List.mem_of_getElem? (i := 2) rfl)) (by decide) (by decide)) q8a q8c (g := (mkF m 72 #[.val (.int pi1), .val (.int pi2), .val (.int pi3), .val (.int (0 : Int32)), .val (.int (1 : Int32)), .val (.ref b1), .val (.int (0 : Int32)), .val (.int (0 : Int32)), .unset] [(.ref b1)])) rfl (by rw [hml]; rfl) (Steps.refl _) (argsL := []) (rest := []) (lenOf pd_2 rfl) rfl (by show 2 * 0 + _ ≤ _; exact Nat.le_of_eq rfl) (hb hby at_72) (fun _ _ => ⟨rfl, eq5, (by decide : 1 + 0 ≤ _), (by decide : 4 + 0 ≤ _)⟩)
  dsimp only [Pt.U, Pt.locs, Pt.cells, Pt.slots] at X8 l8 y8 z8 st8 hQ8
  subst l8 y8 z8
  obtain ⟨rfl, N8q, eq8⟩ := hQ8
  have N8 := Fr.app N5 N8q
  obtain ⟨fs, hr, hrun, hended, hW, hsame⟩ := X8.leave (v := some (.int (1 : Int32))) (fun h => by rw [Bd.returns] at h; cases h)
  refine ⟨_, _, pre0 _ ?_, hrun, hended, _, _, rfl, ?_, ⟨_, rfl⟩, hW, hsame.mono (by decide) (by decide)⟩
  · show Steps p.tables e below (s₁.setTop (mkF m 0 #[.val (.int pi1), .val (.int pi2), .val (.int pi3), .unset, .unset, .unset, .unset, .unset, .unset] [])) _
    refine XS.iloadN X0.here hx rfl (hb hby at_0) rfl ?_
    show Steps p.tables e below (s₁.setTop (mkF m 1 #[.val (.int pi1), .val (.int pi2), .val (.int pi3), .unset, .unset, .unset, .unset, .unset, .unset] [(.int pi1)])) _
    refine XS.iconst X0.here hx rfl (hb hby at_1) ?_
    show Steps p.tables e below (s₁.setTop (mkF m 2 #[.val (.int pi1), .val (.int pi2), .val (.int pi3), .unset, .unset, .unset, .unset, .unset, .unset] [(.int (1 : Int32)), (.int pi1)])) _
    refine XS.iand X0.here hx rfl (hb hby at_2) rfl ?_
    show Steps p.tables e below (s₁.setTop (mkF m 3 #[.val (.int pi1), .val (.int pi2), .val (.int pi3), .unset, .unset, .unset, .unset, .unset, .unset] [(.int (pi1 &&& (1 : Int32)))])) _
    refine XS.ifYes X0.here hx rfl (pc0 := 3) (pc' := 10) rfl (hb hby at_3) rfl ((if0 _ _).trans (teq hc3_0).1) (by decide) (by decide) ?_
    show Steps p.tables e below (s₁.setTop (mkF m 10 #[.val (.int pi1), .val (.int pi2), .val (.int pi3), .unset, .unset, .unset, .unset, .unset, .unset] [])) _
    refine XS.iconst X0.here hx rfl (hb hby at_10) ?_
    show Steps p.tables e below (s₁.setTop (mkF m 11 #[.val (.int pi1), .val (.int pi2), .val (.int pi3), .unset, .unset, .unset, .unset, .unset, .unset] [(.int (0 : Int32))])) _
    refine XS.istoreN X0.here hx rfl (hb hby at_11) rfl (l' := #[.val (.int pi1), .val (.int pi2), .val (.int pi3), .val (.int (0 : Int32)), .unset, .unset, .unset, .unset, .unset]) rfl ?_
    show Steps p.tables e below (s₁.setTop (mkF m 12 #[.val (.int pi1), .val (.int pi2), .val (.int pi3), .val (.int (0 : Int32)), .unset, .unset, .unset, .unset, .unset] [])) _
    refine XS.iloadN X0.here hx rfl (hb hby at_12) rfl ?_
    show Steps p.tables e below (s₁.setTop (mkF m 13 #[.val (.int pi1), .val (.int pi2), .val (.int pi3), .val (.int (0 : Int32)), .unset, .unset, .unset, .unset, .unset] [(.int pi1)])) _
    refine XS.iconst X0.here hx rfl (hb hby at_13) ?_
    show Steps p.tables e below (s₁.setTop (mkF m 14 #[.val (.int pi1), .val (.int pi2), .val (.int pi3), .val (.int (0 : Int32)), .unset, .unset, .unset, .unset, .unset] [(.int (2 : Int32)), (.int pi1)])) _
    refine XS.iand X0.here hx rfl (hb hby at_14) rfl ?_
    show Steps p.tables e below (s₁.setTop (mkF m 15 #[.val (.int pi1), .val (.int pi2), .val (.int pi3), .val (.int (0 : Int32)), .unset, .unset, .unset, .unset, .unset] [(.int (pi1 &&& (2 : Int32)))])) _
    refine XS.ifNo X0.here hx rfl (hb hby at_15) rfl ((if0 _ _).trans (feq hc15_1).1) ?_
    show Steps p.tables e below (s₁.setTop (mkF m 18 #[.val (.int pi1), .val (.int pi2), .val (.int pi3), .val (.int (0 : Int32)), .unset, .unset, .unset, .unset, .unset] [])) _
    refine XS.iconst X0.here hx rfl (hb hby at_18) ?_
    show Steps p.tables e below (s₁.setTop (mkF m 19 #[.val (.int pi1), .val (.int pi2), .val (.int pi3), .val (.int (0 : Int32)), .unset, .unset, .unset, .unset, .unset] [(.int (1 : Int32))])) _
    refine XS.goto X0.here hx rfl (pc0 := 19) (pc' := 23) rfl (hb hby at_19) (by decide) (by decide) ?_
    show Steps p.tables e below (s₁.setTop (mkF m 23 #[.val (.int pi1), .val (.int pi2), .val (.int pi3), .val (.int (0 : Int32)), .unset, .unset, .unset, .unset, .unset] [(.int (1 : Int32))])) _
    refine XS.istore X0.here hx rfl (hb hby at_23) rfl (l' := #[.val (.int pi1), .val (.int pi2), .val (.int pi3), .val (.int (0 : Int32)), .val (.int (1 : Int32)), .unset, .unset, .unset, .unset]) rfl ?_
    show Steps p.tables e below (s₁.setTop (mkF m 25 #[.val (.int pi1), .val (.int pi2), .val (.int pi3), .val (.int (0 : Int32)), .val (.int (1 : Int32)), .unset, .unset, .unset, .unset] [])) _
    refine st1 _ ?_
    show Steps p.tables e below (T1.setTop (mkF m 28 #[.val (.int pi1), .val (.int pi2), .val (.int pi3), .val (.int (0 : Int32)), .val (.int (1 : Int32)), .unset, .unset, .unset, .unset] [(.ref b1)])) _
    refine XS.dup X1.here hx rfl (hb hby at_28) rfl rfl ?_
    show Steps p.tables e below (T1.setTop (mkF m 29 #[.val (.int pi1), .val (.int pi2), .val (.int pi3), .val (.int (0 : Int32)), .val (.int (1 : Int32)), .unset, .unset, .unset, .unset] [(.ref b1), (.ref b1)])) _
    refine XS.iloadN X1.here hx rfl (hb hby at_29) rfl ?_
    show Steps p.tables e below (T1.setTop (mkF m 30 #[.val (.int pi1), .val (.int pi2), .val (.int pi3), .val (.int (0 : Int32)), .val (.int (1 : Int32)), .unset, .unset, .unset, .unset] [(.int (0 : Int32)), (.ref b1), (.ref b1)])) _
    refine XS.iloadN X1.here hx rfl (hb hby at_30) rfl ?_
    show Steps p.tables e below (T1.setTop (mkF m 31 #[.val (.int pi1), .val (.int pi2), .val (.int pi3), .val (.int (0 : Int32)), .val (.int (1 : Int32)), .unset, .unset, .unset, .unset] [(.int pi2), (.int (0 : Int32)), (.ref b1), (.ref b1)])) _
    refine XS.iloadN X1.here hx rfl (hb hby at_31) rfl ?_
    show Steps p.tables e below (T1.setTop (mkF m 32 #[.val (.int pi1), .val (.int pi2), .val (.int pi3), .val (.int (0 : Int32)), .val (.int (1 : Int32)), .unset, .unset, .unset, .unset] [(.int pi3), (.int pi2), (.int (0 : Int32)), (.ref b1), (.ref b1)])) _
    refine XS.iload X1.here hx rfl (hb hby at_32) rfl ?_
    show Steps p.tables e below (T1.setTop (mkF m 34 #[.val (.int pi1), .val (.int pi2), .val (.int pi3), .val (.int (0 : Int32)), .val (.int (1 : Int32)), .unset, .unset, .unset, .unset] [(.int (1 : Int32)), (.int pi3), (.int pi2), (.int (0 : Int32)), (.ref b1), (.ref b1)])) _
    refine st2.trans ?_
    show Steps p.tables e below (T2.setTop (mkF m 37 #[.val (.int pi1), .val (.int pi2), .val (.int pi3), .val (.int (0 : Int32)), .val (.int (1 : Int32)), .unset, .unset, .unset, .unset] [(.ref b1)])) _
    refine XS.astore X2.here hx rfl (hb hby at_37) rfl rfl (l' := #[.val (.int pi1), .val (.int pi2), .val (.int pi3), .val (.int (0 : Int32)), .val (.int (1 : Int32)), .val (.ref b1), .unset, .unset, .unset]) rfl ?_
    show Steps p.tables e below (T2.setTop (mkF m 39 #[.val (.int pi1), .val (.int pi2), .val (.int pi3), .val (.int (0 : Int32)), .val (.int (1 : Int32)), .val (.ref b1), .unset, .unset, .unset] [])) _
    refine XS.iloadN X2.here hx rfl (hb hby at_39) rfl ?_
    show Steps p.tables e below (T2.setTop (mkF m 40 #[.val (.int pi1), .val (.int pi2), .val (.int pi3), .val (.int (0 : Int32)), .val (.int (1 : Int32)), .val (.ref b1), .unset, .unset, .unset] [(.int (0 : Int32))])) _
    refine XS.ifYes X2.here hx rfl (pc0 := 40) (pc' := 60) rfl (hb hby at_40) rfl ((if0 _ _).trans (teq (rfl : (0 : Int32) = (0 : Int32))).1) (by decide) (by decide) ?_
    show Steps p.tables e below (T2.setTop (mkF m 60 #[.val (.int pi1), .val (.int pi2), .val (.int pi3), .val (.int (0 : Int32)), .val (.int (1 : Int32)), .val (.ref b1), .unset, .unset, .unset] [])) _
    refine XS.iconst X2.here hx rfl (hb hby at_60) ?_
    show Steps p.tables e below (T2.setTop (mkF m 61 #[.val (.int pi1), .val (.int pi2), .val (.int pi3), .val (.int (0 : Int32)), .val (.int (1 : Int32)), .val (.ref b1), .unset, .unset, .unset] [(.int (0 : Int32))])) _
    refine XS.istore X2.here hx rfl (hb hby at_61) rfl (l' := #[.val (.int pi1), .val (.int pi2), .val (.int pi3), .val (.int (0 : Int32)), .val (.int (1 : Int32)), .val (.ref b1), .val (.int (0 : Int32)), .unset, .unset]) rfl ?_
    show Steps p.tables e below (T2.setTop (mkF m 63 #[.val (.int pi1), .val (.int pi2), .val (.int pi3), .val (.int (0 : Int32)), .val (.int (1 : Int32)), .val (.ref b1), .val (.int (0 : Int32)), .unset, .unset] [])) _
    refine XS.aload X2.here hx rfl (hb hby at_63) rfl rfl ?_
    show Steps p.tables e below (T2.setTop (mkF m 65 #[.val (.int pi1), .val (.int pi2), .val (.int pi3), .val (.int (0 : Int32)), .val (.int (1 : Int32)), .val (.ref b1), .val (.int (0 : Int32)), .unset, .unset] [(.ref b1)])) _
    refine st5.trans ?_
    show Steps p.tables e below (T5.setTop (mkF m 68 #[.val (.int pi1), .val (.int pi2), .val (.int pi3), .val (.int (0 : Int32)), .val (.int (1 : Int32)), .val (.ref b1), .val (.int (0 : Int32)), .unset, .unset] [(.int (0 : Int32))])) _
    refine XS.istore X5.here hx rfl (hb hby at_68) rfl (l' := #[.val (.int pi1), .val (.int pi2), .val (.int pi3), .val (.int (0 : Int32)), .val (.int (1 : Int32)), .val (.ref b1), .val (.int (0 : Int32)), .val (.int (0 : Int32)), .unset]) rfl ?_
    show Steps p.tables e below (T5.setTop (mkF m 70 #[.val (.int pi1), .val (.int pi2), .val (.int pi3), .val (.int (0 : Int32)), .val (.int (1 : Int32)), .val (.ref b1), .val (.int (0 : Int32)), .val (.int (0 : Int32)), .unset] [])) _
    refine XS.aload X5.here hx rfl (hb hby at_70) rfl rfl ?_
    show Steps p.tables e below (T5.setTop (mkF m 72 #[.val (.int pi1), .val (.int pi2), .val (.int pi3), .val (.int (0 : Int32)), .val (.int (1 : Int32)), .val (.ref b1), .val (.int (0 : Int32)), .val (.int (0 : Int32)), .unset] [(.ref b1)])) _
    refine st8.trans ?_
    show Steps p.tables e below (T8.setTop (mkF m 75 #[.val (.int pi1), .val (.int pi2), .val (.int pi3), .val (.int (0 : Int32)), .val (.int (1 : Int32)), .val (.ref b1), .val (.int (0 : Int32)), .val (.int (0 : Int32)), .unset] [(.int (0 : Int32))])) _
    refine XS.istore X8.here hx rfl (hb hby at_75) rfl (l' := #[.val (.int pi1), .val (.int pi2), .val (.int pi3), .val (.int (0 : Int32)), .val (.int (1 : Int32)), .val (.ref b1), .val (.int (0 : Int32)), .val (.int (0 : Int32)), .val (.int (0 : Int32))]) rfl ?_
    show Steps p.tables e below (T8.setTop (mkF m 77 #[.val (.int pi1), .val (.int pi2), .val (.int pi3), .val (.int (0 : Int32)), .val (.int (1 : Int32)), .val (.ref b1), .val (.int (0 : Int32)), .val (.int (0 : Int32)), .val (.int (0 : Int32))] [])) _
    refine XS.iload X8.here hx rfl (hb hby at_77) rfl ?_
    show Steps p.tables e below (T8.setTop (mkF m 79 #[.val (.int pi1), .val (.int pi2), .val (.int pi3), .val (.int (0 : Int32)), .val (.int (1 : Int32)), .val (.ref b1), .val (.int (0 : Int32)), .val (.int (0 : Int32)), .val (.int (0 : Int32))] [(.int (0 : Int32))])) _
    refine XS.iload X8.here hx rfl (hb hby at_79) rfl ?_
    show Steps p.tables e below (T8.setTop (mkF m 81 #[.val (.int pi1), .val (.int pi2), .val (.int pi3), .val (.int (0 : Int32)), .val (.int (1 : Int32)), .val (.ref b1), .val (.int (0 : Int32)), .val (.int (0 : Int32)), .val (.int (0 : Int32))] [(.int (0 : Int32)), (.int (0 : Int32))])) _
    refine XS.icmpNo X8.here hx rfl (hb hby at_81) rfl (teq (rfl : (0 : Int32) = (0 : Int32))).2 ?_
    show Steps p.tables e below (T8.setTop (mkF m 84 #[.val (.int pi1), .val (.int pi2), .val (.int pi3), .val (.int (0 : Int32)), .val (.int (1 : Int32)), .val (.ref b1), .val (.int (0 : Int32)), .val (.int (0 : Int32)), .val (.int (0 : Int32))] [])) _
    refine XS.iload X8.here hx rfl (hb hby at_84) rfl ?_
    show Steps p.tables e below (T8.setTop (mkF m 86 #[.val (.int pi1), .val (.int pi2), .val (.int pi3), .val (.int (0 : Int32)), .val (.int (1 : Int32)), .val (.ref b1), .val (.int (0 : Int32)), .val (.int (0 : Int32)), .val (.int (0 : Int32))] [(.int (0 : Int32))])) _
    refine XS.ifYes X8.here hx rfl (pc0 := 86) (pc' := 94) rfl (hb hby at_86) rfl ((if0 _ _).trans (teq (rfl : (0 : Int32) = (0 : Int32))).1) (by decide) (by decide) ?_
    show Steps p.tables e below (T8.setTop (mkF m 94 #[.val (.int pi1), .val (.int pi2), .val (.int pi3), .val (.int (0 : Int32)), .val (.int (1 : Int32)), .val (.ref b1), .val (.int (0 : Int32)), .val (.int (0 : Int32)), .val (.int (0 : Int32))] [])) _
    refine XS.iconst X8.here hx rfl (hb hby at_94) ?_
    show Steps p.tables e below (T8.setTop (mkF m 95 #[.val (.int pi1), .val (.int pi2), .val (.int pi3), .val (.int (0 : Int32)), .val (.int (1 : Int32)), .val (.ref b1), .val (.int (0 : Int32)), .val (.int (0 : Int32)), .val (.int (0 : Int32))] [(.int (1 : Int32))])) _
    refine XS.goto X8.here hx rfl (pc0 := 95) (pc' := 99) rfl (hb hby at_95) (by decide) (by decide) ?_
    show Steps p.tables e below (T8.setTop (mkF m 99 #[.val (.int pi1), .val (.int pi2), .val (.int pi3), .val (.int (0 : Int32)), .val (.int (1 : Int32)), .val (.ref b1), .val (.int (0 : Int32)), .val (.int (0 : Int32)), .val (.int (0 : Int32))] [(.int (1 : Int32))])) _
    exact retN X8 hx (t := .boolean) Bd.returns (by simp) (hb hby at_99) hr
  · exact ⟨rfl, N8⟩
set_option maxRecDepth 65536 in
set_option maxHeartbeats 40000000 in
theorem rm0_ft (l : Launch) (Z : State) (a0 : Array Value) (hw : ∀ d ∈ tables_1, d.before a0 Z = true) (ws : List Jvm.Cond) (pi1 : Int32) (pi2 : Int32) (pi3 : Int32) (h0 : Heap) (n0 : Nat) (Z0 : n0 ≤ h0.size) (O0 : Old Z n0 h0) (hc3_0 : ¬ ((pi1 &&& (1 : Int32)) = (0 : Int32))) (hc15_1 : (pi1 &&& (2 : Int32)) = (0 : Int32)) :
    MetFree l x (head1 (Jvm.Cond.code x code maxLocals ret :: ws) room_1) (fun a U => a = #[(.int pi1), (.int pi2), (.int pi3)] ∧ Z.Warmed39 U.vm ∧ U.heap = h0) (fun _ _ _ _ _ => True) (fun _ U o U' => ∃ v L, o = .returned v ∧ Q0 v L n0 ∧ FrameEnd U o U' L room_1.cells room_1.slots) := by
  refine MetFree.of_bodySF (plainFor_of_name pn_0) hisR ?_
  intro p e s m args below meth c s₁ Bd hml0 hP hK
  obtain ⟨rfl, hZ, hh⟩ := hP
  have hx := Bd.exec
  have hby := Bd.bytes
  have hml : c.maxLocals = 9 := hml0
  have hown : s.vm.findClass "com/example/cascade/cascade/session/RowReadIsExtendedPinLaw" = some m.cls := findClass_of_methodNamed Bd.named
  have hnm := (name_of_methodNamed Bd.named Bd.method).1
  have X0 : Stand p l e room_1 s m #[(.int pi1), (.int pi2), (.int pi3)] below meth c s₁ [] 0 0 := Stand.of_body Bd
  have e0 : s₁.heap = h0 := by rw [← hh, Bd.state]; rfl
  have N0 := Fr.nil n0
  have pre0 : ∀ t, Steps p.tables e below (s₁.setTop (mkF m 0 #[.val (.int pi1), .val (.int pi2), .val (.int pi3), .unset, .unset, .unset, .unset, .unset, .unset] [])) t → Steps p.tables e below (s₁.setTop (entryFrame m #[(.int pi1), (.int pi2), (.int pi3)] maxLocals)) t := fun t k => castTop (ef_0 m pi1 pi2 pi3) k
  obtain ⟨T1, h1, X1, e1, E1, A1, D1, -, st1⟩ := newO X0 hx hZ hown (hw _ (List.mem_of_getElem? (i := 0) rfl)) (hw _ (List.mem_of_getElem? (i := 1) rfl)) (hw _ (List.mem_of_getElem? (i := 2) rfl)) e0 (g := (mkF m 25 #[.val (.int pi1), .val (.int pi2), .val (.int pi3), .val (.int (1 : Int32)), .val (.int (0 : Int32)), .unset, .unset, .unset, .unset] [])) rfl (hb hby at_25) (by decide) (by decide)
  obtain ⟨b1, g1⟩ : ∃ z, z = h0.size := ⟨_, rfl⟩
  rw [← g1] at A1 D1 st1
  have F_locks_b1 : Fld Z h1 b1 "com/example/cascade/cascade/session/RowRead" "locks" "Z" (.int (0 : Int32)) := D1 (Or.inr (hw _ (List.mem_of_getElem? (i := 10) rfl))) (ty := .boolean) (by decide)
  have F_timeout_b1 : Fld Z h1 b1 "com/example/cascade/cascade/session/RowRead" "timeout" "I" (.int (0 : Int32)) := D1 (Or.inr (hw _ (List.mem_of_getElem? (i := 12) rfl))) (ty := .int) (by decide)
  have F_lockTimeout_b1 : Fld Z h1 b1 "com/example/cascade/cascade/session/RowRead" "lockTimeout" "I" (.int (0 : Int32)) := D1 (Or.inr (hw _ (List.mem_of_getElem? (i := 14) rfl))) (ty := .int) (by decide)
  have F_extended_b1 : Fld Z h1 b1 "com/example/cascade/cascade/session/RowRead" "extended" "Z" (.int (0 : Int32)) := D1 (Or.inr (hw _ (List.mem_of_getElem? (i := 16) rfl))) (ty := .boolean) (by decide)
  have g_b1 : n0 ≤ b1 := Nat.le_trans Z0 (Nat.le_of_eq g1.symm)
  have z3 := Nat.le_trans Z0 E1.1
  have o4 := O0.ext E1
  obtain ⟨_, _, ⟨T2, L2, k2, n2⟩, -, X2, ⟨Lc2, hQ2, l2, y2, z2⟩, st2⟩ := X1.specialBack hx (y := (⟨"com/example/cascade/cascade/session/RowRead", "<init>", "(ZIIZ)V"⟩ : MethodName)) rfl hown (mvT hZ (hw _ (List.mem_of_getElem? (i := 3) rfl))) (mvT hZ (hw _ (List.mem_of_getElem? (i := 4) rfl))) (mvT hZ (hw _ (List.mem_of_getElem? (i := 5) rfl))) (by decide) (backOf (W := 1) (rm1 l Z a0 hw [] b1 (1 : Int32) pi2 pi3 (0 : Int32) (.int (0 : Int32)) (.int (0 : Int32)) (.int (0 : Int32)) (.int (0 : Int32)) h1 n0 z3 o4 A1 F_locks_b1 g_b1 F_timeout_b1 F_lockTimeout_b1 F_extended_b1) hZ (hw _ (List.mem_of_getElem? (i := 5) rfl)) (hw _ (List.mem_of_getElem? (i := 2) rfl)) (by decide) (by decide)) (g := (mkF m 34 #[.val (.int pi1), .val (.int pi2), .val (.int pi3), .val (.int (1 : Int32)), .val (.int (0 : Int32)), .unset, .unset, .unset, .unset] [(.int (0 : Int32)), (.int pi3), (.int pi2), (.int (1 : Int32)), (.ref b1), (.ref b1)])) rfl (by rw [hml]; rfl) (Steps.refl _) (a := b1) (argsL := [(.int (1 : Int32)), (.int pi2), (.int pi3), (.int (0 : Int32))]) (rest := [(.ref b1)]) (lenOf pd_0 rfl) rfl (by show 2 * 0 + _ ≤ _; exact Nat.le_of_eq rfl) (hb hby at_34) (fun _ _ => ⟨rfl, e1, (by decide : 1 + 0 ≤ _), (by decide : 4 + 0 ≤ _)⟩)
  dsimp only [Pt.U, Pt.locs, Pt.cells, Pt.slots] at X2 l2 y2 z2 st2 hQ2
  subst l2 y2 z2
  obtain ⟨rfl, N2q, K2, qf2_0, qf2_1, qf2_2, qf2_3, qf2_4⟩ := hQ2
  have N2 := Fr.app N0 N2q
  have z6 := Nat.le_trans z3 K2.1
  have o7 := o4.keep K2 (allS g_b1 all0)
  obtain ⟨cq5, kq5, q5a, q5b, q5c⟩ := isOf hZ rfl qf2_0
  obtain ⟨_, _, ⟨T5, L5, k5, n5⟩, -, X5, ⟨Lc5, hQ5, l5, y5, z5⟩, st5⟩ := X2.virtualBack hx (y := (⟨"com/example/cascade/cascade/session/RowRead", "isExtended", "()Z"⟩ : MethodName)) (z := (⟨"com/example/cascade/cascade/session/RowRead", "isExtended", "()Z"⟩ : MethodName)) hown (mvT hZ (hw _ (List.mem_of_getElem? (i := 17) rfl))) (mvT hZ (hw _ (List.mem_of_getElem? (i := 18) rfl))) (notFace_of_selects (args := #[]) (mvT hZ (hw _ (List.mem_of_getElem? (i := 20) rfl)))) (mvT hZ (hw _ (List.mem_of_getElem? (i := 20) rfl))) (mvT hZ (hw _ (List.mem_of_getElem? (i := 19) rfl))) (by decide) (backOf (W := 0) (rm3_ft l Z a0 hw [] b1 (1 : Int32) (0 : Int32) T2.heap n0 z6 o7 qf2_1 qf2_4 (by decide) rfl) hZ (hw _ (List.mem_of_getElem? (i := 21) rfl)) (hw _ (List.mem_of_getElem? (i := 2) rfl)) (by decide) (by decide)) q5a q5c (g := (mkF m 65 #[.val (.int pi1), .val (.int pi2), .val (.int pi3), .val (.int (1 : Int32)), .val (.int (0 : Int32)), .val (.ref b1), .val (.int (0 : Int32)), .unset, .unset] [(.ref b1)])) rfl (by rw [hml]; rfl) (Steps.refl _) (argsL := []) (rest := []) (lenOf pd_2 rfl) rfl (by show 2 * 0 + _ ≤ _; exact Nat.le_of_eq rfl) (hb hby at_65) (fun _ _ => ⟨rfl, rfl, (by decide : 1 + 0 ≤ _), (by decide : 4 + 0 ≤ _)⟩)
  dsimp only [Pt.U, Pt.locs, Pt.cells, Pt.slots] at X5 l5 y5 z5 st5 hQ5
  subst l5 y5 z5
  obtain ⟨rfl, N5q, eq5⟩ := hQ5
  have N5 := Fr.app N2 N5q
  obtain ⟨cq8, kq8, q8a, q8b, q8c⟩ := isOf hZ eq5 qf2_0
  obtain ⟨_, _, ⟨T8, L8, k8, n8⟩, -, X8, ⟨Lc8, hQ8, l8, y8, z8⟩, st8⟩ := X5.virtualBack hx (y := (⟨"com/example/cascade/cascade/session/RowRead", "locks", "()Z"⟩ : MethodName)) (z := (⟨"com/example/cascade/cascade/session/RowRead", "locks", "()Z"⟩ : MethodName)) hown (mvT hZ (hw _ (List.mem_of_getElem? (i := 22) rfl))) (mvT hZ (hw _ (List.mem_of_getElem? (i := 23) rfl))) (notFace_of_selects (args := #[]) (mvT hZ (hw _ (List.mem_of_getElem? (i := 25) rfl)))) (mvT hZ (hw _ (List.mem_of_getElem? (i := 25) rfl))) (mvT hZ (hw _ (List.mem_of_getElem? (i := 24) rfl))) (by decide) (backOf (W := 0) (rm4 l Z a0 hw [] b1 (1 : Int32) T2.heap n0 z6 o7 qf2_1) hZ (hw _ (List.mem_of_getElem? (i := 26) rfl)) (hw _ (List.mem_of_getElem? (i := 2) rfl)) (by decide) (by decide)) q8a q8c (g := (mkF m 72 #[.val (.int pi1), .val (.int pi2), .val (.int pi3), .val (.int (1 : Int32)), .val (.int (0 : Int32)), .val (.ref b1), .val (.int (0 : Int32)), .val (.int (0 : Int32)), .unset] [(.ref b1)])) rfl (by rw [hml]; rfl) (Steps.refl _) (argsL := []) (rest := []) (lenOf pd_2 rfl) rfl (by show 2 * 0 + _ ≤ _; exact Nat.le_of_eq rfl) (hb hby at_72) (fun _ _ => ⟨rfl, eq5, (by decide : 1 + 0 ≤ _), (by decide : 4 + 0 ≤ _)⟩)
  dsimp only [Pt.U, Pt.locs, Pt.cells, Pt.slots] at X8 l8 y8 z8 st8 hQ8
  subst l8 y8 z8
  obtain ⟨rfl, N8q, eq8⟩ := hQ8
  have N8 := Fr.app N5 N8q
  obtain ⟨fs, hr, hrun, hended, hW, hsame⟩ := X8.leave (v := some (.int (1 : Int32))) (fun h => by rw [Bd.returns] at h; cases h)
  refine ⟨_, _, pre0 _ ?_, hrun, hended, _, _, rfl, ?_, ⟨_, rfl⟩, hW, hsame.mono (by decide) (by decide)⟩
  · show Steps p.tables e below (s₁.setTop (mkF m 0 #[.val (.int pi1), .val (.int pi2), .val (.int pi3), .unset, .unset, .unset, .unset, .unset, .unset] [])) _
    refine XS.iloadN X0.here hx rfl (hb hby at_0) rfl ?_
    show Steps p.tables e below (s₁.setTop (mkF m 1 #[.val (.int pi1), .val (.int pi2), .val (.int pi3), .unset, .unset, .unset, .unset, .unset, .unset] [(.int pi1)])) _
    refine XS.iconst X0.here hx rfl (hb hby at_1) ?_
    show Steps p.tables e below (s₁.setTop (mkF m 2 #[.val (.int pi1), .val (.int pi2), .val (.int pi3), .unset, .unset, .unset, .unset, .unset, .unset] [(.int (1 : Int32)), (.int pi1)])) _
    refine XS.iand X0.here hx rfl (hb hby at_2) rfl ?_
    show Steps p.tables e below (s₁.setTop (mkF m 3 #[.val (.int pi1), .val (.int pi2), .val (.int pi3), .unset, .unset, .unset, .unset, .unset, .unset] [(.int (pi1 &&& (1 : Int32)))])) _
    refine XS.ifNo X0.here hx rfl (hb hby at_3) rfl ((if0 _ _).trans (feq hc3_0).1) ?_
    show Steps p.tables e below (s₁.setTop (mkF m 6 #[.val (.int pi1), .val (.int pi2), .val (.int pi3), .unset, .unset, .unset, .unset, .unset, .unset] [])) _
    refine XS.iconst X0.here hx rfl (hb hby at_6) ?_
    show Steps p.tables e below (s₁.setTop (mkF m 7 #[.val (.int pi1), .val (.int pi2), .val (.int pi3), .unset, .unset, .unset, .unset, .unset, .unset] [(.int (1 : Int32))])) _
    refine XS.goto X0.here hx rfl (pc0 := 7) (pc' := 11) rfl (hb hby at_7) (by decide) (by decide) ?_
    show Steps p.tables e below (s₁.setTop (mkF m 11 #[.val (.int pi1), .val (.int pi2), .val (.int pi3), .unset, .unset, .unset, .unset, .unset, .unset] [(.int (1 : Int32))])) _
    refine XS.istoreN X0.here hx rfl (hb hby at_11) rfl (l' := #[.val (.int pi1), .val (.int pi2), .val (.int pi3), .val (.int (1 : Int32)), .unset, .unset, .unset, .unset, .unset]) rfl ?_
    show Steps p.tables e below (s₁.setTop (mkF m 12 #[.val (.int pi1), .val (.int pi2), .val (.int pi3), .val (.int (1 : Int32)), .unset, .unset, .unset, .unset, .unset] [])) _
    refine XS.iloadN X0.here hx rfl (hb hby at_12) rfl ?_
    show Steps p.tables e below (s₁.setTop (mkF m 13 #[.val (.int pi1), .val (.int pi2), .val (.int pi3), .val (.int (1 : Int32)), .unset, .unset, .unset, .unset, .unset] [(.int pi1)])) _
    refine XS.iconst X0.here hx rfl (hb hby at_13) ?_
    show Steps p.tables e below (s₁.setTop (mkF m 14 #[.val (.int pi1), .val (.int pi2), .val (.int pi3), .val (.int (1 : Int32)), .unset, .unset, .unset, .unset, .unset] [(.int (2 : Int32)), (.int pi1)])) _
    refine XS.iand X0.here hx rfl (hb hby at_14) rfl ?_
    show Steps p.tables e below (s₁.setTop (mkF m 15 #[.val (.int pi1), .val (.int pi2), .val (.int pi3), .val (.int (1 : Int32)), .unset, .unset, .unset, .unset, .unset] [(.int (pi1 &&& (2 : Int32)))])) _
    refine XS.ifYes X0.here hx rfl (pc0 := 15) (pc' := 22) rfl (hb hby at_15) rfl ((if0 _ _).trans (teq hc15_1).1) (by decide) (by decide) ?_
    show Steps p.tables e below (s₁.setTop (mkF m 22 #[.val (.int pi1), .val (.int pi2), .val (.int pi3), .val (.int (1 : Int32)), .unset, .unset, .unset, .unset, .unset] [])) _
    refine XS.iconst X0.here hx rfl (hb hby at_22) ?_
    show Steps p.tables e below (s₁.setTop (mkF m 23 #[.val (.int pi1), .val (.int pi2), .val (.int pi3), .val (.int (1 : Int32)), .unset, .unset, .unset, .unset, .unset] [(.int (0 : Int32))])) _
    refine XS.istore X0.here hx rfl (hb hby at_23) rfl (l' := #[.val (.int pi1), .val (.int pi2), .val (.int pi3), .val (.int (1 : Int32)), .val (.int (0 : Int32)), .unset, .unset, .unset, .unset]) rfl ?_
    show Steps p.tables e below (s₁.setTop (mkF m 25 #[.val (.int pi1), .val (.int pi2), .val (.int pi3), .val (.int (1 : Int32)), .val (.int (0 : Int32)), .unset, .unset, .unset, .unset] [])) _
    refine st1 _ ?_
    show Steps p.tables e below (T1.setTop (mkF m 28 #[.val (.int pi1), .val (.int pi2), .val (.int pi3), .val (.int (1 : Int32)), .val (.int (0 : Int32)), .unset, .unset, .unset, .unset] [(.ref b1)])) _
    refine XS.dup X1.here hx rfl (hb hby at_28) rfl rfl ?_
    show Steps p.tables e below (T1.setTop (mkF m 29 #[.val (.int pi1), .val (.int pi2), .val (.int pi3), .val (.int (1 : Int32)), .val (.int (0 : Int32)), .unset, .unset, .unset, .unset] [(.ref b1), (.ref b1)])) _
    refine XS.iloadN X1.here hx rfl (hb hby at_29) rfl ?_
    show Steps p.tables e below (T1.setTop (mkF m 30 #[.val (.int pi1), .val (.int pi2), .val (.int pi3), .val (.int (1 : Int32)), .val (.int (0 : Int32)), .unset, .unset, .unset, .unset] [(.int (1 : Int32)), (.ref b1), (.ref b1)])) _
    refine XS.iloadN X1.here hx rfl (hb hby at_30) rfl ?_
    show Steps p.tables e below (T1.setTop (mkF m 31 #[.val (.int pi1), .val (.int pi2), .val (.int pi3), .val (.int (1 : Int32)), .val (.int (0 : Int32)), .unset, .unset, .unset, .unset] [(.int pi2), (.int (1 : Int32)), (.ref b1), (.ref b1)])) _
    refine XS.iloadN X1.here hx rfl (hb hby at_31) rfl ?_
    show Steps p.tables e below (T1.setTop (mkF m 32 #[.val (.int pi1), .val (.int pi2), .val (.int pi3), .val (.int (1 : Int32)), .val (.int (0 : Int32)), .unset, .unset, .unset, .unset] [(.int pi3), (.int pi2), (.int (1 : Int32)), (.ref b1), (.ref b1)])) _
    refine XS.iload X1.here hx rfl (hb hby at_32) rfl ?_
    show Steps p.tables e below (T1.setTop (mkF m 34 #[.val (.int pi1), .val (.int pi2), .val (.int pi3), .val (.int (1 : Int32)), .val (.int (0 : Int32)), .unset, .unset, .unset, .unset] [(.int (0 : Int32)), (.int pi3), (.int pi2), (.int (1 : Int32)), (.ref b1), (.ref b1)])) _
    refine st2.trans ?_
    show Steps p.tables e below (T2.setTop (mkF m 37 #[.val (.int pi1), .val (.int pi2), .val (.int pi3), .val (.int (1 : Int32)), .val (.int (0 : Int32)), .unset, .unset, .unset, .unset] [(.ref b1)])) _
    refine XS.astore X2.here hx rfl (hb hby at_37) rfl rfl (l' := #[.val (.int pi1), .val (.int pi2), .val (.int pi3), .val (.int (1 : Int32)), .val (.int (0 : Int32)), .val (.ref b1), .unset, .unset, .unset]) rfl ?_
    show Steps p.tables e below (T2.setTop (mkF m 39 #[.val (.int pi1), .val (.int pi2), .val (.int pi3), .val (.int (1 : Int32)), .val (.int (0 : Int32)), .val (.ref b1), .unset, .unset, .unset] [])) _
    refine XS.iloadN X2.here hx rfl (hb hby at_39) rfl ?_
    show Steps p.tables e below (T2.setTop (mkF m 40 #[.val (.int pi1), .val (.int pi2), .val (.int pi3), .val (.int (1 : Int32)), .val (.int (0 : Int32)), .val (.ref b1), .unset, .unset, .unset] [(.int (1 : Int32))])) _
    refine XS.ifNo X2.here hx rfl (hb hby at_40) rfl ((if0 _ _).trans (feq (by decide : ¬ ((1 : Int32) = (0 : Int32)))).1) ?_
    show Steps p.tables e below (T2.setTop (mkF m 43 #[.val (.int pi1), .val (.int pi2), .val (.int pi3), .val (.int (1 : Int32)), .val (.int (0 : Int32)), .val (.ref b1), .unset, .unset, .unset] [])) _
    refine XS.iload X2.here hx rfl (hb hby at_43) rfl ?_
    show Steps p.tables e below (T2.setTop (mkF m 45 #[.val (.int pi1), .val (.int pi2), .val (.int pi3), .val (.int (1 : Int32)), .val (.int (0 : Int32)), .val (.ref b1), .unset, .unset, .unset] [(.int (0 : Int32))])) _
    refine XS.ifYes X2.here hx rfl (pc0 := 45) (pc' := 54) rfl (hb hby at_45) rfl ((if0 _ _).trans (teq (rfl : (0 : Int32) = (0 : Int32))).1) (by decide) (by decide) ?_
    show Steps p.tables e below (T2.setTop (mkF m 54 #[.val (.int pi1), .val (.int pi2), .val (.int pi3), .val (.int (1 : Int32)), .val (.int (0 : Int32)), .val (.ref b1), .unset, .unset, .unset] [])) _
    refine XS.iconst X2.here hx rfl (hb hby at_54) ?_
    show Steps p.tables e below (T2.setTop (mkF m 55 #[.val (.int pi1), .val (.int pi2), .val (.int pi3), .val (.int (1 : Int32)), .val (.int (0 : Int32)), .val (.ref b1), .unset, .unset, .unset] [(.int (0 : Int32))])) _
    refine XS.istore X2.here hx rfl (hb hby at_55) rfl (l' := #[.val (.int pi1), .val (.int pi2), .val (.int pi3), .val (.int (1 : Int32)), .val (.int (0 : Int32)), .val (.ref b1), .val (.int (0 : Int32)), .unset, .unset]) rfl ?_
    show Steps p.tables e below (T2.setTop (mkF m 57 #[.val (.int pi1), .val (.int pi2), .val (.int pi3), .val (.int (1 : Int32)), .val (.int (0 : Int32)), .val (.ref b1), .val (.int (0 : Int32)), .unset, .unset] [])) _
    refine XS.goto X2.here hx rfl (pc0 := 57) (pc' := 63) rfl (hb hby at_57) (by decide) (by decide) ?_
    show Steps p.tables e below (T2.setTop (mkF m 63 #[.val (.int pi1), .val (.int pi2), .val (.int pi3), .val (.int (1 : Int32)), .val (.int (0 : Int32)), .val (.ref b1), .val (.int (0 : Int32)), .unset, .unset] [])) _
    refine XS.aload X2.here hx rfl (hb hby at_63) rfl rfl ?_
    show Steps p.tables e below (T2.setTop (mkF m 65 #[.val (.int pi1), .val (.int pi2), .val (.int pi3), .val (.int (1 : Int32)), .val (.int (0 : Int32)), .val (.ref b1), .val (.int (0 : Int32)), .unset, .unset] [(.ref b1)])) _
    refine st5.trans ?_
    show Steps p.tables e below (T5.setTop (mkF m 68 #[.val (.int pi1), .val (.int pi2), .val (.int pi3), .val (.int (1 : Int32)), .val (.int (0 : Int32)), .val (.ref b1), .val (.int (0 : Int32)), .unset, .unset] [(.int (0 : Int32))])) _
    refine XS.istore X5.here hx rfl (hb hby at_68) rfl (l' := #[.val (.int pi1), .val (.int pi2), .val (.int pi3), .val (.int (1 : Int32)), .val (.int (0 : Int32)), .val (.ref b1), .val (.int (0 : Int32)), .val (.int (0 : Int32)), .unset]) rfl ?_
    show Steps p.tables e below (T5.setTop (mkF m 70 #[.val (.int pi1), .val (.int pi2), .val (.int pi3), .val (.int (1 : Int32)), .val (.int (0 : Int32)), .val (.ref b1), .val (.int (0 : Int32)), .val (.int (0 : Int32)), .unset] [])) _
    refine XS.aload X5.here hx rfl (hb hby at_70) rfl rfl ?_
    show Steps p.tables e below (T5.setTop (mkF m 72 #[.val (.int pi1), .val (.int pi2), .val (.int pi3), .val (.int (1 : Int32)), .val (.int (0 : Int32)), .val (.ref b1), .val (.int (0 : Int32)), .val (.int (0 : Int32)), .unset] [(.ref b1)])) _
    refine st8.trans ?_
    show Steps p.tables e below (T8.setTop (mkF m 75 #[.val (.int pi1), .val (.int pi2), .val (.int pi3), .val (.int (1 : Int32)), .val (.int (0 : Int32)), .val (.ref b1), .val (.int (0 : Int32)), .val (.int (0 : Int32)), .unset] [(.int (1 : Int32))])) _
    refine XS.istore X8.here hx rfl (hb hby at_75) rfl (l' := #[.val (.int pi1), .val (.int pi2), .val (.int pi3), .val (.int (1 : Int32)), .val (.int (0 : Int32)), .val (.ref b1), .val (.int (0 : Int32)), .val (.int (0 : Int32)), .val (.int (1 : Int32))]) rfl ?_
    show Steps p.tables e below (T8.setTop (mkF m 77 #[.val (.int pi1), .val (.int pi2), .val (.int pi3), .val (.int (1 : Int32)), .val (.int (0 : Int32)), .val (.ref b1), .val (.int (0 : Int32)), .val (.int (0 : Int32)), .val (.int (1 : Int32))] [])) _
    refine XS.iload X8.here hx rfl (hb hby at_77) rfl ?_
    show Steps p.tables e below (T8.setTop (mkF m 79 #[.val (.int pi1), .val (.int pi2), .val (.int pi3), .val (.int (1 : Int32)), .val (.int (0 : Int32)), .val (.ref b1), .val (.int (0 : Int32)), .val (.int (0 : Int32)), .val (.int (1 : Int32))] [(.int (0 : Int32))])) _
    refine XS.iload X8.here hx rfl (hb hby at_79) rfl ?_
    show Steps p.tables e below (T8.setTop (mkF m 81 #[.val (.int pi1), .val (.int pi2), .val (.int pi3), .val (.int (1 : Int32)), .val (.int (0 : Int32)), .val (.ref b1), .val (.int (0 : Int32)), .val (.int (0 : Int32)), .val (.int (1 : Int32))] [(.int (0 : Int32)), (.int (0 : Int32))])) _
    refine XS.icmpNo X8.here hx rfl (hb hby at_81) rfl (teq (rfl : (0 : Int32) = (0 : Int32))).2 ?_
    show Steps p.tables e below (T8.setTop (mkF m 84 #[.val (.int pi1), .val (.int pi2), .val (.int pi3), .val (.int (1 : Int32)), .val (.int (0 : Int32)), .val (.ref b1), .val (.int (0 : Int32)), .val (.int (0 : Int32)), .val (.int (1 : Int32))] [])) _
    refine XS.iload X8.here hx rfl (hb hby at_84) rfl ?_
    show Steps p.tables e below (T8.setTop (mkF m 86 #[.val (.int pi1), .val (.int pi2), .val (.int pi3), .val (.int (1 : Int32)), .val (.int (0 : Int32)), .val (.ref b1), .val (.int (0 : Int32)), .val (.int (0 : Int32)), .val (.int (1 : Int32))] [(.int (0 : Int32))])) _
    refine XS.ifYes X8.here hx rfl (pc0 := 86) (pc' := 94) rfl (hb hby at_86) rfl ((if0 _ _).trans (teq (rfl : (0 : Int32) = (0 : Int32))).1) (by decide) (by decide) ?_
    show Steps p.tables e below (T8.setTop (mkF m 94 #[.val (.int pi1), .val (.int pi2), .val (.int pi3), .val (.int (1 : Int32)), .val (.int (0 : Int32)), .val (.ref b1), .val (.int (0 : Int32)), .val (.int (0 : Int32)), .val (.int (1 : Int32))] [])) _
    refine XS.iconst X8.here hx rfl (hb hby at_94) ?_
    show Steps p.tables e below (T8.setTop (mkF m 95 #[.val (.int pi1), .val (.int pi2), .val (.int pi3), .val (.int (1 : Int32)), .val (.int (0 : Int32)), .val (.ref b1), .val (.int (0 : Int32)), .val (.int (0 : Int32)), .val (.int (1 : Int32))] [(.int (1 : Int32))])) _
    refine XS.goto X8.here hx rfl (pc0 := 95) (pc' := 99) rfl (hb hby at_95) (by decide) (by decide) ?_
    show Steps p.tables e below (T8.setTop (mkF m 99 #[.val (.int pi1), .val (.int pi2), .val (.int pi3), .val (.int (1 : Int32)), .val (.int (0 : Int32)), .val (.ref b1), .val (.int (0 : Int32)), .val (.int (0 : Int32)), .val (.int (1 : Int32))] [(.int (1 : Int32))])) _
    exact retN X8 hx (t := .boolean) Bd.returns (by simp) (hb hby at_99) hr
  · exact ⟨rfl, N8⟩
set_option maxRecDepth 65536 in
set_option maxHeartbeats 40000000 in
theorem rm0_ff (l : Launch) (Z : State) (a0 : Array Value) (hw : ∀ d ∈ tables_1, d.before a0 Z = true) (ws : List Jvm.Cond) (pi1 : Int32) (pi2 : Int32) (pi3 : Int32) (h0 : Heap) (n0 : Nat) (Z0 : n0 ≤ h0.size) (O0 : Old Z n0 h0) (hc3_0 : ¬ ((pi1 &&& (1 : Int32)) = (0 : Int32))) (hc15_1 : ¬ ((pi1 &&& (2 : Int32)) = (0 : Int32))) :
    MetFree l x (head1 (Jvm.Cond.code x code maxLocals ret :: ws) room_1) (fun a U => a = #[(.int pi1), (.int pi2), (.int pi3)] ∧ Z.Warmed39 U.vm ∧ U.heap = h0) (fun _ _ _ _ _ => True) (fun _ U o U' => ∃ v L, o = .returned v ∧ Q0 v L n0 ∧ FrameEnd U o U' L room_1.cells room_1.slots) := by
  refine MetFree.of_bodySF (plainFor_of_name pn_0) hisR ?_
  intro p e s m args below meth c s₁ Bd hml0 hP hK
  obtain ⟨rfl, hZ, hh⟩ := hP
  have hx := Bd.exec
  have hby := Bd.bytes
  have hml : c.maxLocals = 9 := hml0
  have hown : s.vm.findClass "com/example/cascade/cascade/session/RowReadIsExtendedPinLaw" = some m.cls := findClass_of_methodNamed Bd.named
  have hnm := (name_of_methodNamed Bd.named Bd.method).1
  have X0 : Stand p l e room_1 s m #[(.int pi1), (.int pi2), (.int pi3)] below meth c s₁ [] 0 0 := Stand.of_body Bd
  have e0 : s₁.heap = h0 := by rw [← hh, Bd.state]; rfl
  have N0 := Fr.nil n0
  have pre0 : ∀ t, Steps p.tables e below (s₁.setTop (mkF m 0 #[.val (.int pi1), .val (.int pi2), .val (.int pi3), .unset, .unset, .unset, .unset, .unset, .unset] [])) t → Steps p.tables e below (s₁.setTop (entryFrame m #[(.int pi1), (.int pi2), (.int pi3)] maxLocals)) t := fun t k => castTop (ef_0 m pi1 pi2 pi3) k
  obtain ⟨T1, h1, X1, e1, E1, A1, D1, -, st1⟩ := newO X0 hx hZ hown (hw _ (List.mem_of_getElem? (i := 0) rfl)) (hw _ (List.mem_of_getElem? (i := 1) rfl)) (hw _ (List.mem_of_getElem? (i := 2) rfl)) e0 (g := (mkF m 25 #[.val (.int pi1), .val (.int pi2), .val (.int pi3), .val (.int (1 : Int32)), .val (.int (1 : Int32)), .unset, .unset, .unset, .unset] [])) rfl (hb hby at_25) (by decide) (by decide)
  obtain ⟨b1, g1⟩ : ∃ z, z = h0.size := ⟨_, rfl⟩
  rw [← g1] at A1 D1 st1
  have F_locks_b1 : Fld Z h1 b1 "com/example/cascade/cascade/session/RowRead" "locks" "Z" (.int (0 : Int32)) := D1 (Or.inr (hw _ (List.mem_of_getElem? (i := 10) rfl))) (ty := .boolean) (by decide)
  have F_timeout_b1 : Fld Z h1 b1 "com/example/cascade/cascade/session/RowRead" "timeout" "I" (.int (0 : Int32)) := D1 (Or.inr (hw _ (List.mem_of_getElem? (i := 12) rfl))) (ty := .int) (by decide)
  have F_lockTimeout_b1 : Fld Z h1 b1 "com/example/cascade/cascade/session/RowRead" "lockTimeout" "I" (.int (0 : Int32)) := D1 (Or.inr (hw _ (List.mem_of_getElem? (i := 14) rfl))) (ty := .int) (by decide)
  have F_extended_b1 : Fld Z h1 b1 "com/example/cascade/cascade/session/RowRead" "extended" "Z" (.int (0 : Int32)) := D1 (Or.inr (hw _ (List.mem_of_getElem? (i := 16) rfl))) (ty := .boolean) (by decide)
  have g_b1 : n0 ≤ b1 := Nat.le_trans Z0 (Nat.le_of_eq g1.symm)
  have z3 := Nat.le_trans Z0 E1.1
  have o4 := O0.ext E1
  obtain ⟨_, _, ⟨T2, L2, k2, n2⟩, -, X2, ⟨Lc2, hQ2, l2, y2, z2⟩, st2⟩ := X1.specialBack hx (y := (⟨"com/example/cascade/cascade/session/RowRead", "<init>", "(ZIIZ)V"⟩ : MethodName)) rfl hown (mvT hZ (hw _ (List.mem_of_getElem? (i := 3) rfl))) (mvT hZ (hw _ (List.mem_of_getElem? (i := 4) rfl))) (mvT hZ (hw _ (List.mem_of_getElem? (i := 5) rfl))) (by decide) (backOf (W := 1) (rm1 l Z a0 hw [] b1 (1 : Int32) pi2 pi3 (1 : Int32) (.int (0 : Int32)) (.int (0 : Int32)) (.int (0 : Int32)) (.int (0 : Int32)) h1 n0 z3 o4 A1 F_locks_b1 g_b1 F_timeout_b1 F_lockTimeout_b1 F_extended_b1) hZ (hw _ (List.mem_of_getElem? (i := 5) rfl)) (hw _ (List.mem_of_getElem? (i := 2) rfl)) (by decide) (by decide)) (g := (mkF m 34 #[.val (.int pi1), .val (.int pi2), .val (.int pi3), .val (.int (1 : Int32)), .val (.int (1 : Int32)), .unset, .unset, .unset, .unset] [(.int (1 : Int32)), (.int pi3), (.int pi2), (.int (1 : Int32)), (.ref b1), (.ref b1)])) rfl (by rw [hml]; rfl) (Steps.refl _) (a := b1) (argsL := [(.int (1 : Int32)), (.int pi2), (.int pi3), (.int (1 : Int32))]) (rest := [(.ref b1)]) (lenOf pd_0 rfl) rfl (by show 2 * 0 + _ ≤ _; exact Nat.le_of_eq rfl) (hb hby at_34) (fun _ _ => ⟨rfl, e1, (by decide : 1 + 0 ≤ _), (by decide : 4 + 0 ≤ _)⟩)
  dsimp only [Pt.U, Pt.locs, Pt.cells, Pt.slots] at X2 l2 y2 z2 st2 hQ2
  subst l2 y2 z2
  obtain ⟨rfl, N2q, K2, qf2_0, qf2_1, qf2_2, qf2_3, qf2_4⟩ := hQ2
  have N2 := Fr.app N0 N2q
  have z6 := Nat.le_trans z3 K2.1
  have o7 := o4.keep K2 (allS g_b1 all0)
  obtain ⟨cq5, kq5, q5a, q5b, q5c⟩ := isOf hZ rfl qf2_0
  obtain ⟨_, _, ⟨T5, L5, k5, n5⟩, -, X5, ⟨Lc5, hQ5, l5, y5, z5⟩, st5⟩ := X2.virtualBack hx (y := (⟨"com/example/cascade/cascade/session/RowRead", "isExtended", "()Z"⟩ : MethodName)) (z := (⟨"com/example/cascade/cascade/session/RowRead", "isExtended", "()Z"⟩ : MethodName)) hown (mvT hZ (hw _ (List.mem_of_getElem? (i := 17) rfl))) (mvT hZ (hw _ (List.mem_of_getElem? (i := 18) rfl))) (notFace_of_selects (args := #[]) (mvT hZ (hw _ (List.mem_of_getElem? (i := 20) rfl)))) (mvT hZ (hw _ (List.mem_of_getElem? (i := 20) rfl))) (mvT hZ (hw _ (List.mem_of_getElem? (i := 19) rfl))) (by decide) (backOf (W := 0) (rm3_ff l Z a0 hw [] b1 (1 : Int32) (1 : Int32) T2.heap n0 z6 o7 qf2_1 qf2_4 (by decide) (by decide)) hZ (hw _ (List.mem_of_getElem? (i := 21) rfl)) (hw _ (List.mem_of_getElem? (i := 2) rfl)) (by decide) (by decide)) q5a q5c (g := (mkF m 65 #[.val (.int pi1), .val (.int pi2), .val (.int pi3), .val (.int (1 : Int32)), .val (.int (1 : Int32)), .val (.ref b1), .val (.int (1 : Int32)), .unset, .unset] [(.ref b1)])) rfl (by rw [hml]; rfl) (Steps.refl _) (argsL := []) (rest := []) (lenOf pd_2 rfl) rfl (by show 2 * 0 + _ ≤ _; exact Nat.le_of_eq rfl) (hb hby at_65) (fun _ _ => ⟨rfl, rfl, (by decide : 1 + 0 ≤ _), (by decide : 4 + 0 ≤ _)⟩)
  dsimp only [Pt.U, Pt.locs, Pt.cells, Pt.slots] at X5 l5 y5 z5 st5 hQ5
  subst l5 y5 z5
  obtain ⟨rfl, N5q, eq5⟩ := hQ5
  have N5 := Fr.app N2 N5q
  obtain ⟨cq8, kq8, q8a, q8b, q8c⟩ := isOf hZ eq5 qf2_0
  obtain ⟨_, _, ⟨T8, L8, k8, n8⟩, -, X8, ⟨Lc8, hQ8, l8, y8, z8⟩, st8⟩ := X5.virtualBack hx (y := (⟨"com/example/cascade/cascade/session/RowRead", "locks", "()Z"⟩ : MethodName)) (z := (⟨"com/example/cascade/cascade/session/RowRead", "locks", "()Z"⟩ : MethodName)) hown (mvT hZ (hw _ (List.mem_of_getElem? (i := 22) rfl))) (mvT hZ (hw _ (List.mem_of_getElem? (i := 23) rfl))) (notFace_of_selects (args := #[]) (mvT hZ (hw _ (List.mem_of_getElem? (i := 25) rfl)))) (mvT hZ (hw _ (List.mem_of_getElem? (i := 25) rfl))) (mvT hZ (hw _ (List.mem_of_getElem? (i := 24) rfl))) (by decide) (backOf (W := 0) (rm4 l Z a0 hw [] b1 (1 : Int32) T2.heap n0 z6 o7 qf2_1) hZ (hw _ (List.mem_of_getElem? (i := 26) rfl)) (hw _ (List.mem_of_getElem? (i := 2) rfl)) (by decide) (by decide)) q8a q8c (g := (mkF m 72 #[.val (.int pi1), .val (.int pi2), .val (.int pi3), .val (.int (1 : Int32)), .val (.int (1 : Int32)), .val (.ref b1), .val (.int (1 : Int32)), .val (.int (1 : Int32)), .unset] [(.ref b1)])) rfl (by rw [hml]; rfl) (Steps.refl _) (argsL := []) (rest := []) (lenOf pd_2 rfl) rfl (by show 2 * 0 + _ ≤ _; exact Nat.le_of_eq rfl) (hb hby at_72) (fun _ _ => ⟨rfl, eq5, (by decide : 1 + 0 ≤ _), (by decide : 4 + 0 ≤ _)⟩)
  dsimp only [Pt.U, Pt.locs, Pt.cells, Pt.slots] at X8 l8 y8 z8 st8 hQ8
  subst l8 y8 z8
  obtain ⟨rfl, N8q, eq8⟩ := hQ8
  have N8 := Fr.app N5 N8q
  obtain ⟨fs, hr, hrun, hended, hW, hsame⟩ := X8.leave (v := some (.int (1 : Int32))) (fun h => by rw [Bd.returns] at h; cases h)
  refine ⟨_, _, pre0 _ ?_, hrun, hended, _, _, rfl, ?_, ⟨_, rfl⟩, hW, hsame.mono (by decide) (by decide)⟩
  · show Steps p.tables e below (s₁.setTop (mkF m 0 #[.val (.int pi1), .val (.int pi2), .val (.int pi3), .unset, .unset, .unset, .unset, .unset, .unset] [])) _
    refine XS.iloadN X0.here hx rfl (hb hby at_0) rfl ?_
    show Steps p.tables e below (s₁.setTop (mkF m 1 #[.val (.int pi1), .val (.int pi2), .val (.int pi3), .unset, .unset, .unset, .unset, .unset, .unset] [(.int pi1)])) _
    refine XS.iconst X0.here hx rfl (hb hby at_1) ?_
    show Steps p.tables e below (s₁.setTop (mkF m 2 #[.val (.int pi1), .val (.int pi2), .val (.int pi3), .unset, .unset, .unset, .unset, .unset, .unset] [(.int (1 : Int32)), (.int pi1)])) _
    refine XS.iand X0.here hx rfl (hb hby at_2) rfl ?_
    show Steps p.tables e below (s₁.setTop (mkF m 3 #[.val (.int pi1), .val (.int pi2), .val (.int pi3), .unset, .unset, .unset, .unset, .unset, .unset] [(.int (pi1 &&& (1 : Int32)))])) _
    refine XS.ifNo X0.here hx rfl (hb hby at_3) rfl ((if0 _ _).trans (feq hc3_0).1) ?_
    show Steps p.tables e below (s₁.setTop (mkF m 6 #[.val (.int pi1), .val (.int pi2), .val (.int pi3), .unset, .unset, .unset, .unset, .unset, .unset] [])) _
    refine XS.iconst X0.here hx rfl (hb hby at_6) ?_
    show Steps p.tables e below (s₁.setTop (mkF m 7 #[.val (.int pi1), .val (.int pi2), .val (.int pi3), .unset, .unset, .unset, .unset, .unset, .unset] [(.int (1 : Int32))])) _
    refine XS.goto X0.here hx rfl (pc0 := 7) (pc' := 11) rfl (hb hby at_7) (by decide) (by decide) ?_
    show Steps p.tables e below (s₁.setTop (mkF m 11 #[.val (.int pi1), .val (.int pi2), .val (.int pi3), .unset, .unset, .unset, .unset, .unset, .unset] [(.int (1 : Int32))])) _
    refine XS.istoreN X0.here hx rfl (hb hby at_11) rfl (l' := #[.val (.int pi1), .val (.int pi2), .val (.int pi3), .val (.int (1 : Int32)), .unset, .unset, .unset, .unset, .unset]) rfl ?_
    show Steps p.tables e below (s₁.setTop (mkF m 12 #[.val (.int pi1), .val (.int pi2), .val (.int pi3), .val (.int (1 : Int32)), .unset, .unset, .unset, .unset, .unset] [])) _
    refine XS.iloadN X0.here hx rfl (hb hby at_12) rfl ?_
    show Steps p.tables e below (s₁.setTop (mkF m 13 #[.val (.int pi1), .val (.int pi2), .val (.int pi3), .val (.int (1 : Int32)), .unset, .unset, .unset, .unset, .unset] [(.int pi1)])) _
    refine XS.iconst X0.here hx rfl (hb hby at_13) ?_
    show Steps p.tables e below (s₁.setTop (mkF m 14 #[.val (.int pi1), .val (.int pi2), .val (.int pi3), .val (.int (1 : Int32)), .unset, .unset, .unset, .unset, .unset] [(.int (2 : Int32)), (.int pi1)])) _
    refine XS.iand X0.here hx rfl (hb hby at_14) rfl ?_
    show Steps p.tables e below (s₁.setTop (mkF m 15 #[.val (.int pi1), .val (.int pi2), .val (.int pi3), .val (.int (1 : Int32)), .unset, .unset, .unset, .unset, .unset] [(.int (pi1 &&& (2 : Int32)))])) _
    refine XS.ifNo X0.here hx rfl (hb hby at_15) rfl ((if0 _ _).trans (feq hc15_1).1) ?_
    show Steps p.tables e below (s₁.setTop (mkF m 18 #[.val (.int pi1), .val (.int pi2), .val (.int pi3), .val (.int (1 : Int32)), .unset, .unset, .unset, .unset, .unset] [])) _
    refine XS.iconst X0.here hx rfl (hb hby at_18) ?_
    show Steps p.tables e below (s₁.setTop (mkF m 19 #[.val (.int pi1), .val (.int pi2), .val (.int pi3), .val (.int (1 : Int32)), .unset, .unset, .unset, .unset, .unset] [(.int (1 : Int32))])) _
    refine XS.goto X0.here hx rfl (pc0 := 19) (pc' := 23) rfl (hb hby at_19) (by decide) (by decide) ?_
    show Steps p.tables e below (s₁.setTop (mkF m 23 #[.val (.int pi1), .val (.int pi2), .val (.int pi3), .val (.int (1 : Int32)), .unset, .unset, .unset, .unset, .unset] [(.int (1 : Int32))])) _
    refine XS.istore X0.here hx rfl (hb hby at_23) rfl (l' := #[.val (.int pi1), .val (.int pi2), .val (.int pi3), .val (.int (1 : Int32)), .val (.int (1 : Int32)), .unset, .unset, .unset, .unset]) rfl ?_
    show Steps p.tables e below (s₁.setTop (mkF m 25 #[.val (.int pi1), .val (.int pi2), .val (.int pi3), .val (.int (1 : Int32)), .val (.int (1 : Int32)), .unset, .unset, .unset, .unset] [])) _
    refine st1 _ ?_
    show Steps p.tables e below (T1.setTop (mkF m 28 #[.val (.int pi1), .val (.int pi2), .val (.int pi3), .val (.int (1 : Int32)), .val (.int (1 : Int32)), .unset, .unset, .unset, .unset] [(.ref b1)])) _
    refine XS.dup X1.here hx rfl (hb hby at_28) rfl rfl ?_
    show Steps p.tables e below (T1.setTop (mkF m 29 #[.val (.int pi1), .val (.int pi2), .val (.int pi3), .val (.int (1 : Int32)), .val (.int (1 : Int32)), .unset, .unset, .unset, .unset] [(.ref b1), (.ref b1)])) _
    refine XS.iloadN X1.here hx rfl (hb hby at_29) rfl ?_
    show Steps p.tables e below (T1.setTop (mkF m 30 #[.val (.int pi1), .val (.int pi2), .val (.int pi3), .val (.int (1 : Int32)), .val (.int (1 : Int32)), .unset, .unset, .unset, .unset] [(.int (1 : Int32)), (.ref b1), (.ref b1)])) _
    refine XS.iloadN X1.here hx rfl (hb hby at_30) rfl ?_
    show Steps p.tables e below (T1.setTop (mkF m 31 #[.val (.int pi1), .val (.int pi2), .val (.int pi3), .val (.int (1 : Int32)), .val (.int (1 : Int32)), .unset, .unset, .unset, .unset] [(.int pi2), (.int (1 : Int32)), (.ref b1), (.ref b1)])) _
    refine XS.iloadN X1.here hx rfl (hb hby at_31) rfl ?_
    show Steps p.tables e below (T1.setTop (mkF m 32 #[.val (.int pi1), .val (.int pi2), .val (.int pi3), .val (.int (1 : Int32)), .val (.int (1 : Int32)), .unset, .unset, .unset, .unset] [(.int pi3), (.int pi2), (.int (1 : Int32)), (.ref b1), (.ref b1)])) _
    refine XS.iload X1.here hx rfl (hb hby at_32) rfl ?_
    show Steps p.tables e below (T1.setTop (mkF m 34 #[.val (.int pi1), .val (.int pi2), .val (.int pi3), .val (.int (1 : Int32)), .val (.int (1 : Int32)), .unset, .unset, .unset, .unset] [(.int (1 : Int32)), (.int pi3), (.int pi2), (.int (1 : Int32)), (.ref b1), (.ref b1)])) _
    refine st2.trans ?_
    show Steps p.tables e below (T2.setTop (mkF m 37 #[.val (.int pi1), .val (.int pi2), .val (.int pi3), .val (.int (1 : Int32)), .val (.int (1 : Int32)), .unset, .unset, .unset, .unset] [(.ref b1)])) _
    refine XS.astore X2.here hx rfl (hb hby at_37) rfl rfl (l' := #[.val (.int pi1), .val (.int pi2), .val (.int pi3), .val (.int (1 : Int32)), .val (.int (1 : Int32)), .val (.ref b1), .unset, .unset, .unset]) rfl ?_
    show Steps p.tables e below (T2.setTop (mkF m 39 #[.val (.int pi1), .val (.int pi2), .val (.int pi3), .val (.int (1 : Int32)), .val (.int (1 : Int32)), .val (.ref b1), .unset, .unset, .unset] [])) _
    refine XS.iloadN X2.here hx rfl (hb hby at_39) rfl ?_
    show Steps p.tables e below (T2.setTop (mkF m 40 #[.val (.int pi1), .val (.int pi2), .val (.int pi3), .val (.int (1 : Int32)), .val (.int (1 : Int32)), .val (.ref b1), .unset, .unset, .unset] [(.int (1 : Int32))])) _
    refine XS.ifNo X2.here hx rfl (hb hby at_40) rfl ((if0 _ _).trans (feq (by decide : ¬ ((1 : Int32) = (0 : Int32)))).1) ?_
    show Steps p.tables e below (T2.setTop (mkF m 43 #[.val (.int pi1), .val (.int pi2), .val (.int pi3), .val (.int (1 : Int32)), .val (.int (1 : Int32)), .val (.ref b1), .unset, .unset, .unset] [])) _
    refine XS.iload X2.here hx rfl (hb hby at_43) rfl ?_
    show Steps p.tables e below (T2.setTop (mkF m 45 #[.val (.int pi1), .val (.int pi2), .val (.int pi3), .val (.int (1 : Int32)), .val (.int (1 : Int32)), .val (.ref b1), .unset, .unset, .unset] [(.int (1 : Int32))])) _
    refine XS.ifNo X2.here hx rfl (hb hby at_45) rfl ((if0 _ _).trans (feq (by decide : ¬ ((1 : Int32) = (0 : Int32)))).1) ?_
    show Steps p.tables e below (T2.setTop (mkF m 48 #[.val (.int pi1), .val (.int pi2), .val (.int pi3), .val (.int (1 : Int32)), .val (.int (1 : Int32)), .val (.ref b1), .unset, .unset, .unset] [])) _
    refine XS.iconst X2.here hx rfl (hb hby at_48) ?_
    show Steps p.tables e below (T2.setTop (mkF m 49 #[.val (.int pi1), .val (.int pi2), .val (.int pi3), .val (.int (1 : Int32)), .val (.int (1 : Int32)), .val (.ref b1), .unset, .unset, .unset] [(.int (1 : Int32))])) _
    refine XS.istore X2.here hx rfl (hb hby at_49) rfl (l' := #[.val (.int pi1), .val (.int pi2), .val (.int pi3), .val (.int (1 : Int32)), .val (.int (1 : Int32)), .val (.ref b1), .val (.int (1 : Int32)), .unset, .unset]) rfl ?_
    show Steps p.tables e below (T2.setTop (mkF m 51 #[.val (.int pi1), .val (.int pi2), .val (.int pi3), .val (.int (1 : Int32)), .val (.int (1 : Int32)), .val (.ref b1), .val (.int (1 : Int32)), .unset, .unset] [])) _
    refine XS.goto X2.here hx rfl (pc0 := 51) (pc' := 63) rfl (hb hby at_51) (by decide) (by decide) ?_
    show Steps p.tables e below (T2.setTop (mkF m 63 #[.val (.int pi1), .val (.int pi2), .val (.int pi3), .val (.int (1 : Int32)), .val (.int (1 : Int32)), .val (.ref b1), .val (.int (1 : Int32)), .unset, .unset] [])) _
    refine XS.aload X2.here hx rfl (hb hby at_63) rfl rfl ?_
    show Steps p.tables e below (T2.setTop (mkF m 65 #[.val (.int pi1), .val (.int pi2), .val (.int pi3), .val (.int (1 : Int32)), .val (.int (1 : Int32)), .val (.ref b1), .val (.int (1 : Int32)), .unset, .unset] [(.ref b1)])) _
    refine st5.trans ?_
    show Steps p.tables e below (T5.setTop (mkF m 68 #[.val (.int pi1), .val (.int pi2), .val (.int pi3), .val (.int (1 : Int32)), .val (.int (1 : Int32)), .val (.ref b1), .val (.int (1 : Int32)), .unset, .unset] [(.int (1 : Int32))])) _
    refine XS.istore X5.here hx rfl (hb hby at_68) rfl (l' := #[.val (.int pi1), .val (.int pi2), .val (.int pi3), .val (.int (1 : Int32)), .val (.int (1 : Int32)), .val (.ref b1), .val (.int (1 : Int32)), .val (.int (1 : Int32)), .unset]) rfl ?_
    show Steps p.tables e below (T5.setTop (mkF m 70 #[.val (.int pi1), .val (.int pi2), .val (.int pi3), .val (.int (1 : Int32)), .val (.int (1 : Int32)), .val (.ref b1), .val (.int (1 : Int32)), .val (.int (1 : Int32)), .unset] [])) _
    refine XS.aload X5.here hx rfl (hb hby at_70) rfl rfl ?_
    show Steps p.tables e below (T5.setTop (mkF m 72 #[.val (.int pi1), .val (.int pi2), .val (.int pi3), .val (.int (1 : Int32)), .val (.int (1 : Int32)), .val (.ref b1), .val (.int (1 : Int32)), .val (.int (1 : Int32)), .unset] [(.ref b1)])) _
    refine st8.trans ?_
    show Steps p.tables e below (T8.setTop (mkF m 75 #[.val (.int pi1), .val (.int pi2), .val (.int pi3), .val (.int (1 : Int32)), .val (.int (1 : Int32)), .val (.ref b1), .val (.int (1 : Int32)), .val (.int (1 : Int32)), .unset] [(.int (1 : Int32))])) _
    refine XS.istore X8.here hx rfl (hb hby at_75) rfl (l' := #[.val (.int pi1), .val (.int pi2), .val (.int pi3), .val (.int (1 : Int32)), .val (.int (1 : Int32)), .val (.ref b1), .val (.int (1 : Int32)), .val (.int (1 : Int32)), .val (.int (1 : Int32))]) rfl ?_
    show Steps p.tables e below (T8.setTop (mkF m 77 #[.val (.int pi1), .val (.int pi2), .val (.int pi3), .val (.int (1 : Int32)), .val (.int (1 : Int32)), .val (.ref b1), .val (.int (1 : Int32)), .val (.int (1 : Int32)), .val (.int (1 : Int32))] [])) _
    refine XS.iload X8.here hx rfl (hb hby at_77) rfl ?_
    show Steps p.tables e below (T8.setTop (mkF m 79 #[.val (.int pi1), .val (.int pi2), .val (.int pi3), .val (.int (1 : Int32)), .val (.int (1 : Int32)), .val (.ref b1), .val (.int (1 : Int32)), .val (.int (1 : Int32)), .val (.int (1 : Int32))] [(.int (1 : Int32))])) _
    refine XS.iload X8.here hx rfl (hb hby at_79) rfl ?_
    show Steps p.tables e below (T8.setTop (mkF m 81 #[.val (.int pi1), .val (.int pi2), .val (.int pi3), .val (.int (1 : Int32)), .val (.int (1 : Int32)), .val (.ref b1), .val (.int (1 : Int32)), .val (.int (1 : Int32)), .val (.int (1 : Int32))] [(.int (1 : Int32)), (.int (1 : Int32))])) _
    refine XS.icmpNo X8.here hx rfl (hb hby at_81) rfl (teq (rfl : (1 : Int32) = (1 : Int32))).2 ?_
    show Steps p.tables e below (T8.setTop (mkF m 84 #[.val (.int pi1), .val (.int pi2), .val (.int pi3), .val (.int (1 : Int32)), .val (.int (1 : Int32)), .val (.ref b1), .val (.int (1 : Int32)), .val (.int (1 : Int32)), .val (.int (1 : Int32))] [])) _
    refine XS.iload X8.here hx rfl (hb hby at_84) rfl ?_
    show Steps p.tables e below (T8.setTop (mkF m 86 #[.val (.int pi1), .val (.int pi2), .val (.int pi3), .val (.int (1 : Int32)), .val (.int (1 : Int32)), .val (.ref b1), .val (.int (1 : Int32)), .val (.int (1 : Int32)), .val (.int (1 : Int32))] [(.int (1 : Int32))])) _
    refine XS.ifNo X8.here hx rfl (hb hby at_86) rfl ((if0 _ _).trans (feq (by decide : ¬ ((1 : Int32) = (0 : Int32)))).1) ?_
    show Steps p.tables e below (T8.setTop (mkF m 89 #[.val (.int pi1), .val (.int pi2), .val (.int pi3), .val (.int (1 : Int32)), .val (.int (1 : Int32)), .val (.ref b1), .val (.int (1 : Int32)), .val (.int (1 : Int32)), .val (.int (1 : Int32))] [])) _
    refine XS.iload X8.here hx rfl (hb hby at_89) rfl ?_
    show Steps p.tables e below (T8.setTop (mkF m 91 #[.val (.int pi1), .val (.int pi2), .val (.int pi3), .val (.int (1 : Int32)), .val (.int (1 : Int32)), .val (.ref b1), .val (.int (1 : Int32)), .val (.int (1 : Int32)), .val (.int (1 : Int32))] [(.int (1 : Int32))])) _
    refine XS.ifNo X8.here hx rfl (hb hby at_91) rfl ((if0 _ _).trans (feq (by decide : ¬ ((1 : Int32) = (0 : Int32)))).1) ?_
    show Steps p.tables e below (T8.setTop (mkF m 94 #[.val (.int pi1), .val (.int pi2), .val (.int pi3), .val (.int (1 : Int32)), .val (.int (1 : Int32)), .val (.ref b1), .val (.int (1 : Int32)), .val (.int (1 : Int32)), .val (.int (1 : Int32))] [])) _
    refine XS.iconst X8.here hx rfl (hb hby at_94) ?_
    show Steps p.tables e below (T8.setTop (mkF m 95 #[.val (.int pi1), .val (.int pi2), .val (.int pi3), .val (.int (1 : Int32)), .val (.int (1 : Int32)), .val (.ref b1), .val (.int (1 : Int32)), .val (.int (1 : Int32)), .val (.int (1 : Int32))] [(.int (1 : Int32))])) _
    refine XS.goto X8.here hx rfl (pc0 := 95) (pc' := 99) rfl (hb hby at_95) (by decide) (by decide) ?_
    show Steps p.tables e below (T8.setTop (mkF m 99 #[.val (.int pi1), .val (.int pi2), .val (.int pi3), .val (.int (1 : Int32)), .val (.int (1 : Int32)), .val (.ref b1), .val (.int (1 : Int32)), .val (.int (1 : Int32)), .val (.int (1 : Int32))] [(.int (1 : Int32))])) _
    exact retN X8 hx (t := .boolean) Bd.returns (by simp) (hb hby at_99) hr
  · exact ⟨rfl, N8⟩
set_option maxRecDepth 65536 in
set_option maxHeartbeats 40000000 in
theorem rm0 (l : Launch) (Z : State) (a0 : Array Value) (hw : ∀ d ∈ tables_1, d.before a0 Z = true) (ws : List Jvm.Cond) (pi1 : Int32) (pi2 : Int32) (pi3 : Int32) (h0 : Heap) (n0 : Nat) (Z0 : n0 ≤ h0.size) (O0 : Old Z n0 h0) :
    MetFree l x (head1 (Jvm.Cond.code x code maxLocals ret :: ws) room_1) (fun a U => a = #[(.int pi1), (.int pi2), (.int pi3)] ∧ Z.Warmed39 U.vm ∧ U.heap = h0) (fun _ _ _ _ _ => True) (fun _ U o U' => ∃ v L, o = .returned v ∧ Q0 v L n0 ∧ FrameEnd U o U' L room_1.cells room_1.slots) := by
  by_cases H1 : (pi1 &&& (1 : Int32)) = (0 : Int32)
  · by_cases H2 : (pi1 &&& (2 : Int32)) = (0 : Int32)
    · exact rm0_tt l Z a0 hw ws pi1 pi2 pi3 h0 n0 Z0 O0  H1 H2
    · exact rm0_tf l Z a0 hw ws pi1 pi2 pi3 h0 n0 Z0 O0  H1 H2
  · by_cases H3 : (pi1 &&& (2 : Int32)) = (0 : Int32)
    · exact rm0_ft l Z a0 hw ws pi1 pi2 pi3 h0 n0 Z0 O0  H1 H3
    · exact rm0_ff l Z a0 hw ws pi1 pi2 pi3 h0 n0 Z0 O0  H1 H3
set_option maxRecDepth 65536 in
set_option maxHeartbeats 40000000 in
theorem comes_1 {Post : Tables → Env → Array Value → State → Outcome → State → Prop} (hpost : ∀ tb e args s v u, (limb_1_1.after args s (.returned v) u = true ∧ limb_1_2.after args s (.returned v) u = true ∧ True) → FrameEnd s (.returned v) u (Jvm.fieldLocs frame_1_writes args s ++ Jvm.arrayLocs frame_1_arrays args s ++ Jvm.staticLocs frame_1_statics s) 16 128 → Post tb e args s (.returned v) u) :
    ArmFor flags0 classFile x code maxLocals ret World_1 tables_1 room_1 Calls_1 rest_1 Pre_1 Post := by
  intro l hfl _ _ p e ha hc hk s m args below hf hA hF happ hP
  obtain ⟨hcalls, hrest, hpre⟩ := hP
  obtain ⟨-, -, -, hnamed, -, -, -, hat⟩ := (Spec.applies_iff hf).mp happ
  obtain ⟨hg, hn⟩ := and_e (Cond.before_iff.mp (show (Jvm.Cond.and given_1 narrow_1).before args s = true from hpre))
  obtain ⟨g1, g2⟩ := and_e hg
  obtain ⟨g3, g4⟩ := and_e g2
  obtain ⟨g5, g6⟩ := and_e g4
  obtain ⟨w0, w1, w2, rfl⟩ : ∃ w0 w1 w2 : Value, args = #[w0, w1, w2] := by
    have hs : args.size = 3 := by simpa [Cond.value, given_1] using g1
    obtain ⟨L⟩ := args
    match L, hs with
    | [w0, w1, w2], _ => exact ⟨w0, w1, w2, rfl⟩
  have hw := fun d (hd : d ∈ tables_1) => atoms_spec (ws := Jvm.Cond.code x code maxLocals ret :: tables_1) hat d (List.mem_cons_of_mem _ hd)
  have hfit : Fit s := fun {y c} hc i hi => by
    obtain ⟨ha, rfl⟩ := Array.getElem?_eq_some_iff.mp hc
    have q := List.all_eq_true.mp ((Array.all_eq_true_iff_forall_mem.mp hF) _ (Array.getElem_mem ha)) i (List.mem_range.mpr hi)
    simpa [Array.getElem?_eq_getElem hi] using q
  obtain ⟨i0, ei0⟩ := is_v g3
  obtain rfl : w0 = (.int i0) := Option.some.inj ei0
  obtain ⟨i1, ei1⟩ := is_v g5
  obtain rfl : w1 = (.int i1) := Option.some.inj ei1
  obtain ⟨i2, ei2⟩ := is_v g6
  obtain rfl : w2 = (.int i2) := Option.some.inj ei2
  obtain ⟨n, o, h1, h2, h3, _, L, rfl, ⟨rfl, N⟩, hq⟩ := rm0 l s _ hw tables_1 i0 i1 i2  s.heap s.heap.size (Nat.le_refl _) (Old.start s)  p e ha hc hk s m _ below hf ((Spec.applies_iff_loose hf).mp happ).1 ⟨rfl, State.Warmed39.refl s, rfl⟩ trivial
  refine ⟨n, _, h1, h2, h3, hpost _ _ _ _ _ _ ⟨Cond.after_iff.mpr rfl, Cond.after_iff.mpr (eq_i res_at (Term.int_eval (1)) rfl), trivial⟩ ⟨hq.1, hq.2.1, (hq.2.2.sift fun y hy => Or.inr (N y hy)).mono (by decide) (by decide)⟩⟩
theorem main_1_1 : Claimed_1_1 := comes_1 fun _ _ _ _ _ _ h hF => ⟨h.1, hF⟩
theorem main_1_2 : Claimed_1_2 := comes_1 fun _ _ _ _ _ _ h hF => ⟨h.2.1, hF⟩
end Jvm.Pilot.@@N@@
namespace Jvm.Pilot.@@N@@
open Jvm Jvm.ClassFile Sem Op Lib Jvm.Free Jvm.Stand Jvm.Pilot.@@N@@.Jvm.D
/-! MADE BY PROGRAM (witnessworld.py) out of the Statement's table words and the real class files: 7 classes; the members and pool entries that the words name. The judged class is class 1, her method 1. -/
namespace start1
open Jvm.ClassFile
def u (s : String) : CpInfo := .utf8 (stringToUtf16 s)
/-- a pool by its gaps: so many unusable entries, then the entry; so many at the end -/
def gap : Nat → List CpInfo → List CpInfo
  | 0, r => r
  | n + 1, r => .unusable :: gap n r
def poolList (es : List (Nat × CpInfo)) (last : Nat) : List CpInfo := es.foldr (fun e r => gap e.1 (e.2 :: r)) (gap last [])
def pool (es : List (Nat × CpInfo)) (last : Nat) : Array CpInfo := ⟨poolList es last⟩
def fileOf (pool : Array CpInfo) (this : Nat) (attrs : Array Attribute := #[]) (ms : Array MethodInfo := #[]) (fl : Nat := 33) (sup : Nat := 0) (ifs : Array Nat := #[]) (fds : Array FieldInfo := #[]) : ClassFile where
  minorVersion := 0
  majorVersion := 65
  constantPool := pool
  accessFlags := fl
  thisClass := this
  superClass := sup
  interfaces := ifs
  fields := fds
  methods := ms
  attributes := attrs
def plain (name : String) (sup : Option ClassId) : Class where
  name := name
  kind := .ordinary
  loader := none
  accessFlags := 33
  super := sup
  interfaces := #[]
  cf := none
  fields := #[]
  methods := #[]
  instanceTypes := #[]
  staticTypes := #[]
  resolved := #[]
  callSites := []
  init := .initialized
  statics := none
  mirror := none

def pool0 : Array CpInfo := pool [(5, u "<init>"), (0, u "()V"), (1, .class_ 10), (1, u "java/lang/Object")] 113

def k0c0 : Code := { maxStack := 0, maxLocals := 1, code := object_method_1_code, exceptionTable := #[], attributes := #[] }
def k0m0 : Method := { name := "<init>", desc := "()V", sig := { parameters := [], returnType := none }, accessFlags := 1, code := some k0c0 }
/-- java/lang/Object -/
def k0 : Class := { plain "java/lang/Object" none with
  accessFlags := 33
  interfaces := #[]
  cf := some (fileOf pool0 8 #[] #[{ accessFlags := 1, nameIndex := 5, descriptorIndex := 6, attributes := #[] }] 33 0 #[] #[])
  fields := #[]
  methods := #[k0m0]
  instanceTypes := #[]
  staticTypes := #[]
  resolved := Array.replicate 124 none
  statics := none }

def pool1 : Array CpInfo := pool [(2, .class_ 4), (1, u "java/lang/Object"), (0, u "<init>"), (0, u "()V"), (0, .class_ 8), (0, u "com/example/cascade/cascade/session/RowRead"), (0, .methodref 7 10), (0, .nameAndType 5 11), (0, u "(ZIIZ)V"), (0, .methodref 7 13), (0, .nameAndType 14 15), (0, u "isExtended"), (0, u "()Z"), (0, .methodref 7 17), (0, .nameAndType 18 15), (0, u "locks"), (0, .class_ 20), (0, u "com/example/cascade/cascade/session/RowReadIsExtendedPinLaw"), (2, u "law"), (0, u "(III)Z")] 3

def k1m0 : Method := { name := "<init>", desc := "()V", sig := { parameters := [], returnType := none }, accessFlags := 2, code := none }
def k1c1 : Code := { maxStack := 6, maxLocals := 9, code := code, exceptionTable := #[], attributes := #[] }
def k1m1 : Method := { name := "law", desc := "(III)Z", sig := { parameters := [.int, .int, .int], returnType := some .boolean }, accessFlags := 9, code := some k1c1 }
/-- com/example/cascade/cascade/session/RowReadIsExtendedPinLaw -/
def k1 : Class := { plain "com/example/cascade/cascade/session/RowReadIsExtendedPinLaw" (some 0) with
  accessFlags := 49
  interfaces := #[]
  cf := some (fileOf pool1 19 #[] #[{ accessFlags := 2, nameIndex := 5, descriptorIndex := 6, attributes := #[] }, { accessFlags := 9, nameIndex := 23, descriptorIndex := 24, attributes := #[] }] 49 2 #[] #[])
  fields := #[]
  methods := #[k1m0, k1m1]
  instanceTypes := #[]
  staticTypes := #[]
  resolved := Array.replicate 28 none
  statics := none }

def pool2 : Array CpInfo := pool [(1, .methodref 2 3), (0, .class_ 4), (0, .nameAndType 5 6), (0, u "java/lang/Object"), (0, u "<init>"), (0, u "()V"), (0, .fieldref 8 9), (0, .class_ 10), (0, .nameAndType 11 12), (0, u "com/example/cascade/cascade/session/RowRead"), (0, u "locks"), (0, u "Z"), (0, .fieldref 8 14), (0, .nameAndType 15 16), (0, u "timeout"), (0, u "I"), (0, .fieldref 8 18), (0, .nameAndType 19 16), (0, u "lockTimeout"), (0, .fieldref 8 21), (0, .nameAndType 22 12), (0, u "extended"), (4, u "(ZIIZ)V"), (2, u "PLAIN"), (0, u "Lcom/example/cascade/cascade/session/RowRead;"), (9, u "()Z"), (1, u "isExtended")] 3

def k2c0 : Code := { maxStack := 2, maxLocals := 5, code := prog_43_method_1_code, exceptionTable := #[], attributes := #[] }
def k2m0 : Method := { name := "<init>", desc := "(ZIIZ)V", sig := { parameters := [.boolean, .int, .int, .boolean], returnType := none }, accessFlags := 0, code := some k2c0 }
def k2c1 : Code := { maxStack := 1, maxLocals := 1, code := prog_43_method_4_code, exceptionTable := #[], attributes := #[] }
def k2m1 : Method := { name := "locks", desc := "()Z", sig := { parameters := [], returnType := some .boolean }, accessFlags := 0, code := some k2c1 }
def k2c2 : Code := { maxStack := 1, maxLocals := 1, code := prog_43_method_7_code, exceptionTable := #[], attributes := #[] }
def k2m2 : Method := { name := "isExtended", desc := "()Z", sig := { parameters := [], returnType := some .boolean }, accessFlags := 0, code := some k2c2 }
/-- com/example/cascade/cascade/session/RowRead -/
def k2 : Class := { plain "com/example/cascade/cascade/session/RowRead" (some 0) with
  accessFlags := 48
  interfaces := #[]
  cf := some (fileOf pool2 8 #[] #[{ accessFlags := 0, nameIndex := 5, descriptorIndex := 27, attributes := #[] }, { accessFlags := 0, nameIndex := 11, descriptorIndex := 41, attributes := #[] }, { accessFlags := 0, nameIndex := 43, descriptorIndex := 41, attributes := #[] }] 48 2 #[] #[{ accessFlags := 24, nameIndex := 30, descriptorIndex := 31, attributes := #[] }, { accessFlags := 18, nameIndex := 11, descriptorIndex := 12, attributes := #[] }, { accessFlags := 18, nameIndex := 15, descriptorIndex := 16, attributes := #[] }, { accessFlags := 18, nameIndex := 19, descriptorIndex := 16, attributes := #[] }, { accessFlags := 18, nameIndex := 22, descriptorIndex := 12, attributes := #[] }])
  fields := #[{ name := "PLAIN", type := (.object "com/example/cascade/cascade/session/RowRead"), accessFlags := 24, slot := 0, constantValue := 0 }, { name := "locks", type := .boolean, accessFlags := 18, slot := 0, constantValue := 0 }, { name := "timeout", type := .int, accessFlags := 18, slot := 1, constantValue := 0 }, { name := "lockTimeout", type := .int, accessFlags := 18, slot := 2, constantValue := 0 }, { name := "extended", type := .boolean, accessFlags := 18, slot := 3, constantValue := 0 }]
  methods := #[k2m0, k2m1, k2m2]
  instanceTypes := #[.boolean, .int, .int, .boolean]
  staticTypes := #[(.object "com/example/cascade/cascade/session/RowRead")]
  resolved := Array.replicate 47 none
  statics := none }

def pool3 : Array CpInfo := pool [(1, u "java/lang/Cloneable"), (0, .class_ 1), (0, u "java/lang/Object"), (0, .class_ 3)] 3

/-- java/lang/Cloneable -/
def k3 : Class := { plain "java/lang/Cloneable" (some 0) with
  accessFlags := 1537
  interfaces := #[]
  cf := some (fileOf pool3 2 #[] #[] 1537 4 #[] #[])
  fields := #[]
  methods := #[]
  instanceTypes := #[]
  staticTypes := #[]
  resolved := Array.replicate 8 none
  statics := none }

def pool4 : Array CpInfo := pool [(1, u "java/io/Serializable"), (0, .class_ 1), (0, u "java/lang/Object"), (0, .class_ 3)] 3

/-- java/io/Serializable -/
def k4 : Class := { plain "java/io/Serializable" (some 0) with
  accessFlags := 1537
  interfaces := #[]
  cf := some (fileOf pool4 2 #[] #[] 1537 4 #[] #[])
  fields := #[]
  methods := #[]
  instanceTypes := #[]
  staticTypes := #[]
  resolved := Array.replicate 8 none
  statics := none }

/-- the primitive byte -/
def k5 : Class := { plain "byte" none with kind := .primitive 'B', accessFlags := 0x411 }
/-- [B -/
def k6 : Class := { plain "[B" (some 0) with kind := .array 5 .byte, interfaces := #[3, 4], accessFlags := 1041 }

def heap : Heap := #[]
def classes : Array Class := #[k0, k1, k2, k3, k4, k5, k6]
def interned : List (Array UInt16 × Addr) := []
def slotsUsed : Nat := 0
def theMethod : MethodId := ⟨1, 1⟩
def args0 : Array Value := #[.int 1, .int 2, .int 3]
def aboutOver (below : List Frame) : State where
  vm := { classes := classes, interned := interned.toArray }
  heap := heap
  slotsUsed := slotsUsed
  threads := #[{ frames := .invoking theMethod args0 :: below }]
def below0 : List Frame := [.native { method := ⟨0, 0⟩, args := #[] }]
def about1 : State := aboutOver below0
def p0 : Program := .bare "" "" ""
def e0 : Env := launch0.env 0 0 0
theorem w_frames : about1.frames = Frame.invoking theMethod args0 :: below0 := rfl
set_option maxRecDepth 65536 in
theorem w_args : argsFit about1.vm theMethod args0 = true := by decide +kernel
set_option maxRecDepth 65536 in
theorem w_heap : heapFits about1 = true := by decide +kernel
set_option maxRecDepth 65536 in
theorem w_runnable : about1.curStatus? = some .runnable := by decide +kernel
set_option maxRecDepth 65536 in
theorem w_alone : about1.alone = true := by decide +kernel
set_option maxRecDepth 65536 in
theorem w_named : about1.methodNamed? x = some theMethod := by decide +kernel
set_option maxRecDepth 65536 in
theorem w_hears : about1.hears theMethod below0 = true := by decide +kernel
set_option maxRecDepth 65536 in
theorem w_ripe : about1.ripe theMethod args0 below0 = true := by decide +kernel
theorem w_running : about1.status = .running := rfl
set_option maxRecDepth 65536 in
theorem w_room : about1.hasRoom e0.platform room_1 = true :=
  launch0.hasRoom_least _ room_1 (by decide +kernel) (by decide +kernel) (by decide +kernel) (by decide +kernel) (by decide +kernel) (by decide +kernel)
theorem allAtoms_all (ts : List Jvm.Cond) (a : Array Jvm.Value) (st : Jvm.State) : (allAtoms ts).before a st = ts.all (fun c => c.before a st) := by
  induction ts with
  | nil => rfl
  | cons c t ih =>
    show (Jvm.Cond.and c (allAtoms t)).before a st = _
    rw [Jvm.Cond.before_and, ih, List.all_cons]
def words1 : List Jvm.Cond := Jvm.Cond.code x code maxLocals ret :: tables_1
/-- a 'code' word, met by the world's own term for the bytes: nothing is compared byte by byte -/
theorem code_word {y : MethodName} {bytes : ByteArray} {mx : Nat} {rt : Option FieldType} {a : Array Value} {s : State} {m : MethodId} {meth : Method} {c : Code} (h1 : s.methodNamed? y = some m) (h2 : s.vm.method? m = some meth) (h3 : meth.code = some c) (h4 : c.code = bytes)
    (h5 : (c.maxLocals == mx && c.exceptionTable.isEmpty && decide (c.maxStack ≤ mostOperands) && decide (meth.sig.returnType = rt) && !meth.locks && decide (parseMethodDescriptor y.desc = some meth.sig)) = true) : (Jvm.Cond.code y bytes mx rt).before a s = true := by
  simp only [Bool.and_eq_true, beq_iff_eq, Bool.not_eq_true', decide_eq_true_eq] at h5
  obtain ⟨⟨⟨⟨⟨g1, g2⟩, g3⟩, g4⟩, g5⟩, g6⟩ := h5
  simp [Cond.before, Cond.holds, Cond.value, h1, h2, h3, h4, g1, g2, g3, g4, g5, g6]
def isCode : Jvm.Cond → Bool
  | .code _ _ _ _ => true
  | _ => false
theorem all_split {L : List Jvm.Cond} {P : Jvm.Cond → Bool} (h1 : L.all (fun c => isCode c || P c) = true) (h2 : ∀ c ∈ L.filter isCode, P c = true) : L.all P = true := by
  refine List.all_eq_true.mpr fun c hc => ?_
  have h := List.all_eq_true.mp h1 c hc
  rcases Bool.eq_false_or_eq_true (isCode c) with hi | hi
  · exact h2 c (List.mem_filter.mpr ⟨hc, hi⟩)
  · simpa [hi] using h
set_option maxRecDepth 65536 in
theorem w_c0 : (Jvm.Cond.code x code maxLocals ret).before args0 about1 = true := code_word (m := ⟨1, 1⟩) (meth := k1m1) (c := k1c1) (by decide +kernel) rfl rfl rfl (by decide +kernel)
set_option maxRecDepth 65536 in
theorem w_c1 : (Jvm.Cond.code ({ cls := "com/example/cascade/cascade/session/RowRead", name := "<init>", desc := "(ZIIZ)V" } : Jvm.MethodName) prog_43_method_1_code (5 : Nat) (Option.none : Option Jvm.ClassFile.FieldType)).before args0 about1 = true := code_word (m := ⟨2, 0⟩) (meth := k2m0) (c := k2c0) (by decide +kernel) rfl rfl rfl (by decide +kernel)
set_option maxRecDepth 65536 in
theorem w_c2 : (Jvm.Cond.code ({ cls := "java/lang/Object", name := "<init>", desc := "()V" } : Jvm.MethodName) object_method_1_code (1 : Nat) (Option.none : Option Jvm.ClassFile.FieldType)).before args0 about1 = true := code_word (m := ⟨0, 0⟩) (meth := k0m0) (c := k0c0) (by decide +kernel) rfl rfl rfl (by decide +kernel)
set_option maxRecDepth 65536 in
theorem w_c3 : (Jvm.Cond.code ({ cls := "com/example/cascade/cascade/session/RowRead", name := "isExtended", desc := "()Z" } : Jvm.MethodName) prog_43_method_7_code (1 : Nat) (Option.some Jvm.ClassFile.FieldType.boolean)).before args0 about1 = true := code_word (m := ⟨2, 2⟩) (meth := k2m2) (c := k2c2) (by decide +kernel) rfl rfl rfl (by decide +kernel)
set_option maxRecDepth 65536 in
theorem w_c4 : (Jvm.Cond.code ({ cls := "com/example/cascade/cascade/session/RowRead", name := "locks", desc := "()Z" } : Jvm.MethodName) prog_43_method_4_code (1 : Nat) (Option.some Jvm.ClassFile.FieldType.boolean)).before args0 about1 = true := code_word (m := ⟨2, 1⟩) (meth := k2m1) (c := k2c1) (by decide +kernel) rfl rfl rfl (by decide +kernel)
def codes1 : List Jvm.Cond := [Jvm.Cond.code x code maxLocals ret, Jvm.Cond.code ({ cls := "com/example/cascade/cascade/session/RowRead", name := "<init>", desc := "(ZIIZ)V" } : Jvm.MethodName) prog_43_method_1_code (5 : Nat) (Option.none : Option Jvm.ClassFile.FieldType), Jvm.Cond.code ({ cls := "java/lang/Object", name := "<init>", desc := "()V" } : Jvm.MethodName) object_method_1_code (1 : Nat) (Option.none : Option Jvm.ClassFile.FieldType), Jvm.Cond.code ({ cls := "com/example/cascade/cascade/session/RowRead", name := "isExtended", desc := "()Z" } : Jvm.MethodName) prog_43_method_7_code (1 : Nat) (Option.some Jvm.ClassFile.FieldType.boolean), Jvm.Cond.code ({ cls := "com/example/cascade/cascade/session/RowRead", name := "locks", desc := "()Z" } : Jvm.MethodName) prog_43_method_4_code (1 : Nat) (Option.some Jvm.ClassFile.FieldType.boolean)]
set_option maxRecDepth 65536 in
theorem codes_eq : words1.filter isCode = codes1 := rfl
theorem w_codes : ∀ c ∈ words1.filter isCode, c.before args0 about1 = true := by
  rw [codes_eq]
  intro c hc
  simp only [codes1, List.mem_cons, List.not_mem_nil, or_false] at hc
  rcases hc with rfl | rfl | rfl | rfl | rfl
  · exact w_c0
  · exact w_c1
  · exact w_c2
  · exact w_c3
  · exact w_c4
set_option maxRecDepth 65536 in
theorem w_t1 : (words1.take 24).all (fun c => isCode c || c.before args0 about1) = true := by decide +kernel
set_option maxRecDepth 65536 in
theorem w_t2 : (words1.drop 24).all (fun c => isCode c || c.before args0 about1) = true := by decide +kernel
theorem w_tables : (allAtoms (Jvm.Cond.code x code maxLocals ret :: tables_1)).before args0 about1 = true := by
  rw [allAtoms_all]
  show words1.all (fun c => c.before args0 about1) = true
  refine all_split ?_ w_codes
  rw [← List.take_append_drop 24 words1, List.all_append, w_t1, w_t2]
  rfl
set_option maxRecDepth 65536 in
theorem w_case : (Jvm.Cond.and given_1 narrow_1).before args0 about1 = true := by decide +kernel
theorem w_applies : (headSpec (Jvm.Cond.code x code maxLocals ret :: tables_1) room_1).applies x e0.platform about1 = true :=
  (Spec.applies_iff w_frames).mpr ⟨w_running, w_runnable, w_alone, w_named, w_hears, w_ripe, w_room, w_tables⟩
theorem atStart : AtStart classFile x code maxLocals ret World_1 tables_1 room_1 Calls_1 rest_1 Pre_1 launch0 p0 e0 about1 theMethod args0 below0 :=
  ⟨lists_1, trivial, launch0.admits_env _ _ _, launch0.least_env, fairChoices_fair.cas, fairChoices_fair.clock, w_frames, w_args, w_heap, w_applies, trivial, trivial, w_case⟩
end start1
theorem witness_1 : WitnessClaimed_1 := ⟨start1.p0, start1.e0, start1.about1, start1.theMethod, start1.args0, start1.below0, start1.atStart⟩
end Jvm.Pilot.@@N@@
