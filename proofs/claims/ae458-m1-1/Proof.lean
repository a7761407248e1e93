import JvmDerived
import JvmDerived.Pilot.@@N@@Statement
import JvmDerived.Pilot.@@N@@Code
set_option linter.unusedVariables false
set_option linter.unusedSimpArgs false
namespace Jvm.RoadKit
open Sem ClassFile Op Lib Jvm.Stand Jvm.Free Jvm.LawKit
section New
variable {p : Program} {l : Launch} {e : Env} {R : Room} {s : State} {m : MethodId} {args : Array Value} {below : List Frame} {meth : Method} {c : Code} {T : State} {locs : List Loc} {cells slots : Nat}
theorem retI (X : Stand p l e R s m args below meth c T locs cells slots) (hx : p.tables.exec = Jvm.exec) {pc : Nat} {Ls : Array Slot} {z : Int32} {rest : List Value} (hret : meth.sig.returnType = some .int) (hd : decode c.code pc = .ok (.ireturn, 1)) {fs : List Frame}
    (hl : ∀ (f : JFrame) (acts : List Action), f.method = m → f.locked = none → f.entered = [] → (doReturn e (T.setTop f) acts (some (.int z))).1 = T.setFrames fs) : Steps p.tables e below (T.setTop (mkF m pc Ls (.int z :: rest))) (T.setFrames fs) := by
  have hm' : T.vm.method? m = some meth := X.method'
  have hn : narrow .int (.int z) = .int z := rfl
  show Steps p.tables e below (T.setTop { method := m, pc := pc, locals := Ls, stack := _ :: rest, locked := none }) _
  jvm_step X.here [X.here.top, hx, hd, hm', hret, hn]
  first | (intro acts; rw [hl _ acts rfl rfl rfl]) | rw [hl _ _ rfl rfl rfl]
  exact Steps.refl _
theorem own_dia {c : Prop} [Decidable c] {tb : Tables} {S tgt : State} {F : Int32 → State} {A B : Int32} (hy : c → ∀ t, Steps tb e below (F A) t → Steps tb e below S t) (hn : ¬ c → ∀ t, Steps tb e below (F B) t → Steps tb e below S t) (k : Steps tb e below (F (if c then A else B)) tgt) : Steps tb e below S tgt := by
  by_cases q : c
  · rw [if_pos q] at k; exact hy q _ k
  · rw [if_neg q] at k; exact hn q _ k
end New
end Jvm.RoadKit
namespace Jvm.Pilot.@@N@@
open Jvm Jvm.ClassFile Sem Op Lib Jvm.Free Jvm.Stand Jvm.LawKit Jvm.RoadKit Bundle Jvm.Pilot.@@N@@.Jvm.D
theorem own_bit (x : Int32) (i : Nat) (k : Int32) (hk : k.toBitVec = BitVec.twoPow 32 i) : x &&& k = 0 ∨ x &&& k = k := by
  have h := BitVec.and_twoPow x.toBitVec i
  rw [← hk] at h
  by_cases q : x.toBitVec.getLsbD i = true
  · right; apply Int32.toBitVec_inj.mp; show x.toBitVec &&& k.toBitVec = _; rw [h, if_pos q]
  · left; apply Int32.toBitVec_inj.mp; show x.toBitVec &&& k.toBitVec = _; rw [h, if_neg q]; rfl
theorem own_b1 {x : Int32} (h : ¬ x &&& 1 = 0) : x &&& 1 = 1 := (own_bit x 0 1 rfl).resolve_left h
theorem own_b2 {x : Int32} (h : ¬ x &&& 2 = 0) : x &&& 2 = 2 := (own_bit x 1 2 rfl).resolve_left h
theorem own_b4 {x : Int32} (h : ¬ x &&& 4 = 0) : x &&& 4 = 4 := (own_bit x 2 4 rfl).resolve_left h
theorem own_sp (p : Int32) : p &&& 7 = ((p &&& 7) &&& 1) ||| ((p &&& 7) &&& 2) ||| ((p &&& 7) &&& 4) := by
  apply Int32.toBitVec_inj.mp
  show p.toBitVec &&& 7#32 = ((p.toBitVec &&& 7#32) &&& 1#32) ||| ((p.toBitVec &&& 7#32) &&& 2#32) ||| ((p.toBitVec &&& 7#32) &&& 4#32)
  rw [← BitVec.and_or_distrib_left, ← BitVec.and_or_distrib_left, BitVec.and_assoc]; rfl
theorem own_idx {p a b c k : Int32} (h0 : (p &&& 7) &&& 1 = a) (h1 : (p &&& 7) &&& 2 = b) (h2 : (p &&& 7) &&& 4 = c) (e : a ||| b ||| c = k) : p &&& 7 = k := by
  rw [own_sp, h0, h1, h2, e]
theorem d1_0 : decode prog_52_method_5_code 0 = .ok (.iload_n 2, 1) := by decide +kernel
theorem d1_1 : decode prog_52_method_5_code 1 = .ok (.ifCond .eq 7, 3) := by decide +kernel
theorem d1_4 : decode prog_52_method_5_code 4 = .ok (.getstatic 13, 3) := by decide +kernel
theorem d1_7 : decode prog_52_method_5_code 7 = .ok (.areturn, 1) := by decide +kernel
theorem pn_1 : plainName "com/example/diarist/diarist/questionnaire/QuestionnaireStatus" = true := by first | (simp [plainName, overriddenIn]; done) | decide +kernel
theorem ef_1 (m : MethodId) (pi1 : Int32) (pi2 : Int32) (pi3 : Int32) : entryFrame m #[(.int pi1), (.int pi2), (.int pi3)] 3 = mkF m 0 #[.val (.int pi1), .val (.int pi2), .val (.int pi3)] [] := by first | (simp [entryFrame, mkF, argsToLocals, Value.category]; done) | rfl
def Q1_f (Z : State) (pi1 : Int32) (pi2 : Int32) (pi3 : Int32) (w_FINALIZED : Addr) (h0 : Heap) (n0 : Nat) (v : Option Value) (h : Heap) (L : List Loc) : Prop := v = some (.ref w_FINALIZED) ∧ Fr n0 L ∧ h = h0
set_option maxRecDepth 65536 in
set_option maxHeartbeats 40000000 in
theorem rm1_f (l : Launch) (Z : State) (a0 : Array Value) (hw : ∀ d ∈ tables_1, d.before a0 Z = true) (ws : List Jvm.Cond) (pi1 : Int32) (pi2 : Int32) (pi3 : Int32) (w_FINALIZED : Addr) (h0 : Heap) (n0 : Nat) (Z0 : n0 ≤ h0.size) (O0 : Old Z n0 h0) (S_FINALIZED : Sta Z Z.heap "com/example/diarist/diarist/questionnaire/QuestionnaireStatus" "FINALIZED" "Lcom/example/diarist/diarist/questionnaire/QuestionnaireStatus;" (.ref w_FINALIZED)) (hc1_0 : ¬ (pi3 = (0 : Int32))) :
    MetFree l (⟨"com/example/diarist/diarist/questionnaire/QuestionnaireStatus", "of", "(ZZZ)Lcom/example/diarist/diarist/questionnaire/QuestionnaireStatus;"⟩ : MethodName) (head1 (Jvm.Cond.code (⟨"com/example/diarist/diarist/questionnaire/QuestionnaireStatus", "of", "(ZZZ)Lcom/example/diarist/diarist/questionnaire/QuestionnaireStatus;"⟩ : MethodName) prog_52_method_5_code 3 (some (.object "com/example/diarist/diarist/questionnaire/QuestionnaireStatus")) :: ws) ({ frames := 0, cells := 0, slots := 0, locals := 0 } : Room)) (fun a U => a = #[(.int pi1), (.int pi2), (.int pi3)] ∧ Z.Warmed39 U.vm ∧ U.heap = h0) (fun _ _ _ _ _ => True) (fun _ U o U' => ∃ v L, o = .returned v ∧ Q1_f Z pi1 pi2 pi3 w_FINALIZED h0 n0 v U'.heap L ∧ FrameEnd U o U' L ({ frames := 0, cells := 0, slots := 0, locals := 0 } : Room).cells ({ frames := 0, cells := 0, slots := 0, locals := 0 } : Room).slots) := by
  refine MetFree.of_bodySF (plainFor_of_name pn_1) hisR ?_
  intro p e s m args below meth c s₁ Bd hml0 hP hK
  obtain ⟨rfl, hZ, hh⟩ := hP
  have hx := Bd.exec
  have hby := Bd.bytes
  have hml : c.maxLocals = 3 := hml0
  have hown : s.vm.findClass "com/example/diarist/diarist/questionnaire/QuestionnaireStatus" = some m.cls := findClass_of_methodNamed Bd.named
  have hnm := (name_of_methodNamed Bd.named Bd.method).1
  have X0 : Stand p l e ({ frames := 0, cells := 0, slots := 0, locals := 0 } : Room) s m #[(.int pi1), (.int pi2), (.int pi3)] below meth c s₁ [] 0 0 := Stand.of_body Bd
  have e0 : s₁.heap = h0 := by rw [← hh, Bd.state]; rfl
  have N0 := Fr.nil n0
  have pre0 : ∀ t, Steps p.tables e below (s₁.setTop (mkF m 0 #[.val (.int pi1), .val (.int pi2), .val (.int pi3)] [])) t → Steps p.tables e below (s₁.setTop (entryFrame m #[(.int pi1), (.int pi2), (.int pi3)] 3)) t := fun t k => castTop (ef_1 m pi1 pi2 pi3) k
  obtain ⟨T1, X1, e1, st1⟩ := getS2 X0 hx hZ hown (host := "") (Or.inl (hw _ (List.mem_of_getElem? (i := 17) rfl))) Via.refl e0 (S_FINALIZED.ext O0.2) (g := (mkF m 4 #[.val (.int pi1), .val (.int pi2), .val (.int pi3)] [])) rfl (hb hby d1_4)
  obtain ⟨fs, hr, hrun, hended, hW, hsame⟩ := X1.leave (v := some (.ref w_FINALIZED)) (fun h => by rw [Bd.returns] at h; cases h)
  refine ⟨_, _, pre0 _ ?_, hrun, hended, _, _, rfl, ?_, ⟨_, rfl⟩, hW, hsame.mono (by decide) (by decide)⟩
  · show Steps p.tables e below (s₁.setTop (mkF m 0 #[.val (.int pi1), .val (.int pi2), .val (.int pi3)] [])) _
    refine XS.iloadN X0.here hx rfl (hb hby d1_0) rfl ?_
    show Steps p.tables e below (s₁.setTop (mkF m 1 #[.val (.int pi1), .val (.int pi2), .val (.int pi3)] [(.int pi3)])) _
    refine XS.ifNo X0.here hx rfl (hb hby d1_1) rfl ((if0 _ _).trans (feq hc1_0).1) ?_
    show Steps p.tables e below (s₁.setTop (mkF m 4 #[.val (.int pi1), .val (.int pi2), .val (.int pi3)] [])) _
    refine st1 _ ?_
    show Steps p.tables e below (T1.setTop (mkF m 7 #[.val (.int pi1), .val (.int pi2), .val (.int pi3)] [(.ref w_FINALIZED)])) _
    jvm_step X1.here [X1.here.top, hx, (hb hby d1_7), X1.method', Bd.returns, Value.isRef, FieldType.isReference]
    first | (intro acts; rw [hr _ acts rfl rfl rfl]) | rw [hr _ _ rfl rfl rfl]
    exact Steps.refl _
  · show Q1_f Z pi1 pi2 pi3 w_FINALIZED h0 n0 _ T1.heap _
    rw [e1]
    exact ⟨rfl, N0, rfl⟩
theorem d1_8 : decode prog_52_method_5_code 8 = .ok (.iload_n 1, 1) := by decide +kernel
theorem d1_9 : decode prog_52_method_5_code 9 = .ok (.ifCond .eq 7, 3) := by decide +kernel
theorem d1_12 : decode prog_52_method_5_code 12 = .ok (.getstatic 10, 3) := by decide +kernel
theorem d1_15 : decode prog_52_method_5_code 15 = .ok (.areturn, 1) := by decide +kernel
def Q1_tf (Z : State) (pi1 : Int32) (pi2 : Int32) (pi3 : Int32) (w_SUBMITTED : Addr) (h0 : Heap) (n0 : Nat) (v : Option Value) (h : Heap) (L : List Loc) : Prop := v = some (.ref w_SUBMITTED) ∧ Fr n0 L ∧ h = h0
set_option maxRecDepth 65536 in
set_option maxHeartbeats 40000000 in
theorem rm1_tf (l : Launch) (Z : State) (a0 : Array Value) (hw : ∀ d ∈ tables_1, d.before a0 Z = true) (ws : List Jvm.Cond) (pi1 : Int32) (pi2 : Int32) (pi3 : Int32) (w_SUBMITTED : Addr) (h0 : Heap) (n0 : Nat) (Z0 : n0 ≤ h0.size) (O0 : Old Z n0 h0) (S_SUBMITTED : Sta Z Z.heap "com/example/diarist/diarist/questionnaire/QuestionnaireStatus" "SUBMITTED" "Lcom/example/diarist/diarist/questionnaire/QuestionnaireStatus;" (.ref w_SUBMITTED)) (hc1_0 : pi3 = (0 : Int32)) (hc9_1 : ¬ (pi2 = (0 : Int32))) :
    MetFree l (⟨"com/example/diarist/diarist/questionnaire/QuestionnaireStatus", "of", "(ZZZ)Lcom/example/diarist/diarist/questionnaire/QuestionnaireStatus;"⟩ : MethodName) (head1 (Jvm.Cond.code (⟨"com/example/diarist/diarist/questionnaire/QuestionnaireStatus", "of", "(ZZZ)Lcom/example/diarist/diarist/questionnaire/QuestionnaireStatus;"⟩ : MethodName) prog_52_method_5_code 3 (some (.object "com/example/diarist/diarist/questionnaire/QuestionnaireStatus")) :: ws) ({ frames := 0, cells := 0, slots := 0, locals := 0 } : Room)) (fun a U => a = #[(.int pi1), (.int pi2), (.int pi3)] ∧ Z.Warmed39 U.vm ∧ U.heap = h0) (fun _ _ _ _ _ => True) (fun _ U o U' => ∃ v L, o = .returned v ∧ Q1_tf Z pi1 pi2 pi3 w_SUBMITTED h0 n0 v U'.heap L ∧ FrameEnd U o U' L ({ frames := 0, cells := 0, slots := 0, locals := 0 } : Room).cells ({ frames := 0, cells := 0, slots := 0, locals := 0 } : Room).slots) := by
  refine MetFree.of_bodySF (plainFor_of_name pn_1) hisR ?_
  intro p e s m args below meth c s₁ Bd hml0 hP hK
  obtain ⟨rfl, hZ, hh⟩ := hP
  have hx := Bd.exec
  have hby := Bd.bytes
  have hml : c.maxLocals = 3 := hml0
  have hown : s.vm.findClass "com/example/diarist/diarist/questionnaire/QuestionnaireStatus" = some m.cls := findClass_of_methodNamed Bd.named
  have hnm := (name_of_methodNamed Bd.named Bd.method).1
  have X0 : Stand p l e ({ frames := 0, cells := 0, slots := 0, locals := 0 } : Room) s m #[(.int pi1), (.int pi2), (.int pi3)] below meth c s₁ [] 0 0 := Stand.of_body Bd
  have e0 : s₁.heap = h0 := by rw [← hh, Bd.state]; rfl
  have N0 := Fr.nil n0
  have pre0 : ∀ t, Steps p.tables e below (s₁.setTop (mkF m 0 #[.val (.int pi1), .val (.int pi2), .val (.int pi3)] [])) t → Steps p.tables e below (s₁.setTop (entryFrame m #[(.int pi1), (.int pi2), (.int pi3)] 3)) t := fun t k => castTop (ef_1 m pi1 pi2 pi3) k
  obtain ⟨T1, X1, e1, st1⟩ := getS2 X0 hx hZ hown (host := "") (Or.inl (hw _ (List.mem_of_getElem? (i := 16) rfl))) Via.refl e0 (S_SUBMITTED.ext O0.2) (g := (mkF m 12 #[.val (.int pi1), .val (.int pi2), .val (.int pi3)] [])) rfl (hb hby d1_12)
  obtain ⟨fs, hr, hrun, hended, hW, hsame⟩ := X1.leave (v := some (.ref w_SUBMITTED)) (fun h => by rw [Bd.returns] at h; cases h)
  refine ⟨_, _, pre0 _ ?_, hrun, hended, _, _, rfl, ?_, ⟨_, rfl⟩, hW, hsame.mono (by decide) (by decide)⟩
  · show Steps p.tables e below (s₁.setTop (mkF m 0 #[.val (.int pi1), .val (.int pi2), .val (.int pi3)] [])) _
    refine XS.iloadN X0.here hx rfl (hb hby d1_0) rfl ?_
    show Steps p.tables e below (s₁.setTop (mkF m 1 #[.val (.int pi1), .val (.int pi2), .val (.int pi3)] [(.int pi3)])) _
    refine XS.ifYes X0.here hx rfl (pc0 := 1) (pc' := 8) rfl (hb hby d1_1) rfl ((if0 _ _).trans (teq hc1_0).1) (by decide) (by decide) ?_
    show Steps p.tables e below (s₁.setTop (mkF m 8 #[.val (.int pi1), .val (.int pi2), .val (.int pi3)] [])) _
    refine XS.iloadN X0.here hx rfl (hb hby d1_8) rfl ?_
    show Steps p.tables e below (s₁.setTop (mkF m 9 #[.val (.int pi1), .val (.int pi2), .val (.int pi3)] [(.int pi2)])) _
    refine XS.ifNo X0.here hx rfl (hb hby d1_9) rfl ((if0 _ _).trans (feq hc9_1).1) ?_
    show Steps p.tables e below (s₁.setTop (mkF m 12 #[.val (.int pi1), .val (.int pi2), .val (.int pi3)] [])) _
    refine st1 _ ?_
    show Steps p.tables e below (T1.setTop (mkF m 15 #[.val (.int pi1), .val (.int pi2), .val (.int pi3)] [(.ref w_SUBMITTED)])) _
    jvm_step X1.here [X1.here.top, hx, (hb hby d1_15), X1.method', Bd.returns, Value.isRef, FieldType.isReference]
    first | (intro acts; rw [hr _ acts rfl rfl rfl]) | rw [hr _ _ rfl rfl rfl]
    exact Steps.refl _
  · show Q1_tf Z pi1 pi2 pi3 w_SUBMITTED h0 n0 _ T1.heap _
    rw [e1]
    exact ⟨rfl, N0, rfl⟩
theorem d1_16 : decode prog_52_method_5_code 16 = .ok (.iload_n 0, 1) := by decide +kernel
theorem d1_17 : decode prog_52_method_5_code 17 = .ok (.ifCond .eq 9, 3) := by decide +kernel
theorem d1_20 : decode prog_52_method_5_code 20 = .ok (.getstatic 7, 3) := by decide +kernel
theorem d1_23 : decode prog_52_method_5_code 23 = .ok (.goto 6, 3) := by decide +kernel
theorem d1_29 : decode prog_52_method_5_code 29 = .ok (.areturn, 1) := by decide +kernel
def Q1_ttf (Z : State) (pi1 : Int32) (pi2 : Int32) (pi3 : Int32) (w_IN_PROGRESS : Addr) (h0 : Heap) (n0 : Nat) (v : Option Value) (h : Heap) (L : List Loc) : Prop := v = some (.ref w_IN_PROGRESS) ∧ Fr n0 L ∧ h = h0
set_option maxRecDepth 65536 in
set_option maxHeartbeats 40000000 in
theorem rm1_ttf (l : Launch) (Z : State) (a0 : Array Value) (hw : ∀ d ∈ tables_1, d.before a0 Z = true) (ws : List Jvm.Cond) (pi1 : Int32) (pi2 : Int32) (pi3 : Int32) (w_IN_PROGRESS : Addr) (h0 : Heap) (n0 : Nat) (Z0 : n0 ≤ h0.size) (O0 : Old Z n0 h0) (S_IN_PROGRESS : Sta Z Z.heap "com/example/diarist/diarist/questionnaire/QuestionnaireStatus" "IN_PROGRESS" "Lcom/example/diarist/diarist/questionnaire/QuestionnaireStatus;" (.ref w_IN_PROGRESS)) (hc1_0 : pi3 = (0 : Int32)) (hc9_1 : pi2 = (0 : Int32)) (hc17_2 : ¬ (pi1 = (0 : Int32))) :
    MetFree l (⟨"com/example/diarist/diarist/questionnaire/QuestionnaireStatus", "of", "(ZZZ)Lcom/example/diarist/diarist/questionnaire/QuestionnaireStatus;"⟩ : MethodName) (head1 (Jvm.Cond.code (⟨"com/example/diarist/diarist/questionnaire/QuestionnaireStatus", "of", "(ZZZ)Lcom/example/diarist/diarist/questionnaire/QuestionnaireStatus;"⟩ : MethodName) prog_52_method_5_code 3 (some (.object "com/example/diarist/diarist/questionnaire/QuestionnaireStatus")) :: ws) ({ frames := 0, cells := 0, slots := 0, locals := 0 } : Room)) (fun a U => a = #[(.int pi1), (.int pi2), (.int pi3)] ∧ Z.Warmed39 U.vm ∧ U.heap = h0) (fun _ _ _ _ _ => True) (fun _ U o U' => ∃ v L, o = .returned v ∧ Q1_ttf Z pi1 pi2 pi3 w_IN_PROGRESS h0 n0 v U'.heap L ∧ FrameEnd U o U' L ({ frames := 0, cells := 0, slots := 0, locals := 0 } : Room).cells ({ frames := 0, cells := 0, slots := 0, locals := 0 } : Room).slots) := by
  refine MetFree.of_bodySF (plainFor_of_name pn_1) hisR ?_
  intro p e s m args below meth c s₁ Bd hml0 hP hK
  obtain ⟨rfl, hZ, hh⟩ := hP
  have hx := Bd.exec
  have hby := Bd.bytes
  have hml : c.maxLocals = 3 := hml0
  have hown : s.vm.findClass "com/example/diarist/diarist/questionnaire/QuestionnaireStatus" = some m.cls := findClass_of_methodNamed Bd.named
  have hnm := (name_of_methodNamed Bd.named Bd.method).1
  have X0 : Stand p l e ({ frames := 0, cells := 0, slots := 0, locals := 0 } : Room) s m #[(.int pi1), (.int pi2), (.int pi3)] below meth c s₁ [] 0 0 := Stand.of_body Bd
  have e0 : s₁.heap = h0 := by rw [← hh, Bd.state]; rfl
  have N0 := Fr.nil n0
  have pre0 : ∀ t, Steps p.tables e below (s₁.setTop (mkF m 0 #[.val (.int pi1), .val (.int pi2), .val (.int pi3)] [])) t → Steps p.tables e below (s₁.setTop (entryFrame m #[(.int pi1), (.int pi2), (.int pi3)] 3)) t := fun t k => castTop (ef_1 m pi1 pi2 pi3) k
  obtain ⟨T1, X1, e1, st1⟩ := getS2 X0 hx hZ hown (host := "") (Or.inl (hw _ (List.mem_of_getElem? (i := 18) rfl))) Via.refl e0 (S_IN_PROGRESS.ext O0.2) (g := (mkF m 20 #[.val (.int pi1), .val (.int pi2), .val (.int pi3)] [])) rfl (hb hby d1_20)
  obtain ⟨fs, hr, hrun, hended, hW, hsame⟩ := X1.leave (v := some (.ref w_IN_PROGRESS)) (fun h => by rw [Bd.returns] at h; cases h)
  refine ⟨_, _, pre0 _ ?_, hrun, hended, _, _, rfl, ?_, ⟨_, rfl⟩, hW, hsame.mono (by decide) (by decide)⟩
  · show Steps p.tables e below (s₁.setTop (mkF m 0 #[.val (.int pi1), .val (.int pi2), .val (.int pi3)] [])) _
    refine XS.iloadN X0.here hx rfl (hb hby d1_0) rfl ?_
    show Steps p.tables e below (s₁.setTop (mkF m 1 #[.val (.int pi1), .val (.int pi2), .val (.int pi3)] [(.int pi3)])) _
    refine XS.ifYes X0.here hx rfl (pc0 := 1) (pc' := 8) rfl (hb hby d1_1) rfl ((if0 _ _).trans (teq hc1_0).1) (by decide) (by decide) ?_
    show Steps p.tables e below (s₁.setTop (mkF m 8 #[.val (.int pi1), .val (.int pi2), .val (.int pi3)] [])) _
    refine XS.iloadN X0.here hx rfl (hb hby d1_8) rfl ?_
    show Steps p.tables e below (s₁.setTop (mkF m 9 #[.val (.int pi1), .val (.int pi2), .val (.int pi3)] [(.int pi2)])) _
    refine XS.ifYes X0.here hx rfl (pc0 := 9) (pc' := 16) rfl (hb hby d1_9) rfl ((if0 _ _).trans (teq hc9_1).1) (by decide) (by decide) ?_
    show Steps p.tables e below (s₁.setTop (mkF m 16 #[.val (.int pi1), .val (.int pi2), .val (.int pi3)] [])) _
    refine XS.iloadN X0.here hx rfl (hb hby d1_16) rfl ?_
    show Steps p.tables e below (s₁.setTop (mkF m 17 #[.val (.int pi1), .val (.int pi2), .val (.int pi3)] [(.int pi1)])) _
    refine XS.ifNo X0.here hx rfl (hb hby d1_17) rfl ((if0 _ _).trans (feq hc17_2).1) ?_
    show Steps p.tables e below (s₁.setTop (mkF m 20 #[.val (.int pi1), .val (.int pi2), .val (.int pi3)] [])) _
    refine st1 _ ?_
    show Steps p.tables e below (T1.setTop (mkF m 23 #[.val (.int pi1), .val (.int pi2), .val (.int pi3)] [(.ref w_IN_PROGRESS)])) _
    refine XS.goto X1.here hx rfl (pc0 := 23) (pc' := 29) rfl (hb hby d1_23) (by decide) (by decide) ?_
    show Steps p.tables e below (T1.setTop (mkF m 29 #[.val (.int pi1), .val (.int pi2), .val (.int pi3)] [(.ref w_IN_PROGRESS)])) _
    jvm_step X1.here [X1.here.top, hx, (hb hby d1_29), X1.method', Bd.returns, Value.isRef, FieldType.isReference]
    first | (intro acts; rw [hr _ acts rfl rfl rfl]) | rw [hr _ _ rfl rfl rfl]
    exact Steps.refl _
  · show Q1_ttf Z pi1 pi2 pi3 w_IN_PROGRESS h0 n0 _ T1.heap _
    rw [e1]
    exact ⟨rfl, N0, rfl⟩
theorem d1_26 : decode prog_52_method_5_code 26 = .ok (.getstatic 3, 3) := by decide +kernel
def Q1_ttt (Z : State) (pi1 : Int32) (pi2 : Int32) (pi3 : Int32) (w_PENDING : Addr) (h0 : Heap) (n0 : Nat) (v : Option Value) (h : Heap) (L : List Loc) : Prop := v = some (.ref w_PENDING) ∧ Fr n0 L ∧ h = h0
set_option maxRecDepth 65536 in
set_option maxHeartbeats 40000000 in
theorem rm1_ttt (l : Launch) (Z : State) (a0 : Array Value) (hw : ∀ d ∈ tables_1, d.before a0 Z = true) (ws : List Jvm.Cond) (pi1 : Int32) (pi2 : Int32) (pi3 : Int32) (w_PENDING : Addr) (h0 : Heap) (n0 : Nat) (Z0 : n0 ≤ h0.size) (O0 : Old Z n0 h0) (S_PENDING : Sta Z Z.heap "com/example/diarist/diarist/questionnaire/QuestionnaireStatus" "PENDING" "Lcom/example/diarist/diarist/questionnaire/QuestionnaireStatus;" (.ref w_PENDING)) (hc1_0 : pi3 = (0 : Int32)) (hc9_1 : pi2 = (0 : Int32)) (hc17_2 : pi1 = (0 : Int32)) :
    MetFree l (⟨"com/example/diarist/diarist/questionnaire/QuestionnaireStatus", "of", "(ZZZ)Lcom/example/diarist/diarist/questionnaire/QuestionnaireStatus;"⟩ : MethodName) (head1 (Jvm.Cond.code (⟨"com/example/diarist/diarist/questionnaire/QuestionnaireStatus", "of", "(ZZZ)Lcom/example/diarist/diarist/questionnaire/QuestionnaireStatus;"⟩ : MethodName) prog_52_method_5_code 3 (some (.object "com/example/diarist/diarist/questionnaire/QuestionnaireStatus")) :: ws) ({ frames := 0, cells := 0, slots := 0, locals := 0 } : Room)) (fun a U => a = #[(.int pi1), (.int pi2), (.int pi3)] ∧ Z.Warmed39 U.vm ∧ U.heap = h0) (fun _ _ _ _ _ => True) (fun _ U o U' => ∃ v L, o = .returned v ∧ Q1_ttt Z pi1 pi2 pi3 w_PENDING h0 n0 v U'.heap L ∧ FrameEnd U o U' L ({ frames := 0, cells := 0, slots := 0, locals := 0 } : Room).cells ({ frames := 0, cells := 0, slots := 0, locals := 0 } : Room).slots) := by
  refine MetFree.of_bodySF (plainFor_of_name pn_1) hisR ?_
  intro p e s m args below meth c s₁ Bd hml0 hP hK
  obtain ⟨rfl, hZ, hh⟩ := hP
  have hx := Bd.exec
  have hby := Bd.bytes
  have hml : c.maxLocals = 3 := hml0
  have hown : s.vm.findClass "com/example/diarist/diarist/questionnaire/QuestionnaireStatus" = some m.cls := findClass_of_methodNamed Bd.named
  have hnm := (name_of_methodNamed Bd.named Bd.method).1
  have X0 : Stand p l e ({ frames := 0, cells := 0, slots := 0, locals := 0 } : Room) s m #[(.int pi1), (.int pi2), (.int pi3)] below meth c s₁ [] 0 0 := Stand.of_body Bd
  have e0 : s₁.heap = h0 := by rw [← hh, Bd.state]; rfl
  have N0 := Fr.nil n0
  have pre0 : ∀ t, Steps p.tables e below (s₁.setTop (mkF m 0 #[.val (.int pi1), .val (.int pi2), .val (.int pi3)] [])) t → Steps p.tables e below (s₁.setTop (entryFrame m #[(.int pi1), (.int pi2), (.int pi3)] 3)) t := fun t k => castTop (ef_1 m pi1 pi2 pi3) k
  obtain ⟨T1, X1, e1, st1⟩ := getS2 X0 hx hZ hown (host := "") (Or.inl (hw _ (List.mem_of_getElem? (i := 15) rfl))) Via.refl e0 (S_PENDING.ext O0.2) (g := (mkF m 26 #[.val (.int pi1), .val (.int pi2), .val (.int pi3)] [])) rfl (hb hby d1_26)
  obtain ⟨fs, hr, hrun, hended, hW, hsame⟩ := X1.leave (v := some (.ref w_PENDING)) (fun h => by rw [Bd.returns] at h; cases h)
  refine ⟨_, _, pre0 _ ?_, hrun, hended, _, _, rfl, ?_, ⟨_, rfl⟩, hW, hsame.mono (by decide) (by decide)⟩
  · show Steps p.tables e below (s₁.setTop (mkF m 0 #[.val (.int pi1), .val (.int pi2), .val (.int pi3)] [])) _
    refine XS.iloadN X0.here hx rfl (hb hby d1_0) rfl ?_
    show Steps p.tables e below (s₁.setTop (mkF m 1 #[.val (.int pi1), .val (.int pi2), .val (.int pi3)] [(.int pi3)])) _
    refine XS.ifYes X0.here hx rfl (pc0 := 1) (pc' := 8) rfl (hb hby d1_1) rfl ((if0 _ _).trans (teq hc1_0).1) (by decide) (by decide) ?_
    show Steps p.tables e below (s₁.setTop (mkF m 8 #[.val (.int pi1), .val (.int pi2), .val (.int pi3)] [])) _
    refine XS.iloadN X0.here hx rfl (hb hby d1_8) rfl ?_
    show Steps p.tables e below (s₁.setTop (mkF m 9 #[.val (.int pi1), .val (.int pi2), .val (.int pi3)] [(.int pi2)])) _
    refine XS.ifYes X0.here hx rfl (pc0 := 9) (pc' := 16) rfl (hb hby d1_9) rfl ((if0 _ _).trans (teq hc9_1).1) (by decide) (by decide) ?_
    show Steps p.tables e below (s₁.setTop (mkF m 16 #[.val (.int pi1), .val (.int pi2), .val (.int pi3)] [])) _
    refine XS.iloadN X0.here hx rfl (hb hby d1_16) rfl ?_
    show Steps p.tables e below (s₁.setTop (mkF m 17 #[.val (.int pi1), .val (.int pi2), .val (.int pi3)] [(.int pi1)])) _
    refine XS.ifYes X0.here hx rfl (pc0 := 17) (pc' := 26) rfl (hb hby d1_17) rfl ((if0 _ _).trans (teq hc17_2).1) (by decide) (by decide) ?_
    show Steps p.tables e below (s₁.setTop (mkF m 26 #[.val (.int pi1), .val (.int pi2), .val (.int pi3)] [])) _
    refine st1 _ ?_
    show Steps p.tables e below (T1.setTop (mkF m 29 #[.val (.int pi1), .val (.int pi2), .val (.int pi3)] [(.ref w_PENDING)])) _
    jvm_step X1.here [X1.here.top, hx, (hb hby d1_29), X1.method', Bd.returns, Value.isRef, FieldType.isReference]
    first | (intro acts; rw [hr _ acts rfl rfl rfl]) | rw [hr _ _ rfl rfl rfl]
    exact Steps.refl _
  · show Q1_ttt Z pi1 pi2 pi3 w_PENDING h0 n0 _ T1.heap _
    rw [e1]
    exact ⟨rfl, N0, rfl⟩
theorem pd_0 : parseMethodDescriptor "(ZZZ)Lcom/example/diarist/diarist/questionnaire/QuestionnaireStatus;" = some ⟨[.boolean, .boolean, .boolean], some (.object "com/example/diarist/diarist/questionnaire/QuestionnaireStatus")⟩ := by decide +kernel
theorem pn_0 : plainName "com/example/diarist/diarist/questionnaire/QuestionnaireStatusOfPinLaw" = true := by first | (simp [plainName, overriddenIn]; done) | decide +kernel
theorem ef_0 (m : MethodId) (pi1 : Int32) : entryFrame m #[(.int pi1)] maxLocals = mkF m 0 #[.val (.int pi1), .unset, .unset, .unset, .unset, .unset, .unset] [] := by first | (simp [entryFrame, mkF, argsToLocals, Value.category, maxLocals]; done) | rfl
def Q0 (v : Option Value) (L : List Loc) (n0 : Nat) : Prop := v = some (.int (1 : Int32)) ∧ Fr n0 L
set_option maxRecDepth 65536 in
set_option maxHeartbeats 40000000 in
theorem rm0_ttt (l : Launch) (Z : State) (a0 : Array Value) (hw : ∀ d ∈ tables_1, d.before a0 Z = true) (ws : List Jvm.Cond) (pi1 : Int32) (w_PENDING : Addr) (w_IN_PROGRESS : Addr) (w_SUBMITTED : Addr) (w_FINALIZED : Addr) (h0 : Heap) (n0 : Nat) (Z0 : n0 ≤ h0.size) (O0 : Old Z n0 h0) (S_PENDING : Sta Z Z.heap "com/example/diarist/diarist/questionnaire/QuestionnaireStatus" "PENDING" "Lcom/example/diarist/diarist/questionnaire/QuestionnaireStatus;" (.ref w_PENDING)) (E_w_PENDING : Exa Z Z.heap w_PENDING "com/example/diarist/diarist/questionnaire/QuestionnaireStatus") (S_IN_PROGRESS : Sta Z Z.heap "com/example/diarist/diarist/questionnaire/QuestionnaireStatus" "IN_PROGRESS" "Lcom/example/diarist/diarist/questionnaire/QuestionnaireStatus;" (.ref w_IN_PROGRESS)) (E_w_IN_PROGRESS : Exa Z Z.heap w_IN_PROGRESS "com/example/diarist/diarist/questionnaire/QuestionnaireStatus") (S_SUBMITTED : Sta Z Z.heap "com/example/diarist/diarist/questionnaire/QuestionnaireStatus" "SUBMITTED" "Lcom/example/diarist/diarist/questionnaire/QuestionnaireStatus;" (.ref w_SUBMITTED)) (E_w_SUBMITTED : Exa Z Z.heap w_SUBMITTED "com/example/diarist/diarist/questionnaire/QuestionnaireStatus") (S_FINALIZED : Sta Z Z.heap "com/example/diarist/diarist/questionnaire/QuestionnaireStatus" "FINALIZED" "Lcom/example/diarist/diarist/questionnaire/QuestionnaireStatus;" (.ref w_FINALIZED)) (E_w_FINALIZED : Exa Z Z.heap w_FINALIZED "com/example/diarist/diarist/questionnaire/QuestionnaireStatus") (hc8_0 : ((pi1 &&& (7 : Int32)) &&& (1 : Int32)) = (0 : Int32)) (hc20_1 : ((pi1 &&& (7 : Int32)) &&& (2 : Int32)) = (0 : Int32)) (hc32_2 : ((pi1 &&& (7 : Int32)) &&& (4 : Int32)) = (0 : Int32)) :
    MetFree l x (head1 (Jvm.Cond.code x code maxLocals ret :: ws) room_1) (fun a U => a = #[(.int pi1)] ∧ Z.Warmed39 U.vm ∧ U.heap = h0) (fun _ _ _ _ _ => True) (fun _ U o U' => ∃ v L, o = .returned v ∧ Q0 v L n0 ∧ FrameEnd U o U' L room_1.cells room_1.slots) := by
  refine MetFree.of_bodySF (plainFor_of_name pn_0) hisR ?_
  intro p e s m args below meth c s₁ Bd hml0 hP hK
  obtain ⟨rfl, hZ, hh⟩ := hP
  have hx := Bd.exec
  have hby := Bd.bytes
  have hml : c.maxLocals = 7 := hml0
  have hown : s.vm.findClass "com/example/diarist/diarist/questionnaire/QuestionnaireStatusOfPinLaw" = some m.cls := findClass_of_methodNamed Bd.named
  have hnm := (name_of_methodNamed Bd.named Bd.method).1
  have X0 : Stand p l e room_1 s m #[(.int pi1)] below meth c s₁ [] 0 0 := Stand.of_body Bd
  have e0 : s₁.heap = h0 := by rw [← hh, Bd.state]; rfl
  have N0 := Fr.nil n0
  have pre0 : ∀ t, Steps p.tables e below (s₁.setTop (mkF m 0 #[.val (.int pi1), .unset, .unset, .unset, .unset, .unset, .unset] [])) t → Steps p.tables e below (s₁.setTop (entryFrame m #[(.int pi1)] maxLocals)) t := fun t k => castTop (ef_0 m pi1) k
  obtain ⟨T1, h1, k1, X1, e1, E1, A1, O1, st1⟩ := newR X0 hx hZ hown (hw _ (List.mem_of_getElem? (i := 0) rfl)) (hw _ (List.mem_of_getElem? (i := 1) rfl)) e0 (g := (mkF m 44 #[.val (.int pi1), .val (.int (pi1 &&& (7 : Int32))), .val (.int (0 : Int32)), .val (.int (0 : Int32)), .val (.int (0 : Int32)), .unset, .unset] [(.int (8 : Int32))])) rfl (hb hby at_44) rfl (by decide) (cap := 8) (by decide) (by decide) (by decide) (by decide)
  obtain ⟨b1, g1⟩ : ∃ z, z = h0.size := ⟨_, rfl⟩
  rw [← g1] at A1 st1
  have V1 : Arv Z h1 b1 k1 (.object "com/example/diarist/diarist/questionnaire/QuestionnaireStatus") (8 : Int32) [.null, .null, .null, .null, .null, .null, .null, .null] .null := (Arv.new A1 (by decide)).pad (pad_rep [] .null 8)
  have o3 := O0.ext E1
  obtain ⟨T2, X2, e2, st2⟩ := getS2 X1 hx hZ hown (host := "") (Or.inl (hw _ (List.mem_of_getElem? (i := 2) rfl))) Via.refl e1 (S_PENDING.ext o3.2) (g := (mkF m 49 #[.val (.int pi1), .val (.int (pi1 &&& (7 : Int32))), .val (.int (0 : Int32)), .val (.int (0 : Int32)), .val (.int (0 : Int32)), .unset, .unset] [(.int (0 : Int32)), (.ref b1), (.ref b1)])) rfl (hb hby at_49)
  have g_b1 : n0 ≤ b1 := Nat.le_trans Z0 (Nat.le_of_eq g1.symm)
  have V_c4 := V1
  obtain ⟨c4, Arc4, qc4, Sc4, Nc4, Hc4, Gc4⟩ := V_c4
  have hin5 : ¬ ((0 : Int32) < 0 ∨ c4.slots.size ≤ ((0 : Int32)).toNatClampNeg) := inb_of Sc4 ⟨by decide, by decide⟩
  obtain ⟨T5, h5, X5, e5, W5, st5⟩ := stR X2 hx hZ e2 Arc4 (j := (0 : Int32)) hin5 rfl (Sto.ofV Arc4 qc4 O1 (Ins.self (E_w_PENDING.ext o3.2))) (g := (mkF m 52 #[.val (.int pi1), .val (.int (pi1 &&& (7 : Int32))), .val (.int (0 : Int32)), .val (.int (0 : Int32)), .val (.int (0 : Int32)), .unset, .unset] [(.ref w_PENDING), (.int (0 : Int32)), (.ref b1), (.ref b1)])) rfl rfl (hb hby at_52)
  have V5 : Arv Z h5 b1 k1 (.object "com/example/diarist/diarist/questionnaire/QuestionnaireStatus") (8 : Int32) [(.ref w_PENDING), .null, .null, .null, .null, .null, .null, .null] .null := Arv.set Arc4 qc4 Sc4 Nc4 Hc4 Gc4 rfl W5 0 rfl (Nat.le_of_ble_eq_true rfl)
  have N5 := Fr.snoc X5 N0 g_b1
  have o7 := o3.wr W5 g_b1
  obtain ⟨T6, X6, e6, st6⟩ := getS2 X5 hx hZ hown (host := "") (Or.inl (hw _ (List.mem_of_getElem? (i := 6) rfl))) Via.refl e5 (S_IN_PROGRESS.ext o7.2) (g := (mkF m 55 #[.val (.int pi1), .val (.int (pi1 &&& (7 : Int32))), .val (.int (0 : Int32)), .val (.int (0 : Int32)), .val (.int (0 : Int32)), .unset, .unset] [(.int (1 : Int32)), (.ref b1), (.ref b1)])) rfl (hb hby at_55)
  have V_c8 := V5
  obtain ⟨c8, Arc8, qc8, Sc8, Nc8, Hc8, Gc8⟩ := V_c8
  have hin9 : ¬ ((1 : Int32) < 0 ∨ c8.slots.size ≤ ((1 : Int32)).toNatClampNeg) := inb_of Sc8 ⟨by decide, by decide⟩
  obtain ⟨T9, h9, X9, e9, W9, st9⟩ := stR X6 hx hZ e6 Arc8 (j := (1 : Int32)) hin9 rfl (Sto.ofV Arc8 qc8 O1 (Ins.self (E_w_IN_PROGRESS.ext o7.2))) (g := (mkF m 58 #[.val (.int pi1), .val (.int (pi1 &&& (7 : Int32))), .val (.int (0 : Int32)), .val (.int (0 : Int32)), .val (.int (0 : Int32)), .unset, .unset] [(.ref w_IN_PROGRESS), (.int (1 : Int32)), (.ref b1), (.ref b1)])) rfl rfl (hb hby at_58)
  have V9 : Arv Z h9 b1 k1 (.object "com/example/diarist/diarist/questionnaire/QuestionnaireStatus") (8 : Int32) [(.ref w_PENDING), (.ref w_IN_PROGRESS), .null, .null, .null, .null, .null, .null] .null := Arv.set Arc8 qc8 Sc8 Nc8 Hc8 Gc8 rfl W9 1 rfl (Nat.le_of_ble_eq_true rfl)
  have N9 := Fr.snoc X9 N5 g_b1
  have o11 := o7.wr W9 g_b1
  obtain ⟨T10, X10, e10, st10⟩ := getS2 X9 hx hZ hown (host := "") (Or.inl (hw _ (List.mem_of_getElem? (i := 8) rfl))) Via.refl e9 (S_SUBMITTED.ext o11.2) (g := (mkF m 61 #[.val (.int pi1), .val (.int (pi1 &&& (7 : Int32))), .val (.int (0 : Int32)), .val (.int (0 : Int32)), .val (.int (0 : Int32)), .unset, .unset] [(.int (2 : Int32)), (.ref b1), (.ref b1)])) rfl (hb hby at_61)
  have V_c12 := V9
  obtain ⟨c12, Arc12, qc12, Sc12, Nc12, Hc12, Gc12⟩ := V_c12
  have hin13 : ¬ ((2 : Int32) < 0 ∨ c12.slots.size ≤ ((2 : Int32)).toNatClampNeg) := inb_of Sc12 ⟨by decide, by decide⟩
  obtain ⟨T13, h13, X13, e13, W13, st13⟩ := stR X10 hx hZ e10 Arc12 (j := (2 : Int32)) hin13 rfl (Sto.ofV Arc12 qc12 O1 (Ins.self (E_w_SUBMITTED.ext o11.2))) (g := (mkF m 64 #[.val (.int pi1), .val (.int (pi1 &&& (7 : Int32))), .val (.int (0 : Int32)), .val (.int (0 : Int32)), .val (.int (0 : Int32)), .unset, .unset] [(.ref w_SUBMITTED), (.int (2 : Int32)), (.ref b1), (.ref b1)])) rfl rfl (hb hby at_64)
  have V13 : Arv Z h13 b1 k1 (.object "com/example/diarist/diarist/questionnaire/QuestionnaireStatus") (8 : Int32) [(.ref w_PENDING), (.ref w_IN_PROGRESS), (.ref w_SUBMITTED), .null, .null, .null, .null, .null] .null := Arv.set Arc12 qc12 Sc12 Nc12 Hc12 Gc12 rfl W13 2 rfl (Nat.le_of_ble_eq_true rfl)
  have N13 := Fr.snoc X13 N9 g_b1
  have o15 := o11.wr W13 g_b1
  obtain ⟨T14, X14, e14, st14⟩ := getS2 X13 hx hZ hown (host := "") (Or.inl (hw _ (List.mem_of_getElem? (i := 8) rfl))) Via.refl e13 (S_SUBMITTED.ext o15.2) (g := (mkF m 67 #[.val (.int pi1), .val (.int (pi1 &&& (7 : Int32))), .val (.int (0 : Int32)), .val (.int (0 : Int32)), .val (.int (0 : Int32)), .unset, .unset] [(.int (3 : Int32)), (.ref b1), (.ref b1)])) rfl (hb hby at_67)
  have V_c16 := V13
  obtain ⟨c16, Arc16, qc16, Sc16, Nc16, Hc16, Gc16⟩ := V_c16
  have hin17 : ¬ ((3 : Int32) < 0 ∨ c16.slots.size ≤ ((3 : Int32)).toNatClampNeg) := inb_of Sc16 ⟨by decide, by decide⟩
  obtain ⟨T17, h17, X17, e17, W17, st17⟩ := stR X14 hx hZ e14 Arc16 (j := (3 : Int32)) hin17 rfl (Sto.ofV Arc16 qc16 O1 (Ins.self (E_w_SUBMITTED.ext o15.2))) (g := (mkF m 70 #[.val (.int pi1), .val (.int (pi1 &&& (7 : Int32))), .val (.int (0 : Int32)), .val (.int (0 : Int32)), .val (.int (0 : Int32)), .unset, .unset] [(.ref w_SUBMITTED), (.int (3 : Int32)), (.ref b1), (.ref b1)])) rfl rfl (hb hby at_70)
  have V17 : Arv Z h17 b1 k1 (.object "com/example/diarist/diarist/questionnaire/QuestionnaireStatus") (8 : Int32) [(.ref w_PENDING), (.ref w_IN_PROGRESS), (.ref w_SUBMITTED), (.ref w_SUBMITTED), .null, .null, .null, .null] .null := Arv.set Arc16 qc16 Sc16 Nc16 Hc16 Gc16 rfl W17 3 rfl (Nat.le_of_ble_eq_true rfl)
  have N17 := Fr.snoc X17 N13 g_b1
  have o19 := o15.wr W17 g_b1
  obtain ⟨T18, X18, e18, st18⟩ := getS2 X17 hx hZ hown (host := "") (Or.inl (hw _ (List.mem_of_getElem? (i := 10) rfl))) Via.refl e17 (S_FINALIZED.ext o19.2) (g := (mkF m 73 #[.val (.int pi1), .val (.int (pi1 &&& (7 : Int32))), .val (.int (0 : Int32)), .val (.int (0 : Int32)), .val (.int (0 : Int32)), .unset, .unset] [(.int (4 : Int32)), (.ref b1), (.ref b1)])) rfl (hb hby at_73)
  have V_c20 := V17
  obtain ⟨c20, Arc20, qc20, Sc20, Nc20, Hc20, Gc20⟩ := V_c20
  have hin21 : ¬ ((4 : Int32) < 0 ∨ c20.slots.size ≤ ((4 : Int32)).toNatClampNeg) := inb_of Sc20 ⟨by decide, by decide⟩
  obtain ⟨T21, h21, X21, e21, W21, st21⟩ := stR X18 hx hZ e18 Arc20 (j := (4 : Int32)) hin21 rfl (Sto.ofV Arc20 qc20 O1 (Ins.self (E_w_FINALIZED.ext o19.2))) (g := (mkF m 76 #[.val (.int pi1), .val (.int (pi1 &&& (7 : Int32))), .val (.int (0 : Int32)), .val (.int (0 : Int32)), .val (.int (0 : Int32)), .unset, .unset] [(.ref w_FINALIZED), (.int (4 : Int32)), (.ref b1), (.ref b1)])) rfl rfl (hb hby at_76)
  have V21 : Arv Z h21 b1 k1 (.object "com/example/diarist/diarist/questionnaire/QuestionnaireStatus") (8 : Int32) [(.ref w_PENDING), (.ref w_IN_PROGRESS), (.ref w_SUBMITTED), (.ref w_SUBMITTED), (.ref w_FINALIZED), .null, .null, .null] .null := Arv.set Arc20 qc20 Sc20 Nc20 Hc20 Gc20 rfl W21 4 rfl (Nat.le_of_ble_eq_true rfl)
  have N21 := Fr.snoc X21 N17 g_b1
  have o23 := o19.wr W21 g_b1
  obtain ⟨T22, X22, e22, st22⟩ := getS2 X21 hx hZ hown (host := "") (Or.inl (hw _ (List.mem_of_getElem? (i := 10) rfl))) Via.refl e21 (S_FINALIZED.ext o23.2) (g := (mkF m 79 #[.val (.int pi1), .val (.int (pi1 &&& (7 : Int32))), .val (.int (0 : Int32)), .val (.int (0 : Int32)), .val (.int (0 : Int32)), .unset, .unset] [(.int (5 : Int32)), (.ref b1), (.ref b1)])) rfl (hb hby at_79)
  have V_c24 := V21
  obtain ⟨c24, Arc24, qc24, Sc24, Nc24, Hc24, Gc24⟩ := V_c24
  have hin25 : ¬ ((5 : Int32) < 0 ∨ c24.slots.size ≤ ((5 : Int32)).toNatClampNeg) := inb_of Sc24 ⟨by decide, by decide⟩
  obtain ⟨T25, h25, X25, e25, W25, st25⟩ := stR X22 hx hZ e22 Arc24 (j := (5 : Int32)) hin25 rfl (Sto.ofV Arc24 qc24 O1 (Ins.self (E_w_FINALIZED.ext o23.2))) (g := (mkF m 82 #[.val (.int pi1), .val (.int (pi1 &&& (7 : Int32))), .val (.int (0 : Int32)), .val (.int (0 : Int32)), .val (.int (0 : Int32)), .unset, .unset] [(.ref w_FINALIZED), (.int (5 : Int32)), (.ref b1), (.ref b1)])) rfl rfl (hb hby at_82)
  have V25 : Arv Z h25 b1 k1 (.object "com/example/diarist/diarist/questionnaire/QuestionnaireStatus") (8 : Int32) [(.ref w_PENDING), (.ref w_IN_PROGRESS), (.ref w_SUBMITTED), (.ref w_SUBMITTED), (.ref w_FINALIZED), (.ref w_FINALIZED), .null, .null] .null := Arv.set Arc24 qc24 Sc24 Nc24 Hc24 Gc24 rfl W25 5 rfl (Nat.le_of_ble_eq_true rfl)
  have N25 := Fr.snoc X25 N21 g_b1
  have o27 := o23.wr W25 g_b1
  obtain ⟨T26, X26, e26, st26⟩ := getS2 X25 hx hZ hown (host := "") (Or.inl (hw _ (List.mem_of_getElem? (i := 10) rfl))) Via.refl e25 (S_FINALIZED.ext o27.2) (g := (mkF m 86 #[.val (.int pi1), .val (.int (pi1 &&& (7 : Int32))), .val (.int (0 : Int32)), .val (.int (0 : Int32)), .val (.int (0 : Int32)), .unset, .unset] [(.int (6 : Int32)), (.ref b1), (.ref b1)])) rfl (hb hby at_86)
  have V_c28 := V25
  obtain ⟨c28, Arc28, qc28, Sc28, Nc28, Hc28, Gc28⟩ := V_c28
  have hin29 : ¬ ((6 : Int32) < 0 ∨ c28.slots.size ≤ ((6 : Int32)).toNatClampNeg) := inb_of Sc28 ⟨by decide, by decide⟩
  obtain ⟨T29, h29, X29, e29, W29, st29⟩ := stR X26 hx hZ e26 Arc28 (j := (6 : Int32)) hin29 rfl (Sto.ofV Arc28 qc28 O1 (Ins.self (E_w_FINALIZED.ext o27.2))) (g := (mkF m 89 #[.val (.int pi1), .val (.int (pi1 &&& (7 : Int32))), .val (.int (0 : Int32)), .val (.int (0 : Int32)), .val (.int (0 : Int32)), .unset, .unset] [(.ref w_FINALIZED), (.int (6 : Int32)), (.ref b1), (.ref b1)])) rfl rfl (hb hby at_89)
  have V29 : Arv Z h29 b1 k1 (.object "com/example/diarist/diarist/questionnaire/QuestionnaireStatus") (8 : Int32) [(.ref w_PENDING), (.ref w_IN_PROGRESS), (.ref w_SUBMITTED), (.ref w_SUBMITTED), (.ref w_FINALIZED), (.ref w_FINALIZED), (.ref w_FINALIZED), .null] .null := Arv.set Arc28 qc28 Sc28 Nc28 Hc28 Gc28 rfl W29 6 rfl (Nat.le_of_ble_eq_true rfl)
  have N29 := Fr.snoc X29 N25 g_b1
  have o31 := o27.wr W29 g_b1
  obtain ⟨T30, X30, e30, st30⟩ := getS2 X29 hx hZ hown (host := "") (Or.inl (hw _ (List.mem_of_getElem? (i := 10) rfl))) Via.refl e29 (S_FINALIZED.ext o31.2) (g := (mkF m 93 #[.val (.int pi1), .val (.int (pi1 &&& (7 : Int32))), .val (.int (0 : Int32)), .val (.int (0 : Int32)), .val (.int (0 : Int32)), .unset, .unset] [(.int (7 : Int32)), (.ref b1), (.ref b1)])) rfl (hb hby at_93)
  have V_c32 := V29
  obtain ⟨c32, Arc32, qc32, Sc32, Nc32, Hc32, Gc32⟩ := V_c32
  have hin33 : ¬ ((7 : Int32) < 0 ∨ c32.slots.size ≤ ((7 : Int32)).toNatClampNeg) := inb_of Sc32 ⟨by decide, by decide⟩
  obtain ⟨T33, h33, X33, e33, W33, st33⟩ := stR X30 hx hZ e30 Arc32 (j := (7 : Int32)) hin33 rfl (Sto.ofV Arc32 qc32 O1 (Ins.self (E_w_FINALIZED.ext o31.2))) (g := (mkF m 96 #[.val (.int pi1), .val (.int (pi1 &&& (7 : Int32))), .val (.int (0 : Int32)), .val (.int (0 : Int32)), .val (.int (0 : Int32)), .unset, .unset] [(.ref w_FINALIZED), (.int (7 : Int32)), (.ref b1), (.ref b1)])) rfl rfl (hb hby at_96)
  have V33 : Arv Z h33 b1 k1 (.object "com/example/diarist/diarist/questionnaire/QuestionnaireStatus") (8 : Int32) [(.ref w_PENDING), (.ref w_IN_PROGRESS), (.ref w_SUBMITTED), (.ref w_SUBMITTED), (.ref w_FINALIZED), (.ref w_FINALIZED), (.ref w_FINALIZED), (.ref w_FINALIZED)] .null := Arv.set Arc32 qc32 Sc32 Nc32 Hc32 Gc32 rfl W33 7 rfl (Nat.le_of_ble_eq_true rfl)
  have N33 := Fr.snoc X33 N29 g_b1
  have z35 := Nat.le_trans Z0 E1.1
  have z36 := Nat.le_trans z35 (Keep.of_wr W5).1
  have z37 := Nat.le_trans z36 (Keep.of_wr W9).1
  have z38 := Nat.le_trans z37 (Keep.of_wr W13).1
  have z39 := Nat.le_trans z38 (Keep.of_wr W17).1
  have z40 := Nat.le_trans z39 (Keep.of_wr W21).1
  have z41 := Nat.le_trans z40 (Keep.of_wr W25).1
  have z42 := Nat.le_trans z41 (Keep.of_wr W29).1
  have z43 := Nat.le_trans z42 (Keep.of_wr W33).1
  have o44 := o31.wr W33 g_b1
  obtain ⟨_, _, ⟨T34, L34, k34, n34⟩, -, X34, ⟨Lc34, hQ34, l34, y34, z34⟩, st34⟩ := Jvm.LawKit.callS X33 hx (y := (⟨"com/example/diarist/diarist/questionnaire/QuestionnaireStatus", "of", "(ZZZ)Lcom/example/diarist/diarist/questionnaire/QuestionnaireStatus;"⟩ : MethodName)) hown (mvT hZ (hw _ (List.mem_of_getElem? (i := 12) rfl))) (mvT hZ (hw _ (List.mem_of_getElem? (i := 13) rfl))) (mvT hZ (hw _ (List.mem_of_getElem? (i := 3) rfl))) (mvT hZ (hw _ (List.mem_of_getElem? (i := 14) rfl))) (by decide) (backOf (W := 0) (rm1_ttt l Z a0 hw [] (0 : Int32) (0 : Int32) (0 : Int32) w_PENDING h33 n0 z43 o44 S_PENDING (by decide) (by decide) (by decide)) hZ (hw _ (List.mem_of_getElem? (i := 14) rfl)) (hw _ (List.mem_of_getElem? (i := 3) rfl)) (by decide) (by decide)) (g := (mkF m 103 #[.val (.int pi1), .val (.int (pi1 &&& (7 : Int32))), .val (.int (0 : Int32)), .val (.int (0 : Int32)), .val (.int (0 : Int32)), .val (.ref b1), .unset] [(.int (0 : Int32)), (.int (0 : Int32)), (.int (0 : Int32))])) rfl (by rw [hml]; rfl) (argsL := [(.int (0 : Int32)), (.int (0 : Int32)), (.int (0 : Int32))]) (rest := []) (lenOf pd_0 rfl) rfl (by show 2 * 0 + _ ≤ _; exact Nat.le_of_eq rfl) (hb hby at_103) (fun _ _ => ⟨rfl, e33, (by decide : 1 + 0 ≤ _), (by decide : 8 + 0 ≤ _)⟩)
  dsimp only [Pt.U, Pt.locs, Pt.cells, Pt.slots] at X34 l34 y34 z34 st34 hQ34
  subst l34 y34 z34
  obtain ⟨rfl, N34q, eq34⟩ := hQ34
  have N34 := Fr.app N33 N34q
  have V_c45 := V33
  obtain ⟨c45, Arc45, qc45, Sc45, Nc45, Hc45, Gc45⟩ := V_c45
  have hj46 : (pi1 &&& (7 : Int32)) = (0 : Int32) := own_idx hc8_0 hc20_1 hc32_2 rfl
  have hin46 : ¬ ((pi1 &&& (7 : Int32)) < 0 ∨ c45.slots.size ≤ ((pi1 &&& (7 : Int32))).toNatClampNeg) := by rw [hj46]; exact inb_of Sc45 ⟨by decide, by decide⟩
  obtain ⟨fs, hr, hrun, hended, hW, hsame⟩ := X34.leave (v := some (.int (1 : Int32))) (fun h => by rw [Bd.returns] at h; cases h)
  refine ⟨_, _, pre0 _ ?_, hrun, hended, _, _, rfl, ?_, ⟨_, rfl⟩, hW, hsame.mono (by decide) (by decide)⟩
  · show Steps p.tables e below (s₁.setTop (mkF m 0 #[.val (.int pi1), .unset, .unset, .unset, .unset, .unset, .unset] [])) _
    refine XS.iloadN X0.here hx rfl (hb hby at_0) rfl ?_
    show Steps p.tables e below (s₁.setTop (mkF m 1 #[.val (.int pi1), .unset, .unset, .unset, .unset, .unset, .unset] [(.int pi1)])) _
    refine XS.bipush X0.here hx rfl (hb hby at_1) ?_
    show Steps p.tables e below (s₁.setTop (mkF m 3 #[.val (.int pi1), .unset, .unset, .unset, .unset, .unset, .unset] [(.int (7 : Int32)), (.int pi1)])) _
    refine XS.iand X0.here hx rfl (hb hby at_3) rfl ?_
    show Steps p.tables e below (s₁.setTop (mkF m 4 #[.val (.int pi1), .unset, .unset, .unset, .unset, .unset, .unset] [(.int (pi1 &&& (7 : Int32)))])) _
    refine XS.istoreN X0.here hx rfl (hb hby at_4) rfl (l' := #[.val (.int pi1), .val (.int (pi1 &&& (7 : Int32))), .unset, .unset, .unset, .unset, .unset]) rfl ?_
    show Steps p.tables e below (s₁.setTop (mkF m 5 #[.val (.int pi1), .val (.int (pi1 &&& (7 : Int32))), .unset, .unset, .unset, .unset, .unset] [])) _
    refine XS.iloadN X0.here hx rfl (hb hby at_5) rfl ?_
    show Steps p.tables e below (s₁.setTop (mkF m 6 #[.val (.int pi1), .val (.int (pi1 &&& (7 : Int32))), .unset, .unset, .unset, .unset, .unset] [(.int (pi1 &&& (7 : Int32)))])) _
    refine XS.iconst X0.here hx rfl (hb hby at_6) ?_
    show Steps p.tables e below (s₁.setTop (mkF m 7 #[.val (.int pi1), .val (.int (pi1 &&& (7 : Int32))), .unset, .unset, .unset, .unset, .unset] [(.int (1 : Int32)), (.int (pi1 &&& (7 : Int32)))])) _
    refine XS.iand X0.here hx rfl (hb hby at_7) rfl ?_
    show Steps p.tables e below (s₁.setTop (mkF m 8 #[.val (.int pi1), .val (.int (pi1 &&& (7 : Int32))), .unset, .unset, .unset, .unset, .unset] [(.int ((pi1 &&& (7 : Int32)) &&& (1 : Int32)))])) _
    refine XS.ifYes X0.here hx rfl (pc0 := 8) (pc' := 15) rfl (hb hby at_8) rfl ((if0 _ _).trans (teq hc8_0).1) (by decide) (by decide) ?_
    show Steps p.tables e below (s₁.setTop (mkF m 15 #[.val (.int pi1), .val (.int (pi1 &&& (7 : Int32))), .unset, .unset, .unset, .unset, .unset] [])) _
    refine XS.iconst X0.here hx rfl (hb hby at_15) ?_
    show Steps p.tables e below (s₁.setTop (mkF m 16 #[.val (.int pi1), .val (.int (pi1 &&& (7 : Int32))), .unset, .unset, .unset, .unset, .unset] [(.int (0 : Int32))])) _
    refine XS.istoreN X0.here hx rfl (hb hby at_16) rfl (l' := #[.val (.int pi1), .val (.int (pi1 &&& (7 : Int32))), .val (.int (0 : Int32)), .unset, .unset, .unset, .unset]) rfl ?_
    show Steps p.tables e below (s₁.setTop (mkF m 17 #[.val (.int pi1), .val (.int (pi1 &&& (7 : Int32))), .val (.int (0 : Int32)), .unset, .unset, .unset, .unset] [])) _
    refine XS.iloadN X0.here hx rfl (hb hby at_17) rfl ?_
    show Steps p.tables e below (s₁.setTop (mkF m 18 #[.val (.int pi1), .val (.int (pi1 &&& (7 : Int32))), .val (.int (0 : Int32)), .unset, .unset, .unset, .unset] [(.int (pi1 &&& (7 : Int32)))])) _
    refine XS.iconst X0.here hx rfl (hb hby at_18) ?_
    show Steps p.tables e below (s₁.setTop (mkF m 19 #[.val (.int pi1), .val (.int (pi1 &&& (7 : Int32))), .val (.int (0 : Int32)), .unset, .unset, .unset, .unset] [(.int (2 : Int32)), (.int (pi1 &&& (7 : Int32)))])) _
    refine XS.iand X0.here hx rfl (hb hby at_19) rfl ?_
    show Steps p.tables e below (s₁.setTop (mkF m 20 #[.val (.int pi1), .val (.int (pi1 &&& (7 : Int32))), .val (.int (0 : Int32)), .unset, .unset, .unset, .unset] [(.int ((pi1 &&& (7 : Int32)) &&& (2 : Int32)))])) _
    refine XS.ifYes X0.here hx rfl (pc0 := 20) (pc' := 27) rfl (hb hby at_20) rfl ((if0 _ _).trans (teq hc20_1).1) (by decide) (by decide) ?_
    show Steps p.tables e below (s₁.setTop (mkF m 27 #[.val (.int pi1), .val (.int (pi1 &&& (7 : Int32))), .val (.int (0 : Int32)), .unset, .unset, .unset, .unset] [])) _
    refine XS.iconst X0.here hx rfl (hb hby at_27) ?_
    show Steps p.tables e below (s₁.setTop (mkF m 28 #[.val (.int pi1), .val (.int (pi1 &&& (7 : Int32))), .val (.int (0 : Int32)), .unset, .unset, .unset, .unset] [(.int (0 : Int32))])) _
    refine XS.istoreN X0.here hx rfl (hb hby at_28) rfl (l' := #[.val (.int pi1), .val (.int (pi1 &&& (7 : Int32))), .val (.int (0 : Int32)), .val (.int (0 : Int32)), .unset, .unset, .unset]) rfl ?_
    show Steps p.tables e below (s₁.setTop (mkF m 29 #[.val (.int pi1), .val (.int (pi1 &&& (7 : Int32))), .val (.int (0 : Int32)), .val (.int (0 : Int32)), .unset, .unset, .unset] [])) _
    refine XS.iloadN X0.here hx rfl (hb hby at_29) rfl ?_
    show Steps p.tables e below (s₁.setTop (mkF m 30 #[.val (.int pi1), .val (.int (pi1 &&& (7 : Int32))), .val (.int (0 : Int32)), .val (.int (0 : Int32)), .unset, .unset, .unset] [(.int (pi1 &&& (7 : Int32)))])) _
    refine XS.iconst X0.here hx rfl (hb hby at_30) ?_
    show Steps p.tables e below (s₁.setTop (mkF m 31 #[.val (.int pi1), .val (.int (pi1 &&& (7 : Int32))), .val (.int (0 : Int32)), .val (.int (0 : Int32)), .unset, .unset, .unset] [(.int (4 : Int32)), (.int (pi1 &&& (7 : Int32)))])) _
    refine XS.iand X0.here hx rfl (hb hby at_31) rfl ?_
    show Steps p.tables e below (s₁.setTop (mkF m 32 #[.val (.int pi1), .val (.int (pi1 &&& (7 : Int32))), .val (.int (0 : Int32)), .val (.int (0 : Int32)), .unset, .unset, .unset] [(.int ((pi1 &&& (7 : Int32)) &&& (4 : Int32)))])) _
    refine XS.ifYes X0.here hx rfl (pc0 := 32) (pc' := 39) rfl (hb hby at_32) rfl ((if0 _ _).trans (teq hc32_2).1) (by decide) (by decide) ?_
    show Steps p.tables e below (s₁.setTop (mkF m 39 #[.val (.int pi1), .val (.int (pi1 &&& (7 : Int32))), .val (.int (0 : Int32)), .val (.int (0 : Int32)), .unset, .unset, .unset] [])) _
    refine XS.iconst X0.here hx rfl (hb hby at_39) ?_
    show Steps p.tables e below (s₁.setTop (mkF m 40 #[.val (.int pi1), .val (.int (pi1 &&& (7 : Int32))), .val (.int (0 : Int32)), .val (.int (0 : Int32)), .unset, .unset, .unset] [(.int (0 : Int32))])) _
    refine XS.istore X0.here hx rfl (hb hby at_40) rfl (l' := #[.val (.int pi1), .val (.int (pi1 &&& (7 : Int32))), .val (.int (0 : Int32)), .val (.int (0 : Int32)), .val (.int (0 : Int32)), .unset, .unset]) rfl ?_
    show Steps p.tables e below (s₁.setTop (mkF m 42 #[.val (.int pi1), .val (.int (pi1 &&& (7 : Int32))), .val (.int (0 : Int32)), .val (.int (0 : Int32)), .val (.int (0 : Int32)), .unset, .unset] [])) _
    refine XS.bipush X0.here hx rfl (hb hby at_42) ?_
    show Steps p.tables e below (s₁.setTop (mkF m 44 #[.val (.int pi1), .val (.int (pi1 &&& (7 : Int32))), .val (.int (0 : Int32)), .val (.int (0 : Int32)), .val (.int (0 : Int32)), .unset, .unset] [(.int (8 : Int32))])) _
    refine st1 _ ?_
    show Steps p.tables e below (T1.setTop (mkF m 47 #[.val (.int pi1), .val (.int (pi1 &&& (7 : Int32))), .val (.int (0 : Int32)), .val (.int (0 : Int32)), .val (.int (0 : Int32)), .unset, .unset] [(.ref b1)])) _
    refine XS.dup X1.here hx rfl (hb hby at_47) rfl rfl ?_
    show Steps p.tables e below (T1.setTop (mkF m 48 #[.val (.int pi1), .val (.int (pi1 &&& (7 : Int32))), .val (.int (0 : Int32)), .val (.int (0 : Int32)), .val (.int (0 : Int32)), .unset, .unset] [(.ref b1), (.ref b1)])) _
    refine XS.iconst X1.here hx rfl (hb hby at_48) ?_
    show Steps p.tables e below (T1.setTop (mkF m 49 #[.val (.int pi1), .val (.int (pi1 &&& (7 : Int32))), .val (.int (0 : Int32)), .val (.int (0 : Int32)), .val (.int (0 : Int32)), .unset, .unset] [(.int (0 : Int32)), (.ref b1), (.ref b1)])) _
    refine st2 _ ?_
    show Steps p.tables e below (T2.setTop (mkF m 52 #[.val (.int pi1), .val (.int (pi1 &&& (7 : Int32))), .val (.int (0 : Int32)), .val (.int (0 : Int32)), .val (.int (0 : Int32)), .unset, .unset] [(.ref w_PENDING), (.int (0 : Int32)), (.ref b1), (.ref b1)])) _
    refine st5 _ ?_
    show Steps p.tables e below (T5.setTop (mkF m 53 #[.val (.int pi1), .val (.int (pi1 &&& (7 : Int32))), .val (.int (0 : Int32)), .val (.int (0 : Int32)), .val (.int (0 : Int32)), .unset, .unset] [(.ref b1)])) _
    refine XS.dup X5.here hx rfl (hb hby at_53) rfl rfl ?_
    show Steps p.tables e below (T5.setTop (mkF m 54 #[.val (.int pi1), .val (.int (pi1 &&& (7 : Int32))), .val (.int (0 : Int32)), .val (.int (0 : Int32)), .val (.int (0 : Int32)), .unset, .unset] [(.ref b1), (.ref b1)])) _
    refine XS.iconst X5.here hx rfl (hb hby at_54) ?_
    show Steps p.tables e below (T5.setTop (mkF m 55 #[.val (.int pi1), .val (.int (pi1 &&& (7 : Int32))), .val (.int (0 : Int32)), .val (.int (0 : Int32)), .val (.int (0 : Int32)), .unset, .unset] [(.int (1 : Int32)), (.ref b1), (.ref b1)])) _
    refine st6 _ ?_
    show Steps p.tables e below (T6.setTop (mkF m 58 #[.val (.int pi1), .val (.int (pi1 &&& (7 : Int32))), .val (.int (0 : Int32)), .val (.int (0 : Int32)), .val (.int (0 : Int32)), .unset, .unset] [(.ref w_IN_PROGRESS), (.int (1 : Int32)), (.ref b1), (.ref b1)])) _
    refine st9 _ ?_
    show Steps p.tables e below (T9.setTop (mkF m 59 #[.val (.int pi1), .val (.int (pi1 &&& (7 : Int32))), .val (.int (0 : Int32)), .val (.int (0 : Int32)), .val (.int (0 : Int32)), .unset, .unset] [(.ref b1)])) _
    refine XS.dup X9.here hx rfl (hb hby at_59) rfl rfl ?_
    show Steps p.tables e below (T9.setTop (mkF m 60 #[.val (.int pi1), .val (.int (pi1 &&& (7 : Int32))), .val (.int (0 : Int32)), .val (.int (0 : Int32)), .val (.int (0 : Int32)), .unset, .unset] [(.ref b1), (.ref b1)])) _
    refine XS.iconst X9.here hx rfl (hb hby at_60) ?_
    show Steps p.tables e below (T9.setTop (mkF m 61 #[.val (.int pi1), .val (.int (pi1 &&& (7 : Int32))), .val (.int (0 : Int32)), .val (.int (0 : Int32)), .val (.int (0 : Int32)), .unset, .unset] [(.int (2 : Int32)), (.ref b1), (.ref b1)])) _
    refine st10 _ ?_
    show Steps p.tables e below (T10.setTop (mkF m 64 #[.val (.int pi1), .val (.int (pi1 &&& (7 : Int32))), .val (.int (0 : Int32)), .val (.int (0 : Int32)), .val (.int (0 : Int32)), .unset, .unset] [(.ref w_SUBMITTED), (.int (2 : Int32)), (.ref b1), (.ref b1)])) _
    refine st13 _ ?_
    show Steps p.tables e below (T13.setTop (mkF m 65 #[.val (.int pi1), .val (.int (pi1 &&& (7 : Int32))), .val (.int (0 : Int32)), .val (.int (0 : Int32)), .val (.int (0 : Int32)), .unset, .unset] [(.ref b1)])) _
    refine XS.dup X13.here hx rfl (hb hby at_65) rfl rfl ?_
    show Steps p.tables e below (T13.setTop (mkF m 66 #[.val (.int pi1), .val (.int (pi1 &&& (7 : Int32))), .val (.int (0 : Int32)), .val (.int (0 : Int32)), .val (.int (0 : Int32)), .unset, .unset] [(.ref b1), (.ref b1)])) _
    refine XS.iconst X13.here hx rfl (hb hby at_66) ?_
    show Steps p.tables e below (T13.setTop (mkF m 67 #[.val (.int pi1), .val (.int (pi1 &&& (7 : Int32))), .val (.int (0 : Int32)), .val (.int (0 : Int32)), .val (.int (0 : Int32)), .unset, .unset] [(.int (3 : Int32)), (.ref b1), (.ref b1)])) _
    refine st14 _ ?_
    show Steps p.tables e below (T14.setTop (mkF m 70 #[.val (.int pi1), .val (.int (pi1 &&& (7 : Int32))), .val (.int (0 : Int32)), .val (.int (0 : Int32)), .val (.int (0 : Int32)), .unset, .unset] [(.ref w_SUBMITTED), (.int (3 : Int32)), (.ref b1), (.ref b1)])) _
    refine st17 _ ?_
    show Steps p.tables e below (T17.setTop (mkF m 71 #[.val (.int pi1), .val (.int (pi1 &&& (7 : Int32))), .val (.int (0 : Int32)), .val (.int (0 : Int32)), .val (.int (0 : Int32)), .unset, .unset] [(.ref b1)])) _
    refine XS.dup X17.here hx rfl (hb hby at_71) rfl rfl ?_
    show Steps p.tables e below (T17.setTop (mkF m 72 #[.val (.int pi1), .val (.int (pi1 &&& (7 : Int32))), .val (.int (0 : Int32)), .val (.int (0 : Int32)), .val (.int (0 : Int32)), .unset, .unset] [(.ref b1), (.ref b1)])) _
    refine XS.iconst X17.here hx rfl (hb hby at_72) ?_
    show Steps p.tables e below (T17.setTop (mkF m 73 #[.val (.int pi1), .val (.int (pi1 &&& (7 : Int32))), .val (.int (0 : Int32)), .val (.int (0 : Int32)), .val (.int (0 : Int32)), .unset, .unset] [(.int (4 : Int32)), (.ref b1), (.ref b1)])) _
    refine st18 _ ?_
    show Steps p.tables e below (T18.setTop (mkF m 76 #[.val (.int pi1), .val (.int (pi1 &&& (7 : Int32))), .val (.int (0 : Int32)), .val (.int (0 : Int32)), .val (.int (0 : Int32)), .unset, .unset] [(.ref w_FINALIZED), (.int (4 : Int32)), (.ref b1), (.ref b1)])) _
    refine st21 _ ?_
    show Steps p.tables e below (T21.setTop (mkF m 77 #[.val (.int pi1), .val (.int (pi1 &&& (7 : Int32))), .val (.int (0 : Int32)), .val (.int (0 : Int32)), .val (.int (0 : Int32)), .unset, .unset] [(.ref b1)])) _
    refine XS.dup X21.here hx rfl (hb hby at_77) rfl rfl ?_
    show Steps p.tables e below (T21.setTop (mkF m 78 #[.val (.int pi1), .val (.int (pi1 &&& (7 : Int32))), .val (.int (0 : Int32)), .val (.int (0 : Int32)), .val (.int (0 : Int32)), .unset, .unset] [(.ref b1), (.ref b1)])) _
    refine XS.iconst X21.here hx rfl (hb hby at_78) ?_
    show Steps p.tables e below (T21.setTop (mkF m 79 #[.val (.int pi1), .val (.int (pi1 &&& (7 : Int32))), .val (.int (0 : Int32)), .val (.int (0 : Int32)), .val (.int (0 : Int32)), .unset, .unset] [(.int (5 : Int32)), (.ref b1), (.ref b1)])) _
    refine st22 _ ?_
    show Steps p.tables e below (T22.setTop (mkF m 82 #[.val (.int pi1), .val (.int (pi1 &&& (7 : Int32))), .val (.int (0 : Int32)), .val (.int (0 : Int32)), .val (.int (0 : Int32)), .unset, .unset] [(.ref w_FINALIZED), (.int (5 : Int32)), (.ref b1), (.ref b1)])) _
    refine st25 _ ?_
    show Steps p.tables e below (T25.setTop (mkF m 83 #[.val (.int pi1), .val (.int (pi1 &&& (7 : Int32))), .val (.int (0 : Int32)), .val (.int (0 : Int32)), .val (.int (0 : Int32)), .unset, .unset] [(.ref b1)])) _
    refine XS.dup X25.here hx rfl (hb hby at_83) rfl rfl ?_
    show Steps p.tables e below (T25.setTop (mkF m 84 #[.val (.int pi1), .val (.int (pi1 &&& (7 : Int32))), .val (.int (0 : Int32)), .val (.int (0 : Int32)), .val (.int (0 : Int32)), .unset, .unset] [(.ref b1), (.ref b1)])) _
    refine XS.bipush X25.here hx rfl (hb hby at_84) ?_
    show Steps p.tables e below (T25.setTop (mkF m 86 #[.val (.int pi1), .val (.int (pi1 &&& (7 : Int32))), .val (.int (0 : Int32)), .val (.int (0 : Int32)), .val (.int (0 : Int32)), .unset, .unset] [(.int (6 : Int32)), (.ref b1), (.ref b1)])) _
    refine st26 _ ?_
    show Steps p.tables e below (T26.setTop (mkF m 89 #[.val (.int pi1), .val (.int (pi1 &&& (7 : Int32))), .val (.int (0 : Int32)), .val (.int (0 : Int32)), .val (.int (0 : Int32)), .unset, .unset] [(.ref w_FINALIZED), (.int (6 : Int32)), (.ref b1), (.ref b1)])) _
    refine st29 _ ?_
    show Steps p.tables e below (T29.setTop (mkF m 90 #[.val (.int pi1), .val (.int (pi1 &&& (7 : Int32))), .val (.int (0 : Int32)), .val (.int (0 : Int32)), .val (.int (0 : Int32)), .unset, .unset] [(.ref b1)])) _
    refine XS.dup X29.here hx rfl (hb hby at_90) rfl rfl ?_
    show Steps p.tables e below (T29.setTop (mkF m 91 #[.val (.int pi1), .val (.int (pi1 &&& (7 : Int32))), .val (.int (0 : Int32)), .val (.int (0 : Int32)), .val (.int (0 : Int32)), .unset, .unset] [(.ref b1), (.ref b1)])) _
    refine XS.bipush X29.here hx rfl (hb hby at_91) ?_
    show Steps p.tables e below (T29.setTop (mkF m 93 #[.val (.int pi1), .val (.int (pi1 &&& (7 : Int32))), .val (.int (0 : Int32)), .val (.int (0 : Int32)), .val (.int (0 : Int32)), .unset, .unset] [(.int (7 : Int32)), (.ref b1), (.ref b1)])) _
    refine st30 _ ?_
    show Steps p.tables e below (T30.setTop (mkF m 96 #[.val (.int pi1), .val (.int (pi1 &&& (7 : Int32))), .val (.int (0 : Int32)), .val (.int (0 : Int32)), .val (.int (0 : Int32)), .unset, .unset] [(.ref w_FINALIZED), (.int (7 : Int32)), (.ref b1), (.ref b1)])) _
    refine st33 _ ?_
    show Steps p.tables e below (T33.setTop (mkF m 97 #[.val (.int pi1), .val (.int (pi1 &&& (7 : Int32))), .val (.int (0 : Int32)), .val (.int (0 : Int32)), .val (.int (0 : Int32)), .unset, .unset] [(.ref b1)])) _
    refine XS.astore X33.here hx rfl (hb hby at_97) rfl rfl (l' := #[.val (.int pi1), .val (.int (pi1 &&& (7 : Int32))), .val (.int (0 : Int32)), .val (.int (0 : Int32)), .val (.int (0 : Int32)), .val (.ref b1), .unset]) rfl ?_
    show Steps p.tables e below (T33.setTop (mkF m 99 #[.val (.int pi1), .val (.int (pi1 &&& (7 : Int32))), .val (.int (0 : Int32)), .val (.int (0 : Int32)), .val (.int (0 : Int32)), .val (.ref b1), .unset] [])) _
    refine XS.iloadN X33.here hx rfl (hb hby at_99) rfl ?_
    show Steps p.tables e below (T33.setTop (mkF m 100 #[.val (.int pi1), .val (.int (pi1 &&& (7 : Int32))), .val (.int (0 : Int32)), .val (.int (0 : Int32)), .val (.int (0 : Int32)), .val (.ref b1), .unset] [(.int (0 : Int32))])) _
    refine XS.iloadN X33.here hx rfl (hb hby at_100) rfl ?_
    show Steps p.tables e below (T33.setTop (mkF m 101 #[.val (.int pi1), .val (.int (pi1 &&& (7 : Int32))), .val (.int (0 : Int32)), .val (.int (0 : Int32)), .val (.int (0 : Int32)), .val (.ref b1), .unset] [(.int (0 : Int32)), (.int (0 : Int32))])) _
    refine XS.iload X33.here hx rfl (hb hby at_101) rfl ?_
    show Steps p.tables e below (T33.setTop (mkF m 103 #[.val (.int pi1), .val (.int (pi1 &&& (7 : Int32))), .val (.int (0 : Int32)), .val (.int (0 : Int32)), .val (.int (0 : Int32)), .val (.ref b1), .unset] [(.int (0 : Int32)), (.int (0 : Int32)), (.int (0 : Int32))])) _
    refine st34 _ ?_
    show Steps p.tables e below (T34.setTop (mkF m 106 #[.val (.int pi1), .val (.int (pi1 &&& (7 : Int32))), .val (.int (0 : Int32)), .val (.int (0 : Int32)), .val (.int (0 : Int32)), .val (.ref b1), .unset] [(.ref w_PENDING)])) _
    refine XS.astore X34.here hx rfl (hb hby at_106) rfl rfl (l' := #[.val (.int pi1), .val (.int (pi1 &&& (7 : Int32))), .val (.int (0 : Int32)), .val (.int (0 : Int32)), .val (.int (0 : Int32)), .val (.ref b1), .val (.ref w_PENDING)]) rfl ?_
    show Steps p.tables e below (T34.setTop (mkF m 108 #[.val (.int pi1), .val (.int (pi1 &&& (7 : Int32))), .val (.int (0 : Int32)), .val (.int (0 : Int32)), .val (.int (0 : Int32)), .val (.ref b1), .val (.ref w_PENDING)] [])) _
    refine XS.aload X34.here hx rfl (hb hby at_108) rfl rfl ?_
    show Steps p.tables e below (T34.setTop (mkF m 110 #[.val (.int pi1), .val (.int (pi1 &&& (7 : Int32))), .val (.int (0 : Int32)), .val (.int (0 : Int32)), .val (.int (0 : Int32)), .val (.ref b1), .val (.ref w_PENDING)] [(.ref w_PENDING)])) _
    refine XS.aload X34.here hx rfl (hb hby at_110) rfl rfl ?_
    show Steps p.tables e below (T34.setTop (mkF m 112 #[.val (.int pi1), .val (.int (pi1 &&& (7 : Int32))), .val (.int (0 : Int32)), .val (.int (0 : Int32)), .val (.int (0 : Int32)), .val (.ref b1), .val (.ref w_PENDING)] [(.ref b1), (.ref w_PENDING)])) _
    refine XS.iloadN X34.here hx rfl (hb hby at_112) rfl ?_
    show Steps p.tables e below (T34.setTop (mkF m 113 #[.val (.int pi1), .val (.int (pi1 &&& (7 : Int32))), .val (.int (0 : Int32)), .val (.int (0 : Int32)), .val (.int (0 : Int32)), .val (.ref b1), .val (.ref w_PENDING)] [(.int (pi1 &&& (7 : Int32))), (.ref b1), (.ref w_PENDING)])) _
    refine X34.aaload hx (j := (pi1 &&& (7 : Int32))) (v := (.ref w_PENDING)) (by rw [eq34]; exact Arc45.1) (State.isArrayOf_alike hZ.alike Arc45.2.1) rfl Arc45.2.2 hin46 (Has.at Hc45 hin46 (by rw [hj46]; rfl)) (g := (mkF m 113 #[.val (.int pi1), .val (.int (pi1 &&& (7 : Int32))), .val (.int (0 : Int32)), .val (.int (0 : Int32)), .val (.int (0 : Int32)), .val (.ref b1), .val (.ref w_PENDING)] [(.int (pi1 &&& (7 : Int32))), (.ref b1), (.ref w_PENDING)])) rfl rfl (hb hby at_113) _ ?_
    show Steps p.tables e below (T34.setTop (mkF m 114 #[.val (.int pi1), .val (.int (pi1 &&& (7 : Int32))), .val (.int (0 : Int32)), .val (.int (0 : Int32)), .val (.int (0 : Int32)), .val (.ref b1), .val (.ref w_PENDING)] [(.ref w_PENDING), (.ref w_PENDING)])) _
    refine Jvm.RoadKit.acmp (g := (mkF m 114 #[.val (.int pi1), .val (.int (pi1 &&& (7 : Int32))), .val (.int (0 : Int32)), .val (.int (0 : Int32)), .val (.int (0 : Int32)), .val (.ref b1), .val (.ref w_PENDING)] [(.ref w_PENDING), (.ref w_PENDING)])) X34 hx rfl rfl rfl (pc0 := 114) (pc' := 117) (same := true) rfl (hb hby at_114) rfl (decide_eq_true rfl) (by decide) (by decide) ?_
    show Steps p.tables e below (T34.setTop (mkF m 117 #[.val (.int pi1), .val (.int (pi1 &&& (7 : Int32))), .val (.int (0 : Int32)), .val (.int (0 : Int32)), .val (.int (0 : Int32)), .val (.ref b1), .val (.ref w_PENDING)] [])) _
    refine XS.iconst X34.here hx rfl (hb hby at_117) ?_
    show Steps p.tables e below (T34.setTop (mkF m 118 #[.val (.int pi1), .val (.int (pi1 &&& (7 : Int32))), .val (.int (0 : Int32)), .val (.int (0 : Int32)), .val (.int (0 : Int32)), .val (.ref b1), .val (.ref w_PENDING)] [(.int (1 : Int32))])) _
    refine XS.goto X34.here hx rfl (pc0 := 118) (pc' := 122) rfl (hb hby at_118) (by decide) (by decide) ?_
    show Steps p.tables e below (T34.setTop (mkF m 122 #[.val (.int pi1), .val (.int (pi1 &&& (7 : Int32))), .val (.int (0 : Int32)), .val (.int (0 : Int32)), .val (.int (0 : Int32)), .val (.ref b1), .val (.ref w_PENDING)] [(.int (1 : Int32))])) _
    exact retN X34 hx (t := .boolean) Bd.returns (by simp) (hb hby at_122) hr
  · exact ⟨rfl, N34⟩
set_option maxRecDepth 65536 in
set_option maxHeartbeats 40000000 in
theorem rm0_ttf (l : Launch) (Z : State) (a0 : Array Value) (hw : ∀ d ∈ tables_1, d.before a0 Z = true) (ws : List Jvm.Cond) (pi1 : Int32) (w_PENDING : Addr) (w_IN_PROGRESS : Addr) (w_SUBMITTED : Addr) (w_FINALIZED : Addr) (h0 : Heap) (n0 : Nat) (Z0 : n0 ≤ h0.size) (O0 : Old Z n0 h0) (S_PENDING : Sta Z Z.heap "com/example/diarist/diarist/questionnaire/QuestionnaireStatus" "PENDING" "Lcom/example/diarist/diarist/questionnaire/QuestionnaireStatus;" (.ref w_PENDING)) (E_w_PENDING : Exa Z Z.heap w_PENDING "com/example/diarist/diarist/questionnaire/QuestionnaireStatus") (S_IN_PROGRESS : Sta Z Z.heap "com/example/diarist/diarist/questionnaire/QuestionnaireStatus" "IN_PROGRESS" "Lcom/example/diarist/diarist/questionnaire/QuestionnaireStatus;" (.ref w_IN_PROGRESS)) (E_w_IN_PROGRESS : Exa Z Z.heap w_IN_PROGRESS "com/example/diarist/diarist/questionnaire/QuestionnaireStatus") (S_SUBMITTED : Sta Z Z.heap "com/example/diarist/diarist/questionnaire/QuestionnaireStatus" "SUBMITTED" "Lcom/example/diarist/diarist/questionnaire/QuestionnaireStatus;" (.ref w_SUBMITTED)) (E_w_SUBMITTED : Exa Z Z.heap w_SUBMITTED "com/example/diarist/diarist/questionnaire/QuestionnaireStatus") (S_FINALIZED : Sta Z Z.heap "com/example/diarist/diarist/questionnaire/QuestionnaireStatus" "FINALIZED" "Lcom/example/diarist/diarist/questionnaire/QuestionnaireStatus;" (.ref w_FINALIZED)) (E_w_FINALIZED : Exa Z Z.heap w_FINALIZED "com/example/diarist/diarist/questionnaire/QuestionnaireStatus") (hc8_0 : ((pi1 &&& (7 : Int32)) &&& (1 : Int32)) = (0 : Int32)) (hc20_1 : ((pi1 &&& (7 : Int32)) &&& (2 : Int32)) = (0 : Int32)) (hc32_2 : ¬ (((pi1 &&& (7 : Int32)) &&& (4 : Int32)) = (0 : Int32))) :
    MetFree l x (head1 (Jvm.Cond.code x code maxLocals ret :: ws) room_1) (fun a U => a = #[(.int pi1)] ∧ Z.Warmed39 U.vm ∧ U.heap = h0) (fun _ _ _ _ _ => True) (fun _ U o U' => ∃ v L, o = .returned v ∧ Q0 v L n0 ∧ FrameEnd U o U' L room_1.cells room_1.slots) := by
  refine MetFree.of_bodySF (plainFor_of_name pn_0) hisR ?_
  intro p e s m args below meth c s₁ Bd hml0 hP hK
  obtain ⟨rfl, hZ, hh⟩ := hP
  have hx := Bd.exec
  have hby := Bd.bytes
  have hml : c.maxLocals = 7 := hml0
  have hown : s.vm.findClass "com/example/diarist/diarist/questionnaire/QuestionnaireStatusOfPinLaw" = some m.cls := findClass_of_methodNamed Bd.named
  have hnm := (name_of_methodNamed Bd.named Bd.method).1
  have X0 : Stand p l e room_1 s m #[(.int pi1)] below meth c s₁ [] 0 0 := Stand.of_body Bd
  have e0 : s₁.heap = h0 := by rw [← hh, Bd.state]; rfl
  have N0 := Fr.nil n0
  have pre0 : ∀ t, Steps p.tables e below (s₁.setTop (mkF m 0 #[.val (.int pi1), .unset, .unset, .unset, .unset, .unset, .unset] [])) t → Steps p.tables e below (s₁.setTop (entryFrame m #[(.int pi1)] maxLocals)) t := fun t k => castTop (ef_0 m pi1) k
  obtain ⟨T1, h1, k1, X1, e1, E1, A1, O1, st1⟩ := newR X0 hx hZ hown (hw _ (List.mem_of_getElem? (i := 0) rfl)) (hw _ (List.mem_of_getElem? (i := 1) rfl)) e0 (g := (mkF m 44 #[.val (.int pi1), .val (.int (pi1 &&& (7 : Int32))), .val (.int (0 : Int32)), .val (.int (0 : Int32)), .val (.int (1 : Int32)), .unset, .unset] [(.int (8 : Int32))])) rfl (hb hby at_44) rfl (by decide) (cap := 8) (by decide) (by decide) (by decide) (by decide)
  obtain ⟨b1, g1⟩ : ∃ z, z = h0.size := ⟨_, rfl⟩
  rw [← g1] at A1 st1
  have V1 : Arv Z h1 b1 k1 (.object "com/example/diarist/diarist/questionnaire/QuestionnaireStatus") (8 : Int32) [.null, .null, .null, .null, .null, .null, .null, .null] .null := (Arv.new A1 (by decide)).pad (pad_rep [] .null 8)
  have o3 := O0.ext E1
  obtain ⟨T2, X2, e2, st2⟩ := getS2 X1 hx hZ hown (host := "") (Or.inl (hw _ (List.mem_of_getElem? (i := 2) rfl))) Via.refl e1 (S_PENDING.ext o3.2) (g := (mkF m 49 #[.val (.int pi1), .val (.int (pi1 &&& (7 : Int32))), .val (.int (0 : Int32)), .val (.int (0 : Int32)), .val (.int (1 : Int32)), .unset, .unset] [(.int (0 : Int32)), (.ref b1), (.ref b1)])) rfl (hb hby at_49)
  have g_b1 : n0 ≤ b1 := Nat.le_trans Z0 (Nat.le_of_eq g1.symm)
  have V_c4 := V1
  obtain ⟨c4, Arc4, qc4, Sc4, Nc4, Hc4, Gc4⟩ := V_c4
  have hin5 : ¬ ((0 : Int32) < 0 ∨ c4.slots.size ≤ ((0 : Int32)).toNatClampNeg) := inb_of Sc4 ⟨by decide, by decide⟩
  obtain ⟨T5, h5, X5, e5, W5, st5⟩ := stR X2 hx hZ e2 Arc4 (j := (0 : Int32)) hin5 rfl (Sto.ofV Arc4 qc4 O1 (Ins.self (E_w_PENDING.ext o3.2))) (g := (mkF m 52 #[.val (.int pi1), .val (.int (pi1 &&& (7 : Int32))), .val (.int (0 : Int32)), .val (.int (0 : Int32)), .val (.int (1 : Int32)), .unset, .unset] [(.ref w_PENDING), (.int (0 : Int32)), (.ref b1), (.ref b1)])) rfl rfl (hb hby at_52)
  have V5 : Arv Z h5 b1 k1 (.object "com/example/diarist/diarist/questionnaire/QuestionnaireStatus") (8 : Int32) [(.ref w_PENDING), .null, .null, .null, .null, .null, .null, .null] .null := Arv.set Arc4 qc4 Sc4 Nc4 Hc4 Gc4 rfl W5 0 rfl (Nat.le_of_ble_eq_true rfl)
  have N5 := Fr.snoc X5 N0 g_b1
  have o7 := o3.wr W5 g_b1
  obtain ⟨T6, X6, e6, st6⟩ := getS2 X5 hx hZ hown (host := "") (Or.inl (hw _ (List.mem_of_getElem? (i := 6) rfl))) Via.refl e5 (S_IN_PROGRESS.ext o7.2) (g := (mkF m 55 #[.val (.int pi1), .val (.int (pi1 &&& (7 : Int32))), .val (.int (0 : Int32)), .val (.int (0 : Int32)), .val (.int (1 : Int32)), .unset, .unset] [(.int (1 : Int32)), (.ref b1), (.ref b1)])) rfl (hb hby at_55)
  have V_c8 := V5
  obtain ⟨c8, Arc8, qc8, Sc8, Nc8, Hc8, Gc8⟩ := V_c8
  have hin9 : ¬ ((1 : Int32) < 0 ∨ c8.slots.size ≤ ((1 : Int32)).toNatClampNeg) := inb_of Sc8 ⟨by decide, by decide⟩
  obtain ⟨T9, h9, X9, e9, W9, st9⟩ := stR X6 hx hZ e6 Arc8 (j := (1 : Int32)) hin9 rfl (Sto.ofV Arc8 qc8 O1 (Ins.self (E_w_IN_PROGRESS.ext o7.2))) (g := (mkF m 58 #[.val (.int pi1), .val (.int (pi1 &&& (7 : Int32))), .val (.int (0 : Int32)), .val (.int (0 : Int32)), .val (.int (1 : Int32)), .unset, .unset] [(.ref w_IN_PROGRESS), (.int (1 : Int32)), (.ref b1), (.ref b1)])) rfl rfl (hb hby at_58)
  have V9 : Arv Z h9 b1 k1 (.object "com/example/diarist/diarist/questionnaire/QuestionnaireStatus") (8 : Int32) [(.ref w_PENDING), (.ref w_IN_PROGRESS), .null, .null, .null, .null, .null, .null] .null := Arv.set Arc8 qc8 Sc8 Nc8 Hc8 Gc8 rfl W9 1 rfl (Nat.le_of_ble_eq_true rfl)
  have N9 := Fr.snoc X9 N5 g_b1
  have o11 := o7.wr W9 g_b1
  obtain ⟨T10, X10, e10, st10⟩ := getS2 X9 hx hZ hown (host := "") (Or.inl (hw _ (List.mem_of_getElem? (i := 8) rfl))) Via.refl e9 (S_SUBMITTED.ext o11.2) (g := (mkF m 61 #[.val (.int pi1), .val (.int (pi1 &&& (7 : Int32))), .val (.int (0 : Int32)), .val (.int (0 : Int32)), .val (.int (1 : Int32)), .unset, .unset] [(.int (2 : Int32)), (.ref b1), (.ref b1)])) rfl (hb hby at_61)
  have V_c12 := V9
  obtain ⟨c12, Arc12, qc12, Sc12, Nc12, Hc12, Gc12⟩ := V_c12
  have hin13 : ¬ ((2 : Int32) < 0 ∨ c12.slots.size ≤ ((2 : Int32)).toNatClampNeg) := inb_of Sc12 ⟨by decide, by decide⟩
  obtain ⟨T13, h13, X13, e13, W13, st13⟩ := stR X10 hx hZ e10 Arc12 (j := (2 : Int32)) hin13 rfl (Sto.ofV Arc12 qc12 O1 (Ins.self (E_w_SUBMITTED.ext o11.2))) (g := (mkF m 64 #[.val (.int pi1), .val (.int (pi1 &&& (7 : Int32))), .val (.int (0 : Int32)), .val (.int (0 : Int32)), .val (.int (1 : Int32)), .unset, .unset] [(.ref w_SUBMITTED), (.int (2 : Int32)), (.ref b1), (.ref b1)])) rfl rfl (hb hby at_64)
  have V13 : Arv Z h13 b1 k1 (.object "com/example/diarist/diarist/questionnaire/QuestionnaireStatus") (8 : Int32) [(.ref w_PENDING), (.ref w_IN_PROGRESS), (.ref w_SUBMITTED), .null, .null, .null, .null, .null] .null := Arv.set Arc12 qc12 Sc12 Nc12 Hc12 Gc12 rfl W13 2 rfl (Nat.le_of_ble_eq_true rfl)
  have N13 := Fr.snoc X13 N9 g_b1
  have o15 := o11.wr W13 g_b1
  obtain ⟨T14, X14, e14, st14⟩ := getS2 X13 hx hZ hown (host := "") (Or.inl (hw _ (List.mem_of_getElem? (i := 8) rfl))) Via.refl e13 (S_SUBMITTED.ext o15.2) (g := (mkF m 67 #[.val (.int pi1), .val (.int (pi1 &&& (7 : Int32))), .val (.int (0 : Int32)), .val (.int (0 : Int32)), .val (.int (1 : Int32)), .unset, .unset] [(.int (3 : Int32)), (.ref b1), (.ref b1)])) rfl (hb hby at_67)
  have V_c16 := V13
  obtain ⟨c16, Arc16, qc16, Sc16, Nc16, Hc16, Gc16⟩ := V_c16
  have hin17 : ¬ ((3 : Int32) < 0 ∨ c16.slots.size ≤ ((3 : Int32)).toNatClampNeg) := inb_of Sc16 ⟨by decide, by decide⟩
  obtain ⟨T17, h17, X17, e17, W17, st17⟩ := stR X14 hx hZ e14 Arc16 (j := (3 : Int32)) hin17 rfl (Sto.ofV Arc16 qc16 O1 (Ins.self (E_w_SUBMITTED.ext o15.2))) (g := (mkF m 70 #[.val (.int pi1), .val (.int (pi1 &&& (7 : Int32))), .val (.int (0 : Int32)), .val (.int (0 : Int32)), .val (.int (1 : Int32)), .unset, .unset] [(.ref w_SUBMITTED), (.int (3 : Int32)), (.ref b1), (.ref b1)])) rfl rfl (hb hby at_70)
  have V17 : Arv Z h17 b1 k1 (.object "com/example/diarist/diarist/questionnaire/QuestionnaireStatus") (8 : Int32) [(.ref w_PENDING), (.ref w_IN_PROGRESS), (.ref w_SUBMITTED), (.ref w_SUBMITTED), .null, .null, .null, .null] .null := Arv.set Arc16 qc16 Sc16 Nc16 Hc16 Gc16 rfl W17 3 rfl (Nat.le_of_ble_eq_true rfl)
  have N17 := Fr.snoc X17 N13 g_b1
  have o19 := o15.wr W17 g_b1
  obtain ⟨T18, X18, e18, st18⟩ := getS2 X17 hx hZ hown (host := "") (Or.inl (hw _ (List.mem_of_getElem? (i := 10) rfl))) Via.refl e17 (S_FINALIZED.ext o19.2) (g := (mkF m 73 #[.val (.int pi1), .val (.int (pi1 &&& (7 : Int32))), .val (.int (0 : Int32)), .val (.int (0 : Int32)), .val (.int (1 : Int32)), .unset, .unset] [(.int (4 : Int32)), (.ref b1), (.ref b1)])) rfl (hb hby at_73)
  have V_c20 := V17
  obtain ⟨c20, Arc20, qc20, Sc20, Nc20, Hc20, Gc20⟩ := V_c20
  have hin21 : ¬ ((4 : Int32) < 0 ∨ c20.slots.size ≤ ((4 : Int32)).toNatClampNeg) := inb_of Sc20 ⟨by decide, by decide⟩
  obtain ⟨T21, h21, X21, e21, W21, st21⟩ := stR X18 hx hZ e18 Arc20 (j := (4 : Int32)) hin21 rfl (Sto.ofV Arc20 qc20 O1 (Ins.self (E_w_FINALIZED.ext o19.2))) (g := (mkF m 76 #[.val (.int pi1), .val (.int (pi1 &&& (7 : Int32))), .val (.int (0 : Int32)), .val (.int (0 : Int32)), .val (.int (1 : Int32)), .unset, .unset] [(.ref w_FINALIZED), (.int (4 : Int32)), (.ref b1), (.ref b1)])) rfl rfl (hb hby at_76)
  have V21 : Arv Z h21 b1 k1 (.object "com/example/diarist/diarist/questionnaire/QuestionnaireStatus") (8 : Int32) [(.ref w_PENDING), (.ref w_IN_PROGRESS), (.ref w_SUBMITTED), (.ref w_SUBMITTED), (.ref w_FINALIZED), .null, .null, .null] .null := Arv.set Arc20 qc20 Sc20 Nc20 Hc20 Gc20 rfl W21 4 rfl (Nat.le_of_ble_eq_true rfl)
  have N21 := Fr.snoc X21 N17 g_b1
  have o23 := o19.wr W21 g_b1
  obtain ⟨T22, X22, e22, st22⟩ := getS2 X21 hx hZ hown (host := "") (Or.inl (hw _ (List.mem_of_getElem? (i := 10) rfl))) Via.refl e21 (S_FINALIZED.ext o23.2) (g := (mkF m 79 #[.val (.int pi1), .val (.int (pi1 &&& (7 : Int32))), .val (.int (0 : Int32)), .val (.int (0 : Int32)), .val (.int (1 : Int32)), .unset, .unset] [(.int (5 : Int32)), (.ref b1), (.ref b1)])) rfl (hb hby at_79)
  have V_c24 := V21
  obtain ⟨c24, Arc24, qc24, Sc24, Nc24, Hc24, Gc24⟩ := V_c24
  have hin25 : ¬ ((5 : Int32) < 0 ∨ c24.slots.size ≤ ((5 : Int32)).toNatClampNeg) := inb_of Sc24 ⟨by decide, by decide⟩
  obtain ⟨T25, h25, X25, e25, W25, st25⟩ := stR X22 hx hZ e22 Arc24 (j := (5 : Int32)) hin25 rfl (Sto.ofV Arc24 qc24 O1 (Ins.self (E_w_FINALIZED.ext o23.2))) (g := (mkF m 82 #[.val (.int pi1), .val (.int (pi1 &&& (7 : Int32))), .val (.int (0 : Int32)), .val (.int (0 : Int32)), .val (.int (1 : Int32)), .unset, .unset] [(.ref w_FINALIZED), (.int (5 : Int32)), (.ref b1), (.ref b1)])) rfl rfl (hb hby at_82)
  have V25 : Arv Z h25 b1 k1 (.object "com/example/diarist/diarist/questionnaire/QuestionnaireStatus") (8 : Int32) [(.ref w_PENDING), (.ref w_IN_PROGRESS), (.ref w_SUBMITTED), (.ref w_SUBMITTED), (.ref w_FINALIZED), (.ref w_FINALIZED), .null, .null] .null := Arv.set Arc24 qc24 Sc24 Nc24 Hc24 Gc24 rfl W25 5 rfl (Nat.le_of_ble_eq_true rfl)
  have N25 := Fr.snoc X25 N21 g_b1
  have o27 := o23.wr W25 g_b1
  obtain ⟨T26, X26, e26, st26⟩ := getS2 X25 hx hZ hown (host := "") (Or.inl (hw _ (List.mem_of_getElem? (i := 10) rfl))) Via.refl e25 (S_FINALIZED.ext o27.2) (g := (mkF m 86 #[.val (.int pi1), .val (.int (pi1 &&& (7 : Int32))), .val (.int (0 : Int32)), .val (.int (0 : Int32)), .val (.int (1 : Int32)), .unset, .unset] [(.int (6 : Int32)), (.ref b1), (.ref b1)])) rfl (hb hby at_86)
  have V_c28 := V25
  obtain ⟨c28, Arc28, qc28, Sc28, Nc28, Hc28, Gc28⟩ := V_c28
  have hin29 : ¬ ((6 : Int32) < 0 ∨ c28.slots.size ≤ ((6 : Int32)).toNatClampNeg) := inb_of Sc28 ⟨by decide, by decide⟩
  obtain ⟨T29, h29, X29, e29, W29, st29⟩ := stR X26 hx hZ e26 Arc28 (j := (6 : Int32)) hin29 rfl (Sto.ofV Arc28 qc28 O1 (Ins.self (E_w_FINALIZED.ext o27.2))) (g := (mkF m 89 #[.val (.int pi1), .val (.int (pi1 &&& (7 : Int32))), .val (.int (0 : Int32)), .val (.int (0 : Int32)), .val (.int (1 : Int32)), .unset, .unset] [(.ref w_FINALIZED), (.int (6 : Int32)), (.ref b1), (.ref b1)])) rfl rfl (hb hby at_89)
  have V29 : Arv Z h29 b1 k1 (.object "com/example/diarist/diarist/questionnaire/QuestionnaireStatus") (8 : Int32) [(.ref w_PENDING), (.ref w_IN_PROGRESS), (.ref w_SUBMITTED), (.ref w_SUBMITTED), (.ref w_FINALIZED), (.ref w_FINALIZED), (.ref w_FINALIZED), .null] .null := Arv.set Arc28 qc28 Sc28 Nc28 Hc28 Gc28 rfl W29 6 rfl (Nat.le_of_ble_eq_true rfl)
  have N29 := Fr.snoc X29 N25 g_b1
  have o31 := o27.wr W29 g_b1
  obtain ⟨T30, X30, e30, st30⟩ := getS2 X29 hx hZ hown (host := "") (Or.inl (hw _ (List.mem_of_getElem? (i := 10) rfl))) Via.refl e29 (S_FINALIZED.ext o31.2) (g := (mkF m 93 #[.val (.int pi1), .val (.int (pi1 &&& (7 : Int32))), .val (.int (0 : Int32)), .val (.int (0 : Int32)), .val (.int (1 : Int32)), .unset, .unset] [(.int (7 : Int32)), (.ref b1), (.ref b1)])) rfl (hb hby at_93)
  have V_c32 := V29
  obtain ⟨c32, Arc32, qc32, Sc32, Nc32, Hc32, Gc32⟩ := V_c32
  have hin33 : ¬ ((7 : Int32) < 0 ∨ c32.slots.size ≤ ((7 : Int32)).toNatClampNeg) := inb_of Sc32 ⟨by decide, by decide⟩
  obtain ⟨T33, h33, X33, e33, W33, st33⟩ := stR X30 hx hZ e30 Arc32 (j := (7 : Int32)) hin33 rfl (Sto.ofV Arc32 qc32 O1 (Ins.self (E_w_FINALIZED.ext o31.2))) (g := (mkF m 96 #[.val (.int pi1), .val (.int (pi1 &&& (7 : Int32))), .val (.int (0 : Int32)), .val (.int (0 : Int32)), .val (.int (1 : Int32)), .unset, .unset] [(.ref w_FINALIZED), (.int (7 : Int32)), (.ref b1), (.ref b1)])) rfl rfl (hb hby at_96)
  have V33 : Arv Z h33 b1 k1 (.object "com/example/diarist/diarist/questionnaire/QuestionnaireStatus") (8 : Int32) [(.ref w_PENDING), (.ref w_IN_PROGRESS), (.ref w_SUBMITTED), (.ref w_SUBMITTED), (.ref w_FINALIZED), (.ref w_FINALIZED), (.ref w_FINALIZED), (.ref w_FINALIZED)] .null := Arv.set Arc32 qc32 Sc32 Nc32 Hc32 Gc32 rfl W33 7 rfl (Nat.le_of_ble_eq_true rfl)
  have N33 := Fr.snoc X33 N29 g_b1
  have z35 := Nat.le_trans Z0 E1.1
  have z36 := Nat.le_trans z35 (Keep.of_wr W5).1
  have z37 := Nat.le_trans z36 (Keep.of_wr W9).1
  have z38 := Nat.le_trans z37 (Keep.of_wr W13).1
  have z39 := Nat.le_trans z38 (Keep.of_wr W17).1
  have z40 := Nat.le_trans z39 (Keep.of_wr W21).1
  have z41 := Nat.le_trans z40 (Keep.of_wr W25).1
  have z42 := Nat.le_trans z41 (Keep.of_wr W29).1
  have z43 := Nat.le_trans z42 (Keep.of_wr W33).1
  have o44 := o31.wr W33 g_b1
  obtain ⟨_, _, ⟨T34, L34, k34, n34⟩, -, X34, ⟨Lc34, hQ34, l34, y34, z34⟩, st34⟩ := Jvm.LawKit.callS X33 hx (y := (⟨"com/example/diarist/diarist/questionnaire/QuestionnaireStatus", "of", "(ZZZ)Lcom/example/diarist/diarist/questionnaire/QuestionnaireStatus;"⟩ : MethodName)) hown (mvT hZ (hw _ (List.mem_of_getElem? (i := 12) rfl))) (mvT hZ (hw _ (List.mem_of_getElem? (i := 13) rfl))) (mvT hZ (hw _ (List.mem_of_getElem? (i := 3) rfl))) (mvT hZ (hw _ (List.mem_of_getElem? (i := 14) rfl))) (by decide) (backOf (W := 0) (rm1_f l Z a0 hw [] (0 : Int32) (0 : Int32) (1 : Int32) w_FINALIZED h33 n0 z43 o44 S_FINALIZED (by decide)) hZ (hw _ (List.mem_of_getElem? (i := 14) rfl)) (hw _ (List.mem_of_getElem? (i := 3) rfl)) (by decide) (by decide)) (g := (mkF m 103 #[.val (.int pi1), .val (.int (pi1 &&& (7 : Int32))), .val (.int (0 : Int32)), .val (.int (0 : Int32)), .val (.int (1 : Int32)), .val (.ref b1), .unset] [(.int (1 : Int32)), (.int (0 : Int32)), (.int (0 : Int32))])) rfl (by rw [hml]; rfl) (argsL := [(.int (0 : Int32)), (.int (0 : Int32)), (.int (1 : Int32))]) (rest := []) (lenOf pd_0 rfl) rfl (by show 2 * 0 + _ ≤ _; exact Nat.le_of_eq rfl) (hb hby at_103) (fun _ _ => ⟨rfl, e33, (by decide : 1 + 0 ≤ _), (by decide : 8 + 0 ≤ _)⟩)
  dsimp only [Pt.U, Pt.locs, Pt.cells, Pt.slots] at X34 l34 y34 z34 st34 hQ34
  subst l34 y34 z34
  obtain ⟨rfl, N34q, eq34⟩ := hQ34
  have N34 := Fr.app N33 N34q
  have V_c45 := V33
  obtain ⟨c45, Arc45, qc45, Sc45, Nc45, Hc45, Gc45⟩ := V_c45
  have hj46 : (pi1 &&& (7 : Int32)) = (4 : Int32) := own_idx hc8_0 hc20_1 (own_b4 hc32_2) rfl
  have hin46 : ¬ ((pi1 &&& (7 : Int32)) < 0 ∨ c45.slots.size ≤ ((pi1 &&& (7 : Int32))).toNatClampNeg) := by rw [hj46]; exact inb_of Sc45 ⟨by decide, by decide⟩
  obtain ⟨fs, hr, hrun, hended, hW, hsame⟩ := X34.leave (v := some (.int (1 : Int32))) (fun h => by rw [Bd.returns] at h; cases h)
  refine ⟨_, _, pre0 _ ?_, hrun, hended, _, _, rfl, ?_, ⟨_, rfl⟩, hW, hsame.mono (by decide) (by decide)⟩
  · show Steps p.tables e below (s₁.setTop (mkF m 0 #[.val (.int pi1), .unset, .unset, .unset, .unset, .unset, .unset] [])) _
    refine XS.iloadN X0.here hx rfl (hb hby at_0) rfl ?_
    show Steps p.tables e below (s₁.setTop (mkF m 1 #[.val (.int pi1), .unset, .unset, .unset, .unset, .unset, .unset] [(.int pi1)])) _
    refine XS.bipush X0.here hx rfl (hb hby at_1) ?_
    show Steps p.tables e below (s₁.setTop (mkF m 3 #[.val (.int pi1), .unset, .unset, .unset, .unset, .unset, .unset] [(.int (7 : Int32)), (.int pi1)])) _
    refine XS.iand X0.here hx rfl (hb hby at_3) rfl ?_
    show Steps p.tables e below (s₁.setTop (mkF m 4 #[.val (.int pi1), .unset, .unset, .unset, .unset, .unset, .unset] [(.int (pi1 &&& (7 : Int32)))])) _
    refine XS.istoreN X0.here hx rfl (hb hby at_4) rfl (l' := #[.val (.int pi1), .val (.int (pi1 &&& (7 : Int32))), .unset, .unset, .unset, .unset, .unset]) rfl ?_
    show Steps p.tables e below (s₁.setTop (mkF m 5 #[.val (.int pi1), .val (.int (pi1 &&& (7 : Int32))), .unset, .unset, .unset, .unset, .unset] [])) _
    refine XS.iloadN X0.here hx rfl (hb hby at_5) rfl ?_
    show Steps p.tables e below (s₁.setTop (mkF m 6 #[.val (.int pi1), .val (.int (pi1 &&& (7 : Int32))), .unset, .unset, .unset, .unset, .unset] [(.int (pi1 &&& (7 : Int32)))])) _
    refine XS.iconst X0.here hx rfl (hb hby at_6) ?_
    show Steps p.tables e below (s₁.setTop (mkF m 7 #[.val (.int pi1), .val (.int (pi1 &&& (7 : Int32))), .unset, .unset, .unset, .unset, .unset] [(.int (1 : Int32)), (.int (pi1 &&& (7 : Int32)))])) _
    refine XS.iand X0.here hx rfl (hb hby at_7) rfl ?_
    show Steps p.tables e below (s₁.setTop (mkF m 8 #[.val (.int pi1), .val (.int (pi1 &&& (7 : Int32))), .unset, .unset, .unset, .unset, .unset] [(.int ((pi1 &&& (7 : Int32)) &&& (1 : Int32)))])) _
    refine XS.ifYes X0.here hx rfl (pc0 := 8) (pc' := 15) rfl (hb hby at_8) rfl ((if0 _ _).trans (teq hc8_0).1) (by decide) (by decide) ?_
    show Steps p.tables e below (s₁.setTop (mkF m 15 #[.val (.int pi1), .val (.int (pi1 &&& (7 : Int32))), .unset, .unset, .unset, .unset, .unset] [])) _
    refine XS.iconst X0.here hx rfl (hb hby at_15) ?_
    show Steps p.tables e below (s₁.setTop (mkF m 16 #[.val (.int pi1), .val (.int (pi1 &&& (7 : Int32))), .unset, .unset, .unset, .unset, .unset] [(.int (0 : Int32))])) _
    refine XS.istoreN X0.here hx rfl (hb hby at_16) rfl (l' := #[.val (.int pi1), .val (.int (pi1 &&& (7 : Int32))), .val (.int (0 : Int32)), .unset, .unset, .unset, .unset]) rfl ?_
    show Steps p.tables e below (s₁.setTop (mkF m 17 #[.val (.int pi1), .val (.int (pi1 &&& (7 : Int32))), .val (.int (0 : Int32)), .unset, .unset, .unset, .unset] [])) _
    refine XS.iloadN X0.here hx rfl (hb hby at_17) rfl ?_
    show Steps p.tables e below (s₁.setTop (mkF m 18 #[.val (.int pi1), .val (.int (pi1 &&& (7 : Int32))), .val (.int (0 : Int32)), .unset, .unset, .unset, .unset] [(.int (pi1 &&& (7 : Int32)))])) _
    refine XS.iconst X0.here hx rfl (hb hby at_18) ?_
    show Steps p.tables e below (s₁.setTop (mkF m 19 #[.val (.int pi1), .val (.int (pi1 &&& (7 : Int32))), .val (.int (0 : Int32)), .unset, .unset, .unset, .unset] [(.int (2 : Int32)), (.int (pi1 &&& (7 : Int32)))])) _
    refine XS.iand X0.here hx rfl (hb hby at_19) rfl ?_
    show Steps p.tables e below (s₁.setTop (mkF m 20 #[.val (.int pi1), .val (.int (pi1 &&& (7 : Int32))), .val (.int (0 : Int32)), .unset, .unset, .unset, .unset] [(.int ((pi1 &&& (7 : Int32)) &&& (2 : Int32)))])) _
    refine XS.ifYes X0.here hx rfl (pc0 := 20) (pc' := 27) rfl (hb hby at_20) rfl ((if0 _ _).trans (teq hc20_1).1) (by decide) (by decide) ?_
    show Steps p.tables e below (s₁.setTop (mkF m 27 #[.val (.int pi1), .val (.int (pi1 &&& (7 : Int32))), .val (.int (0 : Int32)), .unset, .unset, .unset, .unset] [])) _
    refine XS.iconst X0.here hx rfl (hb hby at_27) ?_
    show Steps p.tables e below (s₁.setTop (mkF m 28 #[.val (.int pi1), .val (.int (pi1 &&& (7 : Int32))), .val (.int (0 : Int32)), .unset, .unset, .unset, .unset] [(.int (0 : Int32))])) _
    refine XS.istoreN X0.here hx rfl (hb hby at_28) rfl (l' := #[.val (.int pi1), .val (.int (pi1 &&& (7 : Int32))), .val (.int (0 : Int32)), .val (.int (0 : Int32)), .unset, .unset, .unset]) rfl ?_
    show Steps p.tables e below (s₁.setTop (mkF m 29 #[.val (.int pi1), .val (.int (pi1 &&& (7 : Int32))), .val (.int (0 : Int32)), .val (.int (0 : Int32)), .unset, .unset, .unset] [])) _
    refine XS.iloadN X0.here hx rfl (hb hby at_29) rfl ?_
    show Steps p.tables e below (s₁.setTop (mkF m 30 #[.val (.int pi1), .val (.int (pi1 &&& (7 : Int32))), .val (.int (0 : Int32)), .val (.int (0 : Int32)), .unset, .unset, .unset] [(.int (pi1 &&& (7 : Int32)))])) _
    refine XS.iconst X0.here hx rfl (hb hby at_30) ?_
    show Steps p.tables e below (s₁.setTop (mkF m 31 #[.val (.int pi1), .val (.int (pi1 &&& (7 : Int32))), .val (.int (0 : Int32)), .val (.int (0 : Int32)), .unset, .unset, .unset] [(.int (4 : Int32)), (.int (pi1 &&& (7 : Int32)))])) _
    refine XS.iand X0.here hx rfl (hb hby at_31) rfl ?_
    show Steps p.tables e below (s₁.setTop (mkF m 32 #[.val (.int pi1), .val (.int (pi1 &&& (7 : Int32))), .val (.int (0 : Int32)), .val (.int (0 : Int32)), .unset, .unset, .unset] [(.int ((pi1 &&& (7 : Int32)) &&& (4 : Int32)))])) _
    refine XS.ifNo X0.here hx rfl (hb hby at_32) rfl ((if0 _ _).trans (feq hc32_2).1) ?_
    show Steps p.tables e below (s₁.setTop (mkF m 35 #[.val (.int pi1), .val (.int (pi1 &&& (7 : Int32))), .val (.int (0 : Int32)), .val (.int (0 : Int32)), .unset, .unset, .unset] [])) _
    refine XS.iconst X0.here hx rfl (hb hby at_35) ?_
    show Steps p.tables e below (s₁.setTop (mkF m 36 #[.val (.int pi1), .val (.int (pi1 &&& (7 : Int32))), .val (.int (0 : Int32)), .val (.int (0 : Int32)), .unset, .unset, .unset] [(.int (1 : Int32))])) _
    refine XS.goto X0.here hx rfl (pc0 := 36) (pc' := 40) rfl (hb hby at_36) (by decide) (by decide) ?_
    show Steps p.tables e below (s₁.setTop (mkF m 40 #[.val (.int pi1), .val (.int (pi1 &&& (7 : Int32))), .val (.int (0 : Int32)), .val (.int (0 : Int32)), .unset, .unset, .unset] [(.int (1 : Int32))])) _
    refine XS.istore X0.here hx rfl (hb hby at_40) rfl (l' := #[.val (.int pi1), .val (.int (pi1 &&& (7 : Int32))), .val (.int (0 : Int32)), .val (.int (0 : Int32)), .val (.int (1 : Int32)), .unset, .unset]) rfl ?_
    show Steps p.tables e below (s₁.setTop (mkF m 42 #[.val (.int pi1), .val (.int (pi1 &&& (7 : Int32))), .val (.int (0 : Int32)), .val (.int (0 : Int32)), .val (.int (1 : Int32)), .unset, .unset] [])) _
    refine XS.bipush X0.here hx rfl (hb hby at_42) ?_
    show Steps p.tables e below (s₁.setTop (mkF m 44 #[.val (.int pi1), .val (.int (pi1 &&& (7 : Int32))), .val (.int (0 : Int32)), .val (.int (0 : Int32)), .val (.int (1 : Int32)), .unset, .unset] [(.int (8 : Int32))])) _
    refine st1 _ ?_
    show Steps p.tables e below (T1.setTop (mkF m 47 #[.val (.int pi1), .val (.int (pi1 &&& (7 : Int32))), .val (.int (0 : Int32)), .val (.int (0 : Int32)), .val (.int (1 : Int32)), .unset, .unset] [(.ref b1)])) _
    refine XS.dup X1.here hx rfl (hb hby at_47) rfl rfl ?_
    show Steps p.tables e below (T1.setTop (mkF m 48 #[.val (.int pi1), .val (.int (pi1 &&& (7 : Int32))), .val (.int (0 : Int32)), .val (.int (0 : Int32)), .val (.int (1 : Int32)), .unset, .unset] [(.ref b1), (.ref b1)])) _
    refine XS.iconst X1.here hx rfl (hb hby at_48) ?_
    show Steps p.tables e below (T1.setTop (mkF m 49 #[.val (.int pi1), .val (.int (pi1 &&& (7 : Int32))), .val (.int (0 : Int32)), .val (.int (0 : Int32)), .val (.int (1 : Int32)), .unset, .unset] [(.int (0 : Int32)), (.ref b1), (.ref b1)])) _
    refine st2 _ ?_
    show Steps p.tables e below (T2.setTop (mkF m 52 #[.val (.int pi1), .val (.int (pi1 &&& (7 : Int32))), .val (.int (0 : Int32)), .val (.int (0 : Int32)), .val (.int (1 : Int32)), .unset, .unset] [(.ref w_PENDING), (.int (0 : Int32)), (.ref b1), (.ref b1)])) _
    refine st5 _ ?_
    show Steps p.tables e below (T5.setTop (mkF m 53 #[.val (.int pi1), .val (.int (pi1 &&& (7 : Int32))), .val (.int (0 : Int32)), .val (.int (0 : Int32)), .val (.int (1 : Int32)), .unset, .unset] [(.ref b1)])) _
    refine XS.dup X5.here hx rfl (hb hby at_53) rfl rfl ?_
    show Steps p.tables e below (T5.setTop (mkF m 54 #[.val (.int pi1), .val (.int (pi1 &&& (7 : Int32))), .val (.int (0 : Int32)), .val (.int (0 : Int32)), .val (.int (1 : Int32)), .unset, .unset] [(.ref b1), (.ref b1)])) _
    refine XS.iconst X5.here hx rfl (hb hby at_54) ?_
    show Steps p.tables e below (T5.setTop (mkF m 55 #[.val (.int pi1), .val (.int (pi1 &&& (7 : Int32))), .val (.int (0 : Int32)), .val (.int (0 : Int32)), .val (.int (1 : Int32)), .unset, .unset] [(.int (1 : Int32)), (.ref b1), (.ref b1)])) _
    refine st6 _ ?_
    show Steps p.tables e below (T6.setTop (mkF m 58 #[.val (.int pi1), .val (.int (pi1 &&& (7 : Int32))), .val (.int (0 : Int32)), .val (.int (0 : Int32)), .val (.int (1 : Int32)), .unset, .unset] [(.ref w_IN_PROGRESS), (.int (1 : Int32)), (.ref b1), (.ref b1)])) _
    refine st9 _ ?_
    show Steps p.tables e below (T9.setTop (mkF m 59 #[.val (.int pi1), .val (.int (pi1 &&& (7 : Int32))), .val (.int (0 : Int32)), .val (.int (0 : Int32)), .val (.int (1 : Int32)), .unset, .unset] [(.ref b1)])) _
    refine XS.dup X9.here hx rfl (hb hby at_59) rfl rfl ?_
    show Steps p.tables e below (T9.setTop (mkF m 60 #[.val (.int pi1), .val (.int (pi1 &&& (7 : Int32))), .val (.int (0 : Int32)), .val (.int (0 : Int32)), .val (.int (1 : Int32)), .unset, .unset] [(.ref b1), (.ref b1)])) _
    refine XS.iconst X9.here hx rfl (hb hby at_60) ?_
    show Steps p.tables e below (T9.setTop (mkF m 61 #[.val (.int pi1), .val (.int (pi1 &&& (7 : Int32))), .val (.int (0 : Int32)), .val (.int (0 : Int32)), .val (.int (1 : Int32)), .unset, .unset] [(.int (2 : Int32)), (.ref b1), (.ref b1)])) _
    refine st10 _ ?_
    show Steps p.tables e below (T10.setTop (mkF m 64 #[.val (.int pi1), .val (.int (pi1 &&& (7 : Int32))), .val (.int (0 : Int32)), .val (.int (0 : Int32)), .val (.int (1 : Int32)), .unset, .unset] [(.ref w_SUBMITTED), (.int (2 : Int32)), (.ref b1), (.ref b1)])) _
    refine st13 _ ?_
    show Steps p.tables e below (T13.setTop (mkF m 65 #[.val (.int pi1), .val (.int (pi1 &&& (7 : Int32))), .val (.int (0 : Int32)), .val (.int (0 : Int32)), .val (.int (1 : Int32)), .unset, .unset] [(.ref b1)])) _
    refine XS.dup X13.here hx rfl (hb hby at_65) rfl rfl ?_
    show Steps p.tables e below (T13.setTop (mkF m 66 #[.val (.int pi1), .val (.int (pi1 &&& (7 : Int32))), .val (.int (0 : Int32)), .val (.int (0 : Int32)), .val (.int (1 : Int32)), .unset, .unset] [(.ref b1), (.ref b1)])) _
    refine XS.iconst X13.here hx rfl (hb hby at_66) ?_
    show Steps p.tables e below (T13.setTop (mkF m 67 #[.val (.int pi1), .val (.int (pi1 &&& (7 : Int32))), .val (.int (0 : Int32)), .val (.int (0 : Int32)), .val (.int (1 : Int32)), .unset, .unset] [(.int (3 : Int32)), (.ref b1), (.ref b1)])) _
    refine st14 _ ?_
    show Steps p.tables e below (T14.setTop (mkF m 70 #[.val (.int pi1), .val (.int (pi1 &&& (7 : Int32))), .val (.int (0 : Int32)), .val (.int (0 : Int32)), .val (.int (1 : Int32)), .unset, .unset] [(.ref w_SUBMITTED), (.int (3 : Int32)), (.ref b1), (.ref b1)])) _
    refine st17 _ ?_
    show Steps p.tables e below (T17.setTop (mkF m 71 #[.val (.int pi1), .val (.int (pi1 &&& (7 : Int32))), .val (.int (0 : Int32)), .val (.int (0 : Int32)), .val (.int (1 : Int32)), .unset, .unset] [(.ref b1)])) _
    refine XS.dup X17.here hx rfl (hb hby at_71) rfl rfl ?_
    show Steps p.tables e below (T17.setTop (mkF m 72 #[.val (.int pi1), .val (.int (pi1 &&& (7 : Int32))), .val (.int (0 : Int32)), .val (.int (0 : Int32)), .val (.int (1 : Int32)), .unset, .unset] [(.ref b1), (.ref b1)])) _
    refine XS.iconst X17.here hx rfl (hb hby at_72) ?_
    show Steps p.tables e below (T17.setTop (mkF m 73 #[.val (.int pi1), .val (.int (pi1 &&& (7 : Int32))), .val (.int (0 : Int32)), .val (.int (0 : Int32)), .val (.int (1 : Int32)), .unset, .unset] [(.int (4 : Int32)), (.ref b1), (.ref b1)])) _
    refine st18 _ ?_
    show Steps p.tables e below (T18.setTop (mkF m 76 #[.val (.int pi1), .val (.int (pi1 &&& (7 : Int32))), .val (.int (0 : Int32)), .val (.int (0 : Int32)), .val (.int (1 : Int32)), .unset, .unset] [(.ref w_FINALIZED), (.int (4 : Int32)), (.ref b1), (.ref b1)])) _
    refine st21 _ ?_
    show Steps p.tables e below (T21.setTop (mkF m 77 #[.val (.int pi1), .val (.int (pi1 &&& (7 : Int32))), .val (.int (0 : Int32)), .val (.int (0 : Int32)), .val (.int (1 : Int32)), .unset, .unset] [(.ref b1)])) _
    refine XS.dup X21.here hx rfl (hb hby at_77) rfl rfl ?_
    show Steps p.tables e below (T21.setTop (mkF m 78 #[.val (.int pi1), .val (.int (pi1 &&& (7 : Int32))), .val (.int (0 : Int32)), .val (.int (0 : Int32)), .val (.int (1 : Int32)), .unset, .unset] [(.ref b1), (.ref b1)])) _
    refine XS.iconst X21.here hx rfl (hb hby at_78) ?_
    show Steps p.tables e below (T21.setTop (mkF m 79 #[.val (.int pi1), .val (.int (pi1 &&& (7 : Int32))), .val (.int (0 : Int32)), .val (.int (0 : Int32)), .val (.int (1 : Int32)), .unset, .unset] [(.int (5 : Int32)), (.ref b1), (.ref b1)])) _
    refine st22 _ ?_
    show Steps p.tables e below (T22.setTop (mkF m 82 #[.val (.int pi1), .val (.int (pi1 &&& (7 : Int32))), .val (.int (0 : Int32)), .val (.int (0 : Int32)), .val (.int (1 : Int32)), .unset, .unset] [(.ref w_FINALIZED), (.int (5 : Int32)), (.ref b1), (.ref b1)])) _
    refine st25 _ ?_
    show Steps p.tables e below (T25.setTop (mkF m 83 #[.val (.int pi1), .val (.int (pi1 &&& (7 : Int32))), .val (.int (0 : Int32)), .val (.int (0 : Int32)), .val (.int (1 : Int32)), .unset, .unset] [(.ref b1)])) _
    refine XS.dup X25.here hx rfl (hb hby at_83) rfl rfl ?_
    show Steps p.tables e below (T25.setTop (mkF m 84 #[.val (.int pi1), .val (.int (pi1 &&& (7 : Int32))), .val (.int (0 : Int32)), .val (.int (0 : Int32)), .val (.int (1 : Int32)), .unset, .unset] [(.ref b1), (.ref b1)])) _
    refine XS.bipush X25.here hx rfl (hb hby at_84) ?_
    show Steps p.tables e below (T25.setTop (mkF m 86 #[.val (.int pi1), .val (.int (pi1 &&& (7 : Int32))), .val (.int (0 : Int32)), .val (.int (0 : Int32)), .val (.int (1 : Int32)), .unset, .unset] [(.int (6 : Int32)), (.ref b1), (.ref b1)])) _
    refine st26 _ ?_
    show Steps p.tables e below (T26.setTop (mkF m 89 #[.val (.int pi1), .val (.int (pi1 &&& (7 : Int32))), .val (.int (0 : Int32)), .val (.int (0 : Int32)), .val (.int (1 : Int32)), .unset, .unset] [(.ref w_FINALIZED), (.int (6 : Int32)), (.ref b1), (.ref b1)])) _
    refine st29 _ ?_
    show Steps p.tables e below (T29.setTop (mkF m 90 #[.val (.int pi1), .val (.int (pi1 &&& (7 : Int32))), .val (.int (0 : Int32)), .val (.int (0 : Int32)), .val (.int (1 : Int32)), .unset, .unset] [(.ref b1)])) _
    refine XS.dup X29.here hx rfl (hb hby at_90) rfl rfl ?_
    show Steps p.tables e below (T29.setTop (mkF m 91 #[.val (.int pi1), .val (.int (pi1 &&& (7 : Int32))), .val (.int (0 : Int32)), .val (.int (0 : Int32)), .val (.int (1 : Int32)), .unset, .unset] [(.ref b1), (.ref b1)])) _
    refine XS.bipush X29.here hx rfl (hb hby at_91) ?_
    show Steps p.tables e below (T29.setTop (mkF m 93 #[.val (.int pi1), .val (.int (pi1 &&& (7 : Int32))), .val (.int (0 : Int32)), .val (.int (0 : Int32)), .val (.int (1 : Int32)), .unset, .unset] [(.int (7 : Int32)), (.ref b1), (.ref b1)])) _
    refine st30 _ ?_
    show Steps p.tables e below (T30.setTop (mkF m 96 #[.val (.int pi1), .val (.int (pi1 &&& (7 : Int32))), .val (.int (0 : Int32)), .val (.int (0 : Int32)), .val (.int (1 : Int32)), .unset, .unset] [(.ref w_FINALIZED), (.int (7 : Int32)), (.ref b1), (.ref b1)])) _
    refine st33 _ ?_
    show Steps p.tables e below (T33.setTop (mkF m 97 #[.val (.int pi1), .val (.int (pi1 &&& (7 : Int32))), .val (.int (0 : Int32)), .val (.int (0 : Int32)), .val (.int (1 : Int32)), .unset, .unset] [(.ref b1)])) _
    refine XS.astore X33.here hx rfl (hb hby at_97) rfl rfl (l' := #[.val (.int pi1), .val (.int (pi1 &&& (7 : Int32))), .val (.int (0 : Int32)), .val (.int (0 : Int32)), .val (.int (1 : Int32)), .val (.ref b1), .unset]) rfl ?_
    show Steps p.tables e below (T33.setTop (mkF m 99 #[.val (.int pi1), .val (.int (pi1 &&& (7 : Int32))), .val (.int (0 : Int32)), .val (.int (0 : Int32)), .val (.int (1 : Int32)), .val (.ref b1), .unset] [])) _
    refine XS.iloadN X33.here hx rfl (hb hby at_99) rfl ?_
    show Steps p.tables e below (T33.setTop (mkF m 100 #[.val (.int pi1), .val (.int (pi1 &&& (7 : Int32))), .val (.int (0 : Int32)), .val (.int (0 : Int32)), .val (.int (1 : Int32)), .val (.ref b1), .unset] [(.int (0 : Int32))])) _
    refine XS.iloadN X33.here hx rfl (hb hby at_100) rfl ?_
    show Steps p.tables e below (T33.setTop (mkF m 101 #[.val (.int pi1), .val (.int (pi1 &&& (7 : Int32))), .val (.int (0 : Int32)), .val (.int (0 : Int32)), .val (.int (1 : Int32)), .val (.ref b1), .unset] [(.int (0 : Int32)), (.int (0 : Int32))])) _
    refine XS.iload X33.here hx rfl (hb hby at_101) rfl ?_
    show Steps p.tables e below (T33.setTop (mkF m 103 #[.val (.int pi1), .val (.int (pi1 &&& (7 : Int32))), .val (.int (0 : Int32)), .val (.int (0 : Int32)), .val (.int (1 : Int32)), .val (.ref b1), .unset] [(.int (1 : Int32)), (.int (0 : Int32)), (.int (0 : Int32))])) _
    refine st34 _ ?_
    show Steps p.tables e below (T34.setTop (mkF m 106 #[.val (.int pi1), .val (.int (pi1 &&& (7 : Int32))), .val (.int (0 : Int32)), .val (.int (0 : Int32)), .val (.int (1 : Int32)), .val (.ref b1), .unset] [(.ref w_FINALIZED)])) _
    refine XS.astore X34.here hx rfl (hb hby at_106) rfl rfl (l' := #[.val (.int pi1), .val (.int (pi1 &&& (7 : Int32))), .val (.int (0 : Int32)), .val (.int (0 : Int32)), .val (.int (1 : Int32)), .val (.ref b1), .val (.ref w_FINALIZED)]) rfl ?_
    show Steps p.tables e below (T34.setTop (mkF m 108 #[.val (.int pi1), .val (.int (pi1 &&& (7 : Int32))), .val (.int (0 : Int32)), .val (.int (0 : Int32)), .val (.int (1 : Int32)), .val (.ref b1), .val (.ref w_FINALIZED)] [])) _
    refine XS.aload X34.here hx rfl (hb hby at_108) rfl rfl ?_
    show Steps p.tables e below (T34.setTop (mkF m 110 #[.val (.int pi1), .val (.int (pi1 &&& (7 : Int32))), .val (.int (0 : Int32)), .val (.int (0 : Int32)), .val (.int (1 : Int32)), .val (.ref b1), .val (.ref w_FINALIZED)] [(.ref w_FINALIZED)])) _
    refine XS.aload X34.here hx rfl (hb hby at_110) rfl rfl ?_
    show Steps p.tables e below (T34.setTop (mkF m 112 #[.val (.int pi1), .val (.int (pi1 &&& (7 : Int32))), .val (.int (0 : Int32)), .val (.int (0 : Int32)), .val (.int (1 : Int32)), .val (.ref b1), .val (.ref w_FINALIZED)] [(.ref b1), (.ref w_FINALIZED)])) _
    refine XS.iloadN X34.here hx rfl (hb hby at_112) rfl ?_
    show Steps p.tables e below (T34.setTop (mkF m 113 #[.val (.int pi1), .val (.int (pi1 &&& (7 : Int32))), .val (.int (0 : Int32)), .val (.int (0 : Int32)), .val (.int (1 : Int32)), .val (.ref b1), .val (.ref w_FINALIZED)] [(.int (pi1 &&& (7 : Int32))), (.ref b1), (.ref w_FINALIZED)])) _
    refine X34.aaload hx (j := (pi1 &&& (7 : Int32))) (v := (.ref w_FINALIZED)) (by rw [eq34]; exact Arc45.1) (State.isArrayOf_alike hZ.alike Arc45.2.1) rfl Arc45.2.2 hin46 (Has.at Hc45 hin46 (by rw [hj46]; rfl)) (g := (mkF m 113 #[.val (.int pi1), .val (.int (pi1 &&& (7 : Int32))), .val (.int (0 : Int32)), .val (.int (0 : Int32)), .val (.int (1 : Int32)), .val (.ref b1), .val (.ref w_FINALIZED)] [(.int (pi1 &&& (7 : Int32))), (.ref b1), (.ref w_FINALIZED)])) rfl rfl (hb hby at_113) _ ?_
    show Steps p.tables e below (T34.setTop (mkF m 114 #[.val (.int pi1), .val (.int (pi1 &&& (7 : Int32))), .val (.int (0 : Int32)), .val (.int (0 : Int32)), .val (.int (1 : Int32)), .val (.ref b1), .val (.ref w_FINALIZED)] [(.ref w_FINALIZED), (.ref w_FINALIZED)])) _
    refine Jvm.RoadKit.acmp (g := (mkF m 114 #[.val (.int pi1), .val (.int (pi1 &&& (7 : Int32))), .val (.int (0 : Int32)), .val (.int (0 : Int32)), .val (.int (1 : Int32)), .val (.ref b1), .val (.ref w_FINALIZED)] [(.ref w_FINALIZED), (.ref w_FINALIZED)])) X34 hx rfl rfl rfl (pc0 := 114) (pc' := 117) (same := true) rfl (hb hby at_114) rfl (decide_eq_true rfl) (by decide) (by decide) ?_
    show Steps p.tables e below (T34.setTop (mkF m 117 #[.val (.int pi1), .val (.int (pi1 &&& (7 : Int32))), .val (.int (0 : Int32)), .val (.int (0 : Int32)), .val (.int (1 : Int32)), .val (.ref b1), .val (.ref w_FINALIZED)] [])) _
    refine XS.iconst X34.here hx rfl (hb hby at_117) ?_
    show Steps p.tables e below (T34.setTop (mkF m 118 #[.val (.int pi1), .val (.int (pi1 &&& (7 : Int32))), .val (.int (0 : Int32)), .val (.int (0 : Int32)), .val (.int (1 : Int32)), .val (.ref b1), .val (.ref w_FINALIZED)] [(.int (1 : Int32))])) _
    refine XS.goto X34.here hx rfl (pc0 := 118) (pc' := 122) rfl (hb hby at_118) (by decide) (by decide) ?_
    show Steps p.tables e below (T34.setTop (mkF m 122 #[.val (.int pi1), .val (.int (pi1 &&& (7 : Int32))), .val (.int (0 : Int32)), .val (.int (0 : Int32)), .val (.int (1 : Int32)), .val (.ref b1), .val (.ref w_FINALIZED)] [(.int (1 : Int32))])) _
    exact retN X34 hx (t := .boolean) Bd.returns (by simp) (hb hby at_122) hr
  · exact ⟨rfl, N34⟩
set_option maxRecDepth 65536 in
set_option maxHeartbeats 40000000 in
theorem rm0_tft (l : Launch) (Z : State) (a0 : Array Value) (hw : ∀ d ∈ tables_1, d.before a0 Z = true) (ws : List Jvm.Cond) (pi1 : Int32) (w_PENDING : Addr) (w_IN_PROGRESS : Addr) (w_SUBMITTED : Addr) (w_FINALIZED : Addr) (h0 : Heap) (n0 : Nat) (Z0 : n0 ≤ h0.size) (O0 : Old Z n0 h0) (S_PENDING : Sta Z Z.heap "com/example/diarist/diarist/questionnaire/QuestionnaireStatus" "PENDING" "Lcom/example/diarist/diarist/questionnaire/QuestionnaireStatus;" (.ref w_PENDING)) (E_w_PENDING : Exa Z Z.heap w_PENDING "com/example/diarist/diarist/questionnaire/QuestionnaireStatus") (S_IN_PROGRESS : Sta Z Z.heap "com/example/diarist/diarist/questionnaire/QuestionnaireStatus" "IN_PROGRESS" "Lcom/example/diarist/diarist/questionnaire/QuestionnaireStatus;" (.ref w_IN_PROGRESS)) (E_w_IN_PROGRESS : Exa Z Z.heap w_IN_PROGRESS "com/example/diarist/diarist/questionnaire/QuestionnaireStatus") (S_SUBMITTED : Sta Z Z.heap "com/example/diarist/diarist/questionnaire/QuestionnaireStatus" "SUBMITTED" "Lcom/example/diarist/diarist/questionnaire/QuestionnaireStatus;" (.ref w_SUBMITTED)) (E_w_SUBMITTED : Exa Z Z.heap w_SUBMITTED "com/example/diarist/diarist/questionnaire/QuestionnaireStatus") (S_FINALIZED : Sta Z Z.heap "com/example/diarist/diarist/questionnaire/QuestionnaireStatus" "FINALIZED" "Lcom/example/diarist/diarist/questionnaire/QuestionnaireStatus;" (.ref w_FINALIZED)) (E_w_FINALIZED : Exa Z Z.heap w_FINALIZED "com/example/diarist/diarist/questionnaire/QuestionnaireStatus") (hc8_0 : ((pi1 &&& (7 : Int32)) &&& (1 : Int32)) = (0 : Int32)) (hc20_1 : ¬ (((pi1 &&& (7 : Int32)) &&& (2 : Int32)) = (0 : Int32))) (hc32_2 : ((pi1 &&& (7 : Int32)) &&& (4 : Int32)) = (0 : Int32)) :
    MetFree l x (head1 (Jvm.Cond.code x code maxLocals ret :: ws) room_1) (fun a U => a = #[(.int pi1)] ∧ Z.Warmed39 U.vm ∧ U.heap = h0) (fun _ _ _ _ _ => True) (fun _ U o U' => ∃ v L, o = .returned v ∧ Q0 v L n0 ∧ FrameEnd U o U' L room_1.cells room_1.slots) := by
  refine MetFree.of_bodySF (plainFor_of_name pn_0) hisR ?_
  intro p e s m args below meth c s₁ Bd hml0 hP hK
  obtain ⟨rfl, hZ, hh⟩ := hP
  have hx := Bd.exec
  have hby := Bd.bytes
  have hml : c.maxLocals = 7 := hml0
  have hown : s.vm.findClass "com/example/diarist/diarist/questionnaire/QuestionnaireStatusOfPinLaw" = some m.cls := findClass_of_methodNamed Bd.named
  have hnm := (name_of_methodNamed Bd.named Bd.method).1
  have X0 : Stand p l e room_1 s m #[(.int pi1)] below meth c s₁ [] 0 0 := Stand.of_body Bd
  have e0 : s₁.heap = h0 := by rw [← hh, Bd.state]; rfl
  have N0 := Fr.nil n0
  have pre0 : ∀ t, Steps p.tables e below (s₁.setTop (mkF m 0 #[.val (.int pi1), .unset, .unset, .unset, .unset, .unset, .unset] [])) t → Steps p.tables e below (s₁.setTop (entryFrame m #[(.int pi1)] maxLocals)) t := fun t k => castTop (ef_0 m pi1) k
  obtain ⟨T1, h1, k1, X1, e1, E1, A1, O1, st1⟩ := newR X0 hx hZ hown (hw _ (List.mem_of_getElem? (i := 0) rfl)) (hw _ (List.mem_of_getElem? (i := 1) rfl)) e0 (g := (mkF m 44 #[.val (.int pi1), .val (.int (pi1 &&& (7 : Int32))), .val (.int (0 : Int32)), .val (.int (1 : Int32)), .val (.int (0 : Int32)), .unset, .unset] [(.int (8 : Int32))])) rfl (hb hby at_44) rfl (by decide) (cap := 8) (by decide) (by decide) (by decide) (by decide)
  obtain ⟨b1, g1⟩ : ∃ z, z = h0.size := ⟨_, rfl⟩
  rw [← g1] at A1 st1
  have V1 : Arv Z h1 b1 k1 (.object "com/example/diarist/diarist/questionnaire/QuestionnaireStatus") (8 : Int32) [.null, .null, .null, .null, .null, .null, .null, .null] .null := (Arv.new A1 (by decide)).pad (pad_rep [] .null 8)
  have o3 := O0.ext E1
  obtain ⟨T2, X2, e2, st2⟩ := getS2 X1 hx hZ hown (host := "") (Or.inl (hw _ (List.mem_of_getElem? (i := 2) rfl))) Via.refl e1 (S_PENDING.ext o3.2) (g := (mkF m 49 #[.val (.int pi1), .val (.int (pi1 &&& (7 : Int32))), .val (.int (0 : Int32)), .val (.int (1 : Int32)), .val (.int (0 : Int32)), .unset, .unset] [(.int (0 : Int32)), (.ref b1), (.ref b1)])) rfl (hb hby at_49)
  have g_b1 : n0 ≤ b1 := Nat.le_trans Z0 (Nat.le_of_eq g1.symm)
  have V_c4 := V1
  obtain ⟨c4, Arc4, qc4, Sc4, Nc4, Hc4, Gc4⟩ := V_c4
  have hin5 : ¬ ((0 : Int32) < 0 ∨ c4.slots.size ≤ ((0 : Int32)).toNatClampNeg) := inb_of Sc4 ⟨by decide, by decide⟩
  obtain ⟨T5, h5, X5, e5, W5, st5⟩ := stR X2 hx hZ e2 Arc4 (j := (0 : Int32)) hin5 rfl (Sto.ofV Arc4 qc4 O1 (Ins.self (E_w_PENDING.ext o3.2))) (g := (mkF m 52 #[.val (.int pi1), .val (.int (pi1 &&& (7 : Int32))), .val (.int (0 : Int32)), .val (.int (1 : Int32)), .val (.int (0 : Int32)), .unset, .unset] [(.ref w_PENDING), (.int (0 : Int32)), (.ref b1), (.ref b1)])) rfl rfl (hb hby at_52)
  have V5 : Arv Z h5 b1 k1 (.object "com/example/diarist/diarist/questionnaire/QuestionnaireStatus") (8 : Int32) [(.ref w_PENDING), .null, .null, .null, .null, .null, .null, .null] .null := Arv.set Arc4 qc4 Sc4 Nc4 Hc4 Gc4 rfl W5 0 rfl (Nat.le_of_ble_eq_true rfl)
  have N5 := Fr.snoc X5 N0 g_b1
  have o7 := o3.wr W5 g_b1
  obtain ⟨T6, X6, e6, st6⟩ := getS2 X5 hx hZ hown (host := "") (Or.inl (hw _ (List.mem_of_getElem? (i := 6) rfl))) Via.refl e5 (S_IN_PROGRESS.ext o7.2) (g := (mkF m 55 #[.val (.int pi1), .val (.int (pi1 &&& (7 : Int32))), .val (.int (0 : Int32)), .val (.int (1 : Int32)), .val (.int (0 : Int32)), .unset, .unset] [(.int (1 : Int32)), (.ref b1), (.ref b1)])) rfl (hb hby at_55)
  have V_c8 := V5
  obtain ⟨c8, Arc8, qc8, Sc8, Nc8, Hc8, Gc8⟩ := V_c8
  have hin9 : ¬ ((1 : Int32) < 0 ∨ c8.slots.size ≤ ((1 : Int32)).toNatClampNeg) := inb_of Sc8 ⟨by decide, by decide⟩
  obtain ⟨T9, h9, X9, e9, W9, st9⟩ := stR X6 hx hZ e6 Arc8 (j := (1 : Int32)) hin9 rfl (Sto.ofV Arc8 qc8 O1 (Ins.self (E_w_IN_PROGRESS.ext o7.2))) (g := (mkF m 58 #[.val (.int pi1), .val (.int (pi1 &&& (7 : Int32))), .val (.int (0 : Int32)), .val (.int (1 : Int32)), .val (.int (0 : Int32)), .unset, .unset] [(.ref w_IN_PROGRESS), (.int (1 : Int32)), (.ref b1), (.ref b1)])) rfl rfl (hb hby at_58)
  have V9 : Arv Z h9 b1 k1 (.object "com/example/diarist/diarist/questionnaire/QuestionnaireStatus") (8 : Int32) [(.ref w_PENDING), (.ref w_IN_PROGRESS), .null, .null, .null, .null, .null, .null] .null := Arv.set Arc8 qc8 Sc8 Nc8 Hc8 Gc8 rfl W9 1 rfl (Nat.le_of_ble_eq_true rfl)
  have N9 := Fr.snoc X9 N5 g_b1
  have o11 := o7.wr W9 g_b1
  obtain ⟨T10, X10, e10, st10⟩ := getS2 X9 hx hZ hown (host := "") (Or.inl (hw _ (List.mem_of_getElem? (i := 8) rfl))) Via.refl e9 (S_SUBMITTED.ext o11.2) (g := (mkF m 61 #[.val (.int pi1), .val (.int (pi1 &&& (7 : Int32))), .val (.int (0 : Int32)), .val (.int (1 : Int32)), .val (.int (0 : Int32)), .unset, .unset] [(.int (2 : Int32)), (.ref b1), (.ref b1)])) rfl (hb hby at_61)
  have V_c12 := V9
  obtain ⟨c12, Arc12, qc12, Sc12, Nc12, Hc12, Gc12⟩ := V_c12
  have hin13 : ¬ ((2 : Int32) < 0 ∨ c12.slots.size ≤ ((2 : Int32)).toNatClampNeg) := inb_of Sc12 ⟨by decide, by decide⟩
  obtain ⟨T13, h13, X13, e13, W13, st13⟩ := stR X10 hx hZ e10 Arc12 (j := (2 : Int32)) hin13 rfl (Sto.ofV Arc12 qc12 O1 (Ins.self (E_w_SUBMITTED.ext o11.2))) (g := (mkF m 64 #[.val (.int pi1), .val (.int (pi1 &&& (7 : Int32))), .val (.int (0 : Int32)), .val (.int (1 : Int32)), .val (.int (0 : Int32)), .unset, .unset] [(.ref w_SUBMITTED), (.int (2 : Int32)), (.ref b1), (.ref b1)])) rfl rfl (hb hby at_64)
  have V13 : Arv Z h13 b1 k1 (.object "com/example/diarist/diarist/questionnaire/QuestionnaireStatus") (8 : Int32) [(.ref w_PENDING), (.ref w_IN_PROGRESS), (.ref w_SUBMITTED), .null, .null, .null, .null, .null] .null := Arv.set Arc12 qc12 Sc12 Nc12 Hc12 Gc12 rfl W13 2 rfl (Nat.le_of_ble_eq_true rfl)
  have N13 := Fr.snoc X13 N9 g_b1
  have o15 := o11.wr W13 g_b1
  obtain ⟨T14, X14, e14, st14⟩ := getS2 X13 hx hZ hown (host := "") (Or.inl (hw _ (List.mem_of_getElem? (i := 8) rfl))) Via.refl e13 (S_SUBMITTED.ext o15.2) (g := (mkF m 67 #[.val (.int pi1), .val (.int (pi1 &&& (7 : Int32))), .val (.int (0 : Int32)), .val (.int (1 : Int32)), .val (.int (0 : Int32)), .unset, .unset] [(.int (3 : Int32)), (.ref b1), (.ref b1)])) rfl (hb hby at_67)
  have V_c16 := V13
  obtain ⟨c16, Arc16, qc16, Sc16, Nc16, Hc16, Gc16⟩ := V_c16
  have hin17 : ¬ ((3 : Int32) < 0 ∨ c16.slots.size ≤ ((3 : Int32)).toNatClampNeg) := inb_of Sc16 ⟨by decide, by decide⟩
  obtain ⟨T17, h17, X17, e17, W17, st17⟩ := stR X14 hx hZ e14 Arc16 (j := (3 : Int32)) hin17 rfl (Sto.ofV Arc16 qc16 O1 (Ins.self (E_w_SUBMITTED.ext o15.2))) (g := (mkF m 70 #[.val (.int pi1), .val (.int (pi1 &&& (7 : Int32))), .val (.int (0 : Int32)), .val (.int (1 : Int32)), .val (.int (0 : Int32)), .unset, .unset] [(.ref w_SUBMITTED), (.int (3 : Int32)), (.ref b1), (.ref b1)])) rfl rfl (hb hby at_70)
  have V17 : Arv Z h17 b1 k1 (.object "com/example/diarist/diarist/questionnaire/QuestionnaireStatus") (8 : Int32) [(.ref w_PENDING), (.ref w_IN_PROGRESS), (.ref w_SUBMITTED), (.ref w_SUBMITTED), .null, .null, .null, .null] .null := Arv.set Arc16 qc16 Sc16 Nc16 Hc16 Gc16 rfl W17 3 rfl (Nat.le_of_ble_eq_true rfl)
  have N17 := Fr.snoc X17 N13 g_b1
  have o19 := o15.wr W17 g_b1
  obtain ⟨T18, X18, e18, st18⟩ := getS2 X17 hx hZ hown (host := "") (Or.inl (hw _ (List.mem_of_getElem? (i := 10) rfl))) Via.refl e17 (S_FINALIZED.ext o19.2) (g := (mkF m 73 #[.val (.int pi1), .val (.int (pi1 &&& (7 : Int32))), .val (.int (0 : Int32)), .val (.int (1 : Int32)), .val (.int (0 : Int32)), .unset, .unset] [(.int (4 : Int32)), (.ref b1), (.ref b1)])) rfl (hb hby at_73)
  have V_c20 := V17
  obtain ⟨c20, Arc20, qc20, Sc20, Nc20, Hc20, Gc20⟩ := V_c20
  have hin21 : ¬ ((4 : Int32) < 0 ∨ c20.slots.size ≤ ((4 : Int32)).toNatClampNeg) := inb_of Sc20 ⟨by decide, by decide⟩
  obtain ⟨T21, h21, X21, e21, W21, st21⟩ := stR X18 hx hZ e18 Arc20 (j := (4 : Int32)) hin21 rfl (Sto.ofV Arc20 qc20 O1 (Ins.self (E_w_FINALIZED.ext o19.2))) (g := (mkF m 76 #[.val (.int pi1), .val (.int (pi1 &&& (7 : Int32))), .val (.int (0 : Int32)), .val (.int (1 : Int32)), .val (.int (0 : Int32)), .unset, .unset] [(.ref w_FINALIZED), (.int (4 : Int32)), (.ref b1), (.ref b1)])) rfl rfl (hb hby at_76)
  have V21 : Arv Z h21 b1 k1 (.object "com/example/diarist/diarist/questionnaire/QuestionnaireStatus") (8 : Int32) [(.ref w_PENDING), (.ref w_IN_PROGRESS), (.ref w_SUBMITTED), (.ref w_SUBMITTED), (.ref w_FINALIZED), .null, .null, .null] .null := Arv.set Arc20 qc20 Sc20 Nc20 Hc20 Gc20 rfl W21 4 rfl (Nat.le_of_ble_eq_true rfl)
  have N21 := Fr.snoc X21 N17 g_b1
  have o23 := o19.wr W21 g_b1
  obtain ⟨T22, X22, e22, st22⟩ := getS2 X21 hx hZ hown (host := "") (Or.inl (hw _ (List.mem_of_getElem? (i := 10) rfl))) Via.refl e21 (S_FINALIZED.ext o23.2) (g := (mkF m 79 #[.val (.int pi1), .val (.int (pi1 &&& (7 : Int32))), .val (.int (0 : Int32)), .val (.int (1 : Int32)), .val (.int (0 : Int32)), .unset, .unset] [(.int (5 : Int32)), (.ref b1), (.ref b1)])) rfl (hb hby at_79)
  have V_c24 := V21
  obtain ⟨c24, Arc24, qc24, Sc24, Nc24, Hc24, Gc24⟩ := V_c24
  have hin25 : ¬ ((5 : Int32) < 0 ∨ c24.slots.size ≤ ((5 : Int32)).toNatClampNeg) := inb_of Sc24 ⟨by decide, by decide⟩
  obtain ⟨T25, h25, X25, e25, W25, st25⟩ := stR X22 hx hZ e22 Arc24 (j := (5 : Int32)) hin25 rfl (Sto.ofV Arc24 qc24 O1 (Ins.self (E_w_FINALIZED.ext o23.2))) (g := (mkF m 82 #[.val (.int pi1), .val (.int (pi1 &&& (7 : Int32))), .val (.int (0 : Int32)), .val (.int (1 : Int32)), .val (.int (0 : Int32)), .unset, .unset] [(.ref w_FINALIZED), (.int (5 : Int32)), (.ref b1), (.ref b1)])) rfl rfl (hb hby at_82)
  have V25 : Arv Z h25 b1 k1 (.object "com/example/diarist/diarist/questionnaire/QuestionnaireStatus") (8 : Int32) [(.ref w_PENDING), (.ref w_IN_PROGRESS), (.ref w_SUBMITTED), (.ref w_SUBMITTED), (.ref w_FINALIZED), (.ref w_FINALIZED), .null, .null] .null := Arv.set Arc24 qc24 Sc24 Nc24 Hc24 Gc24 rfl W25 5 rfl (Nat.le_of_ble_eq_true rfl)
  have N25 := Fr.snoc X25 N21 g_b1
  have o27 := o23.wr W25 g_b1
  obtain ⟨T26, X26, e26, st26⟩ := getS2 X25 hx hZ hown (host := "") (Or.inl (hw _ (List.mem_of_getElem? (i := 10) rfl))) Via.refl e25 (S_FINALIZED.ext o27.2) (g := (mkF m 86 #[.val (.int pi1), .val (.int (pi1 &&& (7 : Int32))), .val (.int (0 : Int32)), .val (.int (1 : Int32)), .val (.int (0 : Int32)), .unset, .unset] [(.int (6 : Int32)), (.ref b1), (.ref b1)])) rfl (hb hby at_86)
  have V_c28 := V25
  obtain ⟨c28, Arc28, qc28, Sc28, Nc28, Hc28, Gc28⟩ := V_c28
  have hin29 : ¬ ((6 : Int32) < 0 ∨ c28.slots.size ≤ ((6 : Int32)).toNatClampNeg) := inb_of Sc28 ⟨by decide, by decide⟩
  obtain ⟨T29, h29, X29, e29, W29, st29⟩ := stR X26 hx hZ e26 Arc28 (j := (6 : Int32)) hin29 rfl (Sto.ofV Arc28 qc28 O1 (Ins.self (E_w_FINALIZED.ext o27.2))) (g := (mkF m 89 #[.val (.int pi1), .val (.int (pi1 &&& (7 : Int32))), .val (.int (0 : Int32)), .val (.int (1 : Int32)), .val (.int (0 : Int32)), .unset, .unset] [(.ref w_FINALIZED), (.int (6 : Int32)), (.ref b1), (.ref b1)])) rfl rfl (hb hby at_89)
  have V29 : Arv Z h29 b1 k1 (.object "com/example/diarist/diarist/questionnaire/QuestionnaireStatus") (8 : Int32) [(.ref w_PENDING), (.ref w_IN_PROGRESS), (.ref w_SUBMITTED), (.ref w_SUBMITTED), (.ref w_FINALIZED), (.ref w_FINALIZED), (.ref w_FINALIZED), .null] .null := Arv.set Arc28 qc28 Sc28 Nc28 Hc28 Gc28 rfl W29 6 rfl (Nat.le_of_ble_eq_true rfl)
  have N29 := Fr.snoc X29 N25 g_b1
  have o31 := o27.wr W29 g_b1
  obtain ⟨T30, X30, e30, st30⟩ := getS2 X29 hx hZ hown (host := "") (Or.inl (hw _ (List.mem_of_getElem? (i := 10) rfl))) Via.refl e29 (S_FINALIZED.ext o31.2) (g := (mkF m 93 #[.val (.int pi1), .val (.int (pi1 &&& (7 : Int32))), .val (.int (0 : Int32)), .val (.int (1 : Int32)), .val (.int (0 : Int32)), .unset, .unset] [(.int (7 : Int32)), (.ref b1), (.ref b1)])) rfl (hb hby at_93)
  have V_c32 := V29
  obtain ⟨c32, Arc32, qc32, Sc32, Nc32, Hc32, Gc32⟩ := V_c32
  have hin33 : ¬ ((7 : Int32) < 0 ∨ c32.slots.size ≤ ((7 : Int32)).toNatClampNeg) := inb_of Sc32 ⟨by decide, by decide⟩
  obtain ⟨T33, h33, X33, e33, W33, st33⟩ := stR X30 hx hZ e30 Arc32 (j := (7 : Int32)) hin33 rfl (Sto.ofV Arc32 qc32 O1 (Ins.self (E_w_FINALIZED.ext o31.2))) (g := (mkF m 96 #[.val (.int pi1), .val (.int (pi1 &&& (7 : Int32))), .val (.int (0 : Int32)), .val (.int (1 : Int32)), .val (.int (0 : Int32)), .unset, .unset] [(.ref w_FINALIZED), (.int (7 : Int32)), (.ref b1), (.ref b1)])) rfl rfl (hb hby at_96)
  have V33 : Arv Z h33 b1 k1 (.object "com/example/diarist/diarist/questionnaire/QuestionnaireStatus") (8 : Int32) [(.ref w_PENDING), (.ref w_IN_PROGRESS), (.ref w_SUBMITTED), (.ref w_SUBMITTED), (.ref w_FINALIZED), (.ref w_FINALIZED), (.ref w_FINALIZED), (.ref w_FINALIZED)] .null := Arv.set Arc32 qc32 Sc32 Nc32 Hc32 Gc32 rfl W33 7 rfl (Nat.le_of_ble_eq_true rfl)
  have N33 := Fr.snoc X33 N29 g_b1
  have z35 := Nat.le_trans Z0 E1.1
  have z36 := Nat.le_trans z35 (Keep.of_wr W5).1
  have z37 := Nat.le_trans z36 (Keep.of_wr W9).1
  have z38 := Nat.le_trans z37 (Keep.of_wr W13).1
  have z39 := Nat.le_trans z38 (Keep.of_wr W17).1
  have z40 := Nat.le_trans z39 (Keep.of_wr W21).1
  have z41 := Nat.le_trans z40 (Keep.of_wr W25).1
  have z42 := Nat.le_trans z41 (Keep.of_wr W29).1
  have z43 := Nat.le_trans z42 (Keep.of_wr W33).1
  have o44 := o31.wr W33 g_b1
  obtain ⟨_, _, ⟨T34, L34, k34, n34⟩, -, X34, ⟨Lc34, hQ34, l34, y34, z34⟩, st34⟩ := Jvm.LawKit.callS X33 hx (y := (⟨"com/example/diarist/diarist/questionnaire/QuestionnaireStatus", "of", "(ZZZ)Lcom/example/diarist/diarist/questionnaire/QuestionnaireStatus;"⟩ : MethodName)) hown (mvT hZ (hw _ (List.mem_of_getElem? (i := 12) rfl))) (mvT hZ (hw _ (List.mem_of_getElem? (i := 13) rfl))) (mvT hZ (hw _ (List.mem_of_getElem? (i := 3) rfl))) (mvT hZ (hw _ (List.mem_of_getElem? (i := 14) rfl))) (by decide) (backOf (W := 0) (rm1_tf l Z a0 hw [] (0 : Int32) (1 : Int32) (0 : Int32) w_SUBMITTED h33 n0 z43 o44 S_SUBMITTED (by decide) (by decide)) hZ (hw _ (List.mem_of_getElem? (i := 14) rfl)) (hw _ (List.mem_of_getElem? (i := 3) rfl)) (by decide) (by decide)) (g := (mkF m 103 #[.val (.int pi1), .val (.int (pi1 &&& (7 : Int32))), .val (.int (0 : Int32)), .val (.int (1 : Int32)), .val (.int (0 : Int32)), .val (.ref b1), .unset] [(.int (0 : Int32)), (.int (1 : Int32)), (.int (0 : Int32))])) rfl (by rw [hml]; rfl) (argsL := [(.int (0 : Int32)), (.int (1 : Int32)), (.int (0 : Int32))]) (rest := []) (lenOf pd_0 rfl) rfl (by show 2 * 0 + _ ≤ _; exact Nat.le_of_eq rfl) (hb hby at_103) (fun _ _ => ⟨rfl, e33, (by decide : 1 + 0 ≤ _), (by decide : 8 + 0 ≤ _)⟩)
  dsimp only [Pt.U, Pt.locs, Pt.cells, Pt.slots] at X34 l34 y34 z34 st34 hQ34
  subst l34 y34 z34
  obtain ⟨rfl, N34q, eq34⟩ := hQ34
  have N34 := Fr.app N33 N34q
  have V_c45 := V33
  obtain ⟨c45, Arc45, qc45, Sc45, Nc45, Hc45, Gc45⟩ := V_c45
  have hj46 : (pi1 &&& (7 : Int32)) = (2 : Int32) := own_idx hc8_0 (own_b2 hc20_1) hc32_2 rfl
  have hin46 : ¬ ((pi1 &&& (7 : Int32)) < 0 ∨ c45.slots.size ≤ ((pi1 &&& (7 : Int32))).toNatClampNeg) := by rw [hj46]; exact inb_of Sc45 ⟨by decide, by decide⟩
  obtain ⟨fs, hr, hrun, hended, hW, hsame⟩ := X34.leave (v := some (.int (1 : Int32))) (fun h => by rw [Bd.returns] at h; cases h)
  refine ⟨_, _, pre0 _ ?_, hrun, hended, _, _, rfl, ?_, ⟨_, rfl⟩, hW, hsame.mono (by decide) (by decide)⟩
  · show Steps p.tables e below (s₁.setTop (mkF m 0 #[.val (.int pi1), .unset, .unset, .unset, .unset, .unset, .unset] [])) _
    refine XS.iloadN X0.here hx rfl (hb hby at_0) rfl ?_
    show Steps p.tables e below (s₁.setTop (mkF m 1 #[.val (.int pi1), .unset, .unset, .unset, .unset, .unset, .unset] [(.int pi1)])) _
    refine XS.bipush X0.here hx rfl (hb hby at_1) ?_
    show Steps p.tables e below (s₁.setTop (mkF m 3 #[.val (.int pi1), .unset, .unset, .unset, .unset, .unset, .unset] [(.int (7 : Int32)), (.int pi1)])) _
    refine XS.iand X0.here hx rfl (hb hby at_3) rfl ?_
    show Steps p.tables e below (s₁.setTop (mkF m 4 #[.val (.int pi1), .unset, .unset, .unset, .unset, .unset, .unset] [(.int (pi1 &&& (7 : Int32)))])) _
    refine XS.istoreN X0.here hx rfl (hb hby at_4) rfl (l' := #[.val (.int pi1), .val (.int (pi1 &&& (7 : Int32))), .unset, .unset, .unset, .unset, .unset]) rfl ?_
    show Steps p.tables e below (s₁.setTop (mkF m 5 #[.val (.int pi1), .val (.int (pi1 &&& (7 : Int32))), .unset, .unset, .unset, .unset, .unset] [])) _
    refine XS.iloadN X0.here hx rfl (hb hby at_5) rfl ?_
    show Steps p.tables e below (s₁.setTop (mkF m 6 #[.val (.int pi1), .val (.int (pi1 &&& (7 : Int32))), .unset, .unset, .unset, .unset, .unset] [(.int (pi1 &&& (7 : Int32)))])) _
    refine XS.iconst X0.here hx rfl (hb hby at_6) ?_
    show Steps p.tables e below (s₁.setTop (mkF m 7 #[.val (.int pi1), .val (.int (pi1 &&& (7 : Int32))), .unset, .unset, .unset, .unset, .unset] [(.int (1 : Int32)), (.int (pi1 &&& (7 : Int32)))])) _
    refine XS.iand X0.here hx rfl (hb hby at_7) rfl ?_
    show Steps p.tables e below (s₁.setTop (mkF m 8 #[.val (.int pi1), .val (.int (pi1 &&& (7 : Int32))), .unset, .unset, .unset, .unset, .unset] [(.int ((pi1 &&& (7 : Int32)) &&& (1 : Int32)))])) _
    refine XS.ifYes X0.here hx rfl (pc0 := 8) (pc' := 15) rfl (hb hby at_8) rfl ((if0 _ _).trans (teq hc8_0).1) (by decide) (by decide) ?_
    show Steps p.tables e below (s₁.setTop (mkF m 15 #[.val (.int pi1), .val (.int (pi1 &&& (7 : Int32))), .unset, .unset, .unset, .unset, .unset] [])) _
    refine XS.iconst X0.here hx rfl (hb hby at_15) ?_
    show Steps p.tables e below (s₁.setTop (mkF m 16 #[.val (.int pi1), .val (.int (pi1 &&& (7 : Int32))), .unset, .unset, .unset, .unset, .unset] [(.int (0 : Int32))])) _
    refine XS.istoreN X0.here hx rfl (hb hby at_16) rfl (l' := #[.val (.int pi1), .val (.int (pi1 &&& (7 : Int32))), .val (.int (0 : Int32)), .unset, .unset, .unset, .unset]) rfl ?_
    show Steps p.tables e below (s₁.setTop (mkF m 17 #[.val (.int pi1), .val (.int (pi1 &&& (7 : Int32))), .val (.int (0 : Int32)), .unset, .unset, .unset, .unset] [])) _
    refine XS.iloadN X0.here hx rfl (hb hby at_17) rfl ?_
    show Steps p.tables e below (s₁.setTop (mkF m 18 #[.val (.int pi1), .val (.int (pi1 &&& (7 : Int32))), .val (.int (0 : Int32)), .unset, .unset, .unset, .unset] [(.int (pi1 &&& (7 : Int32)))])) _
    refine XS.iconst X0.here hx rfl (hb hby at_18) ?_
    show Steps p.tables e below (s₁.setTop (mkF m 19 #[.val (.int pi1), .val (.int (pi1 &&& (7 : Int32))), .val (.int (0 : Int32)), .unset, .unset, .unset, .unset] [(.int (2 : Int32)), (.int (pi1 &&& (7 : Int32)))])) _
    refine XS.iand X0.here hx rfl (hb hby at_19) rfl ?_
    show Steps p.tables e below (s₁.setTop (mkF m 20 #[.val (.int pi1), .val (.int (pi1 &&& (7 : Int32))), .val (.int (0 : Int32)), .unset, .unset, .unset, .unset] [(.int ((pi1 &&& (7 : Int32)) &&& (2 : Int32)))])) _
    refine XS.ifNo X0.here hx rfl (hb hby at_20) rfl ((if0 _ _).trans (feq hc20_1).1) ?_
    show Steps p.tables e below (s₁.setTop (mkF m 23 #[.val (.int pi1), .val (.int (pi1 &&& (7 : Int32))), .val (.int (0 : Int32)), .unset, .unset, .unset, .unset] [])) _
    refine XS.iconst X0.here hx rfl (hb hby at_23) ?_
    show Steps p.tables e below (s₁.setTop (mkF m 24 #[.val (.int pi1), .val (.int (pi1 &&& (7 : Int32))), .val (.int (0 : Int32)), .unset, .unset, .unset, .unset] [(.int (1 : Int32))])) _
    refine XS.goto X0.here hx rfl (pc0 := 24) (pc' := 28) rfl (hb hby at_24) (by decide) (by decide) ?_
    show Steps p.tables e below (s₁.setTop (mkF m 28 #[.val (.int pi1), .val (.int (pi1 &&& (7 : Int32))), .val (.int (0 : Int32)), .unset, .unset, .unset, .unset] [(.int (1 : Int32))])) _
    refine XS.istoreN X0.here hx rfl (hb hby at_28) rfl (l' := #[.val (.int pi1), .val (.int (pi1 &&& (7 : Int32))), .val (.int (0 : Int32)), .val (.int (1 : Int32)), .unset, .unset, .unset]) rfl ?_
    show Steps p.tables e below (s₁.setTop (mkF m 29 #[.val (.int pi1), .val (.int (pi1 &&& (7 : Int32))), .val (.int (0 : Int32)), .val (.int (1 : Int32)), .unset, .unset, .unset] [])) _
    refine XS.iloadN X0.here hx rfl (hb hby at_29) rfl ?_
    show Steps p.tables e below (s₁.setTop (mkF m 30 #[.val (.int pi1), .val (.int (pi1 &&& (7 : Int32))), .val (.int (0 : Int32)), .val (.int (1 : Int32)), .unset, .unset, .unset] [(.int (pi1 &&& (7 : Int32)))])) _
    refine XS.iconst X0.here hx rfl (hb hby at_30) ?_
    show Steps p.tables e below (s₁.setTop (mkF m 31 #[.val (.int pi1), .val (.int (pi1 &&& (7 : Int32))), .val (.int (0 : Int32)), .val (.int (1 : Int32)), .unset, .unset, .unset] [(.int (4 : Int32)), (.int (pi1 &&& (7 : Int32)))])) _
    refine XS.iand X0.here hx rfl (hb hby at_31) rfl ?_
    show Steps p.tables e below (s₁.setTop (mkF m 32 #[.val (.int pi1), .val (.int (pi1 &&& (7 : Int32))), .val (.int (0 : Int32)), .val (.int (1 : Int32)), .unset, .unset, .unset] [(.int ((pi1 &&& (7 : Int32)) &&& (4 : Int32)))])) _
    refine XS.ifYes X0.here hx rfl (pc0 := 32) (pc' := 39) rfl (hb hby at_32) rfl ((if0 _ _).trans (teq hc32_2).1) (by decide) (by decide) ?_
    show Steps p.tables e below (s₁.setTop (mkF m 39 #[.val (.int pi1), .val (.int (pi1 &&& (7 : Int32))), .val (.int (0 : Int32)), .val (.int (1 : Int32)), .unset, .unset, .unset] [])) _
    refine XS.iconst X0.here hx rfl (hb hby at_39) ?_
    show Steps p.tables e below (s₁.setTop (mkF m 40 #[.val (.int pi1), .val (.int (pi1 &&& (7 : Int32))), .val (.int (0 : Int32)), .val (.int (1 : Int32)), .unset, .unset, .unset] [(.int (0 : Int32))])) _
    refine XS.istore X0.here hx rfl (hb hby at_40) rfl (l' := #[.val (.int pi1), .val (.int (pi1 &&& (7 : Int32))), .val (.int (0 : Int32)), .val (.int (1 : Int32)), .val (.int (0 : Int32)), .unset, .unset]) rfl ?_
    show Steps p.tables e below (s₁.setTop (mkF m 42 #[.val (.int pi1), .val (.int (pi1 &&& (7 : Int32))), .val (.int (0 : Int32)), .val (.int (1 : Int32)), .val (.int (0 : Int32)), .unset, .unset] [])) _
    refine XS.bipush X0.here hx rfl (hb hby at_42) ?_
    show Steps p.tables e below (s₁.setTop (mkF m 44 #[.val (.int pi1), .val (.int (pi1 &&& (7 : Int32))), .val (.int (0 : Int32)), .val (.int (1 : Int32)), .val (.int (0 : Int32)), .unset, .unset] [(.int (8 : Int32))])) _
    refine st1 _ ?_
    show Steps p.tables e below (T1.setTop (mkF m 47 #[.val (.int pi1), .val (.int (pi1 &&& (7 : Int32))), .val (.int (0 : Int32)), .val (.int (1 : Int32)), .val (.int (0 : Int32)), .unset, .unset] [(.ref b1)])) _
    refine XS.dup X1.here hx rfl (hb hby at_47) rfl rfl ?_
    show Steps p.tables e below (T1.setTop (mkF m 48 #[.val (.int pi1), .val (.int (pi1 &&& (7 : Int32))), .val (.int (0 : Int32)), .val (.int (1 : Int32)), .val (.int (0 : Int32)), .unset, .unset] [(.ref b1), (.ref b1)])) _
    refine XS.iconst X1.here hx rfl (hb hby at_48) ?_
    show Steps p.tables e below (T1.setTop (mkF m 49 #[.val (.int pi1), .val (.int (pi1 &&& (7 : Int32))), .val (.int (0 : Int32)), .val (.int (1 : Int32)), .val (.int (0 : Int32)), .unset, .unset] [(.int (0 : Int32)), (.ref b1), (.ref b1)])) _
    refine st2 _ ?_
    show Steps p.tables e below (T2.setTop (mkF m 52 #[.val (.int pi1), .val (.int (pi1 &&& (7 : Int32))), .val (.int (0 : Int32)), .val (.int (1 : Int32)), .val (.int (0 : Int32)), .unset, .unset] [(.ref w_PENDING), (.int (0 : Int32)), (.ref b1), (.ref b1)])) _
    refine st5 _ ?_
    show Steps p.tables e below (T5.setTop (mkF m 53 #[.val (.int pi1), .val (.int (pi1 &&& (7 : Int32))), .val (.int (0 : Int32)), .val (.int (1 : Int32)), .val (.int (0 : Int32)), .unset, .unset] [(.ref b1)])) _
    refine XS.dup X5.here hx rfl (hb hby at_53) rfl rfl ?_
    show Steps p.tables e below (T5.setTop (mkF m 54 #[.val (.int pi1), .val (.int (pi1 &&& (7 : Int32))), .val (.int (0 : Int32)), .val (.int (1 : Int32)), .val (.int (0 : Int32)), .unset, .unset] [(.ref b1), (.ref b1)])) _
    refine XS.iconst X5.here hx rfl (hb hby at_54) ?_
    show Steps p.tables e below (T5.setTop (mkF m 55 #[.val (.int pi1), .val (.int (pi1 &&& (7 : Int32))), .val (.int (0 : Int32)), .val (.int (1 : Int32)), .val (.int (0 : Int32)), .unset, .unset] [(.int (1 : Int32)), (.ref b1), (.ref b1)])) _
    refine st6 _ ?_
    show Steps p.tables e below (T6.setTop (mkF m 58 #[.val (.int pi1), .val (.int (pi1 &&& (7 : Int32))), .val (.int (0 : Int32)), .val (.int (1 : Int32)), .val (.int (0 : Int32)), .unset, .unset] [(.ref w_IN_PROGRESS), (.int (1 : Int32)), (.ref b1), (.ref b1)])) _
    refine st9 _ ?_
    show Steps p.tables e below (T9.setTop (mkF m 59 #[.val (.int pi1), .val (.int (pi1 &&& (7 : Int32))), .val (.int (0 : Int32)), .val (.int (1 : Int32)), .val (.int (0 : Int32)), .unset, .unset] [(.ref b1)])) _
    refine XS.dup X9.here hx rfl (hb hby at_59) rfl rfl ?_
    show Steps p.tables e below (T9.setTop (mkF m 60 #[.val (.int pi1), .val (.int (pi1 &&& (7 : Int32))), .val (.int (0 : Int32)), .val (.int (1 : Int32)), .val (.int (0 : Int32)), .unset, .unset] [(.ref b1), (.ref b1)])) _
    refine XS.iconst X9.here hx rfl (hb hby at_60) ?_
    show Steps p.tables e below (T9.setTop (mkF m 61 #[.val (.int pi1), .val (.int (pi1 &&& (7 : Int32))), .val (.int (0 : Int32)), .val (.int (1 : Int32)), .val (.int (0 : Int32)), .unset, .unset] [(.int (2 : Int32)), (.ref b1), (.ref b1)])) _
    refine st10 _ ?_
    show Steps p.tables e below (T10.setTop (mkF m 64 #[.val (.int pi1), .val (.int (pi1 &&& (7 : Int32))), .val (.int (0 : Int32)), .val (.int (1 : Int32)), .val (.int (0 : Int32)), .unset, .unset] [(.ref w_SUBMITTED), (.int (2 : Int32)), (.ref b1), (.ref b1)])) _
    refine st13 _ ?_
    show Steps p.tables e below (T13.setTop (mkF m 65 #[.val (.int pi1), .val (.int (pi1 &&& (7 : Int32))), .val (.int (0 : Int32)), .val (.int (1 : Int32)), .val (.int (0 : Int32)), .unset, .unset] [(.ref b1)])) _
    refine XS.dup X13.here hx rfl (hb hby at_65) rfl rfl ?_
    show Steps p.tables e below (T13.setTop (mkF m 66 #[.val (.int pi1), .val (.int (pi1 &&& (7 : Int32))), .val (.int (0 : Int32)), .val (.int (1 : Int32)), .val (.int (0 : Int32)), .unset, .unset] [(.ref b1), (.ref b1)])) _
    refine XS.iconst X13.here hx rfl (hb hby at_66) ?_
    show Steps p.tables e below (T13.setTop (mkF m 67 #[.val (.int pi1), .val (.int (pi1 &&& (7 : Int32))), .val (.int (0 : Int32)), .val (.int (1 : Int32)), .val (.int (0 : Int32)), .unset, .unset] [(.int (3 : Int32)), (.ref b1), (.ref b1)])) _
    refine st14 _ ?_
    show Steps p.tables e below (T14.setTop (mkF m 70 #[.val (.int pi1), .val (.int (pi1 &&& (7 : Int32))), .val (.int (0 : Int32)), .val (.int (1 : Int32)), .val (.int (0 : Int32)), .unset, .unset] [(.ref w_SUBMITTED), (.int (3 : Int32)), (.ref b1), (.ref b1)])) _
    refine st17 _ ?_
    show Steps p.tables e below (T17.setTop (mkF m 71 #[.val (.int pi1), .val (.int (pi1 &&& (7 : Int32))), .val (.int (0 : Int32)), .val (.int (1 : Int32)), .val (.int (0 : Int32)), .unset, .unset] [(.ref b1)])) _
    refine XS.dup X17.here hx rfl (hb hby at_71) rfl rfl ?_
    show Steps p.tables e below (T17.setTop (mkF m 72 #[.val (.int pi1), .val (.int (pi1 &&& (7 : Int32))), .val (.int (0 : Int32)), .val (.int (1 : Int32)), .val (.int (0 : Int32)), .unset, .unset] [(.ref b1), (.ref b1)])) _
    refine XS.iconst X17.here hx rfl (hb hby at_72) ?_
    show Steps p.tables e below (T17.setTop (mkF m 73 #[.val (.int pi1), .val (.int (pi1 &&& (7 : Int32))), .val (.int (0 : Int32)), .val (.int (1 : Int32)), .val (.int (0 : Int32)), .unset, .unset] [(.int (4 : Int32)), (.ref b1), (.ref b1)])) _
    refine st18 _ ?_
    show Steps p.tables e below (T18.setTop (mkF m 76 #[.val (.int pi1), .val (.int (pi1 &&& (7 : Int32))), .val (.int (0 : Int32)), .val (.int (1 : Int32)), .val (.int (0 : Int32)), .unset, .unset] [(.ref w_FINALIZED), (.int (4 : Int32)), (.ref b1), (.ref b1)])) _
    refine st21 _ ?_
    show Steps p.tables e below (T21.setTop (mkF m 77 #[.val (.int pi1), .val (.int (pi1 &&& (7 : Int32))), .val (.int (0 : Int32)), .val (.int (1 : Int32)), .val (.int (0 : Int32)), .unset, .unset] [(.ref b1)])) _
    refine XS.dup X21.here hx rfl (hb hby at_77) rfl rfl ?_
    show Steps p.tables e below (T21.setTop (mkF m 78 #[.val (.int pi1), .val (.int (pi1 &&& (7 : Int32))), .val (.int (0 : Int32)), .val (.int (1 : Int32)), .val (.int (0 : Int32)), .unset, .unset] [(.ref b1), (.ref b1)])) _
    refine XS.iconst X21.here hx rfl (hb hby at_78) ?_
    show Steps p.tables e below (T21.setTop (mkF m 79 #[.val (.int pi1), .val (.int (pi1 &&& (7 : Int32))), .val (.int (0 : Int32)), .val (.int (1 : Int32)), .val (.int (0 : Int32)), .unset, .unset] [(.int (5 : Int32)), (.ref b1), (.ref b1)])) _
    refine st22 _ ?_
    show Steps p.tables e below (T22.setTop (mkF m 82 #[.val (.int pi1), .val (.int (pi1 &&& (7 : Int32))), .val (.int (0 : Int32)), .val (.int (1 : Int32)), .val (.int (0 : Int32)), .unset, .unset] [(.ref w_FINALIZED), (.int (5 : Int32)), (.ref b1), (.ref b1)])) _
    refine st25 _ ?_
    show Steps p.tables e below (T25.setTop (mkF m 83 #[.val (.int pi1), .val (.int (pi1 &&& (7 : Int32))), .val (.int (0 : Int32)), .val (.int (1 : Int32)), .val (.int (0 : Int32)), .unset, .unset] [(.ref b1)])) _
    refine XS.dup X25.here hx rfl (hb hby at_83) rfl rfl ?_
    show Steps p.tables e below (T25.setTop (mkF m 84 #[.val (.int pi1), .val (.int (pi1 &&& (7 : Int32))), .val (.int (0 : Int32)), .val (.int (1 : Int32)), .val (.int (0 : Int32)), .unset, .unset] [(.ref b1), (.ref b1)])) _
    refine XS.bipush X25.here hx rfl (hb hby at_84) ?_
    show Steps p.tables e below (T25.setTop (mkF m 86 #[.val (.int pi1), .val (.int (pi1 &&& (7 : Int32))), .val (.int (0 : Int32)), .val (.int (1 : Int32)), .val (.int (0 : Int32)), .unset, .unset] [(.int (6 : Int32)), (.ref b1), (.ref b1)])) _
    refine st26 _ ?_
    show Steps p.tables e below (T26.setTop (mkF m 89 #[.val (.int pi1), .val (.int (pi1 &&& (7 : Int32))), .val (.int (0 : Int32)), .val (.int (1 : Int32)), .val (.int (0 : Int32)), .unset, .unset] [(.ref w_FINALIZED), (.int (6 : Int32)), (.ref b1), (.ref b1)])) _
    refine st29 _ ?_
    show Steps p.tables e below (T29.setTop (mkF m 90 #[.val (.int pi1), .val (.int (pi1 &&& (7 : Int32))), .val (.int (0 : Int32)), .val (.int (1 : Int32)), .val (.int (0 : Int32)), .unset, .unset] [(.ref b1)])) _
    refine XS.dup X29.here hx rfl (hb hby at_90) rfl rfl ?_
    show Steps p.tables e below (T29.setTop (mkF m 91 #[.val (.int pi1), .val (.int (pi1 &&& (7 : Int32))), .val (.int (0 : Int32)), .val (.int (1 : Int32)), .val (.int (0 : Int32)), .unset, .unset] [(.ref b1), (.ref b1)])) _
    refine XS.bipush X29.here hx rfl (hb hby at_91) ?_
    show Steps p.tables e below (T29.setTop (mkF m 93 #[.val (.int pi1), .val (.int (pi1 &&& (7 : Int32))), .val (.int (0 : Int32)), .val (.int (1 : Int32)), .val (.int (0 : Int32)), .unset, .unset] [(.int (7 : Int32)), (.ref b1), (.ref b1)])) _
    refine st30 _ ?_
    show Steps p.tables e below (T30.setTop (mkF m 96 #[.val (.int pi1), .val (.int (pi1 &&& (7 : Int32))), .val (.int (0 : Int32)), .val (.int (1 : Int32)), .val (.int (0 : Int32)), .unset, .unset] [(.ref w_FINALIZED), (.int (7 : Int32)), (.ref b1), (.ref b1)])) _
    refine st33 _ ?_
    show Steps p.tables e below (T33.setTop (mkF m 97 #[.val (.int pi1), .val (.int (pi1 &&& (7 : Int32))), .val (.int (0 : Int32)), .val (.int (1 : Int32)), .val (.int (0 : Int32)), .unset, .unset] [(.ref b1)])) _
    refine XS.astore X33.here hx rfl (hb hby at_97) rfl rfl (l' := #[.val (.int pi1), .val (.int (pi1 &&& (7 : Int32))), .val (.int (0 : Int32)), .val (.int (1 : Int32)), .val (.int (0 : Int32)), .val (.ref b1), .unset]) rfl ?_
    show Steps p.tables e below (T33.setTop (mkF m 99 #[.val (.int pi1), .val (.int (pi1 &&& (7 : Int32))), .val (.int (0 : Int32)), .val (.int (1 : Int32)), .val (.int (0 : Int32)), .val (.ref b1), .unset] [])) _
    refine XS.iloadN X33.here hx rfl (hb hby at_99) rfl ?_
    show Steps p.tables e below (T33.setTop (mkF m 100 #[.val (.int pi1), .val (.int (pi1 &&& (7 : Int32))), .val (.int (0 : Int32)), .val (.int (1 : Int32)), .val (.int (0 : Int32)), .val (.ref b1), .unset] [(.int (0 : Int32))])) _
    refine XS.iloadN X33.here hx rfl (hb hby at_100) rfl ?_
    show Steps p.tables e below (T33.setTop (mkF m 101 #[.val (.int pi1), .val (.int (pi1 &&& (7 : Int32))), .val (.int (0 : Int32)), .val (.int (1 : Int32)), .val (.int (0 : Int32)), .val (.ref b1), .unset] [(.int (1 : Int32)), (.int (0 : Int32))])) _
    refine XS.iload X33.here hx rfl (hb hby at_101) rfl ?_
    show Steps p.tables e below (T33.setTop (mkF m 103 #[.val (.int pi1), .val (.int (pi1 &&& (7 : Int32))), .val (.int (0 : Int32)), .val (.int (1 : Int32)), .val (.int (0 : Int32)), .val (.ref b1), .unset] [(.int (0 : Int32)), (.int (1 : Int32)), (.int (0 : Int32))])) _
    refine st34 _ ?_
    show Steps p.tables e below (T34.setTop (mkF m 106 #[.val (.int pi1), .val (.int (pi1 &&& (7 : Int32))), .val (.int (0 : Int32)), .val (.int (1 : Int32)), .val (.int (0 : Int32)), .val (.ref b1), .unset] [(.ref w_SUBMITTED)])) _
    refine XS.astore X34.here hx rfl (hb hby at_106) rfl rfl (l' := #[.val (.int pi1), .val (.int (pi1 &&& (7 : Int32))), .val (.int (0 : Int32)), .val (.int (1 : Int32)), .val (.int (0 : Int32)), .val (.ref b1), .val (.ref w_SUBMITTED)]) rfl ?_
    show Steps p.tables e below (T34.setTop (mkF m 108 #[.val (.int pi1), .val (.int (pi1 &&& (7 : Int32))), .val (.int (0 : Int32)), .val (.int (1 : Int32)), .val (.int (0 : Int32)), .val (.ref b1), .val (.ref w_SUBMITTED)] [])) _
    refine XS.aload X34.here hx rfl (hb hby at_108) rfl rfl ?_
    show Steps p.tables e below (T34.setTop (mkF m 110 #[.val (.int pi1), .val (.int (pi1 &&& (7 : Int32))), .val (.int (0 : Int32)), .val (.int (1 : Int32)), .val (.int (0 : Int32)), .val (.ref b1), .val (.ref w_SUBMITTED)] [(.ref w_SUBMITTED)])) _
    refine XS.aload X34.here hx rfl (hb hby at_110) rfl rfl ?_
    show Steps p.tables e below (T34.setTop (mkF m 112 #[.val (.int pi1), .val (.int (pi1 &&& (7 : Int32))), .val (.int (0 : Int32)), .val (.int (1 : Int32)), .val (.int (0 : Int32)), .val (.ref b1), .val (.ref w_SUBMITTED)] [(.ref b1), (.ref w_SUBMITTED)])) _
    refine XS.iloadN X34.here hx rfl (hb hby at_112) rfl ?_
    show Steps p.tables e below (T34.setTop (mkF m 113 #[.val (.int pi1), .val (.int (pi1 &&& (7 : Int32))), .val (.int (0 : Int32)), .val (.int (1 : Int32)), .val (.int (0 : Int32)), .val (.ref b1), .val (.ref w_SUBMITTED)] [(.int (pi1 &&& (7 : Int32))), (.ref b1), (.ref w_SUBMITTED)])) _
    refine X34.aaload hx (j := (pi1 &&& (7 : Int32))) (v := (.ref w_SUBMITTED)) (by rw [eq34]; exact Arc45.1) (State.isArrayOf_alike hZ.alike Arc45.2.1) rfl Arc45.2.2 hin46 (Has.at Hc45 hin46 (by rw [hj46]; rfl)) (g := (mkF m 113 #[.val (.int pi1), .val (.int (pi1 &&& (7 : Int32))), .val (.int (0 : Int32)), .val (.int (1 : Int32)), .val (.int (0 : Int32)), .val (.ref b1), .val (.ref w_SUBMITTED)] [(.int (pi1 &&& (7 : Int32))), (.ref b1), (.ref w_SUBMITTED)])) rfl rfl (hb hby at_113) _ ?_
    show Steps p.tables e below (T34.setTop (mkF m 114 #[.val (.int pi1), .val (.int (pi1 &&& (7 : Int32))), .val (.int (0 : Int32)), .val (.int (1 : Int32)), .val (.int (0 : Int32)), .val (.ref b1), .val (.ref w_SUBMITTED)] [(.ref w_SUBMITTED), (.ref w_SUBMITTED)])) _
    refine Jvm.RoadKit.acmp (g := (mkF m 114 #[.val (.int pi1), .val (.int (pi1 &&& (7 : Int32))), .val (.int (0 : Int32)), .val (.int (1 : Int32)), .val (.int (0 : Int32)), .val (.ref b1), .val (.ref w_SUBMITTED)] [(.ref w_SUBMITTED), (.ref w_SUBMITTED)])) X34 hx rfl rfl rfl (pc0 := 114) (pc' := 117) (same := true) rfl (hb hby at_114) rfl (decide_eq_true rfl) (by decide) (by decide) ?_
    show Steps p.tables e below (T34.setTop (mkF m 117 #[.val (.int pi1), .val (.int (pi1 &&& (7 : Int32))), .val (.int (0 : Int32)), .val (.int (1 : Int32)), .val (.int (0 : Int32)), .val (.ref b1), .val (.ref w_SUBMITTED)] [])) _
    refine XS.iconst X34.here hx rfl (hb hby at_117) ?_
    show Steps p.tables e below (T34.setTop (mkF m 118 #[.val (.int pi1), .val (.int (pi1 &&& (7 : Int32))), .val (.int (0 : Int32)), .val (.int (1 : Int32)), .val (.int (0 : Int32)), .val (.ref b1), .val (.ref w_SUBMITTED)] [(.int (1 : Int32))])) _
    refine XS.goto X34.here hx rfl (pc0 := 118) (pc' := 122) rfl (hb hby at_118) (by decide) (by decide) ?_
    show Steps p.tables e below (T34.setTop (mkF m 122 #[.val (.int pi1), .val (.int (pi1 &&& (7 : Int32))), .val (.int (0 : Int32)), .val (.int (1 : Int32)), .val (.int (0 : Int32)), .val (.ref b1), .val (.ref w_SUBMITTED)] [(.int (1 : Int32))])) _
    exact retN X34 hx (t := .boolean) Bd.returns (by simp) (hb hby at_122) hr
  · exact ⟨rfl, N34⟩
set_option maxRecDepth 65536 in
set_option maxHeartbeats 40000000 in
theorem rm0_tff (l : Launch) (Z : State) (a0 : Array Value) (hw : ∀ d ∈ tables_1, d.before a0 Z = true) (ws : List Jvm.Cond) (pi1 : Int32) (w_PENDING : Addr) (w_IN_PROGRESS : Addr) (w_SUBMITTED : Addr) (w_FINALIZED : Addr) (h0 : Heap) (n0 : Nat) (Z0 : n0 ≤ h0.size) (O0 : Old Z n0 h0) (S_PENDING : Sta Z Z.heap "com/example/diarist/diarist/questionnaire/QuestionnaireStatus" "PENDING" "Lcom/example/diarist/diarist/questionnaire/QuestionnaireStatus;" (.ref w_PENDING)) (E_w_PENDING : Exa Z Z.heap w_PENDING "com/example/diarist/diarist/questionnaire/QuestionnaireStatus") (S_IN_PROGRESS : Sta Z Z.heap "com/example/diarist/diarist/questionnaire/QuestionnaireStatus" "IN_PROGRESS" "Lcom/example/diarist/diarist/questionnaire/QuestionnaireStatus;" (.ref w_IN_PROGRESS)) (E_w_IN_PROGRESS : Exa Z Z.heap w_IN_PROGRESS "com/example/diarist/diarist/questionnaire/QuestionnaireStatus") (S_SUBMITTED : Sta Z Z.heap "com/example/diarist/diarist/questionnaire/QuestionnaireStatus" "SUBMITTED" "Lcom/example/diarist/diarist/questionnaire/QuestionnaireStatus;" (.ref w_SUBMITTED)) (E_w_SUBMITTED : Exa Z Z.heap w_SUBMITTED "com/example/diarist/diarist/questionnaire/QuestionnaireStatus") (S_FINALIZED : Sta Z Z.heap "com/example/diarist/diarist/questionnaire/QuestionnaireStatus" "FINALIZED" "Lcom/example/diarist/diarist/questionnaire/QuestionnaireStatus;" (.ref w_FINALIZED)) (E_w_FINALIZED : Exa Z Z.heap w_FINALIZED "com/example/diarist/diarist/questionnaire/QuestionnaireStatus") (hc8_0 : ((pi1 &&& (7 : Int32)) &&& (1 : Int32)) = (0 : Int32)) (hc20_1 : ¬ (((pi1 &&& (7 : Int32)) &&& (2 : Int32)) = (0 : Int32))) (hc32_2 : ¬ (((pi1 &&& (7 : Int32)) &&& (4 : Int32)) = (0 : Int32))) :
    MetFree l x (head1 (Jvm.Cond.code x code maxLocals ret :: ws) room_1) (fun a U => a = #[(.int pi1)] ∧ Z.Warmed39 U.vm ∧ U.heap = h0) (fun _ _ _ _ _ => True) (fun _ U o U' => ∃ v L, o = .returned v ∧ Q0 v L n0 ∧ FrameEnd U o U' L room_1.cells room_1.slots) := by
  refine MetFree.of_bodySF (plainFor_of_name pn_0) hisR ?_
  intro p e s m args below meth c s₁ Bd hml0 hP hK
  obtain ⟨rfl, hZ, hh⟩ := hP
  have hx := Bd.exec
  have hby := Bd.bytes
  have hml : c.maxLocals = 7 := hml0
  have hown : s.vm.findClass "com/example/diarist/diarist/questionnaire/QuestionnaireStatusOfPinLaw" = some m.cls := findClass_of_methodNamed Bd.named
  have hnm := (name_of_methodNamed Bd.named Bd.method).1
  have X0 : Stand p l e room_1 s m #[(.int pi1)] below meth c s₁ [] 0 0 := Stand.of_body Bd
  have e0 : s₁.heap = h0 := by rw [← hh, Bd.state]; rfl
  have N0 := Fr.nil n0
  have pre0 : ∀ t, Steps p.tables e below (s₁.setTop (mkF m 0 #[.val (.int pi1), .unset, .unset, .unset, .unset, .unset, .unset] [])) t → Steps p.tables e below (s₁.setTop (entryFrame m #[(.int pi1)] maxLocals)) t := fun t k => castTop (ef_0 m pi1) k
  obtain ⟨T1, h1, k1, X1, e1, E1, A1, O1, st1⟩ := newR X0 hx hZ hown (hw _ (List.mem_of_getElem? (i := 0) rfl)) (hw _ (List.mem_of_getElem? (i := 1) rfl)) e0 (g := (mkF m 44 #[.val (.int pi1), .val (.int (pi1 &&& (7 : Int32))), .val (.int (0 : Int32)), .val (.int (1 : Int32)), .val (.int (1 : Int32)), .unset, .unset] [(.int (8 : Int32))])) rfl (hb hby at_44) rfl (by decide) (cap := 8) (by decide) (by decide) (by decide) (by decide)
  obtain ⟨b1, g1⟩ : ∃ z, z = h0.size := ⟨_, rfl⟩
  rw [← g1] at A1 st1
  have V1 : Arv Z h1 b1 k1 (.object "com/example/diarist/diarist/questionnaire/QuestionnaireStatus") (8 : Int32) [.null, .null, .null, .null, .null, .null, .null, .null] .null := (Arv.new A1 (by decide)).pad (pad_rep [] .null 8)
  have o3 := O0.ext E1
  obtain ⟨T2, X2, e2, st2⟩ := getS2 X1 hx hZ hown (host := "") (Or.inl (hw _ (List.mem_of_getElem? (i := 2) rfl))) Via.refl e1 (S_PENDING.ext o3.2) (g := (mkF m 49 #[.val (.int pi1), .val (.int (pi1 &&& (7 : Int32))), .val (.int (0 : Int32)), .val (.int (1 : Int32)), .val (.int (1 : Int32)), .unset, .unset] [(.int (0 : Int32)), (.ref b1), (.ref b1)])) rfl (hb hby at_49)
  have g_b1 : n0 ≤ b1 := Nat.le_trans Z0 (Nat.le_of_eq g1.symm)
  have V_c4 := V1
  obtain ⟨c4, Arc4, qc4, Sc4, Nc4, Hc4, Gc4⟩ := V_c4
  have hin5 : ¬ ((0 : Int32) < 0 ∨ c4.slots.size ≤ ((0 : Int32)).toNatClampNeg) := inb_of Sc4 ⟨by decide, by decide⟩
  obtain ⟨T5, h5, X5, e5, W5, st5⟩ := stR X2 hx hZ e2 Arc4 (j := (0 : Int32)) hin5 rfl (Sto.ofV Arc4 qc4 O1 (Ins.self (E_w_PENDING.ext o3.2))) (g := (mkF m 52 #[.val (.int pi1), .val (.int (pi1 &&& (7 : Int32))), .val (.int (0 : Int32)), .val (.int (1 : Int32)), .val (.int (1 : Int32)), .unset, .unset] [(.ref w_PENDING), (.int (0 : Int32)), (.ref b1), (.ref b1)])) rfl rfl (hb hby at_52)
  have V5 : Arv Z h5 b1 k1 (.object "com/example/diarist/diarist/questionnaire/QuestionnaireStatus") (8 : Int32) [(.ref w_PENDING), .null, .null, .null, .null, .null, .null, .null] .null := Arv.set Arc4 qc4 Sc4 Nc4 Hc4 Gc4 rfl W5 0 rfl (Nat.le_of_ble_eq_true rfl)
  have N5 := Fr.snoc X5 N0 g_b1
  have o7 := o3.wr W5 g_b1
  obtain ⟨T6, X6, e6, st6⟩ := getS2 X5 hx hZ hown (host := "") (Or.inl (hw _ (List.mem_of_getElem? (i := 6) rfl))) Via.refl e5 (S_IN_PROGRESS.ext o7.2) (g := (mkF m 55 #[.val (.int pi1), .val (.int (pi1 &&& (7 : Int32))), .val (.int (0 : Int32)), .val (.int (1 : Int32)), .val (.int (1 : Int32)), .unset, .unset] [(.int (1 : Int32)), (.ref b1), (.ref b1)])) rfl (hb hby at_55)
  have V_c8 := V5
  obtain ⟨c8, Arc8, qc8, Sc8, Nc8, Hc8, Gc8⟩ := V_c8
  have hin9 : ¬ ((1 : Int32) < 0 ∨ c8.slots.size ≤ ((1 : Int32)).toNatClampNeg) := inb_of Sc8 ⟨by decide, by decide⟩
  obtain ⟨T9, h9, X9, e9, W9, st9⟩ := stR X6 hx hZ e6 Arc8 (j := (1 : Int32)) hin9 rfl (Sto.ofV Arc8 qc8 O1 (Ins.self (E_w_IN_PROGRESS.ext o7.2))) (g := (mkF m 58 #[.val (.int pi1), .val (.int (pi1 &&& (7 : Int32))), .val (.int (0 : Int32)), .val (.int (1 : Int32)), .val (.int (1 : Int32)), .unset, .unset] [(.ref w_IN_PROGRESS), (.int (1 : Int32)), (.ref b1), (.ref b1)])) rfl rfl (hb hby at_58)
  have V9 : Arv Z h9 b1 k1 (.object "com/example/diarist/diarist/questionnaire/QuestionnaireStatus") (8 : Int32) [(.ref w_PENDING), (.ref w_IN_PROGRESS), .null, .null, .null, .null, .null, .null] .null := Arv.set Arc8 qc8 Sc8 Nc8 Hc8 Gc8 rfl W9 1 rfl (Nat.le_of_ble_eq_true rfl)
  have N9 := Fr.snoc X9 N5 g_b1
  have o11 := o7.wr W9 g_b1
  obtain ⟨T10, X10, e10, st10⟩ := getS2 X9 hx hZ hown (host := "") (Or.inl (hw _ (List.mem_of_getElem? (i := 8) rfl))) Via.refl e9 (S_SUBMITTED.ext o11.2) (g := (mkF m 61 #[.val (.int pi1), .val (.int (pi1 &&& (7 : Int32))), .val (.int (0 : Int32)), .val (.int (1 : Int32)), .val (.int (1 : Int32)), .unset, .unset] [(.int (2 : Int32)), (.ref b1), (.ref b1)])) rfl (hb hby at_61)
  have V_c12 := V9
  obtain ⟨c12, Arc12, qc12, Sc12, Nc12, Hc12, Gc12⟩ := V_c12
  have hin13 : ¬ ((2 : Int32) < 0 ∨ c12.slots.size ≤ ((2 : Int32)).toNatClampNeg) := inb_of Sc12 ⟨by decide, by decide⟩
  obtain ⟨T13, h13, X13, e13, W13, st13⟩ := stR X10 hx hZ e10 Arc12 (j := (2 : Int32)) hin13 rfl (Sto.ofV Arc12 qc12 O1 (Ins.self (E_w_SUBMITTED.ext o11.2))) (g := (mkF m 64 #[.val (.int pi1), .val (.int (pi1 &&& (7 : Int32))), .val (.int (0 : Int32)), .val (.int (1 : Int32)), .val (.int (1 : Int32)), .unset, .unset] [(.ref w_SUBMITTED), (.int (2 : Int32)), (.ref b1), (.ref b1)])) rfl rfl (hb hby at_64)
  have V13 : Arv Z h13 b1 k1 (.object "com/example/diarist/diarist/questionnaire/QuestionnaireStatus") (8 : Int32) [(.ref w_PENDING), (.ref w_IN_PROGRESS), (.ref w_SUBMITTED), .null, .null, .null, .null, .null] .null := Arv.set Arc12 qc12 Sc12 Nc12 Hc12 Gc12 rfl W13 2 rfl (Nat.le_of_ble_eq_true rfl)
  have N13 := Fr.snoc X13 N9 g_b1
  have o15 := o11.wr W13 g_b1
  obtain ⟨T14, X14, e14, st14⟩ := getS2 X13 hx hZ hown (host := "") (Or.inl (hw _ (List.mem_of_getElem? (i := 8) rfl))) Via.refl e13 (S_SUBMITTED.ext o15.2) (g := (mkF m 67 #[.val (.int pi1), .val (.int (pi1 &&& (7 : Int32))), .val (.int (0 : Int32)), .val (.int (1 : Int32)), .val (.int (1 : Int32)), .unset, .unset] [(.int (3 : Int32)), (.ref b1), (.ref b1)])) rfl (hb hby at_67)
  have V_c16 := V13
  obtain ⟨c16, Arc16, qc16, Sc16, Nc16, Hc16, Gc16⟩ := V_c16
  have hin17 : ¬ ((3 : Int32) < 0 ∨ c16.slots.size ≤ ((3 : Int32)).toNatClampNeg) := inb_of Sc16 ⟨by decide, by decide⟩
  obtain ⟨T17, h17, X17, e17, W17, st17⟩ := stR X14 hx hZ e14 Arc16 (j := (3 : Int32)) hin17 rfl (Sto.ofV Arc16 qc16 O1 (Ins.self (E_w_SUBMITTED.ext o15.2))) (g := (mkF m 70 #[.val (.int pi1), .val (.int (pi1 &&& (7 : Int32))), .val (.int (0 : Int32)), .val (.int (1 : Int32)), .val (.int (1 : Int32)), .unset, .unset] [(.ref w_SUBMITTED), (.int (3 : Int32)), (.ref b1), (.ref b1)])) rfl rfl (hb hby at_70)
  have V17 : Arv Z h17 b1 k1 (.object "com/example/diarist/diarist/questionnaire/QuestionnaireStatus") (8 : Int32) [(.ref w_PENDING), (.ref w_IN_PROGRESS), (.ref w_SUBMITTED), (.ref w_SUBMITTED), .null, .null, .null, .null] .null := Arv.set Arc16 qc16 Sc16 Nc16 Hc16 Gc16 rfl W17 3 rfl (Nat.le_of_ble_eq_true rfl)
  have N17 := Fr.snoc X17 N13 g_b1
  have o19 := o15.wr W17 g_b1
  obtain ⟨T18, X18, e18, st18⟩ := getS2 X17 hx hZ hown (host := "") (Or.inl (hw _ (List.mem_of_getElem? (i := 10) rfl))) Via.refl e17 (S_FINALIZED.ext o19.2) (g := (mkF m 73 #[.val (.int pi1), .val (.int (pi1 &&& (7 : Int32))), .val (.int (0 : Int32)), .val (.int (1 : Int32)), .val (.int (1 : Int32)), .unset, .unset] [(.int (4 : Int32)), (.ref b1), (.ref b1)])) rfl (hb hby at_73)
  have V_c20 := V17
  obtain ⟨c20, Arc20, qc20, Sc20, Nc20, Hc20, Gc20⟩ := V_c20
  have hin21 : ¬ ((4 : Int32) < 0 ∨ c20.slots.size ≤ ((4 : Int32)).toNatClampNeg) := inb_of Sc20 ⟨by decide, by decide⟩
  obtain ⟨T21, h21, X21, e21, W21, st21⟩ := stR X18 hx hZ e18 Arc20 (j := (4 : Int32)) hin21 rfl (Sto.ofV Arc20 qc20 O1 (Ins.self (E_w_FINALIZED.ext o19.2))) (g := (mkF m 76 #[.val (.int pi1), .val (.int (pi1 &&& (7 : Int32))), .val (.int (0 : Int32)), .val (.int (1 : Int32)), .val (.int (1 : Int32)), .unset, .unset] [(.ref w_FINALIZED), (.int (4 : Int32)), (.ref b1), (.ref b1)])) rfl rfl (hb hby at_76)
  have V21 : Arv Z h21 b1 k1 (.object "com/example/diarist/diarist/questionnaire/QuestionnaireStatus") (8 : Int32) [(.ref w_PENDING), (.ref w_IN_PROGRESS), (.ref w_SUBMITTED), (.ref w_SUBMITTED), (.ref w_FINALIZED), .null, .null, .null] .null := Arv.set Arc20 qc20 Sc20 Nc20 Hc20 Gc20 rfl W21 4 rfl (Nat.le_of_ble_eq_true rfl)
  have N21 := Fr.snoc X21 N17 g_b1
  have o23 := o19.wr W21 g_b1
  obtain ⟨T22, X22, e22, st22⟩ := getS2 X21 hx hZ hown (host := "") (Or.inl (hw _ (List.mem_of_getElem? (i := 10) rfl))) Via.refl e21 (S_FINALIZED.ext o23.2) (g := (mkF m 79 #[.val (.int pi1), .val (.int (pi1 &&& (7 : Int32))), .val (.int (0 : Int32)), .val (.int (1 : Int32)), .val (.int (1 : Int32)), .unset, .unset] [(.int (5 : Int32)), (.ref b1), (.ref b1)])) rfl (hb hby at_79)
  have V_c24 := V21
  obtain ⟨c24, Arc24, qc24, Sc24, Nc24, Hc24, Gc24⟩ := V_c24
  have hin25 : ¬ ((5 : Int32) < 0 ∨ c24.slots.size ≤ ((5 : Int32)).toNatClampNeg) := inb_of Sc24 ⟨by decide, by decide⟩
  obtain ⟨T25, h25, X25, e25, W25, st25⟩ := stR X22 hx hZ e22 Arc24 (j := (5 : Int32)) hin25 rfl (Sto.ofV Arc24 qc24 O1 (Ins.self (E_w_FINALIZED.ext o23.2))) (g := (mkF m 82 #[.val (.int pi1), .val (.int (pi1 &&& (7 : Int32))), .val (.int (0 : Int32)), .val (.int (1 : Int32)), .val (.int (1 : Int32)), .unset, .unset] [(.ref w_FINALIZED), (.int (5 : Int32)), (.ref b1), (.ref b1)])) rfl rfl (hb hby at_82)
  have V25 : Arv Z h25 b1 k1 (.object "com/example/diarist/diarist/questionnaire/QuestionnaireStatus") (8 : Int32) [(.ref w_PENDING), (.ref w_IN_PROGRESS), (.ref w_SUBMITTED), (.ref w_SUBMITTED), (.ref w_FINALIZED), (.ref w_FINALIZED), .null, .null] .null := Arv.set Arc24 qc24 Sc24 Nc24 Hc24 Gc24 rfl W25 5 rfl (Nat.le_of_ble_eq_true rfl)
  have N25 := Fr.snoc X25 N21 g_b1
  have o27 := o23.wr W25 g_b1
  obtain ⟨T26, X26, e26, st26⟩ := getS2 X25 hx hZ hown (host := "") (Or.inl (hw _ (List.mem_of_getElem? (i := 10) rfl))) Via.refl e25 (S_FINALIZED.ext o27.2) (g := (mkF m 86 #[.val (.int pi1), .val (.int (pi1 &&& (7 : Int32))), .val (.int (0 : Int32)), .val (.int (1 : Int32)), .val (.int (1 : Int32)), .unset, .unset] [(.int (6 : Int32)), (.ref b1), (.ref b1)])) rfl (hb hby at_86)
  have V_c28 := V25
  obtain ⟨c28, Arc28, qc28, Sc28, Nc28, Hc28, Gc28⟩ := V_c28
  have hin29 : ¬ ((6 : Int32) < 0 ∨ c28.slots.size ≤ ((6 : Int32)).toNatClampNeg) := inb_of Sc28 ⟨by decide, by decide⟩
  obtain ⟨T29, h29, X29, e29, W29, st29⟩ := stR X26 hx hZ e26 Arc28 (j := (6 : Int32)) hin29 rfl (Sto.ofV Arc28 qc28 O1 (Ins.self (E_w_FINALIZED.ext o27.2))) (g := (mkF m 89 #[.val (.int pi1), .val (.int (pi1 &&& (7 : Int32))), .val (.int (0 : Int32)), .val (.int (1 : Int32)), .val (.int (1 : Int32)), .unset, .unset] [(.ref w_FINALIZED), (.int (6 : Int32)), (.ref b1), (.ref b1)])) rfl rfl (hb hby at_89)
  have V29 : Arv Z h29 b1 k1 (.object "com/example/diarist/diarist/questionnaire/QuestionnaireStatus") (8 : Int32) [(.ref w_PENDING), (.ref w_IN_PROGRESS), (.ref w_SUBMITTED), (.ref w_SUBMITTED), (.ref w_FINALIZED), (.ref w_FINALIZED), (.ref w_FINALIZED), .null] .null := Arv.set Arc28 qc28 Sc28 Nc28 Hc28 Gc28 rfl W29 6 rfl (Nat.le_of_ble_eq_true rfl)
  have N29 := Fr.snoc X29 N25 g_b1
  have o31 := o27.wr W29 g_b1
  obtain ⟨T30, X30, e30, st30⟩ := getS2 X29 hx hZ hown (host := "") (Or.inl (hw _ (List.mem_of_getElem? (i := 10) rfl))) Via.refl e29 (S_FINALIZED.ext o31.2) (g := (mkF m 93 #[.val (.int pi1), .val (.int (pi1 &&& (7 : Int32))), .val (.int (0 : Int32)), .val (.int (1 : Int32)), .val (.int (1 : Int32)), .unset, .unset] [(.int (7 : Int32)), (.ref b1), (.ref b1)])) rfl (hb hby at_93)
  have V_c32 := V29
  obtain ⟨c32, Arc32, qc32, Sc32, Nc32, Hc32, Gc32⟩ := V_c32
  have hin33 : ¬ ((7 : Int32) < 0 ∨ c32.slots.size ≤ ((7 : Int32)).toNatClampNeg) := inb_of Sc32 ⟨by decide, by decide⟩
  obtain ⟨T33, h33, X33, e33, W33, st33⟩ := stR X30 hx hZ e30 Arc32 (j := (7 : Int32)) hin33 rfl (Sto.ofV Arc32 qc32 O1 (Ins.self (E_w_FINALIZED.ext o31.2))) (g := (mkF m 96 #[.val (.int pi1), .val (.int (pi1 &&& (7 : Int32))), .val (.int (0 : Int32)), .val (.int (1 : Int32)), .val (.int (1 : Int32)), .unset, .unset] [(.ref w_FINALIZED), (.int (7 : Int32)), (.ref b1), (.ref b1)])) rfl rfl (hb hby at_96)
  have V33 : Arv Z h33 b1 k1 (.object "com/example/diarist/diarist/questionnaire/QuestionnaireStatus") (8 : Int32) [(.ref w_PENDING), (.ref w_IN_PROGRESS), (.ref w_SUBMITTED), (.ref w_SUBMITTED), (.ref w_FINALIZED), (.ref w_FINALIZED), (.ref w_FINALIZED), (.ref w_FINALIZED)] .null := Arv.set Arc32 qc32 Sc32 Nc32 Hc32 Gc32 rfl W33 7 rfl (Nat.le_of_ble_eq_true rfl)
  have N33 := Fr.snoc X33 N29 g_b1
  have z35 := Nat.le_trans Z0 E1.1
  have z36 := Nat.le_trans z35 (Keep.of_wr W5).1
  have z37 := Nat.le_trans z36 (Keep.of_wr W9).1
  have z38 := Nat.le_trans z37 (Keep.of_wr W13).1
  have z39 := Nat.le_trans z38 (Keep.of_wr W17).1
  have z40 := Nat.le_trans z39 (Keep.of_wr W21).1
  have z41 := Nat.le_trans z40 (Keep.of_wr W25).1
  have z42 := Nat.le_trans z41 (Keep.of_wr W29).1
  have z43 := Nat.le_trans z42 (Keep.of_wr W33).1
  have o44 := o31.wr W33 g_b1
  obtain ⟨_, _, ⟨T34, L34, k34, n34⟩, -, X34, ⟨Lc34, hQ34, l34, y34, z34⟩, st34⟩ := Jvm.LawKit.callS X33 hx (y := (⟨"com/example/diarist/diarist/questionnaire/QuestionnaireStatus", "of", "(ZZZ)Lcom/example/diarist/diarist/questionnaire/QuestionnaireStatus;"⟩ : MethodName)) hown (mvT hZ (hw _ (List.mem_of_getElem? (i := 12) rfl))) (mvT hZ (hw _ (List.mem_of_getElem? (i := 13) rfl))) (mvT hZ (hw _ (List.mem_of_getElem? (i := 3) rfl))) (mvT hZ (hw _ (List.mem_of_getElem? (i := 14) rfl))) (by decide) (backOf (W := 0) (rm1_f l Z a0 hw [] (0 : Int32) (1 : Int32) (1 : Int32) w_FINALIZED h33 n0 z43 o44 S_FINALIZED (by decide)) hZ (hw _ (List.mem_of_getElem? (i := 14) rfl)) (hw _ (List.mem_of_getElem? (i := 3) rfl)) (by decide) (by decide)) (g := (mkF m 103 #[.val (.int pi1), .val (.int (pi1 &&& (7 : Int32))), .val (.int (0 : Int32)), .val (.int (1 : Int32)), .val (.int (1 : Int32)), .val (.ref b1), .unset] [(.int (1 : Int32)), (.int (1 : Int32)), (.int (0 : Int32))])) rfl (by rw [hml]; rfl) (argsL := [(.int (0 : Int32)), (.int (1 : Int32)), (.int (1 : Int32))]) (rest := []) (lenOf pd_0 rfl) rfl (by show 2 * 0 + _ ≤ _; exact Nat.le_of_eq rfl) (hb hby at_103) (fun _ _ => ⟨rfl, e33, (by decide : 1 + 0 ≤ _), (by decide : 8 + 0 ≤ _)⟩)
  dsimp only [Pt.U, Pt.locs, Pt.cells, Pt.slots] at X34 l34 y34 z34 st34 hQ34
  subst l34 y34 z34
  obtain ⟨rfl, N34q, eq34⟩ := hQ34
  have N34 := Fr.app N33 N34q
  have V_c45 := V33
  obtain ⟨c45, Arc45, qc45, Sc45, Nc45, Hc45, Gc45⟩ := V_c45
  have hj46 : (pi1 &&& (7 : Int32)) = (6 : Int32) := own_idx hc8_0 (own_b2 hc20_1) (own_b4 hc32_2) rfl
  have hin46 : ¬ ((pi1 &&& (7 : Int32)) < 0 ∨ c45.slots.size ≤ ((pi1 &&& (7 : Int32))).toNatClampNeg) := by rw [hj46]; exact inb_of Sc45 ⟨by decide, by decide⟩
  obtain ⟨fs, hr, hrun, hended, hW, hsame⟩ := X34.leave (v := some (.int (1 : Int32))) (fun h => by rw [Bd.returns] at h; cases h)
  refine ⟨_, _, pre0 _ ?_, hrun, hended, _, _, rfl, ?_, ⟨_, rfl⟩, hW, hsame.mono (by decide) (by decide)⟩
  · show Steps p.tables e below (s₁.setTop (mkF m 0 #[.val (.int pi1), .unset, .unset, .unset, .unset, .unset, .unset] [])) _
    refine XS.iloadN X0.here hx rfl (hb hby at_0) rfl ?_
    show Steps p.tables e below (s₁.setTop (mkF m 1 #[.val (.int pi1), .unset, .unset, .unset, .unset, .unset, .unset] [(.int pi1)])) _
    refine XS.bipush X0.here hx rfl (hb hby at_1) ?_
    show Steps p.tables e below (s₁.setTop (mkF m 3 #[.val (.int pi1), .unset, .unset, .unset, .unset, .unset, .unset] [(.int (7 : Int32)), (.int pi1)])) _
    refine XS.iand X0.here hx rfl (hb hby at_3) rfl ?_
    show Steps p.tables e below (s₁.setTop (mkF m 4 #[.val (.int pi1), .unset, .unset, .unset, .unset, .unset, .unset] [(.int (pi1 &&& (7 : Int32)))])) _
    refine XS.istoreN X0.here hx rfl (hb hby at_4) rfl (l' := #[.val (.int pi1), .val (.int (pi1 &&& (7 : Int32))), .unset, .unset, .unset, .unset, .unset]) rfl ?_
    show Steps p.tables e below (s₁.setTop (mkF m 5 #[.val (.int pi1), .val (.int (pi1 &&& (7 : Int32))), .unset, .unset, .unset, .unset, .unset] [])) _
    refine XS.iloadN X0.here hx rfl (hb hby at_5) rfl ?_
    show Steps p.tables e below (s₁.setTop (mkF m 6 #[.val (.int pi1), .val (.int (pi1 &&& (7 : Int32))), .unset, .unset, .unset, .unset, .unset] [(.int (pi1 &&& (7 : Int32)))])) _
    refine XS.iconst X0.here hx rfl (hb hby at_6) ?_
    show Steps p.tables e below (s₁.setTop (mkF m 7 #[.val (.int pi1), .val (.int (pi1 &&& (7 : Int32))), .unset, .unset, .unset, .unset, .unset] [(.int (1 : Int32)), (.int (pi1 &&& (7 : Int32)))])) _
    refine XS.iand X0.here hx rfl (hb hby at_7) rfl ?_
    show Steps p.tables e below (s₁.setTop (mkF m 8 #[.val (.int pi1), .val (.int (pi1 &&& (7 : Int32))), .unset, .unset, .unset, .unset, .unset] [(.int ((pi1 &&& (7 : Int32)) &&& (1 : Int32)))])) _
    refine XS.ifYes X0.here hx rfl (pc0 := 8) (pc' := 15) rfl (hb hby at_8) rfl ((if0 _ _).trans (teq hc8_0).1) (by decide) (by decide) ?_
    show Steps p.tables e below (s₁.setTop (mkF m 15 #[.val (.int pi1), .val (.int (pi1 &&& (7 : Int32))), .unset, .unset, .unset, .unset, .unset] [])) _
    refine XS.iconst X0.here hx rfl (hb hby at_15) ?_
    show Steps p.tables e below (s₁.setTop (mkF m 16 #[.val (.int pi1), .val (.int (pi1 &&& (7 : Int32))), .unset, .unset, .unset, .unset, .unset] [(.int (0 : Int32))])) _
    refine XS.istoreN X0.here hx rfl (hb hby at_16) rfl (l' := #[.val (.int pi1), .val (.int (pi1 &&& (7 : Int32))), .val (.int (0 : Int32)), .unset, .unset, .unset, .unset]) rfl ?_
    show Steps p.tables e below (s₁.setTop (mkF m 17 #[.val (.int pi1), .val (.int (pi1 &&& (7 : Int32))), .val (.int (0 : Int32)), .unset, .unset, .unset, .unset] [])) _
    refine XS.iloadN X0.here hx rfl (hb hby at_17) rfl ?_
    show Steps p.tables e below (s₁.setTop (mkF m 18 #[.val (.int pi1), .val (.int (pi1 &&& (7 : Int32))), .val (.int (0 : Int32)), .unset, .unset, .unset, .unset] [(.int (pi1 &&& (7 : Int32)))])) _
    refine XS.iconst X0.here hx rfl (hb hby at_18) ?_
    show Steps p.tables e below (s₁.setTop (mkF m 19 #[.val (.int pi1), .val (.int (pi1 &&& (7 : Int32))), .val (.int (0 : Int32)), .unset, .unset, .unset, .unset] [(.int (2 : Int32)), (.int (pi1 &&& (7 : Int32)))])) _
    refine XS.iand X0.here hx rfl (hb hby at_19) rfl ?_
    show Steps p.tables e below (s₁.setTop (mkF m 20 #[.val (.int pi1), .val (.int (pi1 &&& (7 : Int32))), .val (.int (0 : Int32)), .unset, .unset, .unset, .unset] [(.int ((pi1 &&& (7 : Int32)) &&& (2 : Int32)))])) _
    refine XS.ifNo X0.here hx rfl (hb hby at_20) rfl ((if0 _ _).trans (feq hc20_1).1) ?_
    show Steps p.tables e below (s₁.setTop (mkF m 23 #[.val (.int pi1), .val (.int (pi1 &&& (7 : Int32))), .val (.int (0 : Int32)), .unset, .unset, .unset, .unset] [])) _
    refine XS.iconst X0.here hx rfl (hb hby at_23) ?_
    show Steps p.tables e below (s₁.setTop (mkF m 24 #[.val (.int pi1), .val (.int (pi1 &&& (7 : Int32))), .val (.int (0 : Int32)), .unset, .unset, .unset, .unset] [(.int (1 : Int32))])) _
    refine XS.goto X0.here hx rfl (pc0 := 24) (pc' := 28) rfl (hb hby at_24) (by decide) (by decide) ?_
    show Steps p.tables e below (s₁.setTop (mkF m 28 #[.val (.int pi1), .val (.int (pi1 &&& (7 : Int32))), .val (.int (0 : Int32)), .unset, .unset, .unset, .unset] [(.int (1 : Int32))])) _
    refine XS.istoreN X0.here hx rfl (hb hby at_28) rfl (l' := #[.val (.int pi1), .val (.int (pi1 &&& (7 : Int32))), .val (.int (0 : Int32)), .val (.int (1 : Int32)), .unset, .unset, .unset]) rfl ?_
    show Steps p.tables e below (s₁.setTop (mkF m 29 #[.val (.int pi1), .val (.int (pi1 &&& (7 : Int32))), .val (.int (0 : Int32)), .val (.int (1 : Int32)), .unset, .unset, .unset] [])) _
    refine XS.iloadN X0.here hx rfl (hb hby at_29) rfl ?_
    show Steps p.tables e below (s₁.setTop (mkF m 30 #[.val (.int pi1), .val (.int (pi1 &&& (7 : Int32))), .val (.int (0 : Int32)), .val (.int (1 : Int32)), .unset, .unset, .unset] [(.int (pi1 &&& (7 : Int32)))])) _
    refine XS.iconst X0.here hx rfl (hb hby at_30) ?_
    show Steps p.tables e below (s₁.setTop (mkF m 31 #[.val (.int pi1), .val (.int (pi1 &&& (7 : Int32))), .val (.int (0 : Int32)), .val (.int (1 : Int32)), .unset, .unset, .unset] [(.int (4 : Int32)), (.int (pi1 &&& (7 : Int32)))])) _
    refine XS.iand X0.here hx rfl (hb hby at_31) rfl ?_
    show Steps p.tables e below (s₁.setTop (mkF m 32 #[.val (.int pi1), .val (.int (pi1 &&& (7 : Int32))), .val (.int (0 : Int32)), .val (.int (1 : Int32)), .unset, .unset, .unset] [(.int ((pi1 &&& (7 : Int32)) &&& (4 : Int32)))])) _
    refine XS.ifNo X0.here hx rfl (hb hby at_32) rfl ((if0 _ _).trans (feq hc32_2).1) ?_
    show Steps p.tables e below (s₁.setTop (mkF m 35 #[.val (.int pi1), .val (.int (pi1 &&& (7 : Int32))), .val (.int (0 : Int32)), .val (.int (1 : Int32)), .unset, .unset, .unset] [])) _
    refine XS.iconst X0.here hx rfl (hb hby at_35) ?_
    show Steps p.tables e below (s₁.setTop (mkF m 36 #[.val (.int pi1), .val (.int (pi1 &&& (7 : Int32))), .val (.int (0 : Int32)), .val (.int (1 : Int32)), .unset, .unset, .unset] [(.int (1 : Int32))])) _
    refine XS.goto X0.here hx rfl (pc0 := 36) (pc' := 40) rfl (hb hby at_36) (by decide) (by decide) ?_
    show Steps p.tables e below (s₁.setTop (mkF m 40 #[.val (.int pi1), .val (.int (pi1 &&& (7 : Int32))), .val (.int (0 : Int32)), .val (.int (1 : Int32)), .unset, .unset, .unset] [(.int (1 : Int32))])) _
    refine XS.istore X0.here hx rfl (hb hby at_40) rfl (l' := #[.val (.int pi1), .val (.int (pi1 &&& (7 : Int32))), .val (.int (0 : Int32)), .val (.int (1 : Int32)), .val (.int (1 : Int32)), .unset, .unset]) rfl ?_
    show Steps p.tables e below (s₁.setTop (mkF m 42 #[.val (.int pi1), .val (.int (pi1 &&& (7 : Int32))), .val (.int (0 : Int32)), .val (.int (1 : Int32)), .val (.int (1 : Int32)), .unset, .unset] [])) _
    refine XS.bipush X0.here hx rfl (hb hby at_42) ?_
    show Steps p.tables e below (s₁.setTop (mkF m 44 #[.val (.int pi1), .val (.int (pi1 &&& (7 : Int32))), .val (.int (0 : Int32)), .val (.int (1 : Int32)), .val (.int (1 : Int32)), .unset, .unset] [(.int (8 : Int32))])) _
    refine st1 _ ?_
    show Steps p.tables e below (T1.setTop (mkF m 47 #[.val (.int pi1), .val (.int (pi1 &&& (7 : Int32))), .val (.int (0 : Int32)), .val (.int (1 : Int32)), .val (.int (1 : Int32)), .unset, .unset] [(.ref b1)])) _
    refine XS.dup X1.here hx rfl (hb hby at_47) rfl rfl ?_
    show Steps p.tables e below (T1.setTop (mkF m 48 #[.val (.int pi1), .val (.int (pi1 &&& (7 : Int32))), .val (.int (0 : Int32)), .val (.int (1 : Int32)), .val (.int (1 : Int32)), .unset, .unset] [(.ref b1), (.ref b1)])) _
    refine XS.iconst X1.here hx rfl (hb hby at_48) ?_
    show Steps p.tables e below (T1.setTop (mkF m 49 #[.val (.int pi1), .val (.int (pi1 &&& (7 : Int32))), .val (.int (0 : Int32)), .val (.int (1 : Int32)), .val (.int (1 : Int32)), .unset, .unset] [(.int (0 : Int32)), (.ref b1), (.ref b1)])) _
    refine st2 _ ?_
    show Steps p.tables e below (T2.setTop (mkF m 52 #[.val (.int pi1), .val (.int (pi1 &&& (7 : Int32))), .val (.int (0 : Int32)), .val (.int (1 : Int32)), .val (.int (1 : Int32)), .unset, .unset] [(.ref w_PENDING), (.int (0 : Int32)), (.ref b1), (.ref b1)])) _
    refine st5 _ ?_
    show Steps p.tables e below (T5.setTop (mkF m 53 #[.val (.int pi1), .val (.int (pi1 &&& (7 : Int32))), .val (.int (0 : Int32)), .val (.int (1 : Int32)), .val (.int (1 : Int32)), .unset, .unset] [(.ref b1)])) _
    refine XS.dup X5.here hx rfl (hb hby at_53) rfl rfl ?_
    show Steps p.tables e below (T5.setTop (mkF m 54 #[.val (.int pi1), .val (.int (pi1 &&& (7 : Int32))), .val (.int (0 : Int32)), .val (.int (1 : Int32)), .val (.int (1 : Int32)), .unset, .unset] [(.ref b1), (.ref b1)])) _
    refine XS.iconst X5.here hx rfl (hb hby at_54) ?_
    show Steps p.tables e below (T5.setTop (mkF m 55 #[.val (.int pi1), .val (.int (pi1 &&& (7 : Int32))), .val (.int (0 : Int32)), .val (.int (1 : Int32)), .val (.int (1 : Int32)), .unset, .unset] [(.int (1 : Int32)), (.ref b1), (.ref b1)])) _
    refine st6 _ ?_
    show Steps p.tables e below (T6.setTop (mkF m 58 #[.val (.int pi1), .val (.int (pi1 &&& (7 : Int32))), .val (.int (0 : Int32)), .val (.int (1 : Int32)), .val (.int (1 : Int32)), .unset, .unset] [(.ref w_IN_PROGRESS), (.int (1 : Int32)), (.ref b1), (.ref b1)])) _
    refine st9 _ ?_
    show Steps p.tables e below (T9.setTop (mkF m 59 #[.val (.int pi1), .val (.int (pi1 &&& (7 : Int32))), .val (.int (0 : Int32)), .val (.int (1 : Int32)), .val (.int (1 : Int32)), .unset, .unset] [(.ref b1)])) _
    refine XS.dup X9.here hx rfl (hb hby at_59) rfl rfl ?_
    show Steps p.tables e below (T9.setTop (mkF m 60 #[.val (.int pi1), .val (.int (pi1 &&& (7 : Int32))), .val (.int (0 : Int32)), .val (.int (1 : Int32)), .val (.int (1 : Int32)), .unset, .unset] [(.ref b1), (.ref b1)])) _
    refine XS.iconst X9.here hx rfl (hb hby at_60) ?_
    show Steps p.tables e below (T9.setTop (mkF m 61 #[.val (.int pi1), .val (.int (pi1 &&& (7 : Int32))), .val (.int (0 : Int32)), .val (.int (1 : Int32)), .val (.int (1 : Int32)), .unset, .unset] [(.int (2 : Int32)), (.ref b1), (.ref b1)])) _
    refine st10 _ ?_
    show Steps p.tables e below (T10.setTop (mkF m 64 #[.val (.int pi1), .val (.int (pi1 &&& (7 : Int32))), .val (.int (0 : Int32)), .val (.int (1 : Int32)), .val (.int (1 : Int32)), .unset, .unset] [(.ref w_SUBMITTED), (.int (2 : Int32)), (.ref b1), (.ref b1)])) _
    refine st13 _ ?_
    show Steps p.tables e below (T13.setTop (mkF m 65 #[.val (.int pi1), .val (.int (pi1 &&& (7 : Int32))), .val (.int (0 : Int32)), .val (.int (1 : Int32)), .val (.int (1 : Int32)), .unset, .unset] [(.ref b1)])) _
    refine XS.dup X13.here hx rfl (hb hby at_65) rfl rfl ?_
    show Steps p.tables e below (T13.setTop (mkF m 66 #[.val (.int pi1), .val (.int (pi1 &&& (7 : Int32))), .val (.int (0 : Int32)), .val (.int (1 : Int32)), .val (.int (1 : Int32)), .unset, .unset] [(.ref b1), (.ref b1)])) _
    refine XS.iconst X13.here hx rfl (hb hby at_66) ?_
    show Steps p.tables e below (T13.setTop (mkF m 67 #[.val (.int pi1), .val (.int (pi1 &&& (7 : Int32))), .val (.int (0 : Int32)), .val (.int (1 : Int32)), .val (.int (1 : Int32)), .unset, .unset] [(.int (3 : Int32)), (.ref b1), (.ref b1)])) _
    refine st14 _ ?_
    show Steps p.tables e below (T14.setTop (mkF m 70 #[.val (.int pi1), .val (.int (pi1 &&& (7 : Int32))), .val (.int (0 : Int32)), .val (.int (1 : Int32)), .val (.int (1 : Int32)), .unset, .unset] [(.ref w_SUBMITTED), (.int (3 : Int32)), (.ref b1), (.ref b1)])) _
    refine st17 _ ?_
    show Steps p.tables e below (T17.setTop (mkF m 71 #[.val (.int pi1), .val (.int (pi1 &&& (7 : Int32))), .val (.int (0 : Int32)), .val (.int (1 : Int32)), .val (.int (1 : Int32)), .unset, .unset] [(.ref b1)])) _
    refine XS.dup X17.here hx rfl (hb hby at_71) rfl rfl ?_
    show Steps p.tables e below (T17.setTop (mkF m 72 #[.val (.int pi1), .val (.int (pi1 &&& (7 : Int32))), .val (.int (0 : Int32)), .val (.int (1 : Int32)), .val (.int (1 : Int32)), .unset, .unset] [(.ref b1), (.ref b1)])) _
    refine XS.iconst X17.here hx rfl (hb hby at_72) ?_
    show Steps p.tables e below (T17.setTop (mkF m 73 #[.val (.int pi1), .val (.int (pi1 &&& (7 : Int32))), .val (.int (0 : Int32)), .val (.int (1 : Int32)), .val (.int (1 : Int32)), .unset, .unset] [(.int (4 : Int32)), (.ref b1), (.ref b1)])) _
    refine st18 _ ?_
    show Steps p.tables e below (T18.setTop (mkF m 76 #[.val (.int pi1), .val (.int (pi1 &&& (7 : Int32))), .val (.int (0 : Int32)), .val (.int (1 : Int32)), .val (.int (1 : Int32)), .unset, .unset] [(.ref w_FINALIZED), (.int (4 : Int32)), (.ref b1), (.ref b1)])) _
    refine st21 _ ?_
    show Steps p.tables e below (T21.setTop (mkF m 77 #[.val (.int pi1), .val (.int (pi1 &&& (7 : Int32))), .val (.int (0 : Int32)), .val (.int (1 : Int32)), .val (.int (1 : Int32)), .unset, .unset] [(.ref b1)])) _
    refine XS.dup X21.here hx rfl (hb hby at_77) rfl rfl ?_
    show Steps p.tables e below (T21.setTop (mkF m 78 #[.val (.int pi1), .val (.int (pi1 &&& (7 : Int32))), .val (.int (0 : Int32)), .val (.int (1 : Int32)), .val (.int (1 : Int32)), .unset, .unset] [(.ref b1), (.ref b1)])) _
    refine XS.iconst X21.here hx rfl (hb hby at_78) ?_
    show Steps p.tables e below (T21.setTop (mkF m 79 #[.val (.int pi1), .val (.int (pi1 &&& (7 : Int32))), .val (.int (0 : Int32)), .val (.int (1 : Int32)), .val (.int (1 : Int32)), .unset, .unset] [(.int (5 : Int32)), (.ref b1), (.ref b1)])) _
    refine st22 _ ?_
    show Steps p.tables e below (T22.setTop (mkF m 82 #[.val (.int pi1), .val (.int (pi1 &&& (7 : Int32))), .val (.int (0 : Int32)), .val (.int (1 : Int32)), .val (.int (1 : Int32)), .unset, .unset] [(.ref w_FINALIZED), (.int (5 : Int32)), (.ref b1), (.ref b1)])) _
    refine st25 _ ?_
    show Steps p.tables e below (T25.setTop (mkF m 83 #[.val (.int pi1), .val (.int (pi1 &&& (7 : Int32))), .val (.int (0 : Int32)), .val (.int (1 : Int32)), .val (.int (1 : Int32)), .unset, .unset] [(.ref b1)])) _
    refine XS.dup X25.here hx rfl (hb hby at_83) rfl rfl ?_
    show Steps p.tables e below (T25.setTop (mkF m 84 #[.val (.int pi1), .val (.int (pi1 &&& (7 : Int32))), .val (.int (0 : Int32)), .val (.int (1 : Int32)), .val (.int (1 : Int32)), .unset, .unset] [(.ref b1), (.ref b1)])) _
    refine XS.bipush X25.here hx rfl (hb hby at_84) ?_
    show Steps p.tables e below (T25.setTop (mkF m 86 #[.val (.int pi1), .val (.int (pi1 &&& (7 : Int32))), .val (.int (0 : Int32)), .val (.int (1 : Int32)), .val (.int (1 : Int32)), .unset, .unset] [(.int (6 : Int32)), (.ref b1), (.ref b1)])) _
    refine st26 _ ?_
    show Steps p.tables e below (T26.setTop (mkF m 89 #[.val (.int pi1), .val (.int (pi1 &&& (7 : Int32))), .val (.int (0 : Int32)), .val (.int (1 : Int32)), .val (.int (1 : Int32)), .unset, .unset] [(.ref w_FINALIZED), (.int (6 : Int32)), (.ref b1), (.ref b1)])) _
    refine st29 _ ?_
    show Steps p.tables e below (T29.setTop (mkF m 90 #[.val (.int pi1), .val (.int (pi1 &&& (7 : Int32))), .val (.int (0 : Int32)), .val (.int (1 : Int32)), .val (.int (1 : Int32)), .unset, .unset] [(.ref b1)])) _
    refine XS.dup X29.here hx rfl (hb hby at_90) rfl rfl ?_
    show Steps p.tables e below (T29.setTop (mkF m 91 #[.val (.int pi1), .val (.int (pi1 &&& (7 : Int32))), .val (.int (0 : Int32)), .val (.int (1 : Int32)), .val (.int (1 : Int32)), .unset, .unset] [(.ref b1), (.ref b1)])) _
    refine XS.bipush X29.here hx rfl (hb hby at_91) ?_
    show Steps p.tables e below (T29.setTop (mkF m 93 #[.val (.int pi1), .val (.int (pi1 &&& (7 : Int32))), .val (.int (0 : Int32)), .val (.int (1 : Int32)), .val (.int (1 : Int32)), .unset, .unset] [(.int (7 : Int32)), (.ref b1), (.ref b1)])) _
    refine st30 _ ?_
    show Steps p.tables e below (T30.setTop (mkF m 96 #[.val (.int pi1), .val (.int (pi1 &&& (7 : Int32))), .val (.int (0 : Int32)), .val (.int (1 : Int32)), .val (.int (1 : Int32)), .unset, .unset] [(.ref w_FINALIZED), (.int (7 : Int32)), (.ref b1), (.ref b1)])) _
    refine st33 _ ?_
    show Steps p.tables e below (T33.setTop (mkF m 97 #[.val (.int pi1), .val (.int (pi1 &&& (7 : Int32))), .val (.int (0 : Int32)), .val (.int (1 : Int32)), .val (.int (1 : Int32)), .unset, .unset] [(.ref b1)])) _
    refine XS.astore X33.here hx rfl (hb hby at_97) rfl rfl (l' := #[.val (.int pi1), .val (.int (pi1 &&& (7 : Int32))), .val (.int (0 : Int32)), .val (.int (1 : Int32)), .val (.int (1 : Int32)), .val (.ref b1), .unset]) rfl ?_
    show Steps p.tables e below (T33.setTop (mkF m 99 #[.val (.int pi1), .val (.int (pi1 &&& (7 : Int32))), .val (.int (0 : Int32)), .val (.int (1 : Int32)), .val (.int (1 : Int32)), .val (.ref b1), .unset] [])) _
    refine XS.iloadN X33.here hx rfl (hb hby at_99) rfl ?_
    show Steps p.tables e below (T33.setTop (mkF m 100 #[.val (.int pi1), .val (.int (pi1 &&& (7 : Int32))), .val (.int (0 : Int32)), .val (.int (1 : Int32)), .val (.int (1 : Int32)), .val (.ref b1), .unset] [(.int (0 : Int32))])) _
    refine XS.iloadN X33.here hx rfl (hb hby at_100) rfl ?_
    show Steps p.tables e below (T33.setTop (mkF m 101 #[.val (.int pi1), .val (.int (pi1 &&& (7 : Int32))), .val (.int (0 : Int32)), .val (.int (1 : Int32)), .val (.int (1 : Int32)), .val (.ref b1), .unset] [(.int (1 : Int32)), (.int (0 : Int32))])) _
    refine XS.iload X33.here hx rfl (hb hby at_101) rfl ?_
    show Steps p.tables e below (T33.setTop (mkF m 103 #[.val (.int pi1), .val (.int (pi1 &&& (7 : Int32))), .val (.int (0 : Int32)), .val (.int (1 : Int32)), .val (.int (1 : Int32)), .val (.ref b1), .unset] [(.int (1 : Int32)), (.int (1 : Int32)), (.int (0 : Int32))])) _
    refine st34 _ ?_
    show Steps p.tables e below (T34.setTop (mkF m 106 #[.val (.int pi1), .val (.int (pi1 &&& (7 : Int32))), .val (.int (0 : Int32)), .val (.int (1 : Int32)), .val (.int (1 : Int32)), .val (.ref b1), .unset] [(.ref w_FINALIZED)])) _
    refine XS.astore X34.here hx rfl (hb hby at_106) rfl rfl (l' := #[.val (.int pi1), .val (.int (pi1 &&& (7 : Int32))), .val (.int (0 : Int32)), .val (.int (1 : Int32)), .val (.int (1 : Int32)), .val (.ref b1), .val (.ref w_FINALIZED)]) rfl ?_
    show Steps p.tables e below (T34.setTop (mkF m 108 #[.val (.int pi1), .val (.int (pi1 &&& (7 : Int32))), .val (.int (0 : Int32)), .val (.int (1 : Int32)), .val (.int (1 : Int32)), .val (.ref b1), .val (.ref w_FINALIZED)] [])) _
    refine XS.aload X34.here hx rfl (hb hby at_108) rfl rfl ?_
    show Steps p.tables e below (T34.setTop (mkF m 110 #[.val (.int pi1), .val (.int (pi1 &&& (7 : Int32))), .val (.int (0 : Int32)), .val (.int (1 : Int32)), .val (.int (1 : Int32)), .val (.ref b1), .val (.ref w_FINALIZED)] [(.ref w_FINALIZED)])) _
    refine XS.aload X34.here hx rfl (hb hby at_110) rfl rfl ?_
    show Steps p.tables e below (T34.setTop (mkF m 112 #[.val (.int pi1), .val (.int (pi1 &&& (7 : Int32))), .val (.int (0 : Int32)), .val (.int (1 : Int32)), .val (.int (1 : Int32)), .val (.ref b1), .val (.ref w_FINALIZED)] [(.ref b1), (.ref w_FINALIZED)])) _
    refine XS.iloadN X34.here hx rfl (hb hby at_112) rfl ?_
    show Steps p.tables e below (T34.setTop (mkF m 113 #[.val (.int pi1), .val (.int (pi1 &&& (7 : Int32))), .val (.int (0 : Int32)), .val (.int (1 : Int32)), .val (.int (1 : Int32)), .val (.ref b1), .val (.ref w_FINALIZED)] [(.int (pi1 &&& (7 : Int32))), (.ref b1), (.ref w_FINALIZED)])) _
    refine X34.aaload hx (j := (pi1 &&& (7 : Int32))) (v := (.ref w_FINALIZED)) (by rw [eq34]; exact Arc45.1) (State.isArrayOf_alike hZ.alike Arc45.2.1) rfl Arc45.2.2 hin46 (Has.at Hc45 hin46 (by rw [hj46]; rfl)) (g := (mkF m 113 #[.val (.int pi1), .val (.int (pi1 &&& (7 : Int32))), .val (.int (0 : Int32)), .val (.int (1 : Int32)), .val (.int (1 : Int32)), .val (.ref b1), .val (.ref w_FINALIZED)] [(.int (pi1 &&& (7 : Int32))), (.ref b1), (.ref w_FINALIZED)])) rfl rfl (hb hby at_113) _ ?_
    show Steps p.tables e below (T34.setTop (mkF m 114 #[.val (.int pi1), .val (.int (pi1 &&& (7 : Int32))), .val (.int (0 : Int32)), .val (.int (1 : Int32)), .val (.int (1 : Int32)), .val (.ref b1), .val (.ref w_FINALIZED)] [(.ref w_FINALIZED), (.ref w_FINALIZED)])) _
    refine Jvm.RoadKit.acmp (g := (mkF m 114 #[.val (.int pi1), .val (.int (pi1 &&& (7 : Int32))), .val (.int (0 : Int32)), .val (.int (1 : Int32)), .val (.int (1 : Int32)), .val (.ref b1), .val (.ref w_FINALIZED)] [(.ref w_FINALIZED), (.ref w_FINALIZED)])) X34 hx rfl rfl rfl (pc0 := 114) (pc' := 117) (same := true) rfl (hb hby at_114) rfl (decide_eq_true rfl) (by decide) (by decide) ?_
    show Steps p.tables e below (T34.setTop (mkF m 117 #[.val (.int pi1), .val (.int (pi1 &&& (7 : Int32))), .val (.int (0 : Int32)), .val (.int (1 : Int32)), .val (.int (1 : Int32)), .val (.ref b1), .val (.ref w_FINALIZED)] [])) _
    refine XS.iconst X34.here hx rfl (hb hby at_117) ?_
    show Steps p.tables e below (T34.setTop (mkF m 118 #[.val (.int pi1), .val (.int (pi1 &&& (7 : Int32))), .val (.int (0 : Int32)), .val (.int (1 : Int32)), .val (.int (1 : Int32)), .val (.ref b1), .val (.ref w_FINALIZED)] [(.int (1 : Int32))])) _
    refine XS.goto X34.here hx rfl (pc0 := 118) (pc' := 122) rfl (hb hby at_118) (by decide) (by decide) ?_
    show Steps p.tables e below (T34.setTop (mkF m 122 #[.val (.int pi1), .val (.int (pi1 &&& (7 : Int32))), .val (.int (0 : Int32)), .val (.int (1 : Int32)), .val (.int (1 : Int32)), .val (.ref b1), .val (.ref w_FINALIZED)] [(.int (1 : Int32))])) _
    exact retN X34 hx (t := .boolean) Bd.returns (by simp) (hb hby at_122) hr
  · exact ⟨rfl, N34⟩
set_option maxRecDepth 65536 in
set_option maxHeartbeats 40000000 in
theorem rm0_ftt (l : Launch) (Z : State) (a0 : Array Value) (hw : ∀ d ∈ tables_1, d.before a0 Z = true) (ws : List Jvm.Cond) (pi1 : Int32) (w_PENDING : Addr) (w_IN_PROGRESS : Addr) (w_SUBMITTED : Addr) (w_FINALIZED : Addr) (h0 : Heap) (n0 : Nat) (Z0 : n0 ≤ h0.size) (O0 : Old Z n0 h0) (S_PENDING : Sta Z Z.heap "com/example/diarist/diarist/questionnaire/QuestionnaireStatus" "PENDING" "Lcom/example/diarist/diarist/questionnaire/QuestionnaireStatus;" (.ref w_PENDING)) (E_w_PENDING : Exa Z Z.heap w_PENDING "com/example/diarist/diarist/questionnaire/QuestionnaireStatus") (S_IN_PROGRESS : Sta Z Z.heap "com/example/diarist/diarist/questionnaire/QuestionnaireStatus" "IN_PROGRESS" "Lcom/example/diarist/diarist/questionnaire/QuestionnaireStatus;" (.ref w_IN_PROGRESS)) (E_w_IN_PROGRESS : Exa Z Z.heap w_IN_PROGRESS "com/example/diarist/diarist/questionnaire/QuestionnaireStatus") (S_SUBMITTED : Sta Z Z.heap "com/example/diarist/diarist/questionnaire/QuestionnaireStatus" "SUBMITTED" "Lcom/example/diarist/diarist/questionnaire/QuestionnaireStatus;" (.ref w_SUBMITTED)) (E_w_SUBMITTED : Exa Z Z.heap w_SUBMITTED "com/example/diarist/diarist/questionnaire/QuestionnaireStatus") (S_FINALIZED : Sta Z Z.heap "com/example/diarist/diarist/questionnaire/QuestionnaireStatus" "FINALIZED" "Lcom/example/diarist/diarist/questionnaire/QuestionnaireStatus;" (.ref w_FINALIZED)) (E_w_FINALIZED : Exa Z Z.heap w_FINALIZED "com/example/diarist/diarist/questionnaire/QuestionnaireStatus") (hc8_0 : ¬ (((pi1 &&& (7 : Int32)) &&& (1 : Int32)) = (0 : Int32))) (hc20_1 : ((pi1 &&& (7 : Int32)) &&& (2 : Int32)) = (0 : Int32)) (hc32_2 : ((pi1 &&& (7 : Int32)) &&& (4 : Int32)) = (0 : Int32)) :
    MetFree l x (head1 (Jvm.Cond.code x code maxLocals ret :: ws) room_1) (fun a U => a = #[(.int pi1)] ∧ Z.Warmed39 U.vm ∧ U.heap = h0) (fun _ _ _ _ _ => True) (fun _ U o U' => ∃ v L, o = .returned v ∧ Q0 v L n0 ∧ FrameEnd U o U' L room_1.cells room_1.slots) := by
  refine MetFree.of_bodySF (plainFor_of_name pn_0) hisR ?_
  intro p e s m args below meth c s₁ Bd hml0 hP hK
  obtain ⟨rfl, hZ, hh⟩ := hP
  have hx := Bd.exec
  have hby := Bd.bytes
  have hml : c.maxLocals = 7 := hml0
  have hown : s.vm.findClass "com/example/diarist/diarist/questionnaire/QuestionnaireStatusOfPinLaw" = some m.cls := findClass_of_methodNamed Bd.named
  have hnm := (name_of_methodNamed Bd.named Bd.method).1
  have X0 : Stand p l e room_1 s m #[(.int pi1)] below meth c s₁ [] 0 0 := Stand.of_body Bd
  have e0 : s₁.heap = h0 := by rw [← hh, Bd.state]; rfl
  have N0 := Fr.nil n0
  have pre0 : ∀ t, Steps p.tables e below (s₁.setTop (mkF m 0 #[.val (.int pi1), .unset, .unset, .unset, .unset, .unset, .unset] [])) t → Steps p.tables e below (s₁.setTop (entryFrame m #[(.int pi1)] maxLocals)) t := fun t k => castTop (ef_0 m pi1) k
  obtain ⟨T1, h1, k1, X1, e1, E1, A1, O1, st1⟩ := newR X0 hx hZ hown (hw _ (List.mem_of_getElem? (i := 0) rfl)) (hw _ (List.mem_of_getElem? (i := 1) rfl)) e0 (g := (mkF m 44 #[.val (.int pi1), .val (.int (pi1 &&& (7 : Int32))), .val (.int (1 : Int32)), .val (.int (0 : Int32)), .val (.int (0 : Int32)), .unset, .unset] [(.int (8 : Int32))])) rfl (hb hby at_44) rfl (by decide) (cap := 8) (by decide) (by decide) (by decide) (by decide)
  obtain ⟨b1, g1⟩ : ∃ z, z = h0.size := ⟨_, rfl⟩
  rw [← g1] at A1 st1
  have V1 : Arv Z h1 b1 k1 (.object "com/example/diarist/diarist/questionnaire/QuestionnaireStatus") (8 : Int32) [.null, .null, .null, .null, .null, .null, .null, .null] .null := (Arv.new A1 (by decide)).pad (pad_rep [] .null 8)
  have o3 := O0.ext E1
  obtain ⟨T2, X2, e2, st2⟩ := getS2 X1 hx hZ hown (host := "") (Or.inl (hw _ (List.mem_of_getElem? (i := 2) rfl))) Via.refl e1 (S_PENDING.ext o3.2) (g := (mkF m 49 #[.val (.int pi1), .val (.int (pi1 &&& (7 : Int32))), .val (.int (1 : Int32)), .val (.int (0 : Int32)), .val (.int (0 : Int32)), .unset, .unset] [(.int (0 : Int32)), (.ref b1), (.ref b1)])) rfl (hb hby at_49)
  have g_b1 : n0 ≤ b1 := Nat.le_trans Z0 (Nat.le_of_eq g1.symm)
  have V_c4 := V1
  obtain ⟨c4, Arc4, qc4, Sc4, Nc4, Hc4, Gc4⟩ := V_c4
  have hin5 : ¬ ((0 : Int32) < 0 ∨ c4.slots.size ≤ ((0 : Int32)).toNatClampNeg) := inb_of Sc4 ⟨by decide, by decide⟩
  obtain ⟨T5, h5, X5, e5, W5, st5⟩ := stR X2 hx hZ e2 Arc4 (j := (0 : Int32)) hin5 rfl (Sto.ofV Arc4 qc4 O1 (Ins.self (E_w_PENDING.ext o3.2))) (g := (mkF m 52 #[.val (.int pi1), .val (.int (pi1 &&& (7 : Int32))), .val (.int (1 : Int32)), .val (.int (0 : Int32)), .val (.int (0 : Int32)), .unset, .unset] [(.ref w_PENDING), (.int (0 : Int32)), (.ref b1), (.ref b1)])) rfl rfl (hb hby at_52)
  have V5 : Arv Z h5 b1 k1 (.object "com/example/diarist/diarist/questionnaire/QuestionnaireStatus") (8 : Int32) [(.ref w_PENDING), .null, .null, .null, .null, .null, .null, .null] .null := Arv.set Arc4 qc4 Sc4 Nc4 Hc4 Gc4 rfl W5 0 rfl (Nat.le_of_ble_eq_true rfl)
  have N5 := Fr.snoc X5 N0 g_b1
  have o7 := o3.wr W5 g_b1
  obtain ⟨T6, X6, e6, st6⟩ := getS2 X5 hx hZ hown (host := "") (Or.inl (hw _ (List.mem_of_getElem? (i := 6) rfl))) Via.refl e5 (S_IN_PROGRESS.ext o7.2) (g := (mkF m 55 #[.val (.int pi1), .val (.int (pi1 &&& (7 : Int32))), .val (.int (1 : Int32)), .val (.int (0 : Int32)), .val (.int (0 : Int32)), .unset, .unset] [(.int (1 : Int32)), (.ref b1), (.ref b1)])) rfl (hb hby at_55)
  have V_c8 := V5
  obtain ⟨c8, Arc8, qc8, Sc8, Nc8, Hc8, Gc8⟩ := V_c8
  have hin9 : ¬ ((1 : Int32) < 0 ∨ c8.slots.size ≤ ((1 : Int32)).toNatClampNeg) := inb_of Sc8 ⟨by decide, by decide⟩
  obtain ⟨T9, h9, X9, e9, W9, st9⟩ := stR X6 hx hZ e6 Arc8 (j := (1 : Int32)) hin9 rfl (Sto.ofV Arc8 qc8 O1 (Ins.self (E_w_IN_PROGRESS.ext o7.2))) (g := (mkF m 58 #[.val (.int pi1), .val (.int (pi1 &&& (7 : Int32))), .val (.int (1 : Int32)), .val (.int (0 : Int32)), .val (.int (0 : Int32)), .unset, .unset] [(.ref w_IN_PROGRESS), (.int (1 : Int32)), (.ref b1), (.ref b1)])) rfl rfl (hb hby at_58)
  have V9 : Arv Z h9 b1 k1 (.object "com/example/diarist/diarist/questionnaire/QuestionnaireStatus") (8 : Int32) [(.ref w_PENDING), (.ref w_IN_PROGRESS), .null, .null, .null, .null, .null, .null] .null := Arv.set Arc8 qc8 Sc8 Nc8 Hc8 Gc8 rfl W9 1 rfl (Nat.le_of_ble_eq_true rfl)
  have N9 := Fr.snoc X9 N5 g_b1
  have o11 := o7.wr W9 g_b1
  obtain ⟨T10, X10, e10, st10⟩ := getS2 X9 hx hZ hown (host := "") (Or.inl (hw _ (List.mem_of_getElem? (i := 8) rfl))) Via.refl e9 (S_SUBMITTED.ext o11.2) (g := (mkF m 61 #[.val (.int pi1), .val (.int (pi1 &&& (7 : Int32))), .val (.int (1 : Int32)), .val (.int (0 : Int32)), .val (.int (0 : Int32)), .unset, .unset] [(.int (2 : Int32)), (.ref b1), (.ref b1)])) rfl (hb hby at_61)
  have V_c12 := V9
  obtain ⟨c12, Arc12, qc12, Sc12, Nc12, Hc12, Gc12⟩ := V_c12
  have hin13 : ¬ ((2 : Int32) < 0 ∨ c12.slots.size ≤ ((2 : Int32)).toNatClampNeg) := inb_of Sc12 ⟨by decide, by decide⟩
  obtain ⟨T13, h13, X13, e13, W13, st13⟩ := stR X10 hx hZ e10 Arc12 (j := (2 : Int32)) hin13 rfl (Sto.ofV Arc12 qc12 O1 (Ins.self (E_w_SUBMITTED.ext o11.2))) (g := (mkF m 64 #[.val (.int pi1), .val (.int (pi1 &&& (7 : Int32))), .val (.int (1 : Int32)), .val (.int (0 : Int32)), .val (.int (0 : Int32)), .unset, .unset] [(.ref w_SUBMITTED), (.int (2 : Int32)), (.ref b1), (.ref b1)])) rfl rfl (hb hby at_64)
  have V13 : Arv Z h13 b1 k1 (.object "com/example/diarist/diarist/questionnaire/QuestionnaireStatus") (8 : Int32) [(.ref w_PENDING), (.ref w_IN_PROGRESS), (.ref w_SUBMITTED), .null, .null, .null, .null, .null] .null := Arv.set Arc12 qc12 Sc12 Nc12 Hc12 Gc12 rfl W13 2 rfl (Nat.le_of_ble_eq_true rfl)
  have N13 := Fr.snoc X13 N9 g_b1
  have o15 := o11.wr W13 g_b1
  obtain ⟨T14, X14, e14, st14⟩ := getS2 X13 hx hZ hown (host := "") (Or.inl (hw _ (List.mem_of_getElem? (i := 8) rfl))) Via.refl e13 (S_SUBMITTED.ext o15.2) (g := (mkF m 67 #[.val (.int pi1), .val (.int (pi1 &&& (7 : Int32))), .val (.int (1 : Int32)), .val (.int (0 : Int32)), .val (.int (0 : Int32)), .unset, .unset] [(.int (3 : Int32)), (.ref b1), (.ref b1)])) rfl (hb hby at_67)
  have V_c16 := V13
  obtain ⟨c16, Arc16, qc16, Sc16, Nc16, Hc16, Gc16⟩ := V_c16
  have hin17 : ¬ ((3 : Int32) < 0 ∨ c16.slots.size ≤ ((3 : Int32)).toNatClampNeg) := inb_of Sc16 ⟨by decide, by decide⟩
  obtain ⟨T17, h17, X17, e17, W17, st17⟩ := stR X14 hx hZ e14 Arc16 (j := (3 : Int32)) hin17 rfl (Sto.ofV Arc16 qc16 O1 (Ins.self (E_w_SUBMITTED.ext o15.2))) (g := (mkF m 70 #[.val (.int pi1), .val (.int (pi1 &&& (7 : Int32))), .val (.int (1 : Int32)), .val (.int (0 : Int32)), .val (.int (0 : Int32)), .unset, .unset] [(.ref w_SUBMITTED), (.int (3 : Int32)), (.ref b1), (.ref b1)])) rfl rfl (hb hby at_70)
  have V17 : Arv Z h17 b1 k1 (.object "com/example/diarist/diarist/questionnaire/QuestionnaireStatus") (8 : Int32) [(.ref w_PENDING), (.ref w_IN_PROGRESS), (.ref w_SUBMITTED), (.ref w_SUBMITTED), .null, .null, .null, .null] .null := Arv.set Arc16 qc16 Sc16 Nc16 Hc16 Gc16 rfl W17 3 rfl (Nat.le_of_ble_eq_true rfl)
  have N17 := Fr.snoc X17 N13 g_b1
  have o19 := o15.wr W17 g_b1
  obtain ⟨T18, X18, e18, st18⟩ := getS2 X17 hx hZ hown (host := "") (Or.inl (hw _ (List.mem_of_getElem? (i := 10) rfl))) Via.refl e17 (S_FINALIZED.ext o19.2) (g := (mkF m 73 #[.val (.int pi1), .val (.int (pi1 &&& (7 : Int32))), .val (.int (1 : Int32)), .val (.int (0 : Int32)), .val (.int (0 : Int32)), .unset, .unset] [(.int (4 : Int32)), (.ref b1), (.ref b1)])) rfl (hb hby at_73)
  have V_c20 := V17
  obtain ⟨c20, Arc20, qc20, Sc20, Nc20, Hc20, Gc20⟩ := V_c20
  have hin21 : ¬ ((4 : Int32) < 0 ∨ c20.slots.size ≤ ((4 : Int32)).toNatClampNeg) := inb_of Sc20 ⟨by decide, by decide⟩
  obtain ⟨T21, h21, X21, e21, W21, st21⟩ := stR X18 hx hZ e18 Arc20 (j := (4 : Int32)) hin21 rfl (Sto.ofV Arc20 qc20 O1 (Ins.self (E_w_FINALIZED.ext o19.2))) (g := (mkF m 76 #[.val (.int pi1), .val (.int (pi1 &&& (7 : Int32))), .val (.int (1 : Int32)), .val (.int (0 : Int32)), .val (.int (0 : Int32)), .unset, .unset] [(.ref w_FINALIZED), (.int (4 : Int32)), (.ref b1), (.ref b1)])) rfl rfl (hb hby at_76)
  have V21 : Arv Z h21 b1 k1 (.object "com/example/diarist/diarist/questionnaire/QuestionnaireStatus") (8 : Int32) [(.ref w_PENDING), (.ref w_IN_PROGRESS), (.ref w_SUBMITTED), (.ref w_SUBMITTED), (.ref w_FINALIZED), .null, .null, .null] .null := Arv.set Arc20 qc20 Sc20 Nc20 Hc20 Gc20 rfl W21 4 rfl (Nat.le_of_ble_eq_true rfl)
  have N21 := Fr.snoc X21 N17 g_b1
  have o23 := o19.wr W21 g_b1
  obtain ⟨T22, X22, e22, st22⟩ := getS2 X21 hx hZ hown (host := "") (Or.inl (hw _ (List.mem_of_getElem? (i := 10) rfl))) Via.refl e21 (S_FINALIZED.ext o23.2) (g := (mkF m 79 #[.val (.int pi1), .val (.int (pi1 &&& (7 : Int32))), .val (.int (1 : Int32)), .val (.int (0 : Int32)), .val (.int (0 : Int32)), .unset, .unset] [(.int (5 : Int32)), (.ref b1), (.ref b1)])) rfl (hb hby at_79)
  have V_c24 := V21
  obtain ⟨c24, Arc24, qc24, Sc24, Nc24, Hc24, Gc24⟩ := V_c24
  have hin25 : ¬ ((5 : Int32) < 0 ∨ c24.slots.size ≤ ((5 : Int32)).toNatClampNeg) := inb_of Sc24 ⟨by decide, by decide⟩
  obtain ⟨T25, h25, X25, e25, W25, st25⟩ := stR X22 hx hZ e22 Arc24 (j := (5 : Int32)) hin25 rfl (Sto.ofV Arc24 qc24 O1 (Ins.self (E_w_FINALIZED.ext o23.2))) (g := (mkF m 82 #[.val (.int pi1), .val (.int (pi1 &&& (7 : Int32))), .val (.int (1 : Int32)), .val (.int (0 : Int32)), .val (.int (0 : Int32)), .unset, .unset] [(.ref w_FINALIZED), (.int (5 : Int32)), (.ref b1), (.ref b1)])) rfl rfl (hb hby at_82)
  have V25 : Arv Z h25 b1 k1 (.object "com/example/diarist/diarist/questionnaire/QuestionnaireStatus") (8 : Int32) [(.ref w_PENDING), (.ref w_IN_PROGRESS), (.ref w_SUBMITTED), (.ref w_SUBMITTED), (.ref w_FINALIZED), (.ref w_FINALIZED), .null, .null] .null := Arv.set Arc24 qc24 Sc24 Nc24 Hc24 Gc24 rfl W25 5 rfl (Nat.le_of_ble_eq_true rfl)
  have N25 := Fr.snoc X25 N21 g_b1
  have o27 := o23.wr W25 g_b1
  obtain ⟨T26, X26, e26, st26⟩ := getS2 X25 hx hZ hown (host := "") (Or.inl (hw _ (List.mem_of_getElem? (i := 10) rfl))) Via.refl e25 (S_FINALIZED.ext o27.2) (g := (mkF m 86 #[.val (.int pi1), .val (.int (pi1 &&& (7 : Int32))), .val (.int (1 : Int32)), .val (.int (0 : Int32)), .val (.int (0 : Int32)), .unset, .unset] [(.int (6 : Int32)), (.ref b1), (.ref b1)])) rfl (hb hby at_86)
  have V_c28 := V25
  obtain ⟨c28, Arc28, qc28, Sc28, Nc28, Hc28, Gc28⟩ := V_c28
  have hin29 : ¬ ((6 : Int32) < 0 ∨ c28.slots.size ≤ ((6 : Int32)).toNatClampNeg) := inb_of Sc28 ⟨by decide, by decide⟩
  obtain ⟨T29, h29, X29, e29, W29, st29⟩ := stR X26 hx hZ e26 Arc28 (j := (6 : Int32)) hin29 rfl (Sto.ofV Arc28 qc28 O1 (Ins.self (E_w_FINALIZED.ext o27.2))) (g := (mkF m 89 #[.val (.int pi1), .val (.int (pi1 &&& (7 : Int32))), .val (.int (1 : Int32)), .val (.int (0 : Int32)), .val (.int (0 : Int32)), .unset, .unset] [(.ref w_FINALIZED), (.int (6 : Int32)), (.ref b1), (.ref b1)])) rfl rfl (hb hby at_89)
  have V29 : Arv Z h29 b1 k1 (.object "com/example/diarist/diarist/questionnaire/QuestionnaireStatus") (8 : Int32) [(.ref w_PENDING), (.ref w_IN_PROGRESS), (.ref w_SUBMITTED), (.ref w_SUBMITTED), (.ref w_FINALIZED), (.ref w_FINALIZED), (.ref w_FINALIZED), .null] .null := Arv.set Arc28 qc28 Sc28 Nc28 Hc28 Gc28 rfl W29 6 rfl (Nat.le_of_ble_eq_true rfl)
  have N29 := Fr.snoc X29 N25 g_b1
  have o31 := o27.wr W29 g_b1
  obtain ⟨T30, X30, e30, st30⟩ := getS2 X29 hx hZ hown (host := "") (Or.inl (hw _ (List.mem_of_getElem? (i := 10) rfl))) Via.refl e29 (S_FINALIZED.ext o31.2) (g := (mkF m 93 #[.val (.int pi1), .val (.int (pi1 &&& (7 : Int32))), .val (.int (1 : Int32)), .val (.int (0 : Int32)), .val (.int (0 : Int32)), .unset, .unset] [(.int (7 : Int32)), (.ref b1), (.ref b1)])) rfl (hb hby at_93)
  have V_c32 := V29
  obtain ⟨c32, Arc32, qc32, Sc32, Nc32, Hc32, Gc32⟩ := V_c32
  have hin33 : ¬ ((7 : Int32) < 0 ∨ c32.slots.size ≤ ((7 : Int32)).toNatClampNeg) := inb_of Sc32 ⟨by decide, by decide⟩
  obtain ⟨T33, h33, X33, e33, W33, st33⟩ := stR X30 hx hZ e30 Arc32 (j := (7 : Int32)) hin33 rfl (Sto.ofV Arc32 qc32 O1 (Ins.self (E_w_FINALIZED.ext o31.2))) (g := (mkF m 96 #[.val (.int pi1), .val (.int (pi1 &&& (7 : Int32))), .val (.int (1 : Int32)), .val (.int (0 : Int32)), .val (.int (0 : Int32)), .unset, .unset] [(.ref w_FINALIZED), (.int (7 : Int32)), (.ref b1), (.ref b1)])) rfl rfl (hb hby at_96)
  have V33 : Arv Z h33 b1 k1 (.object "com/example/diarist/diarist/questionnaire/QuestionnaireStatus") (8 : Int32) [(.ref w_PENDING), (.ref w_IN_PROGRESS), (.ref w_SUBMITTED), (.ref w_SUBMITTED), (.ref w_FINALIZED), (.ref w_FINALIZED), (.ref w_FINALIZED), (.ref w_FINALIZED)] .null := Arv.set Arc32 qc32 Sc32 Nc32 Hc32 Gc32 rfl W33 7 rfl (Nat.le_of_ble_eq_true rfl)
  have N33 := Fr.snoc X33 N29 g_b1
  have z35 := Nat.le_trans Z0 E1.1
  have z36 := Nat.le_trans z35 (Keep.of_wr W5).1
  have z37 := Nat.le_trans z36 (Keep.of_wr W9).1
  have z38 := Nat.le_trans z37 (Keep.of_wr W13).1
  have z39 := Nat.le_trans z38 (Keep.of_wr W17).1
  have z40 := Nat.le_trans z39 (Keep.of_wr W21).1
  have z41 := Nat.le_trans z40 (Keep.of_wr W25).1
  have z42 := Nat.le_trans z41 (Keep.of_wr W29).1
  have z43 := Nat.le_trans z42 (Keep.of_wr W33).1
  have o44 := o31.wr W33 g_b1
  obtain ⟨_, _, ⟨T34, L34, k34, n34⟩, -, X34, ⟨Lc34, hQ34, l34, y34, z34⟩, st34⟩ := Jvm.LawKit.callS X33 hx (y := (⟨"com/example/diarist/diarist/questionnaire/QuestionnaireStatus", "of", "(ZZZ)Lcom/example/diarist/diarist/questionnaire/QuestionnaireStatus;"⟩ : MethodName)) hown (mvT hZ (hw _ (List.mem_of_getElem? (i := 12) rfl))) (mvT hZ (hw _ (List.mem_of_getElem? (i := 13) rfl))) (mvT hZ (hw _ (List.mem_of_getElem? (i := 3) rfl))) (mvT hZ (hw _ (List.mem_of_getElem? (i := 14) rfl))) (by decide) (backOf (W := 0) (rm1_ttf l Z a0 hw [] (1 : Int32) (0 : Int32) (0 : Int32) w_IN_PROGRESS h33 n0 z43 o44 S_IN_PROGRESS (by decide) (by decide) (by decide)) hZ (hw _ (List.mem_of_getElem? (i := 14) rfl)) (hw _ (List.mem_of_getElem? (i := 3) rfl)) (by decide) (by decide)) (g := (mkF m 103 #[.val (.int pi1), .val (.int (pi1 &&& (7 : Int32))), .val (.int (1 : Int32)), .val (.int (0 : Int32)), .val (.int (0 : Int32)), .val (.ref b1), .unset] [(.int (0 : Int32)), (.int (0 : Int32)), (.int (1 : Int32))])) rfl (by rw [hml]; rfl) (argsL := [(.int (1 : Int32)), (.int (0 : Int32)), (.int (0 : Int32))]) (rest := []) (lenOf pd_0 rfl) rfl (by show 2 * 0 + _ ≤ _; exact Nat.le_of_eq rfl) (hb hby at_103) (fun _ _ => ⟨rfl, e33, (by decide : 1 + 0 ≤ _), (by decide : 8 + 0 ≤ _)⟩)
  dsimp only [Pt.U, Pt.locs, Pt.cells, Pt.slots] at X34 l34 y34 z34 st34 hQ34
  subst l34 y34 z34
  obtain ⟨rfl, N34q, eq34⟩ := hQ34
  have N34 := Fr.app N33 N34q
  have V_c45 := V33
  obtain ⟨c45, Arc45, qc45, Sc45, Nc45, Hc45, Gc45⟩ := V_c45
  have hj46 : (pi1 &&& (7 : Int32)) = (1 : Int32) := own_idx (own_b1 hc8_0) hc20_1 hc32_2 rfl
  have hin46 : ¬ ((pi1 &&& (7 : Int32)) < 0 ∨ c45.slots.size ≤ ((pi1 &&& (7 : Int32))).toNatClampNeg) := by rw [hj46]; exact inb_of Sc45 ⟨by decide, by decide⟩
  obtain ⟨fs, hr, hrun, hended, hW, hsame⟩ := X34.leave (v := some (.int (1 : Int32))) (fun h => by rw [Bd.returns] at h; cases h)
  refine ⟨_, _, pre0 _ ?_, hrun, hended, _, _, rfl, ?_, ⟨_, rfl⟩, hW, hsame.mono (by decide) (by decide)⟩
  · show Steps p.tables e below (s₁.setTop (mkF m 0 #[.val (.int pi1), .unset, .unset, .unset, .unset, .unset, .unset] [])) _
    refine XS.iloadN X0.here hx rfl (hb hby at_0) rfl ?_
    show Steps p.tables e below (s₁.setTop (mkF m 1 #[.val (.int pi1), .unset, .unset, .unset, .unset, .unset, .unset] [(.int pi1)])) _
    refine XS.bipush X0.here hx rfl (hb hby at_1) ?_
    show Steps p.tables e below (s₁.setTop (mkF m 3 #[.val (.int pi1), .unset, .unset, .unset, .unset, .unset, .unset] [(.int (7 : Int32)), (.int pi1)])) _
    refine XS.iand X0.here hx rfl (hb hby at_3) rfl ?_
    show Steps p.tables e below (s₁.setTop (mkF m 4 #[.val (.int pi1), .unset, .unset, .unset, .unset, .unset, .unset] [(.int (pi1 &&& (7 : Int32)))])) _
    refine XS.istoreN X0.here hx rfl (hb hby at_4) rfl (l' := #[.val (.int pi1), .val (.int (pi1 &&& (7 : Int32))), .unset, .unset, .unset, .unset, .unset]) rfl ?_
    show Steps p.tables e below (s₁.setTop (mkF m 5 #[.val (.int pi1), .val (.int (pi1 &&& (7 : Int32))), .unset, .unset, .unset, .unset, .unset] [])) _
    refine XS.iloadN X0.here hx rfl (hb hby at_5) rfl ?_
    show Steps p.tables e below (s₁.setTop (mkF m 6 #[.val (.int pi1), .val (.int (pi1 &&& (7 : Int32))), .unset, .unset, .unset, .unset, .unset] [(.int (pi1 &&& (7 : Int32)))])) _
    refine XS.iconst X0.here hx rfl (hb hby at_6) ?_
    show Steps p.tables e below (s₁.setTop (mkF m 7 #[.val (.int pi1), .val (.int (pi1 &&& (7 : Int32))), .unset, .unset, .unset, .unset, .unset] [(.int (1 : Int32)), (.int (pi1 &&& (7 : Int32)))])) _
    refine XS.iand X0.here hx rfl (hb hby at_7) rfl ?_
    show Steps p.tables e below (s₁.setTop (mkF m 8 #[.val (.int pi1), .val (.int (pi1 &&& (7 : Int32))), .unset, .unset, .unset, .unset, .unset] [(.int ((pi1 &&& (7 : Int32)) &&& (1 : Int32)))])) _
    refine XS.ifNo X0.here hx rfl (hb hby at_8) rfl ((if0 _ _).trans (feq hc8_0).1) ?_
    show Steps p.tables e below (s₁.setTop (mkF m 11 #[.val (.int pi1), .val (.int (pi1 &&& (7 : Int32))), .unset, .unset, .unset, .unset, .unset] [])) _
    refine XS.iconst X0.here hx rfl (hb hby at_11) ?_
    show Steps p.tables e below (s₁.setTop (mkF m 12 #[.val (.int pi1), .val (.int (pi1 &&& (7 : Int32))), .unset, .unset, .unset, .unset, .unset] [(.int (1 : Int32))])) _
    refine XS.goto X0.here hx rfl (pc0 := 12) (pc' := 16) rfl (hb hby at_12) (by decide) (by decide) ?_
    show Steps p.tables e below (s₁.setTop (mkF m 16 #[.val (.int pi1), .val (.int (pi1 &&& (7 : Int32))), .unset, .unset, .unset, .unset, .unset] [(.int (1 : Int32))])) _
    refine XS.istoreN X0.here hx rfl (hb hby at_16) rfl (l' := #[.val (.int pi1), .val (.int (pi1 &&& (7 : Int32))), .val (.int (1 : Int32)), .unset, .unset, .unset, .unset]) rfl ?_
    show Steps p.tables e below (s₁.setTop (mkF m 17 #[.val (.int pi1), .val (.int (pi1 &&& (7 : Int32))), .val (.int (1 : Int32)), .unset, .unset, .unset, .unset] [])) _
    refine XS.iloadN X0.here hx rfl (hb hby at_17) rfl ?_
    show Steps p.tables e below (s₁.setTop (mkF m 18 #[.val (.int pi1), .val (.int (pi1 &&& (7 : Int32))), .val (.int (1 : Int32)), .unset, .unset, .unset, .unset] [(.int (pi1 &&& (7 : Int32)))])) _
    refine XS.iconst X0.here hx rfl (hb hby at_18) ?_
    show Steps p.tables e below (s₁.setTop (mkF m 19 #[.val (.int pi1), .val (.int (pi1 &&& (7 : Int32))), .val (.int (1 : Int32)), .unset, .unset, .unset, .unset] [(.int (2 : Int32)), (.int (pi1 &&& (7 : Int32)))])) _
    refine XS.iand X0.here hx rfl (hb hby at_19) rfl ?_
    show Steps p.tables e below (s₁.setTop (mkF m 20 #[.val (.int pi1), .val (.int (pi1 &&& (7 : Int32))), .val (.int (1 : Int32)), .unset, .unset, .unset, .unset] [(.int ((pi1 &&& (7 : Int32)) &&& (2 : Int32)))])) _
    refine XS.ifYes X0.here hx rfl (pc0 := 20) (pc' := 27) rfl (hb hby at_20) rfl ((if0 _ _).trans (teq hc20_1).1) (by decide) (by decide) ?_
    show Steps p.tables e below (s₁.setTop (mkF m 27 #[.val (.int pi1), .val (.int (pi1 &&& (7 : Int32))), .val (.int (1 : Int32)), .unset, .unset, .unset, .unset] [])) _
    refine XS.iconst X0.here hx rfl (hb hby at_27) ?_
    show Steps p.tables e below (s₁.setTop (mkF m 28 #[.val (.int pi1), .val (.int (pi1 &&& (7 : Int32))), .val (.int (1 : Int32)), .unset, .unset, .unset, .unset] [(.int (0 : Int32))])) _
    refine XS.istoreN X0.here hx rfl (hb hby at_28) rfl (l' := #[.val (.int pi1), .val (.int (pi1 &&& (7 : Int32))), .val (.int (1 : Int32)), .val (.int (0 : Int32)), .unset, .unset, .unset]) rfl ?_
    show Steps p.tables e below (s₁.setTop (mkF m 29 #[.val (.int pi1), .val (.int (pi1 &&& (7 : Int32))), .val (.int (1 : Int32)), .val (.int (0 : Int32)), .unset, .unset, .unset] [])) _
    refine XS.iloadN X0.here hx rfl (hb hby at_29) rfl ?_
    show Steps p.tables e below (s₁.setTop (mkF m 30 #[.val (.int pi1), .val (.int (pi1 &&& (7 : Int32))), .val (.int (1 : Int32)), .val (.int (0 : Int32)), .unset, .unset, .unset] [(.int (pi1 &&& (7 : Int32)))])) _
    refine XS.iconst X0.here hx rfl (hb hby at_30) ?_
    show Steps p.tables e below (s₁.setTop (mkF m 31 #[.val (.int pi1), .val (.int (pi1 &&& (7 : Int32))), .val (.int (1 : Int32)), .val (.int (0 : Int32)), .unset, .unset, .unset] [(.int (4 : Int32)), (.int (pi1 &&& (7 : Int32)))])) _
    refine XS.iand X0.here hx rfl (hb hby at_31) rfl ?_
    show Steps p.tables e below (s₁.setTop (mkF m 32 #[.val (.int pi1), .val (.int (pi1 &&& (7 : Int32))), .val (.int (1 : Int32)), .val (.int (0 : Int32)), .unset, .unset, .unset] [(.int ((pi1 &&& (7 : Int32)) &&& (4 : Int32)))])) _
    refine XS.ifYes X0.here hx rfl (pc0 := 32) (pc' := 39) rfl (hb hby at_32) rfl ((if0 _ _).trans (teq hc32_2).1) (by decide) (by decide) ?_
    show Steps p.tables e below (s₁.setTop (mkF m 39 #[.val (.int pi1), .val (.int (pi1 &&& (7 : Int32))), .val (.int (1 : Int32)), .val (.int (0 : Int32)), .unset, .unset, .unset] [])) _
    refine XS.iconst X0.here hx rfl (hb hby at_39) ?_
    show Steps p.tables e below (s₁.setTop (mkF m 40 #[.val (.int pi1), .val (.int (pi1 &&& (7 : Int32))), .val (.int (1 : Int32)), .val (.int (0 : Int32)), .unset, .unset, .unset] [(.int (0 : Int32))])) _
    refine XS.istore X0.here hx rfl (hb hby at_40) rfl (l' := #[.val (.int pi1), .val (.int (pi1 &&& (7 : Int32))), .val (.int (1 : Int32)), .val (.int (0 : Int32)), .val (.int (0 : Int32)), .unset, .unset]) rfl ?_
    show Steps p.tables e below (s₁.setTop (mkF m 42 #[.val (.int pi1), .val (.int (pi1 &&& (7 : Int32))), .val (.int (1 : Int32)), .val (.int (0 : Int32)), .val (.int (0 : Int32)), .unset, .unset] [])) _
    refine XS.bipush X0.here hx rfl (hb hby at_42) ?_
    show Steps p.tables e below (s₁.setTop (mkF m 44 #[.val (.int pi1), .val (.int (pi1 &&& (7 : Int32))), .val (.int (1 : Int32)), .val (.int (0 : Int32)), .val (.int (0 : Int32)), .unset, .unset] [(.int (8 : Int32))])) _
    refine st1 _ ?_
    show Steps p.tables e below (T1.setTop (mkF m 47 #[.val (.int pi1), .val (.int (pi1 &&& (7 : Int32))), .val (.int (1 : Int32)), .val (.int (0 : Int32)), .val (.int (0 : Int32)), .unset, .unset] [(.ref b1)])) _
    refine XS.dup X1.here hx rfl (hb hby at_47) rfl rfl ?_
    show Steps p.tables e below (T1.setTop (mkF m 48 #[.val (.int pi1), .val (.int (pi1 &&& (7 : Int32))), .val (.int (1 : Int32)), .val (.int (0 : Int32)), .val (.int (0 : Int32)), .unset, .unset] [(.ref b1), (.ref b1)])) _
    refine XS.iconst X1.here hx rfl (hb hby at_48) ?_
    show Steps p.tables e below (T1.setTop (mkF m 49 #[.val (.int pi1), .val (.int (pi1 &&& (7 : Int32))), .val (.int (1 : Int32)), .val (.int (0 : Int32)), .val (.int (0 : Int32)), .unset, .unset] [(.int (0 : Int32)), (.ref b1), (.ref b1)])) _
    refine st2 _ ?_
    show Steps p.tables e below (T2.setTop (mkF m 52 #[.val (.int pi1), .val (.int (pi1 &&& (7 : Int32))), .val (.int (1 : Int32)), .val (.int (0 : Int32)), .val (.int (0 : Int32)), .unset, .unset] [(.ref w_PENDING), (.int (0 : Int32)), (.ref b1), (.ref b1)])) _
    refine st5 _ ?_
    show Steps p.tables e below (T5.setTop (mkF m 53 #[.val (.int pi1), .val (.int (pi1 &&& (7 : Int32))), .val (.int (1 : Int32)), .val (.int (0 : Int32)), .val (.int (0 : Int32)), .unset, .unset] [(.ref b1)])) _
    refine XS.dup X5.here hx rfl (hb hby at_53) rfl rfl ?_
    show Steps p.tables e below (T5.setTop (mkF m 54 #[.val (.int pi1), .val (.int (pi1 &&& (7 : Int32))), .val (.int (1 : Int32)), .val (.int (0 : Int32)), .val (.int (0 : Int32)), .unset, .unset] [(.ref b1), (.ref b1)])) _
    refine XS.iconst X5.here hx rfl (hb hby at_54) ?_
    show Steps p.tables e below (T5.setTop (mkF m 55 #[.val (.int pi1), .val (.int (pi1 &&& (7 : Int32))), .val (.int (1 : Int32)), .val (.int (0 : Int32)), .val (.int (0 : Int32)), .unset, .unset] [(.int (1 : Int32)), (.ref b1), (.ref b1)])) _
    refine st6 _ ?_
    show Steps p.tables e below (T6.setTop (mkF m 58 #[.val (.int pi1), .val (.int (pi1 &&& (7 : Int32))), .val (.int (1 : Int32)), .val (.int (0 : Int32)), .val (.int (0 : Int32)), .unset, .unset] [(.ref w_IN_PROGRESS), (.int (1 : Int32)), (.ref b1), (.ref b1)])) _
    refine st9 _ ?_
    show Steps p.tables e below (T9.setTop (mkF m 59 #[.val (.int pi1), .val (.int (pi1 &&& (7 : Int32))), .val (.int (1 : Int32)), .val (.int (0 : Int32)), .val (.int (0 : Int32)), .unset, .unset] [(.ref b1)])) _
    refine XS.dup X9.here hx rfl (hb hby at_59) rfl rfl ?_
    show Steps p.tables e below (T9.setTop (mkF m 60 #[.val (.int pi1), .val (.int (pi1 &&& (7 : Int32))), .val (.int (1 : Int32)), .val (.int (0 : Int32)), .val (.int (0 : Int32)), .unset, .unset] [(.ref b1), (.ref b1)])) _
    refine XS.iconst X9.here hx rfl (hb hby at_60) ?_
    show Steps p.tables e below (T9.setTop (mkF m 61 #[.val (.int pi1), .val (.int (pi1 &&& (7 : Int32))), .val (.int (1 : Int32)), .val (.int (0 : Int32)), .val (.int (0 : Int32)), .unset, .unset] [(.int (2 : Int32)), (.ref b1), (.ref b1)])) _
    refine st10 _ ?_
    show Steps p.tables e below (T10.setTop (mkF m 64 #[.val (.int pi1), .val (.int (pi1 &&& (7 : Int32))), .val (.int (1 : Int32)), .val (.int (0 : Int32)), .val (.int (0 : Int32)), .unset, .unset] [(.ref w_SUBMITTED), (.int (2 : Int32)), (.ref b1), (.ref b1)])) _
    refine st13 _ ?_
    show Steps p.tables e below (T13.setTop (mkF m 65 #[.val (.int pi1), .val (.int (pi1 &&& (7 : Int32))), .val (.int (1 : Int32)), .val (.int (0 : Int32)), .val (.int (0 : Int32)), .unset, .unset] [(.ref b1)])) _
    refine XS.dup X13.here hx rfl (hb hby at_65) rfl rfl ?_
    show Steps p.tables e below (T13.setTop (mkF m 66 #[.val (.int pi1), .val (.int (pi1 &&& (7 : Int32))), .val (.int (1 : Int32)), .val (.int (0 : Int32)), .val (.int (0 : Int32)), .unset, .unset] [(.ref b1), (.ref b1)])) _
    refine XS.iconst X13.here hx rfl (hb hby at_66) ?_
    show Steps p.tables e below (T13.setTop (mkF m 67 #[.val (.int pi1), .val (.int (pi1 &&& (7 : Int32))), .val (.int (1 : Int32)), .val (.int (0 : Int32)), .val (.int (0 : Int32)), .unset, .unset] [(.int (3 : Int32)), (.ref b1), (.ref b1)])) _
    refine st14 _ ?_
    show Steps p.tables e below (T14.setTop (mkF m 70 #[.val (.int pi1), .val (.int (pi1 &&& (7 : Int32))), .val (.int (1 : Int32)), .val (.int (0 : Int32)), .val (.int (0 : Int32)), .unset, .unset] [(.ref w_SUBMITTED), (.int (3 : Int32)), (.ref b1), (.ref b1)])) _
    refine st17 _ ?_
    show Steps p.tables e below (T17.setTop (mkF m 71 #[.val (.int pi1), .val (.int (pi1 &&& (7 : Int32))), .val (.int (1 : Int32)), .val (.int (0 : Int32)), .val (.int (0 : Int32)), .unset, .unset] [(.ref b1)])) _
    refine XS.dup X17.here hx rfl (hb hby at_71) rfl rfl ?_
    show Steps p.tables e below (T17.setTop (mkF m 72 #[.val (.int pi1), .val (.int (pi1 &&& (7 : Int32))), .val (.int (1 : Int32)), .val (.int (0 : Int32)), .val (.int (0 : Int32)), .unset, .unset] [(.ref b1), (.ref b1)])) _
    refine XS.iconst X17.here hx rfl (hb hby at_72) ?_
    show Steps p.tables e below (T17.setTop (mkF m 73 #[.val (.int pi1), .val (.int (pi1 &&& (7 : Int32))), .val (.int (1 : Int32)), .val (.int (0 : Int32)), .val (.int (0 : Int32)), .unset, .unset] [(.int (4 : Int32)), (.ref b1), (.ref b1)])) _
    refine st18 _ ?_
    show Steps p.tables e below (T18.setTop (mkF m 76 #[.val (.int pi1), .val (.int (pi1 &&& (7 : Int32))), .val (.int (1 : Int32)), .val (.int (0 : Int32)), .val (.int (0 : Int32)), .unset, .unset] [(.ref w_FINALIZED), (.int (4 : Int32)), (.ref b1), (.ref b1)])) _
    refine st21 _ ?_
    show Steps p.tables e below (T21.setTop (mkF m 77 #[.val (.int pi1), .val (.int (pi1 &&& (7 : Int32))), .val (.int (1 : Int32)), .val (.int (0 : Int32)), .val (.int (0 : Int32)), .unset, .unset] [(.ref b1)])) _
    refine XS.dup X21.here hx rfl (hb hby at_77) rfl rfl ?_
    show Steps p.tables e below (T21.setTop (mkF m 78 #[.val (.int pi1), .val (.int (pi1 &&& (7 : Int32))), .val (.int (1 : Int32)), .val (.int (0 : Int32)), .val (.int (0 : Int32)), .unset, .unset] [(.ref b1), (.ref b1)])) _
    refine XS.iconst X21.here hx rfl (hb hby at_78) ?_
    show Steps p.tables e below (T21.setTop (mkF m 79 #[.val (.int pi1), .val (.int (pi1 &&& (7 : Int32))), .val (.int (1 : Int32)), .val (.int (0 : Int32)), .val (.int (0 : Int32)), .unset, .unset] [(.int (5 : Int32)), (.ref b1), (.ref b1)])) _
    refine st22 _ ?_
    show Steps p.tables e below (T22.setTop (mkF m 82 #[.val (.int pi1), .val (.int (pi1 &&& (7 : Int32))), .val (.int (1 : Int32)), .val (.int (0 : Int32)), .val (.int (0 : Int32)), .unset, .unset] [(.ref w_FINALIZED), (.int (5 : Int32)), (.ref b1), (.ref b1)])) _
    refine st25 _ ?_
    show Steps p.tables e below (T25.setTop (mkF m 83 #[.val (.int pi1), .val (.int (pi1 &&& (7 : Int32))), .val (.int (1 : Int32)), .val (.int (0 : Int32)), .val (.int (0 : Int32)), .unset, .unset] [(.ref b1)])) _
    refine XS.dup X25.here hx rfl (hb hby at_83) rfl rfl ?_
    show Steps p.tables e below (T25.setTop (mkF m 84 #[.val (.int pi1), .val (.int (pi1 &&& (7 : Int32))), .val (.int (1 : Int32)), .val (.int (0 : Int32)), .val (.int (0 : Int32)), .unset, .unset] [(.ref b1), (.ref b1)])) _
    refine XS.bipush X25.here hx rfl (hb hby at_84) ?_
    show Steps p.tables e below (T25.setTop (mkF m 86 #[.val (.int pi1), .val (.int (pi1 &&& (7 : Int32))), .val (.int (1 : Int32)), .val (.int (0 : Int32)), .val (.int (0 : Int32)), .unset, .unset] [(.int (6 : Int32)), (.ref b1), (.ref b1)])) _
    refine st26 _ ?_
    show Steps p.tables e below (T26.setTop (mkF m 89 #[.val (.int pi1), .val (.int (pi1 &&& (7 : Int32))), .val (.int (1 : Int32)), .val (.int (0 : Int32)), .val (.int (0 : Int32)), .unset, .unset] [(.ref w_FINALIZED), (.int (6 : Int32)), (.ref b1), (.ref b1)])) _
    refine st29 _ ?_
    show Steps p.tables e below (T29.setTop (mkF m 90 #[.val (.int pi1), .val (.int (pi1 &&& (7 : Int32))), .val (.int (1 : Int32)), .val (.int (0 : Int32)), .val (.int (0 : Int32)), .unset, .unset] [(.ref b1)])) _
    refine XS.dup X29.here hx rfl (hb hby at_90) rfl rfl ?_
    show Steps p.tables e below (T29.setTop (mkF m 91 #[.val (.int pi1), .val (.int (pi1 &&& (7 : Int32))), .val (.int (1 : Int32)), .val (.int (0 : Int32)), .val (.int (0 : Int32)), .unset, .unset] [(.ref b1), (.ref b1)])) _
    refine XS.bipush X29.here hx rfl (hb hby at_91) ?_
    show Steps p.tables e below (T29.setTop (mkF m 93 #[.val (.int pi1), .val (.int (pi1 &&& (7 : Int32))), .val (.int (1 : Int32)), .val (.int (0 : Int32)), .val (.int (0 : Int32)), .unset, .unset] [(.int (7 : Int32)), (.ref b1), (.ref b1)])) _
    refine st30 _ ?_
    show Steps p.tables e below (T30.setTop (mkF m 96 #[.val (.int pi1), .val (.int (pi1 &&& (7 : Int32))), .val (.int (1 : Int32)), .val (.int (0 : Int32)), .val (.int (0 : Int32)), .unset, .unset] [(.ref w_FINALIZED), (.int (7 : Int32)), (.ref b1), (.ref b1)])) _
    refine st33 _ ?_
    show Steps p.tables e below (T33.setTop (mkF m 97 #[.val (.int pi1), .val (.int (pi1 &&& (7 : Int32))), .val (.int (1 : Int32)), .val (.int (0 : Int32)), .val (.int (0 : Int32)), .unset, .unset] [(.ref b1)])) _
    refine XS.astore X33.here hx rfl (hb hby at_97) rfl rfl (l' := #[.val (.int pi1), .val (.int (pi1 &&& (7 : Int32))), .val (.int (1 : Int32)), .val (.int (0 : Int32)), .val (.int (0 : Int32)), .val (.ref b1), .unset]) rfl ?_
    show Steps p.tables e below (T33.setTop (mkF m 99 #[.val (.int pi1), .val (.int (pi1 &&& (7 : Int32))), .val (.int (1 : Int32)), .val (.int (0 : Int32)), .val (.int (0 : Int32)), .val (.ref b1), .unset] [])) _
    refine XS.iloadN X33.here hx rfl (hb hby at_99) rfl ?_
    show Steps p.tables e below (T33.setTop (mkF m 100 #[.val (.int pi1), .val (.int (pi1 &&& (7 : Int32))), .val (.int (1 : Int32)), .val (.int (0 : Int32)), .val (.int (0 : Int32)), .val (.ref b1), .unset] [(.int (1 : Int32))])) _
    refine XS.iloadN X33.here hx rfl (hb hby at_100) rfl ?_
    show Steps p.tables e below (T33.setTop (mkF m 101 #[.val (.int pi1), .val (.int (pi1 &&& (7 : Int32))), .val (.int (1 : Int32)), .val (.int (0 : Int32)), .val (.int (0 : Int32)), .val (.ref b1), .unset] [(.int (0 : Int32)), (.int (1 : Int32))])) _
    refine XS.iload X33.here hx rfl (hb hby at_101) rfl ?_
    show Steps p.tables e below (T33.setTop (mkF m 103 #[.val (.int pi1), .val (.int (pi1 &&& (7 : Int32))), .val (.int (1 : Int32)), .val (.int (0 : Int32)), .val (.int (0 : Int32)), .val (.ref b1), .unset] [(.int (0 : Int32)), (.int (0 : Int32)), (.int (1 : Int32))])) _
    refine st34 _ ?_
    show Steps p.tables e below (T34.setTop (mkF m 106 #[.val (.int pi1), .val (.int (pi1 &&& (7 : Int32))), .val (.int (1 : Int32)), .val (.int (0 : Int32)), .val (.int (0 : Int32)), .val (.ref b1), .unset] [(.ref w_IN_PROGRESS)])) _
    refine XS.astore X34.here hx rfl (hb hby at_106) rfl rfl (l' := #[.val (.int pi1), .val (.int (pi1 &&& (7 : Int32))), .val (.int (1 : Int32)), .val (.int (0 : Int32)), .val (.int (0 : Int32)), .val (.ref b1), .val (.ref w_IN_PROGRESS)]) rfl ?_
    show Steps p.tables e below (T34.setTop (mkF m 108 #[.val (.int pi1), .val (.int (pi1 &&& (7 : Int32))), .val (.int (1 : Int32)), .val (.int (0 : Int32)), .val (.int (0 : Int32)), .val (.ref b1), .val (.ref w_IN_PROGRESS)] [])) _
    refine XS.aload X34.here hx rfl (hb hby at_108) rfl rfl ?_
    show Steps p.tables e below (T34.setTop (mkF m 110 #[.val (.int pi1), .val (.int (pi1 &&& (7 : Int32))), .val (.int (1 : Int32)), .val (.int (0 : Int32)), .val (.int (0 : Int32)), .val (.ref b1), .val (.ref w_IN_PROGRESS)] [(.ref w_IN_PROGRESS)])) _
    refine XS.aload X34.here hx rfl (hb hby at_110) rfl rfl ?_
    show Steps p.tables e below (T34.setTop (mkF m 112 #[.val (.int pi1), .val (.int (pi1 &&& (7 : Int32))), .val (.int (1 : Int32)), .val (.int (0 : Int32)), .val (.int (0 : Int32)), .val (.ref b1), .val (.ref w_IN_PROGRESS)] [(.ref b1), (.ref w_IN_PROGRESS)])) _
    refine XS.iloadN X34.here hx rfl (hb hby at_112) rfl ?_
    show Steps p.tables e below (T34.setTop (mkF m 113 #[.val (.int pi1), .val (.int (pi1 &&& (7 : Int32))), .val (.int (1 : Int32)), .val (.int (0 : Int32)), .val (.int (0 : Int32)), .val (.ref b1), .val (.ref w_IN_PROGRESS)] [(.int (pi1 &&& (7 : Int32))), (.ref b1), (.ref w_IN_PROGRESS)])) _
    refine X34.aaload hx (j := (pi1 &&& (7 : Int32))) (v := (.ref w_IN_PROGRESS)) (by rw [eq34]; exact Arc45.1) (State.isArrayOf_alike hZ.alike Arc45.2.1) rfl Arc45.2.2 hin46 (Has.at Hc45 hin46 (by rw [hj46]; rfl)) (g := (mkF m 113 #[.val (.int pi1), .val (.int (pi1 &&& (7 : Int32))), .val (.int (1 : Int32)), .val (.int (0 : Int32)), .val (.int (0 : Int32)), .val (.ref b1), .val (.ref w_IN_PROGRESS)] [(.int (pi1 &&& (7 : Int32))), (.ref b1), (.ref w_IN_PROGRESS)])) rfl rfl (hb hby at_113) _ ?_
    show Steps p.tables e below (T34.setTop (mkF m 114 #[.val (.int pi1), .val (.int (pi1 &&& (7 : Int32))), .val (.int (1 : Int32)), .val (.int (0 : Int32)), .val (.int (0 : Int32)), .val (.ref b1), .val (.ref w_IN_PROGRESS)] [(.ref w_IN_PROGRESS), (.ref w_IN_PROGRESS)])) _
    refine Jvm.RoadKit.acmp (g := (mkF m 114 #[.val (.int pi1), .val (.int (pi1 &&& (7 : Int32))), .val (.int (1 : Int32)), .val (.int (0 : Int32)), .val (.int (0 : Int32)), .val (.ref b1), .val (.ref w_IN_PROGRESS)] [(.ref w_IN_PROGRESS), (.ref w_IN_PROGRESS)])) X34 hx rfl rfl rfl (pc0 := 114) (pc' := 117) (same := true) rfl (hb hby at_114) rfl (decide_eq_true rfl) (by decide) (by decide) ?_
    show Steps p.tables e below (T34.setTop (mkF m 117 #[.val (.int pi1), .val (.int (pi1 &&& (7 : Int32))), .val (.int (1 : Int32)), .val (.int (0 : Int32)), .val (.int (0 : Int32)), .val (.ref b1), .val (.ref w_IN_PROGRESS)] [])) _
    refine XS.iconst X34.here hx rfl (hb hby at_117) ?_
    show Steps p.tables e below (T34.setTop (mkF m 118 #[.val (.int pi1), .val (.int (pi1 &&& (7 : Int32))), .val (.int (1 : Int32)), .val (.int (0 : Int32)), .val (.int (0 : Int32)), .val (.ref b1), .val (.ref w_IN_PROGRESS)] [(.int (1 : Int32))])) _
    refine XS.goto X34.here hx rfl (pc0 := 118) (pc' := 122) rfl (hb hby at_118) (by decide) (by decide) ?_
    show Steps p.tables e below (T34.setTop (mkF m 122 #[.val (.int pi1), .val (.int (pi1 &&& (7 : Int32))), .val (.int (1 : Int32)), .val (.int (0 : Int32)), .val (.int (0 : Int32)), .val (.ref b1), .val (.ref w_IN_PROGRESS)] [(.int (1 : Int32))])) _
    exact retN X34 hx (t := .boolean) Bd.returns (by simp) (hb hby at_122) hr
  · exact ⟨rfl, N34⟩
set_option maxRecDepth 65536 in
set_option maxHeartbeats 40000000 in
theorem rm0_ftf (l : Launch) (Z : State) (a0 : Array Value) (hw : ∀ d ∈ tables_1, d.before a0 Z = true) (ws : List Jvm.Cond) (pi1 : Int32) (w_PENDING : Addr) (w_IN_PROGRESS : Addr) (w_SUBMITTED : Addr) (w_FINALIZED : Addr) (h0 : Heap) (n0 : Nat) (Z0 : n0 ≤ h0.size) (O0 : Old Z n0 h0) (S_PENDING : Sta Z Z.heap "com/example/diarist/diarist/questionnaire/QuestionnaireStatus" "PENDING" "Lcom/example/diarist/diarist/questionnaire/QuestionnaireStatus;" (.ref w_PENDING)) (E_w_PENDING : Exa Z Z.heap w_PENDING "com/example/diarist/diarist/questionnaire/QuestionnaireStatus") (S_IN_PROGRESS : Sta Z Z.heap "com/example/diarist/diarist/questionnaire/QuestionnaireStatus" "IN_PROGRESS" "Lcom/example/diarist/diarist/questionnaire/QuestionnaireStatus;" (.ref w_IN_PROGRESS)) (E_w_IN_PROGRESS : Exa Z Z.heap w_IN_PROGRESS "com/example/diarist/diarist/questionnaire/QuestionnaireStatus") (S_SUBMITTED : Sta Z Z.heap "com/example/diarist/diarist/questionnaire/QuestionnaireStatus" "SUBMITTED" "Lcom/example/diarist/diarist/questionnaire/QuestionnaireStatus;" (.ref w_SUBMITTED)) (E_w_SUBMITTED : Exa Z Z.heap w_SUBMITTED "com/example/diarist/diarist/questionnaire/QuestionnaireStatus") (S_FINALIZED : Sta Z Z.heap "com/example/diarist/diarist/questionnaire/QuestionnaireStatus" "FINALIZED" "Lcom/example/diarist/diarist/questionnaire/QuestionnaireStatus;" (.ref w_FINALIZED)) (E_w_FINALIZED : Exa Z Z.heap w_FINALIZED "com/example/diarist/diarist/questionnaire/QuestionnaireStatus") (hc8_0 : ¬ (((pi1 &&& (7 : Int32)) &&& (1 : Int32)) = (0 : Int32))) (hc20_1 : ((pi1 &&& (7 : Int32)) &&& (2 : Int32)) = (0 : Int32)) (hc32_2 : ¬ (((pi1 &&& (7 : Int32)) &&& (4 : Int32)) = (0 : Int32))) :
    MetFree l x (head1 (Jvm.Cond.code x code maxLocals ret :: ws) room_1) (fun a U => a = #[(.int pi1)] ∧ Z.Warmed39 U.vm ∧ U.heap = h0) (fun _ _ _ _ _ => True) (fun _ U o U' => ∃ v L, o = .returned v ∧ Q0 v L n0 ∧ FrameEnd U o U' L room_1.cells room_1.slots) := by
  refine MetFree.of_bodySF (plainFor_of_name pn_0) hisR ?_
  intro p e s m args below meth c s₁ Bd hml0 hP hK
  obtain ⟨rfl, hZ, hh⟩ := hP
  have hx := Bd.exec
  have hby := Bd.bytes
  have hml : c.maxLocals = 7 := hml0
  have hown : s.vm.findClass "com/example/diarist/diarist/questionnaire/QuestionnaireStatusOfPinLaw" = some m.cls := findClass_of_methodNamed Bd.named
  have hnm := (name_of_methodNamed Bd.named Bd.method).1
  have X0 : Stand p l e room_1 s m #[(.int pi1)] below meth c s₁ [] 0 0 := Stand.of_body Bd
  have e0 : s₁.heap = h0 := by rw [← hh, Bd.state]; rfl
  have N0 := Fr.nil n0
  have pre0 : ∀ t, Steps p.tables e below (s₁.setTop (mkF m 0 #[.val (.int pi1), .unset, .unset, .unset, .unset, .unset, .unset] [])) t → Steps p.tables e below (s₁.setTop (entryFrame m #[(.int pi1)] maxLocals)) t := fun t k => castTop (ef_0 m pi1) k
  obtain ⟨T1, h1, k1, X1, e1, E1, A1, O1, st1⟩ := newR X0 hx hZ hown (hw _ (List.mem_of_getElem? (i := 0) rfl)) (hw _ (List.mem_of_getElem? (i := 1) rfl)) e0 (g := (mkF m 44 #[.val (.int pi1), .val (.int (pi1 &&& (7 : Int32))), .val (.int (1 : Int32)), .val (.int (0 : Int32)), .val (.int (1 : Int32)), .unset, .unset] [(.int (8 : Int32))])) rfl (hb hby at_44) rfl (by decide) (cap := 8) (by decide) (by decide) (by decide) (by decide)
  obtain ⟨b1, g1⟩ : ∃ z, z = h0.size := ⟨_, rfl⟩
  rw [← g1] at A1 st1
  have V1 : Arv Z h1 b1 k1 (.object "com/example/diarist/diarist/questionnaire/QuestionnaireStatus") (8 : Int32) [.null, .null, .null, .null, .null, .null, .null, .null] .null := (Arv.new A1 (by decide)).pad (pad_rep [] .null 8)
  have o3 := O0.ext E1
  obtain ⟨T2, X2, e2, st2⟩ := getS2 X1 hx hZ hown (host := "") (Or.inl (hw _ (List.mem_of_getElem? (i := 2) rfl))) Via.refl e1 (S_PENDING.ext o3.2) (g := (mkF m 49 #[.val (.int pi1), .val (.int (pi1 &&& (7 : Int32))), .val (.int (1 : Int32)), .val (.int (0 : Int32)), .val (.int (1 : Int32)), .unset, .unset] [(.int (0 : Int32)), (.ref b1), (.ref b1)])) rfl (hb hby at_49)
  have g_b1 : n0 ≤ b1 := Nat.le_trans Z0 (Nat.le_of_eq g1.symm)
  have V_c4 := V1
  obtain ⟨c4, Arc4, qc4, Sc4, Nc4, Hc4, Gc4⟩ := V_c4
  have hin5 : ¬ ((0 : Int32) < 0 ∨ c4.slots.size ≤ ((0 : Int32)).toNatClampNeg) := inb_of Sc4 ⟨by decide, by decide⟩
  obtain ⟨T5, h5, X5, e5, W5, st5⟩ := stR X2 hx hZ e2 Arc4 (j := (0 : Int32)) hin5 rfl (Sto.ofV Arc4 qc4 O1 (Ins.self (E_w_PENDING.ext o3.2))) (g := (mkF m 52 #[.val (.int pi1), .val (.int (pi1 &&& (7 : Int32))), .val (.int (1 : Int32)), .val (.int (0 : Int32)), .val (.int (1 : Int32)), .unset, .unset] [(.ref w_PENDING), (.int (0 : Int32)), (.ref b1), (.ref b1)])) rfl rfl (hb hby at_52)
  have V5 : Arv Z h5 b1 k1 (.object "com/example/diarist/diarist/questionnaire/QuestionnaireStatus") (8 : Int32) [(.ref w_PENDING), .null, .null, .null, .null, .null, .null, .null] .null := Arv.set Arc4 qc4 Sc4 Nc4 Hc4 Gc4 rfl W5 0 rfl (Nat.le_of_ble_eq_true rfl)
  have N5 := Fr.snoc X5 N0 g_b1
  have o7 := o3.wr W5 g_b1
  obtain ⟨T6, X6, e6, st6⟩ := getS2 X5 hx hZ hown (host := "") (Or.inl (hw _ (List.mem_of_getElem? (i := 6) rfl))) Via.refl e5 (S_IN_PROGRESS.ext o7.2) (g := (mkF m 55 #[.val (.int pi1), .val (.int (pi1 &&& (7 : Int32))), .val (.int (1 : Int32)), .val (.int (0 : Int32)), .val (.int (1 : Int32)), .unset, .unset] [(.int (1 : Int32)), (.ref b1), (.ref b1)])) rfl (hb hby at_55)
  have V_c8 := V5
  obtain ⟨c8, Arc8, qc8, Sc8, Nc8, Hc8, Gc8⟩ := V_c8
  have hin9 : ¬ ((1 : Int32) < 0 ∨ c8.slots.size ≤ ((1 : Int32)).toNatClampNeg) := inb_of Sc8 ⟨by decide, by decide⟩
  obtain ⟨T9, h9, X9, e9, W9, st9⟩ := stR X6 hx hZ e6 Arc8 (j := (1 : Int32)) hin9 rfl (Sto.ofV Arc8 qc8 O1 (Ins.self (E_w_IN_PROGRESS.ext o7.2))) (g := (mkF m 58 #[.val (.int pi1), .val (.int (pi1 &&& (7 : Int32))), .val (.int (1 : Int32)), .val (.int (0 : Int32)), .val (.int (1 : Int32)), .unset, .unset] [(.ref w_IN_PROGRESS), (.int (1 : Int32)), (.ref b1), (.ref b1)])) rfl rfl (hb hby at_58)
  have V9 : Arv Z h9 b1 k1 (.object "com/example/diarist/diarist/questionnaire/QuestionnaireStatus") (8 : Int32) [(.ref w_PENDING), (.ref w_IN_PROGRESS), .null, .null, .null, .null, .null, .null] .null := Arv.set Arc8 qc8 Sc8 Nc8 Hc8 Gc8 rfl W9 1 rfl (Nat.le_of_ble_eq_true rfl)
  have N9 := Fr.snoc X9 N5 g_b1
  have o11 := o7.wr W9 g_b1
  obtain ⟨T10, X10, e10, st10⟩ := getS2 X9 hx hZ hown (host := "") (Or.inl (hw _ (List.mem_of_getElem? (i := 8) rfl))) Via.refl e9 (S_SUBMITTED.ext o11.2) (g := (mkF m 61 #[.val (.int pi1), .val (.int (pi1 &&& (7 : Int32))), .val (.int (1 : Int32)), .val (.int (0 : Int32)), .val (.int (1 : Int32)), .unset, .unset] [(.int (2 : Int32)), (.ref b1), (.ref b1)])) rfl (hb hby at_61)
  have V_c12 := V9
  obtain ⟨c12, Arc12, qc12, Sc12, Nc12, Hc12, Gc12⟩ := V_c12
  have hin13 : ¬ ((2 : Int32) < 0 ∨ c12.slots.size ≤ ((2 : Int32)).toNatClampNeg) := inb_of Sc12 ⟨by decide, by decide⟩
  obtain ⟨T13, h13, X13, e13, W13, st13⟩ := stR X10 hx hZ e10 Arc12 (j := (2 : Int32)) hin13 rfl (Sto.ofV Arc12 qc12 O1 (Ins.self (E_w_SUBMITTED.ext o11.2))) (g := (mkF m 64 #[.val (.int pi1), .val (.int (pi1 &&& (7 : Int32))), .val (.int (1 : Int32)), .val (.int (0 : Int32)), .val (.int (1 : Int32)), .unset, .unset] [(.ref w_SUBMITTED), (.int (2 : Int32)), (.ref b1), (.ref b1)])) rfl rfl (hb hby at_64)
  have V13 : Arv Z h13 b1 k1 (.object "com/example/diarist/diarist/questionnaire/QuestionnaireStatus") (8 : Int32) [(.ref w_PENDING), (.ref w_IN_PROGRESS), (.ref w_SUBMITTED), .null, .null, .null, .null, .null] .null := Arv.set Arc12 qc12 Sc12 Nc12 Hc12 Gc12 rfl W13 2 rfl (Nat.le_of_ble_eq_true rfl)
  have N13 := Fr.snoc X13 N9 g_b1
  have o15 := o11.wr W13 g_b1
  obtain ⟨T14, X14, e14, st14⟩ := getS2 X13 hx hZ hown (host := "") (Or.inl (hw _ (List.mem_of_getElem? (i := 8) rfl))) Via.refl e13 (S_SUBMITTED.ext o15.2) (g := (mkF m 67 #[.val (.int pi1), .val (.int (pi1 &&& (7 : Int32))), .val (.int (1 : Int32)), .val (.int (0 : Int32)), .val (.int (1 : Int32)), .unset, .unset] [(.int (3 : Int32)), (.ref b1), (.ref b1)])) rfl (hb hby at_67)
  have V_c16 := V13
  obtain ⟨c16, Arc16, qc16, Sc16, Nc16, Hc16, Gc16⟩ := V_c16
  have hin17 : ¬ ((3 : Int32) < 0 ∨ c16.slots.size ≤ ((3 : Int32)).toNatClampNeg) := inb_of Sc16 ⟨by decide, by decide⟩
  obtain ⟨T17, h17, X17, e17, W17, st17⟩ := stR X14 hx hZ e14 Arc16 (j := (3 : Int32)) hin17 rfl (Sto.ofV Arc16 qc16 O1 (Ins.self (E_w_SUBMITTED.ext o15.2))) (g := (mkF m 70 #[.val (.int pi1), .val (.int (pi1 &&& (7 : Int32))), .val (.int (1 : Int32)), .val (.int (0 : Int32)), .val (.int (1 : Int32)), .unset, .unset] [(.ref w_SUBMITTED), (.int (3 : Int32)), (.ref b1), (.ref b1)])) rfl rfl (hb hby at_70)
  have V17 : Arv Z h17 b1 k1 (.object "com/example/diarist/diarist/questionnaire/QuestionnaireStatus") (8 : Int32) [(.ref w_PENDING), (.ref w_IN_PROGRESS), (.ref w_SUBMITTED), (.ref w_SUBMITTED), .null, .null, .null, .null] .null := Arv.set Arc16 qc16 Sc16 Nc16 Hc16 Gc16 rfl W17 3 rfl (Nat.le_of_ble_eq_true rfl)
  have N17 := Fr.snoc X17 N13 g_b1
  have o19 := o15.wr W17 g_b1
  obtain ⟨T18, X18, e18, st18⟩ := getS2 X17 hx hZ hown (host := "") (Or.inl (hw _ (List.mem_of_getElem? (i := 10) rfl))) Via.refl e17 (S_FINALIZED.ext o19.2) (g := (mkF m 73 #[.val (.int pi1), .val (.int (pi1 &&& (7 : Int32))), .val (.int (1 : Int32)), .val (.int (0 : Int32)), .val (.int (1 : Int32)), .unset, .unset] [(.int (4 : Int32)), (.ref b1), (.ref b1)])) rfl (hb hby at_73)
  have V_c20 := V17
  obtain ⟨c20, Arc20, qc20, Sc20, Nc20, Hc20, Gc20⟩ := V_c20
  have hin21 : ¬ ((4 : Int32) < 0 ∨ c20.slots.size ≤ ((4 : Int32)).toNatClampNeg) := inb_of Sc20 ⟨by decide, by decide⟩
  obtain ⟨T21, h21, X21, e21, W21, st21⟩ := stR X18 hx hZ e18 Arc20 (j := (4 : Int32)) hin21 rfl (Sto.ofV Arc20 qc20 O1 (Ins.self (E_w_FINALIZED.ext o19.2))) (g := (mkF m 76 #[.val (.int pi1), .val (.int (pi1 &&& (7 : Int32))), .val (.int (1 : Int32)), .val (.int (0 : Int32)), .val (.int (1 : Int32)), .unset, .unset] [(.ref w_FINALIZED), (.int (4 : Int32)), (.ref b1), (.ref b1)])) rfl rfl (hb hby at_76)
  have V21 : Arv Z h21 b1 k1 (.object "com/example/diarist/diarist/questionnaire/QuestionnaireStatus") (8 : Int32) [(.ref w_PENDING), (.ref w_IN_PROGRESS), (.ref w_SUBMITTED), (.ref w_SUBMITTED), (.ref w_FINALIZED), .null, .null, .null] .null := Arv.set Arc20 qc20 Sc20 Nc20 Hc20 Gc20 rfl W21 4 rfl (Nat.le_of_ble_eq_true rfl)
  have N21 := Fr.snoc X21 N17 g_b1
  have o23 := o19.wr W21 g_b1
  obtain ⟨T22, X22, e22, st22⟩ := getS2 X21 hx hZ hown (host := "") (Or.inl (hw _ (List.mem_of_getElem? (i := 10) rfl))) Via.refl e21 (S_FINALIZED.ext o23.2) (g := (mkF m 79 #[.val (.int pi1), .val (.int (pi1 &&& (7 : Int32))), .val (.int (1 : Int32)), .val (.int (0 : Int32)), .val (.int (1 : Int32)), .unset, .unset] [(.int (5 : Int32)), (.ref b1), (.ref b1)])) rfl (hb hby at_79)
  have V_c24 := V21
  obtain ⟨c24, Arc24, qc24, Sc24, Nc24, Hc24, Gc24⟩ := V_c24
  have hin25 : ¬ ((5 : Int32) < 0 ∨ c24.slots.size ≤ ((5 : Int32)).toNatClampNeg) := inb_of Sc24 ⟨by decide, by decide⟩
  obtain ⟨T25, h25, X25, e25, W25, st25⟩ := stR X22 hx hZ e22 Arc24 (j := (5 : Int32)) hin25 rfl (Sto.ofV Arc24 qc24 O1 (Ins.self (E_w_FINALIZED.ext o23.2))) (g := (mkF m 82 #[.val (.int pi1), .val (.int (pi1 &&& (7 : Int32))), .val (.int (1 : Int32)), .val (.int (0 : Int32)), .val (.int (1 : Int32)), .unset, .unset] [(.ref w_FINALIZED), (.int (5 : Int32)), (.ref b1), (.ref b1)])) rfl rfl (hb hby at_82)
  have V25 : Arv Z h25 b1 k1 (.object "com/example/diarist/diarist/questionnaire/QuestionnaireStatus") (8 : Int32) [(.ref w_PENDING), (.ref w_IN_PROGRESS), (.ref w_SUBMITTED), (.ref w_SUBMITTED), (.ref w_FINALIZED), (.ref w_FINALIZED), .null, .null] .null := Arv.set Arc24 qc24 Sc24 Nc24 Hc24 Gc24 rfl W25 5 rfl (Nat.le_of_ble_eq_true rfl)
  have N25 := Fr.snoc X25 N21 g_b1
  have o27 := o23.wr W25 g_b1
  obtain ⟨T26, X26, e26, st26⟩ := getS2 X25 hx hZ hown (host := "") (Or.inl (hw _ (List.mem_of_getElem? (i := 10) rfl))) Via.refl e25 (S_FINALIZED.ext o27.2) (g := (mkF m 86 #[.val (.int pi1), .val (.int (pi1 &&& (7 : Int32))), .val (.int (1 : Int32)), .val (.int (0 : Int32)), .val (.int (1 : Int32)), .unset, .unset] [(.int (6 : Int32)), (.ref b1), (.ref b1)])) rfl (hb hby at_86)
  have V_c28 := V25
  obtain ⟨c28, Arc28, qc28, Sc28, Nc28, Hc28, Gc28⟩ := V_c28
  have hin29 : ¬ ((6 : Int32) < 0 ∨ c28.slots.size ≤ ((6 : Int32)).toNatClampNeg) := inb_of Sc28 ⟨by decide, by decide⟩
  obtain ⟨T29, h29, X29, e29, W29, st29⟩ := stR X26 hx hZ e26 Arc28 (j := (6 : Int32)) hin29 rfl (Sto.ofV Arc28 qc28 O1 (Ins.self (E_w_FINALIZED.ext o27.2))) (g := (mkF m 89 #[.val (.int pi1), .val (.int (pi1 &&& (7 : Int32))), .val (.int (1 : Int32)), .val (.int (0 : Int32)), .val (.int (1 : Int32)), .unset, .unset] [(.ref w_FINALIZED), (.int (6 : Int32)), (.ref b1), (.ref b1)])) rfl rfl (hb hby at_89)
  have V29 : Arv Z h29 b1 k1 (.object "com/example/diarist/diarist/questionnaire/QuestionnaireStatus") (8 : Int32) [(.ref w_PENDING), (.ref w_IN_PROGRESS), (.ref w_SUBMITTED), (.ref w_SUBMITTED), (.ref w_FINALIZED), (.ref w_FINALIZED), (.ref w_FINALIZED), .null] .null := Arv.set Arc28 qc28 Sc28 Nc28 Hc28 Gc28 rfl W29 6 rfl (Nat.le_of_ble_eq_true rfl)
  have N29 := Fr.snoc X29 N25 g_b1
  have o31 := o27.wr W29 g_b1
  obtain ⟨T30, X30, e30, st30⟩ := getS2 X29 hx hZ hown (host := "") (Or.inl (hw _ (List.mem_of_getElem? (i := 10) rfl))) Via.refl e29 (S_FINALIZED.ext o31.2) (g := (mkF m 93 #[.val (.int pi1), .val (.int (pi1 &&& (7 : Int32))), .val (.int (1 : Int32)), .val (.int (0 : Int32)), .val (.int (1 : Int32)), .unset, .unset] [(.int (7 : Int32)), (.ref b1), (.ref b1)])) rfl (hb hby at_93)
  have V_c32 := V29
  obtain ⟨c32, Arc32, qc32, Sc32, Nc32, Hc32, Gc32⟩ := V_c32
  have hin33 : ¬ ((7 : Int32) < 0 ∨ c32.slots.size ≤ ((7 : Int32)).toNatClampNeg) := inb_of Sc32 ⟨by decide, by decide⟩
  obtain ⟨T33, h33, X33, e33, W33, st33⟩ := stR X30 hx hZ e30 Arc32 (j := (7 : Int32)) hin33 rfl (Sto.ofV Arc32 qc32 O1 (Ins.self (E_w_FINALIZED.ext o31.2))) (g := (mkF m 96 #[.val (.int pi1), .val (.int (pi1 &&& (7 : Int32))), .val (.int (1 : Int32)), .val (.int (0 : Int32)), .val (.int (1 : Int32)), .unset, .unset] [(.ref w_FINALIZED), (.int (7 : Int32)), (.ref b1), (.ref b1)])) rfl rfl (hb hby at_96)
  have V33 : Arv Z h33 b1 k1 (.object "com/example/diarist/diarist/questionnaire/QuestionnaireStatus") (8 : Int32) [(.ref w_PENDING), (.ref w_IN_PROGRESS), (.ref w_SUBMITTED), (.ref w_SUBMITTED), (.ref w_FINALIZED), (.ref w_FINALIZED), (.ref w_FINALIZED), (.ref w_FINALIZED)] .null := Arv.set Arc32 qc32 Sc32 Nc32 Hc32 Gc32 rfl W33 7 rfl (Nat.le_of_ble_eq_true rfl)
  have N33 := Fr.snoc X33 N29 g_b1
  have z35 := Nat.le_trans Z0 E1.1
  have z36 := Nat.le_trans z35 (Keep.of_wr W5).1
  have z37 := Nat.le_trans z36 (Keep.of_wr W9).1
  have z38 := Nat.le_trans z37 (Keep.of_wr W13).1
  have z39 := Nat.le_trans z38 (Keep.of_wr W17).1
  have z40 := Nat.le_trans z39 (Keep.of_wr W21).1
  have z41 := Nat.le_trans z40 (Keep.of_wr W25).1
  have z42 := Nat.le_trans z41 (Keep.of_wr W29).1
  have z43 := Nat.le_trans z42 (Keep.of_wr W33).1
  have o44 := o31.wr W33 g_b1
  obtain ⟨_, _, ⟨T34, L34, k34, n34⟩, -, X34, ⟨Lc34, hQ34, l34, y34, z34⟩, st34⟩ := Jvm.LawKit.callS X33 hx (y := (⟨"com/example/diarist/diarist/questionnaire/QuestionnaireStatus", "of", "(ZZZ)Lcom/example/diarist/diarist/questionnaire/QuestionnaireStatus;"⟩ : MethodName)) hown (mvT hZ (hw _ (List.mem_of_getElem? (i := 12) rfl))) (mvT hZ (hw _ (List.mem_of_getElem? (i := 13) rfl))) (mvT hZ (hw _ (List.mem_of_getElem? (i := 3) rfl))) (mvT hZ (hw _ (List.mem_of_getElem? (i := 14) rfl))) (by decide) (backOf (W := 0) (rm1_f l Z a0 hw [] (1 : Int32) (0 : Int32) (1 : Int32) w_FINALIZED h33 n0 z43 o44 S_FINALIZED (by decide)) hZ (hw _ (List.mem_of_getElem? (i := 14) rfl)) (hw _ (List.mem_of_getElem? (i := 3) rfl)) (by decide) (by decide)) (g := (mkF m 103 #[.val (.int pi1), .val (.int (pi1 &&& (7 : Int32))), .val (.int (1 : Int32)), .val (.int (0 : Int32)), .val (.int (1 : Int32)), .val (.ref b1), .unset] [(.int (1 : Int32)), (.int (0 : Int32)), (.int (1 : Int32))])) rfl (by rw [hml]; rfl) (argsL := [(.int (1 : Int32)), (.int (0 : Int32)), (.int (1 : Int32))]) (rest := []) (lenOf pd_0 rfl) rfl (by show 2 * 0 + _ ≤ _; exact Nat.le_of_eq rfl) (hb hby at_103) (fun _ _ => ⟨rfl, e33, (by decide : 1 + 0 ≤ _), (by decide : 8 + 0 ≤ _)⟩)
  dsimp only [Pt.U, Pt.locs, Pt.cells, Pt.slots] at X34 l34 y34 z34 st34 hQ34
  subst l34 y34 z34
  obtain ⟨rfl, N34q, eq34⟩ := hQ34
  have N34 := Fr.app N33 N34q
  have V_c45 := V33
  obtain ⟨c45, Arc45, qc45, Sc45, Nc45, Hc45, Gc45⟩ := V_c45
  have hj46 : (pi1 &&& (7 : Int32)) = (5 : Int32) := own_idx (own_b1 hc8_0) hc20_1 (own_b4 hc32_2) rfl
  have hin46 : ¬ ((pi1 &&& (7 : Int32)) < 0 ∨ c45.slots.size ≤ ((pi1 &&& (7 : Int32))).toNatClampNeg) := by rw [hj46]; exact inb_of Sc45 ⟨by decide, by decide⟩
  obtain ⟨fs, hr, hrun, hended, hW, hsame⟩ := X34.leave (v := some (.int (1 : Int32))) (fun h => by rw [Bd.returns] at h; cases h)
  refine ⟨_, _, pre0 _ ?_, hrun, hended, _, _, rfl, ?_, ⟨_, rfl⟩, hW, hsame.mono (by decide) (by decide)⟩
  · show Steps p.tables e below (s₁.setTop (mkF m 0 #[.val (.int pi1), .unset, .unset, .unset, .unset, .unset, .unset] [])) _
    refine XS.iloadN X0.here hx rfl (hb hby at_0) rfl ?_
    show Steps p.tables e below (s₁.setTop (mkF m 1 #[.val (.int pi1), .unset, .unset, .unset, .unset, .unset, .unset] [(.int pi1)])) _
    refine XS.bipush X0.here hx rfl (hb hby at_1) ?_
    show Steps p.tables e below (s₁.setTop (mkF m 3 #[.val (.int pi1), .unset, .unset, .unset, .unset, .unset, .unset] [(.int (7 : Int32)), (.int pi1)])) _
    refine XS.iand X0.here hx rfl (hb hby at_3) rfl ?_
    show Steps p.tables e below (s₁.setTop (mkF m 4 #[.val (.int pi1), .unset, .unset, .unset, .unset, .unset, .unset] [(.int (pi1 &&& (7 : Int32)))])) _
    refine XS.istoreN X0.here hx rfl (hb hby at_4) rfl (l' := #[.val (.int pi1), .val (.int (pi1 &&& (7 : Int32))), .unset, .unset, .unset, .unset, .unset]) rfl ?_
    show Steps p.tables e below (s₁.setTop (mkF m 5 #[.val (.int pi1), .val (.int (pi1 &&& (7 : Int32))), .unset, .unset, .unset, .unset, .unset] [])) _
    refine XS.iloadN X0.here hx rfl (hb hby at_5) rfl ?_
    show Steps p.tables e below (s₁.setTop (mkF m 6 #[.val (.int pi1), .val (.int (pi1 &&& (7 : Int32))), .unset, .unset, .unset, .unset, .unset] [(.int (pi1 &&& (7 : Int32)))])) _
    refine XS.iconst X0.here hx rfl (hb hby at_6) ?_
    show Steps p.tables e below (s₁.setTop (mkF m 7 #[.val (.int pi1), .val (.int (pi1 &&& (7 : Int32))), .unset, .unset, .unset, .unset, .unset] [(.int (1 : Int32)), (.int (pi1 &&& (7 : Int32)))])) _
    refine XS.iand X0.here hx rfl (hb hby at_7) rfl ?_
    show Steps p.tables e below (s₁.setTop (mkF m 8 #[.val (.int pi1), .val (.int (pi1 &&& (7 : Int32))), .unset, .unset, .unset, .unset, .unset] [(.int ((pi1 &&& (7 : Int32)) &&& (1 : Int32)))])) _
    refine XS.ifNo X0.here hx rfl (hb hby at_8) rfl ((if0 _ _).trans (feq hc8_0).1) ?_
    show Steps p.tables e below (s₁.setTop (mkF m 11 #[.val (.int pi1), .val (.int (pi1 &&& (7 : Int32))), .unset, .unset, .unset, .unset, .unset] [])) _
    refine XS.iconst X0.here hx rfl (hb hby at_11) ?_
    show Steps p.tables e below (s₁.setTop (mkF m 12 #[.val (.int pi1), .val (.int (pi1 &&& (7 : Int32))), .unset, .unset, .unset, .unset, .unset] [(.int (1 : Int32))])) _
    refine XS.goto X0.here hx rfl (pc0 := 12) (pc' := 16) rfl (hb hby at_12) (by decide) (by decide) ?_
    show Steps p.tables e below (s₁.setTop (mkF m 16 #[.val (.int pi1), .val (.int (pi1 &&& (7 : Int32))), .unset, .unset, .unset, .unset, .unset] [(.int (1 : Int32))])) _
    refine XS.istoreN X0.here hx rfl (hb hby at_16) rfl (l' := #[.val (.int pi1), .val (.int (pi1 &&& (7 : Int32))), .val (.int (1 : Int32)), .unset, .unset, .unset, .unset]) rfl ?_
    show Steps p.tables e below (s₁.setTop (mkF m 17 #[.val (.int pi1), .val (.int (pi1 &&& (7 : Int32))), .val (.int (1 : Int32)), .unset, .unset, .unset, .unset] [])) _
    refine XS.iloadN X0.here hx rfl (hb hby at_17) rfl ?_
    show Steps p.tables e below (s₁.setTop (mkF m 18 #[.val (.int pi1), .val (.int (pi1 &&& (7 : Int32))), .val (.int (1 : Int32)), .unset, .unset, .unset, .unset] [(.int (pi1 &&& (7 : Int32)))])) _
    refine XS.iconst X0.here hx rfl (hb hby at_18) ?_
    show Steps p.tables e below (s₁.setTop (mkF m 19 #[.val (.int pi1), .val (.int (pi1 &&& (7 : Int32))), .val (.int (1 : Int32)), .unset, .unset, .unset, .unset] [(.int (2 : Int32)), (.int (pi1 &&& (7 : Int32)))])) _
    refine XS.iand X0.here hx rfl (hb hby at_19) rfl ?_
    show Steps p.tables e below (s₁.setTop (mkF m 20 #[.val (.int pi1), .val (.int (pi1 &&& (7 : Int32))), .val (.int (1 : Int32)), .unset, .unset, .unset, .unset] [(.int ((pi1 &&& (7 : Int32)) &&& (2 : Int32)))])) _
    refine XS.ifYes X0.here hx rfl (pc0 := 20) (pc' := 27) rfl (hb hby at_20) rfl ((if0 _ _).trans (teq hc20_1).1) (by decide) (by decide) ?_
    show Steps p.tables e below (s₁.setTop (mkF m 27 #[.val (.int pi1), .val (.int (pi1 &&& (7 : Int32))), .val (.int (1 : Int32)), .unset, .unset, .unset, .unset] [])) _
    refine XS.iconst X0.here hx rfl (hb hby at_27) ?_
    show Steps p.tables e below (s₁.setTop (mkF m 28 #[.val (.int pi1), .val (.int (pi1 &&& (7 : Int32))), .val (.int (1 : Int32)), .unset, .unset, .unset, .unset] [(.int (0 : Int32))])) _
    refine XS.istoreN X0.here hx rfl (hb hby at_28) rfl (l' := #[.val (.int pi1), .val (.int (pi1 &&& (7 : Int32))), .val (.int (1 : Int32)), .val (.int (0 : Int32)), .unset, .unset, .unset]) rfl ?_
    show Steps p.tables e below (s₁.setTop (mkF m 29 #[.val (.int pi1), .val (.int (pi1 &&& (7 : Int32))), .val (.int (1 : Int32)), .val (.int (0 : Int32)), .unset, .unset, .unset] [])) _
    refine XS.iloadN X0.here hx rfl (hb hby at_29) rfl ?_
    show Steps p.tables e below (s₁.setTop (mkF m 30 #[.val (.int pi1), .val (.int (pi1 &&& (7 : Int32))), .val (.int (1 : Int32)), .val (.int (0 : Int32)), .unset, .unset, .unset] [(.int (pi1 &&& (7 : Int32)))])) _
    refine XS.iconst X0.here hx rfl (hb hby at_30) ?_
    show Steps p.tables e below (s₁.setTop (mkF m 31 #[.val (.int pi1), .val (.int (pi1 &&& (7 : Int32))), .val (.int (1 : Int32)), .val (.int (0 : Int32)), .unset, .unset, .unset] [(.int (4 : Int32)), (.int (pi1 &&& (7 : Int32)))])) _
    refine XS.iand X0.here hx rfl (hb hby at_31) rfl ?_
    show Steps p.tables e below (s₁.setTop (mkF m 32 #[.val (.int pi1), .val (.int (pi1 &&& (7 : Int32))), .val (.int (1 : Int32)), .val (.int (0 : Int32)), .unset, .unset, .unset] [(.int ((pi1 &&& (7 : Int32)) &&& (4 : Int32)))])) _
    refine XS.ifNo X0.here hx rfl (hb hby at_32) rfl ((if0 _ _).trans (feq hc32_2).1) ?_
    show Steps p.tables e below (s₁.setTop (mkF m 35 #[.val (.int pi1), .val (.int (pi1 &&& (7 : Int32))), .val (.int (1 : Int32)), .val (.int (0 : Int32)), .unset, .unset, .unset] [])) _
    refine XS.iconst X0.here hx rfl (hb hby at_35) ?_
    show Steps p.tables e below (s₁.setTop (mkF m 36 #[.val (.int pi1), .val (.int (pi1 &&& (7 : Int32))), .val (.int (1 : Int32)), .val (.int (0 : Int32)), .unset, .unset, .unset] [(.int (1 : Int32))])) _
    refine XS.goto X0.here hx rfl (pc0 := 36) (pc' := 40) rfl (hb hby at_36) (by decide) (by decide) ?_
    show Steps p.tables e below (s₁.setTop (mkF m 40 #[.val (.int pi1), .val (.int (pi1 &&& (7 : Int32))), .val (.int (1 : Int32)), .val (.int (0 : Int32)), .unset, .unset, .unset] [(.int (1 : Int32))])) _
    refine XS.istore X0.here hx rfl (hb hby at_40) rfl (l' := #[.val (.int pi1), .val (.int (pi1 &&& (7 : Int32))), .val (.int (1 : Int32)), .val (.int (0 : Int32)), .val (.int (1 : Int32)), .unset, .unset]) rfl ?_
    show Steps p.tables e below (s₁.setTop (mkF m 42 #[.val (.int pi1), .val (.int (pi1 &&& (7 : Int32))), .val (.int (1 : Int32)), .val (.int (0 : Int32)), .val (.int (1 : Int32)), .unset, .unset] [])) _
    refine XS.bipush X0.here hx rfl (hb hby at_42) ?_
    show Steps p.tables e below (s₁.setTop (mkF m 44 #[.val (.int pi1), .val (.int (pi1 &&& (7 : Int32))), .val (.int (1 : Int32)), .val (.int (0 : Int32)), .val (.int (1 : Int32)), .unset, .unset] [(.int (8 : Int32))])) _
    refine st1 _ ?_
    show Steps p.tables e below (T1.setTop (mkF m 47 #[.val (.int pi1), .val (.int (pi1 &&& (7 : Int32))), .val (.int (1 : Int32)), .val (.int (0 : Int32)), .val (.int (1 : Int32)), .unset, .unset] [(.ref b1)])) _
    refine XS.dup X1.here hx rfl (hb hby at_47) rfl rfl ?_
    show Steps p.tables e below (T1.setTop (mkF m 48 #[.val (.int pi1), .val (.int (pi1 &&& (7 : Int32))), .val (.int (1 : Int32)), .val (.int (0 : Int32)), .val (.int (1 : Int32)), .unset, .unset] [(.ref b1), (.ref b1)])) _
    refine XS.iconst X1.here hx rfl (hb hby at_48) ?_
    show Steps p.tables e below (T1.setTop (mkF m 49 #[.val (.int pi1), .val (.int (pi1 &&& (7 : Int32))), .val (.int (1 : Int32)), .val (.int (0 : Int32)), .val (.int (1 : Int32)), .unset, .unset] [(.int (0 : Int32)), (.ref b1), (.ref b1)])) _
    refine st2 _ ?_
    show Steps p.tables e below (T2.setTop (mkF m 52 #[.val (.int pi1), .val (.int (pi1 &&& (7 : Int32))), .val (.int (1 : Int32)), .val (.int (0 : Int32)), .val (.int (1 : Int32)), .unset, .unset] [(.ref w_PENDING), (.int (0 : Int32)), (.ref b1), (.ref b1)])) _
    refine st5 _ ?_
    show Steps p.tables e below (T5.setTop (mkF m 53 #[.val (.int pi1), .val (.int (pi1 &&& (7 : Int32))), .val (.int (1 : Int32)), .val (.int (0 : Int32)), .val (.int (1 : Int32)), .unset, .unset] [(.ref b1)])) _
    refine XS.dup X5.here hx rfl (hb hby at_53) rfl rfl ?_
    show Steps p.tables e below (T5.setTop (mkF m 54 #[.val (.int pi1), .val (.int (pi1 &&& (7 : Int32))), .val (.int (1 : Int32)), .val (.int (0 : Int32)), .val (.int (1 : Int32)), .unset, .unset] [(.ref b1), (.ref b1)])) _
    refine XS.iconst X5.here hx rfl (hb hby at_54) ?_
    show Steps p.tables e below (T5.setTop (mkF m 55 #[.val (.int pi1), .val (.int (pi1 &&& (7 : Int32))), .val (.int (1 : Int32)), .val (.int (0 : Int32)), .val (.int (1 : Int32)), .unset, .unset] [(.int (1 : Int32)), (.ref b1), (.ref b1)])) _
    refine st6 _ ?_
    show Steps p.tables e below (T6.setTop (mkF m 58 #[.val (.int pi1), .val (.int (pi1 &&& (7 : Int32))), .val (.int (1 : Int32)), .val (.int (0 : Int32)), .val (.int (1 : Int32)), .unset, .unset] [(.ref w_IN_PROGRESS), (.int (1 : Int32)), (.ref b1), (.ref b1)])) _
    refine st9 _ ?_
    show Steps p.tables e below (T9.setTop (mkF m 59 #[.val (.int pi1), .val (.int (pi1 &&& (7 : Int32))), .val (.int (1 : Int32)), .val (.int (0 : Int32)), .val (.int (1 : Int32)), .unset, .unset] [(.ref b1)])) _
    refine XS.dup X9.here hx rfl (hb hby at_59) rfl rfl ?_
    show Steps p.tables e below (T9.setTop (mkF m 60 #[.val (.int pi1), .val (.int (pi1 &&& (7 : Int32))), .val (.int (1 : Int32)), .val (.int (0 : Int32)), .val (.int (1 : Int32)), .unset, .unset] [(.ref b1), (.ref b1)])) _
    refine XS.iconst X9.here hx rfl (hb hby at_60) ?_
    show Steps p.tables e below (T9.setTop (mkF m 61 #[.val (.int pi1), .val (.int (pi1 &&& (7 : Int32))), .val (.int (1 : Int32)), .val (.int (0 : Int32)), .val (.int (1 : Int32)), .unset, .unset] [(.int (2 : Int32)), (.ref b1), (.ref b1)])) _
    refine st10 _ ?_
    show Steps p.tables e below (T10.setTop (mkF m 64 #[.val (.int pi1), .val (.int (pi1 &&& (7 : Int32))), .val (.int (1 : Int32)), .val (.int (0 : Int32)), .val (.int (1 : Int32)), .unset, .unset] [(.ref w_SUBMITTED), (.int (2 : Int32)), (.ref b1), (.ref b1)])) _
    refine st13 _ ?_
    show Steps p.tables e below (T13.setTop (mkF m 65 #[.val (.int pi1), .val (.int (pi1 &&& (7 : Int32))), .val (.int (1 : Int32)), .val (.int (0 : Int32)), .val (.int (1 : Int32)), .unset, .unset] [(.ref b1)])) _
    refine XS.dup X13.here hx rfl (hb hby at_65) rfl rfl ?_
    show Steps p.tables e below (T13.setTop (mkF m 66 #[.val (.int pi1), .val (.int (pi1 &&& (7 : Int32))), .val (.int (1 : Int32)), .val (.int (0 : Int32)), .val (.int (1 : Int32)), .unset, .unset] [(.ref b1), (.ref b1)])) _
    refine XS.iconst X13.here hx rfl (hb hby at_66) ?_
    show Steps p.tables e below (T13.setTop (mkF m 67 #[.val (.int pi1), .val (.int (pi1 &&& (7 : Int32))), .val (.int (1 : Int32)), .val (.int (0 : Int32)), .val (.int (1 : Int32)), .unset, .unset] [(.int (3 : Int32)), (.ref b1), (.ref b1)])) _
    refine st14 _ ?_
    show Steps p.tables e below (T14.setTop (mkF m 70 #[.val (.int pi1), .val (.int (pi1 &&& (7 : Int32))), .val (.int (1 : Int32)), .val (.int (0 : Int32)), .val (.int (1 : Int32)), .unset, .unset] [(.ref w_SUBMITTED), (.int (3 : Int32)), (.ref b1), (.ref b1)])) _
    refine st17 _ ?_
    show Steps p.tables e below (T17.setTop (mkF m 71 #[.val (.int pi1), .val (.int (pi1 &&& (7 : Int32))), .val (.int (1 : Int32)), .val (.int (0 : Int32)), .val (.int (1 : Int32)), .unset, .unset] [(.ref b1)])) _
    refine XS.dup X17.here hx rfl (hb hby at_71) rfl rfl ?_
    show Steps p.tables e below (T17.setTop (mkF m 72 #[.val (.int pi1), .val (.int (pi1 &&& (7 : Int32))), .val (.int (1 : Int32)), .val (.int (0 : Int32)), .val (.int (1 : Int32)), .unset, .unset] [(.ref b1), (.ref b1)])) _
    refine XS.iconst X17.here hx rfl (hb hby at_72) ?_
    show Steps p.tables e below (T17.setTop (mkF m 73 #[.val (.int pi1), .val (.int (pi1 &&& (7 : Int32))), .val (.int (1 : Int32)), .val (.int (0 : Int32)), .val (.int (1 : Int32)), .unset, .unset] [(.int (4 : Int32)), (.ref b1), (.ref b1)])) _
    refine st18 _ ?_
    show Steps p.tables e below (T18.setTop (mkF m 76 #[.val (.int pi1), .val (.int (pi1 &&& (7 : Int32))), .val (.int (1 : Int32)), .val (.int (0 : Int32)), .val (.int (1 : Int32)), .unset, .unset] [(.ref w_FINALIZED), (.int (4 : Int32)), (.ref b1), (.ref b1)])) _
    refine st21 _ ?_
    show Steps p.tables e below (T21.setTop (mkF m 77 #[.val (.int pi1), .val (.int (pi1 &&& (7 : Int32))), .val (.int (1 : Int32)), .val (.int (0 : Int32)), .val (.int (1 : Int32)), .unset, .unset] [(.ref b1)])) _
    refine XS.dup X21.here hx rfl (hb hby at_77) rfl rfl ?_
    show Steps p.tables e below (T21.setTop (mkF m 78 #[.val (.int pi1), .val (.int (pi1 &&& (7 : Int32))), .val (.int (1 : Int32)), .val (.int (0 : Int32)), .val (.int (1 : Int32)), .unset, .unset] [(.ref b1), (.ref b1)])) _
    refine XS.iconst X21.here hx rfl (hb hby at_78) ?_
    show Steps p.tables e below (T21.setTop (mkF m 79 #[.val (.int pi1), .val (.int (pi1 &&& (7 : Int32))), .val (.int (1 : Int32)), .val (.int (0 : Int32)), .val (.int (1 : Int32)), .unset, .unset] [(.int (5 : Int32)), (.ref b1), (.ref b1)])) _
    refine st22 _ ?_
    show Steps p.tables e below (T22.setTop (mkF m 82 #[.val (.int pi1), .val (.int (pi1 &&& (7 : Int32))), .val (.int (1 : Int32)), .val (.int (0 : Int32)), .val (.int (1 : Int32)), .unset, .unset] [(.ref w_FINALIZED), (.int (5 : Int32)), (.ref b1), (.ref b1)])) _
    refine st25 _ ?_
    show Steps p.tables e below (T25.setTop (mkF m 83 #[.val (.int pi1), .val (.int (pi1 &&& (7 : Int32))), .val (.int (1 : Int32)), .val (.int (0 : Int32)), .val (.int (1 : Int32)), .unset, .unset] [(.ref b1)])) _
    refine XS.dup X25.here hx rfl (hb hby at_83) rfl rfl ?_
    show Steps p.tables e below (T25.setTop (mkF m 84 #[.val (.int pi1), .val (.int (pi1 &&& (7 : Int32))), .val (.int (1 : Int32)), .val (.int (0 : Int32)), .val (.int (1 : Int32)), .unset, .unset] [(.ref b1), (.ref b1)])) _
    refine XS.bipush X25.here hx rfl (hb hby at_84) ?_
    show Steps p.tables e below (T25.setTop (mkF m 86 #[.val (.int pi1), .val (.int (pi1 &&& (7 : Int32))), .val (.int (1 : Int32)), .val (.int (0 : Int32)), .val (.int (1 : Int32)), .unset, .unset] [(.int (6 : Int32)), (.ref b1), (.ref b1)])) _
    refine st26 _ ?_
    show Steps p.tables e below (T26.setTop (mkF m 89 #[.val (.int pi1), .val (.int (pi1 &&& (7 : Int32))), .val (.int (1 : Int32)), .val (.int (0 : Int32)), .val (.int (1 : Int32)), .unset, .unset] [(.ref w_FINALIZED), (.int (6 : Int32)), (.ref b1), (.ref b1)])) _
    refine st29 _ ?_
    show Steps p.tables e below (T29.setTop (mkF m 90 #[.val (.int pi1), .val (.int (pi1 &&& (7 : Int32))), .val (.int (1 : Int32)), .val (.int (0 : Int32)), .val (.int (1 : Int32)), .unset, .unset] [(.ref b1)])) _
    refine XS.dup X29.here hx rfl (hb hby at_90) rfl rfl ?_
    show Steps p.tables e below (T29.setTop (mkF m 91 #[.val (.int pi1), .val (.int (pi1 &&& (7 : Int32))), .val (.int (1 : Int32)), .val (.int (0 : Int32)), .val (.int (1 : Int32)), .unset, .unset] [(.ref b1), (.ref b1)])) _
    refine XS.bipush X29.here hx rfl (hb hby at_91) ?_
    show Steps p.tables e below (T29.setTop (mkF m 93 #[.val (.int pi1), .val (.int (pi1 &&& (7 : Int32))), .val (.int (1 : Int32)), .val (.int (0 : Int32)), .val (.int (1 : Int32)), .unset, .unset] [(.int (7 : Int32)), (.ref b1), (.ref b1)])) _
    refine st30 _ ?_
    show Steps p.tables e below (T30.setTop (mkF m 96 #[.val (.int pi1), .val (.int (pi1 &&& (7 : Int32))), .val (.int (1 : Int32)), .val (.int (0 : Int32)), .val (.int (1 : Int32)), .unset, .unset] [(.ref w_FINALIZED), (.int (7 : Int32)), (.ref b1), (.ref b1)])) _
    refine st33 _ ?_
    show Steps p.tables e below (T33.setTop (mkF m 97 #[.val (.int pi1), .val (.int (pi1 &&& (7 : Int32))), .val (.int (1 : Int32)), .val (.int (0 : Int32)), .val (.int (1 : Int32)), .unset, .unset] [(.ref b1)])) _
    refine XS.astore X33.here hx rfl (hb hby at_97) rfl rfl (l' := #[.val (.int pi1), .val (.int (pi1 &&& (7 : Int32))), .val (.int (1 : Int32)), .val (.int (0 : Int32)), .val (.int (1 : Int32)), .val (.ref b1), .unset]) rfl ?_
    show Steps p.tables e below (T33.setTop (mkF m 99 #[.val (.int pi1), .val (.int (pi1 &&& (7 : Int32))), .val (.int (1 : Int32)), .val (.int (0 : Int32)), .val (.int (1 : Int32)), .val (.ref b1), .unset] [])) _
    refine XS.iloadN X33.here hx rfl (hb hby at_99) rfl ?_
    show Steps p.tables e below (T33.setTop (mkF m 100 #[.val (.int pi1), .val (.int (pi1 &&& (7 : Int32))), .val (.int (1 : Int32)), .val (.int (0 : Int32)), .val (.int (1 : Int32)), .val (.ref b1), .unset] [(.int (1 : Int32))])) _
    refine XS.iloadN X33.here hx rfl (hb hby at_100) rfl ?_
    show Steps p.tables e below (T33.setTop (mkF m 101 #[.val (.int pi1), .val (.int (pi1 &&& (7 : Int32))), .val (.int (1 : Int32)), .val (.int (0 : Int32)), .val (.int (1 : Int32)), .val (.ref b1), .unset] [(.int (0 : Int32)), (.int (1 : Int32))])) _
    refine XS.iload X33.here hx rfl (hb hby at_101) rfl ?_
    show Steps p.tables e below (T33.setTop (mkF m 103 #[.val (.int pi1), .val (.int (pi1 &&& (7 : Int32))), .val (.int (1 : Int32)), .val (.int (0 : Int32)), .val (.int (1 : Int32)), .val (.ref b1), .unset] [(.int (1 : Int32)), (.int (0 : Int32)), (.int (1 : Int32))])) _
    refine st34 _ ?_
    show Steps p.tables e below (T34.setTop (mkF m 106 #[.val (.int pi1), .val (.int (pi1 &&& (7 : Int32))), .val (.int (1 : Int32)), .val (.int (0 : Int32)), .val (.int (1 : Int32)), .val (.ref b1), .unset] [(.ref w_FINALIZED)])) _
    refine XS.astore X34.here hx rfl (hb hby at_106) rfl rfl (l' := #[.val (.int pi1), .val (.int (pi1 &&& (7 : Int32))), .val (.int (1 : Int32)), .val (.int (0 : Int32)), .val (.int (1 : Int32)), .val (.ref b1), .val (.ref w_FINALIZED)]) rfl ?_
    show Steps p.tables e below (T34.setTop (mkF m 108 #[.val (.int pi1), .val (.int (pi1 &&& (7 : Int32))), .val (.int (1 : Int32)), .val (.int (0 : Int32)), .val (.int (1 : Int32)), .val (.ref b1), .val (.ref w_FINALIZED)] [])) _
    refine XS.aload X34.here hx rfl (hb hby at_108) rfl rfl ?_
    show Steps p.tables e below (T34.setTop (mkF m 110 #[.val (.int pi1), .val (.int (pi1 &&& (7 : Int32))), .val (.int (1 : Int32)), .val (.int (0 : Int32)), .val (.int (1 : Int32)), .val (.ref b1), .val (.ref w_FINALIZED)] [(.ref w_FINALIZED)])) _
    refine XS.aload X34.here hx rfl (hb hby at_110) rfl rfl ?_
    show Steps p.tables e below (T34.setTop (mkF m 112 #[.val (.int pi1), .val (.int (pi1 &&& (7 : Int32))), .val (.int (1 : Int32)), .val (.int (0 : Int32)), .val (.int (1 : Int32)), .val (.ref b1), .val (.ref w_FINALIZED)] [(.ref b1), (.ref w_FINALIZED)])) _
    refine XS.iloadN X34.here hx rfl (hb hby at_112) rfl ?_
    show Steps p.tables e below (T34.setTop (mkF m 113 #[.val (.int pi1), .val (.int (pi1 &&& (7 : Int32))), .val (.int (1 : Int32)), .val (.int (0 : Int32)), .val (.int (1 : Int32)), .val (.ref b1), .val (.ref w_FINALIZED)] [(.int (pi1 &&& (7 : Int32))), (.ref b1), (.ref w_FINALIZED)])) _
    refine X34.aaload hx (j := (pi1 &&& (7 : Int32))) (v := (.ref w_FINALIZED)) (by rw [eq34]; exact Arc45.1) (State.isArrayOf_alike hZ.alike Arc45.2.1) rfl Arc45.2.2 hin46 (Has.at Hc45 hin46 (by rw [hj46]; rfl)) (g := (mkF m 113 #[.val (.int pi1), .val (.int (pi1 &&& (7 : Int32))), .val (.int (1 : Int32)), .val (.int (0 : Int32)), .val (.int (1 : Int32)), .val (.ref b1), .val (.ref w_FINALIZED)] [(.int (pi1 &&& (7 : Int32))), (.ref b1), (.ref w_FINALIZED)])) rfl rfl (hb hby at_113) _ ?_
    show Steps p.tables e below (T34.setTop (mkF m 114 #[.val (.int pi1), .val (.int (pi1 &&& (7 : Int32))), .val (.int (1 : Int32)), .val (.int (0 : Int32)), .val (.int (1 : Int32)), .val (.ref b1), .val (.ref w_FINALIZED)] [(.ref w_FINALIZED), (.ref w_FINALIZED)])) _
    refine Jvm.RoadKit.acmp (g := (mkF m 114 #[.val (.int pi1), .val (.int (pi1 &&& (7 : Int32))), .val (.int (1 : Int32)), .val (.int (0 : Int32)), .val (.int (1 : Int32)), .val (.ref b1), .val (.ref w_FINALIZED)] [(.ref w_FINALIZED), (.ref w_FINALIZED)])) X34 hx rfl rfl rfl (pc0 := 114) (pc' := 117) (same := true) rfl (hb hby at_114) rfl (decide_eq_true rfl) (by decide) (by decide) ?_
    show Steps p.tables e below (T34.setTop (mkF m 117 #[.val (.int pi1), .val (.int (pi1 &&& (7 : Int32))), .val (.int (1 : Int32)), .val (.int (0 : Int32)), .val (.int (1 : Int32)), .val (.ref b1), .val (.ref w_FINALIZED)] [])) _
    refine XS.iconst X34.here hx rfl (hb hby at_117) ?_
    show Steps p.tables e below (T34.setTop (mkF m 118 #[.val (.int pi1), .val (.int (pi1 &&& (7 : Int32))), .val (.int (1 : Int32)), .val (.int (0 : Int32)), .val (.int (1 : Int32)), .val (.ref b1), .val (.ref w_FINALIZED)] [(.int (1 : Int32))])) _
    refine XS.goto X34.here hx rfl (pc0 := 118) (pc' := 122) rfl (hb hby at_118) (by decide) (by decide) ?_
    show Steps p.tables e below (T34.setTop (mkF m 122 #[.val (.int pi1), .val (.int (pi1 &&& (7 : Int32))), .val (.int (1 : Int32)), .val (.int (0 : Int32)), .val (.int (1 : Int32)), .val (.ref b1), .val (.ref w_FINALIZED)] [(.int (1 : Int32))])) _
    exact retN X34 hx (t := .boolean) Bd.returns (by simp) (hb hby at_122) hr
  · exact ⟨rfl, N34⟩
set_option maxRecDepth 65536 in
set_option maxHeartbeats 40000000 in
theorem rm0_fft (l : Launch) (Z : State) (a0 : Array Value) (hw : ∀ d ∈ tables_1, d.before a0 Z = true) (ws : List Jvm.Cond) (pi1 : Int32) (w_PENDING : Addr) (w_IN_PROGRESS : Addr) (w_SUBMITTED : Addr) (w_FINALIZED : Addr) (h0 : Heap) (n0 : Nat) (Z0 : n0 ≤ h0.size) (O0 : Old Z n0 h0) (S_PENDING : Sta Z Z.heap "com/example/diarist/diarist/questionnaire/QuestionnaireStatus" "PENDING" "Lcom/example/diarist/diarist/questionnaire/QuestionnaireStatus;" (.ref w_PENDING)) (E_w_PENDING : Exa Z Z.heap w_PENDING "com/example/diarist/diarist/questionnaire/QuestionnaireStatus") (S_IN_PROGRESS : Sta Z Z.heap "com/example/diarist/diarist/questionnaire/QuestionnaireStatus" "IN_PROGRESS" "Lcom/example/diarist/diarist/questionnaire/QuestionnaireStatus;" (.ref w_IN_PROGRESS)) (E_w_IN_PROGRESS : Exa Z Z.heap w_IN_PROGRESS "com/example/diarist/diarist/questionnaire/QuestionnaireStatus") (S_SUBMITTED : Sta Z Z.heap "com/example/diarist/diarist/questionnaire/QuestionnaireStatus" "SUBMITTED" "Lcom/example/diarist/diarist/questionnaire/QuestionnaireStatus;" (.ref w_SUBMITTED)) (E_w_SUBMITTED : Exa Z Z.heap w_SUBMITTED "com/example/diarist/diarist/questionnaire/QuestionnaireStatus") (S_FINALIZED : Sta Z Z.heap "com/example/diarist/diarist/questionnaire/QuestionnaireStatus" "FINALIZED" "Lcom/example/diarist/diarist/questionnaire/QuestionnaireStatus;" (.ref w_FINALIZED)) (E_w_FINALIZED : Exa Z Z.heap w_FINALIZED "com/example/diarist/diarist/questionnaire/QuestionnaireStatus") (hc8_0 : ¬ (((pi1 &&& (7 : Int32)) &&& (1 : Int32)) = (0 : Int32))) (hc20_1 : ¬ (((pi1 &&& (7 : Int32)) &&& (2 : Int32)) = (0 : Int32))) (hc32_2 : ((pi1 &&& (7 : Int32)) &&& (4 : Int32)) = (0 : Int32)) :
    MetFree l x (head1 (Jvm.Cond.code x code maxLocals ret :: ws) room_1) (fun a U => a = #[(.int pi1)] ∧ Z.Warmed39 U.vm ∧ U.heap = h0) (fun _ _ _ _ _ => True) (fun _ U o U' => ∃ v L, o = .returned v ∧ Q0 v L n0 ∧ FrameEnd U o U' L room_1.cells room_1.slots) := by
  refine MetFree.of_bodySF (plainFor_of_name pn_0) hisR ?_
  intro p e s m args below meth c s₁ Bd hml0 hP hK
  obtain ⟨rfl, hZ, hh⟩ := hP
  have hx := Bd.exec
  have hby := Bd.bytes
  have hml : c.maxLocals = 7 := hml0
  have hown : s.vm.findClass "com/example/diarist/diarist/questionnaire/QuestionnaireStatusOfPinLaw" = some m.cls := findClass_of_methodNamed Bd.named
  have hnm := (name_of_methodNamed Bd.named Bd.method).1
  have X0 : Stand p l e room_1 s m #[(.int pi1)] below meth c s₁ [] 0 0 := Stand.of_body Bd
  have e0 : s₁.heap = h0 := by rw [← hh, Bd.state]; rfl
  have N0 := Fr.nil n0
  have pre0 : ∀ t, Steps p.tables e below (s₁.setTop (mkF m 0 #[.val (.int pi1), .unset, .unset, .unset, .unset, .unset, .unset] [])) t → Steps p.tables e below (s₁.setTop (entryFrame m #[(.int pi1)] maxLocals)) t := fun t k => castTop (ef_0 m pi1) k
  obtain ⟨T1, h1, k1, X1, e1, E1, A1, O1, st1⟩ := newR X0 hx hZ hown (hw _ (List.mem_of_getElem? (i := 0) rfl)) (hw _ (List.mem_of_getElem? (i := 1) rfl)) e0 (g := (mkF m 44 #[.val (.int pi1), .val (.int (pi1 &&& (7 : Int32))), .val (.int (1 : Int32)), .val (.int (1 : Int32)), .val (.int (0 : Int32)), .unset, .unset] [(.int (8 : Int32))])) rfl (hb hby at_44) rfl (by decide) (cap := 8) (by decide) (by decide) (by decide) (by decide)
  obtain ⟨b1, g1⟩ : ∃ z, z = h0.size := ⟨_, rfl⟩
  rw [← g1] at A1 st1
  have V1 : Arv Z h1 b1 k1 (.object "com/example/diarist/diarist/questionnaire/QuestionnaireStatus") (8 : Int32) [.null, .null, .null, .null, .null, .null, .null, .null] .null := (Arv.new A1 (by decide)).pad (pad_rep [] .null 8)
  have o3 := O0.ext E1
  obtain ⟨T2, X2, e2, st2⟩ := getS2 X1 hx hZ hown (host := "") (Or.inl (hw _ (List.mem_of_getElem? (i := 2) rfl))) Via.refl e1 (S_PENDING.ext o3.2) (g := (mkF m 49 #[.val (.int pi1), .val (.int (pi1 &&& (7 : Int32))), .val (.int (1 : Int32)), .val (.int (1 : Int32)), .val (.int (0 : Int32)), .unset, .unset] [(.int (0 : Int32)), (.ref b1), (.ref b1)])) rfl (hb hby at_49)
  have g_b1 : n0 ≤ b1 := Nat.le_trans Z0 (Nat.le_of_eq g1.symm)
  have V_c4 := V1
  obtain ⟨c4, Arc4, qc4, Sc4, Nc4, Hc4, Gc4⟩ := V_c4
  have hin5 : ¬ ((0 : Int32) < 0 ∨ c4.slots.size ≤ ((0 : Int32)).toNatClampNeg) := inb_of Sc4 ⟨by decide, by decide⟩
  obtain ⟨T5, h5, X5, e5, W5, st5⟩ := stR X2 hx hZ e2 Arc4 (j := (0 : Int32)) hin5 rfl (Sto.ofV Arc4 qc4 O1 (Ins.self (E_w_PENDING.ext o3.2))) (g := (mkF m 52 #[.val (.int pi1), .val (.int (pi1 &&& (7 : Int32))), .val (.int (1 : Int32)), .val (.int (1 : Int32)), .val (.int (0 : Int32)), .unset, .unset] [(.ref w_PENDING), (.int (0 : Int32)), (.ref b1), (.ref b1)])) rfl rfl (hb hby at_52)
  have V5 : Arv Z h5 b1 k1 (.object "com/example/diarist/diarist/questionnaire/QuestionnaireStatus") (8 : Int32) [(.ref w_PENDING), .null, .null, .null, .null, .null, .null, .null] .null := Arv.set Arc4 qc4 Sc4 Nc4 Hc4 Gc4 rfl W5 0 rfl (Nat.le_of_ble_eq_true rfl)
  have N5 := Fr.snoc X5 N0 g_b1
  have o7 := o3.wr W5 g_b1
  obtain ⟨T6, X6, e6, st6⟩ := getS2 X5 hx hZ hown (host := "") (Or.inl (hw _ (List.mem_of_getElem? (i := 6) rfl))) Via.refl e5 (S_IN_PROGRESS.ext o7.2) (g := (mkF m 55 #[.val (.int pi1), .val (.int (pi1 &&& (7 : Int32))), .val (.int (1 : Int32)), .val (.int (1 : Int32)), .val (.int (0 : Int32)), .unset, .unset] [(.int (1 : Int32)), (.ref b1), (.ref b1)])) rfl (hb hby at_55)
  have V_c8 := V5
  obtain ⟨c8, Arc8, qc8, Sc8, Nc8, Hc8, Gc8⟩ := V_c8
  have hin9 : ¬ ((1 : Int32) < 0 ∨ c8.slots.size ≤ ((1 : Int32)).toNatClampNeg) := inb_of Sc8 ⟨by decide, by decide⟩
  obtain ⟨T9, h9, X9, e9, W9, st9⟩ := stR X6 hx hZ e6 Arc8 (j := (1 : Int32)) hin9 rfl (Sto.ofV Arc8 qc8 O1 (Ins.self (E_w_IN_PROGRESS.ext o7.2))) (g := (mkF m 58 #[.val (.int pi1), .val (.int (pi1 &&& (7 : Int32))), .val (.int (1 : Int32)), .val (.int (1 : Int32)), .val (.int (0 : Int32)), .unset, .unset] [(.ref w_IN_PROGRESS), (.int (1 : Int32)), (.ref b1), (.ref b1)])) rfl rfl (hb hby at_58)
  have V9 : Arv Z h9 b1 k1 (.object "com/example/diarist/diarist/questionnaire/QuestionnaireStatus") (8 : Int32) [(.ref w_PENDING), (.ref w_IN_PROGRESS), .null, .null, .null, .null, .null, .null] .null := Arv.set Arc8 qc8 Sc8 Nc8 Hc8 Gc8 rfl W9 1 rfl (Nat.le_of_ble_eq_true rfl)
  have N9 := Fr.snoc X9 N5 g_b1
  have o11 := o7.wr W9 g_b1
  obtain ⟨T10, X10, e10, st10⟩ := getS2 X9 hx hZ hown (host := "") (Or.inl (hw _ (List.mem_of_getElem? (i := 8) rfl))) Via.refl e9 (S_SUBMITTED.ext o11.2) (g := (mkF m 61 #[.val (.int pi1), .val (.int (pi1 &&& (7 : Int32))), .val (.int (1 : Int32)), .val (.int (1 : Int32)), .val (.int (0 : Int32)), .unset, .unset] [(.int (2 : Int32)), (.ref b1), (.ref b1)])) rfl (hb hby at_61)
  have V_c12 := V9
  obtain ⟨c12, Arc12, qc12, Sc12, Nc12, Hc12, Gc12⟩ := V_c12
  have hin13 : ¬ ((2 : Int32) < 0 ∨ c12.slots.size ≤ ((2 : Int32)).toNatClampNeg) := inb_of Sc12 ⟨by decide, by decide⟩
  obtain ⟨T13, h13, X13, e13, W13, st13⟩ := stR X10 hx hZ e10 Arc12 (j := (2 : Int32)) hin13 rfl (Sto.ofV Arc12 qc12 O1 (Ins.self (E_w_SUBMITTED.ext o11.2))) (g := (mkF m 64 #[.val (.int pi1), .val (.int (pi1 &&& (7 : Int32))), .val (.int (1 : Int32)), .val (.int (1 : Int32)), .val (.int (0 : Int32)), .unset, .unset] [(.ref w_SUBMITTED), (.int (2 : Int32)), (.ref b1), (.ref b1)])) rfl rfl (hb hby at_64)
  have V13 : Arv Z h13 b1 k1 (.object "com/example/diarist/diarist/questionnaire/QuestionnaireStatus") (8 : Int32) [(.ref w_PENDING), (.ref w_IN_PROGRESS), (.ref w_SUBMITTED), .null, .null, .null, .null, .null] .null := Arv.set Arc12 qc12 Sc12 Nc12 Hc12 Gc12 rfl W13 2 rfl (Nat.le_of_ble_eq_true rfl)
  have N13 := Fr.snoc X13 N9 g_b1
  have o15 := o11.wr W13 g_b1
  obtain ⟨T14, X14, e14, st14⟩ := getS2 X13 hx hZ hown (host := "") (Or.inl (hw _ (List.mem_of_getElem? (i := 8) rfl))) Via.refl e13 (S_SUBMITTED.ext o15.2) (g := (mkF m 67 #[.val (.int pi1), .val (.int (pi1 &&& (7 : Int32))), .val (.int (1 : Int32)), .val (.int (1 : Int32)), .val (.int (0 : Int32)), .unset, .unset] [(.int (3 : Int32)), (.ref b1), (.ref b1)])) rfl (hb hby at_67)
  have V_c16 := V13
  obtain ⟨c16, Arc16, qc16, Sc16, Nc16, Hc16, Gc16⟩ := V_c16
  have hin17 : ¬ ((3 : Int32) < 0 ∨ c16.slots.size ≤ ((3 : Int32)).toNatClampNeg) := inb_of Sc16 ⟨by decide, by decide⟩
  obtain ⟨T17, h17, X17, e17, W17, st17⟩ := stR X14 hx hZ e14 Arc16 (j := (3 : Int32)) hin17 rfl (Sto.ofV Arc16 qc16 O1 (Ins.self (E_w_SUBMITTED.ext o15.2))) (g := (mkF m 70 #[.val (.int pi1), .val (.int (pi1 &&& (7 : Int32))), .val (.int (1 : Int32)), .val (.int (1 : Int32)), .val (.int (0 : Int32)), .unset, .unset] [(.ref w_SUBMITTED), (.int (3 : Int32)), (.ref b1), (.ref b1)])) rfl rfl (hb hby at_70)
  have V17 : Arv Z h17 b1 k1 (.object "com/example/diarist/diarist/questionnaire/QuestionnaireStatus") (8 : Int32) [(.ref w_PENDING), (.ref w_IN_PROGRESS), (.ref w_SUBMITTED), (.ref w_SUBMITTED), .null, .null, .null, .null] .null := Arv.set Arc16 qc16 Sc16 Nc16 Hc16 Gc16 rfl W17 3 rfl (Nat.le_of_ble_eq_true rfl)
  have N17 := Fr.snoc X17 N13 g_b1
  have o19 := o15.wr W17 g_b1
  obtain ⟨T18, X18, e18, st18⟩ := getS2 X17 hx hZ hown (host := "") (Or.inl (hw _ (List.mem_of_getElem? (i := 10) rfl))) Via.refl e17 (S_FINALIZED.ext o19.2) (g := (mkF m 73 #[.val (.int pi1), .val (.int (pi1 &&& (7 : Int32))), .val (.int (1 : Int32)), .val (.int (1 : Int32)), .val (.int (0 : Int32)), .unset, .unset] [(.int (4 : Int32)), (.ref b1), (.ref b1)])) rfl (hb hby at_73)
  have V_c20 := V17
  obtain ⟨c20, Arc20, qc20, Sc20, Nc20, Hc20, Gc20⟩ := V_c20
  have hin21 : ¬ ((4 : Int32) < 0 ∨ c20.slots.size ≤ ((4 : Int32)).toNatClampNeg) := inb_of Sc20 ⟨by decide, by decide⟩
  obtain ⟨T21, h21, X21, e21, W21, st21⟩ := stR X18 hx hZ e18 Arc20 (j := (4 : Int32)) hin21 rfl (Sto.ofV Arc20 qc20 O1 (Ins.self (E_w_FINALIZED.ext o19.2))) (g := (mkF m 76 #[.val (.int pi1), .val (.int (pi1 &&& (7 : Int32))), .val (.int (1 : Int32)), .val (.int (1 : Int32)), .val (.int (0 : Int32)), .unset, .unset] [(.ref w_FINALIZED), (.int (4 : Int32)), (.ref b1), (.ref b1)])) rfl rfl (hb hby at_76)
  have V21 : Arv Z h21 b1 k1 (.object "com/example/diarist/diarist/questionnaire/QuestionnaireStatus") (8 : Int32) [(.ref w_PENDING), (.ref w_IN_PROGRESS), (.ref w_SUBMITTED), (.ref w_SUBMITTED), (.ref w_FINALIZED), .null, .null, .null] .null := Arv.set Arc20 qc20 Sc20 Nc20 Hc20 Gc20 rfl W21 4 rfl (Nat.le_of_ble_eq_true rfl)
  have N21 := Fr.snoc X21 N17 g_b1
  have o23 := o19.wr W21 g_b1
  obtain ⟨T22, X22, e22, st22⟩ := getS2 X21 hx hZ hown (host := "") (Or.inl (hw _ (List.mem_of_getElem? (i := 10) rfl))) Via.refl e21 (S_FINALIZED.ext o23.2) (g := (mkF m 79 #[.val (.int pi1), .val (.int (pi1 &&& (7 : Int32))), .val (.int (1 : Int32)), .val (.int (1 : Int32)), .val (.int (0 : Int32)), .unset, .unset] [(.int (5 : Int32)), (.ref b1), (.ref b1)])) rfl (hb hby at_79)
  have V_c24 := V21
  obtain ⟨c24, Arc24, qc24, Sc24, Nc24, Hc24, Gc24⟩ := V_c24
  have hin25 : ¬ ((5 : Int32) < 0 ∨ c24.slots.size ≤ ((5 : Int32)).toNatClampNeg) := inb_of Sc24 ⟨by decide, by decide⟩
  obtain ⟨T25, h25, X25, e25, W25, st25⟩ := stR X22 hx hZ e22 Arc24 (j := (5 : Int32)) hin25 rfl (Sto.ofV Arc24 qc24 O1 (Ins.self (E_w_FINALIZED.ext o23.2))) (g := (mkF m 82 #[.val (.int pi1), .val (.int (pi1 &&& (7 : Int32))), .val (.int (1 : Int32)), .val (.int (1 : Int32)), .val (.int (0 : Int32)), .unset, .unset] [(.ref w_FINALIZED), (.int (5 : Int32)), (.ref b1), (.ref b1)])) rfl rfl (hb hby at_82)
  have V25 : Arv Z h25 b1 k1 (.object "com/example/diarist/diarist/questionnaire/QuestionnaireStatus") (8 : Int32) [(.ref w_PENDING), (.ref w_IN_PROGRESS), (.ref w_SUBMITTED), (.ref w_SUBMITTED), (.ref w_FINALIZED), (.ref w_FINALIZED), .null, .null] .null := Arv.set Arc24 qc24 Sc24 Nc24 Hc24 Gc24 rfl W25 5 rfl (Nat.le_of_ble_eq_true rfl)
  have N25 := Fr.snoc X25 N21 g_b1
  have o27 := o23.wr W25 g_b1
  obtain ⟨T26, X26, e26, st26⟩ := getS2 X25 hx hZ hown (host := "") (Or.inl (hw _ (List.mem_of_getElem? (i := 10) rfl))) Via.refl e25 (S_FINALIZED.ext o27.2) (g := (mkF m 86 #[.val (.int pi1), .val (.int (pi1 &&& (7 : Int32))), .val (.int (1 : Int32)), .val (.int (1 : Int32)), .val (.int (0 : Int32)), .unset, .unset] [(.int (6 : Int32)), (.ref b1), (.ref b1)])) rfl (hb hby at_86)
  have V_c28 := V25
  obtain ⟨c28, Arc28, qc28, Sc28, Nc28, Hc28, Gc28⟩ := V_c28
  have hin29 : ¬ ((6 : Int32) < 0 ∨ c28.slots.size ≤ ((6 : Int32)).toNatClampNeg) := inb_of Sc28 ⟨by decide, by decide⟩
  obtain ⟨T29, h29, X29, e29, W29, st29⟩ := stR X26 hx hZ e26 Arc28 (j := (6 : Int32)) hin29 rfl (Sto.ofV Arc28 qc28 O1 (Ins.self (E_w_FINALIZED.ext o27.2))) (g := (mkF m 89 #[.val (.int pi1), .val (.int (pi1 &&& (7 : Int32))), .val (.int (1 : Int32)), .val (.int (1 : Int32)), .val (.int (0 : Int32)), .unset, .unset] [(.ref w_FINALIZED), (.int (6 : Int32)), (.ref b1), (.ref b1)])) rfl rfl (hb hby at_89)
  have V29 : Arv Z h29 b1 k1 (.object "com/example/diarist/diarist/questionnaire/QuestionnaireStatus") (8 : Int32) [(.ref w_PENDING), (.ref w_IN_PROGRESS), (.ref w_SUBMITTED), (.ref w_SUBMITTED), (.ref w_FINALIZED), (.ref w_FINALIZED), (.ref w_FINALIZED), .null] .null := Arv.set Arc28 qc28 Sc28 Nc28 Hc28 Gc28 rfl W29 6 rfl (Nat.le_of_ble_eq_true rfl)
  have N29 := Fr.snoc X29 N25 g_b1
  have o31 := o27.wr W29 g_b1
  obtain ⟨T30, X30, e30, st30⟩ := getS2 X29 hx hZ hown (host := "") (Or.inl (hw _ (List.mem_of_getElem? (i := 10) rfl))) Via.refl e29 (S_FINALIZED.ext o31.2) (g := (mkF m 93 #[.val (.int pi1), .val (.int (pi1 &&& (7 : Int32))), .val (.int (1 : Int32)), .val (.int (1 : Int32)), .val (.int (0 : Int32)), .unset, .unset] [(.int (7 : Int32)), (.ref b1), (.ref b1)])) rfl (hb hby at_93)
  have V_c32 := V29
  obtain ⟨c32, Arc32, qc32, Sc32, Nc32, Hc32, Gc32⟩ := V_c32
  have hin33 : ¬ ((7 : Int32) < 0 ∨ c32.slots.size ≤ ((7 : Int32)).toNatClampNeg) := inb_of Sc32 ⟨by decide, by decide⟩
  obtain ⟨T33, h33, X33, e33, W33, st33⟩ := stR X30 hx hZ e30 Arc32 (j := (7 : Int32)) hin33 rfl (Sto.ofV Arc32 qc32 O1 (Ins.self (E_w_FINALIZED.ext o31.2))) (g := (mkF m 96 #[.val (.int pi1), .val (.int (pi1 &&& (7 : Int32))), .val (.int (1 : Int32)), .val (.int (1 : Int32)), .val (.int (0 : Int32)), .unset, .unset] [(.ref w_FINALIZED), (.int (7 : Int32)), (.ref b1), (.ref b1)])) rfl rfl (hb hby at_96)
  have V33 : Arv Z h33 b1 k1 (.object "com/example/diarist/diarist/questionnaire/QuestionnaireStatus") (8 : Int32) [(.ref w_PENDING), (.ref w_IN_PROGRESS), (.ref w_SUBMITTED), (.ref w_SUBMITTED), (.ref w_FINALIZED), (.ref w_FINALIZED), (.ref w_FINALIZED), (.ref w_FINALIZED)] .null := Arv.set Arc32 qc32 Sc32 Nc32 Hc32 Gc32 rfl W33 7 rfl (Nat.le_of_ble_eq_true rfl)
  have N33 := Fr.snoc X33 N29 g_b1
  have z35 := Nat.le_trans Z0 E1.1
  have z36 := Nat.le_trans z35 (Keep.of_wr W5).1
  have z37 := Nat.le_trans z36 (Keep.of_wr W9).1
  have z38 := Nat.le_trans z37 (Keep.of_wr W13).1
  have z39 := Nat.le_trans z38 (Keep.of_wr W17).1
  have z40 := Nat.le_trans z39 (Keep.of_wr W21).1
  have z41 := Nat.le_trans z40 (Keep.of_wr W25).1
  have z42 := Nat.le_trans z41 (Keep.of_wr W29).1
  have z43 := Nat.le_trans z42 (Keep.of_wr W33).1
  have o44 := o31.wr W33 g_b1
  obtain ⟨_, _, ⟨T34, L34, k34, n34⟩, -, X34, ⟨Lc34, hQ34, l34, y34, z34⟩, st34⟩ := Jvm.LawKit.callS X33 hx (y := (⟨"com/example/diarist/diarist/questionnaire/QuestionnaireStatus", "of", "(ZZZ)Lcom/example/diarist/diarist/questionnaire/QuestionnaireStatus;"⟩ : MethodName)) hown (mvT hZ (hw _ (List.mem_of_getElem? (i := 12) rfl))) (mvT hZ (hw _ (List.mem_of_getElem? (i := 13) rfl))) (mvT hZ (hw _ (List.mem_of_getElem? (i := 3) rfl))) (mvT hZ (hw _ (List.mem_of_getElem? (i := 14) rfl))) (by decide) (backOf (W := 0) (rm1_tf l Z a0 hw [] (1 : Int32) (1 : Int32) (0 : Int32) w_SUBMITTED h33 n0 z43 o44 S_SUBMITTED (by decide) (by decide)) hZ (hw _ (List.mem_of_getElem? (i := 14) rfl)) (hw _ (List.mem_of_getElem? (i := 3) rfl)) (by decide) (by decide)) (g := (mkF m 103 #[.val (.int pi1), .val (.int (pi1 &&& (7 : Int32))), .val (.int (1 : Int32)), .val (.int (1 : Int32)), .val (.int (0 : Int32)), .val (.ref b1), .unset] [(.int (0 : Int32)), (.int (1 : Int32)), (.int (1 : Int32))])) rfl (by rw [hml]; rfl) (argsL := [(.int (1 : Int32)), (.int (1 : Int32)), (.int (0 : Int32))]) (rest := []) (lenOf pd_0 rfl) rfl (by show 2 * 0 + _ ≤ _; exact Nat.le_of_eq rfl) (hb hby at_103) (fun _ _ => ⟨rfl, e33, (by decide : 1 + 0 ≤ _), (by decide : 8 + 0 ≤ _)⟩)
  dsimp only [Pt.U, Pt.locs, Pt.cells, Pt.slots] at X34 l34 y34 z34 st34 hQ34
  subst l34 y34 z34
  obtain ⟨rfl, N34q, eq34⟩ := hQ34
  have N34 := Fr.app N33 N34q
  have V_c45 := V33
  obtain ⟨c45, Arc45, qc45, Sc45, Nc45, Hc45, Gc45⟩ := V_c45
  have hj46 : (pi1 &&& (7 : Int32)) = (3 : Int32) := own_idx (own_b1 hc8_0) (own_b2 hc20_1) hc32_2 rfl
  have hin46 : ¬ ((pi1 &&& (7 : Int32)) < 0 ∨ c45.slots.size ≤ ((pi1 &&& (7 : Int32))).toNatClampNeg) := by rw [hj46]; exact inb_of Sc45 ⟨by decide, by decide⟩
  obtain ⟨fs, hr, hrun, hended, hW, hsame⟩ := X34.leave (v := some (.int (1 : Int32))) (fun h => by rw [Bd.returns] at h; cases h)
  refine ⟨_, _, pre0 _ ?_, hrun, hended, _, _, rfl, ?_, ⟨_, rfl⟩, hW, hsame.mono (by decide) (by decide)⟩
  · show Steps p.tables e below (s₁.setTop (mkF m 0 #[.val (.int pi1), .unset, .unset, .unset, .unset, .unset, .unset] [])) _
    refine XS.iloadN X0.here hx rfl (hb hby at_0) rfl ?_
    show Steps p.tables e below (s₁.setTop (mkF m 1 #[.val (.int pi1), .unset, .unset, .unset, .unset, .unset, .unset] [(.int pi1)])) _
    refine XS.bipush X0.here hx rfl (hb hby at_1) ?_
    show Steps p.tables e below (s₁.setTop (mkF m 3 #[.val (.int pi1), .unset, .unset, .unset, .unset, .unset, .unset] [(.int (7 : Int32)), (.int pi1)])) _
    refine XS.iand X0.here hx rfl (hb hby at_3) rfl ?_
    show Steps p.tables e below (s₁.setTop (mkF m 4 #[.val (.int pi1), .unset, .unset, .unset, .unset, .unset, .unset] [(.int (pi1 &&& (7 : Int32)))])) _
    refine XS.istoreN X0.here hx rfl (hb hby at_4) rfl (l' := #[.val (.int pi1), .val (.int (pi1 &&& (7 : Int32))), .unset, .unset, .unset, .unset, .unset]) rfl ?_
    show Steps p.tables e below (s₁.setTop (mkF m 5 #[.val (.int pi1), .val (.int (pi1 &&& (7 : Int32))), .unset, .unset, .unset, .unset, .unset] [])) _
    refine XS.iloadN X0.here hx rfl (hb hby at_5) rfl ?_
    show Steps p.tables e below (s₁.setTop (mkF m 6 #[.val (.int pi1), .val (.int (pi1 &&& (7 : Int32))), .unset, .unset, .unset, .unset, .unset] [(.int (pi1 &&& (7 : Int32)))])) _
    refine XS.iconst X0.here hx rfl (hb hby at_6) ?_
    show Steps p.tables e below (s₁.setTop (mkF m 7 #[.val (.int pi1), .val (.int (pi1 &&& (7 : Int32))), .unset, .unset, .unset, .unset, .unset] [(.int (1 : Int32)), (.int (pi1 &&& (7 : Int32)))])) _
    refine XS.iand X0.here hx rfl (hb hby at_7) rfl ?_
    show Steps p.tables e below (s₁.setTop (mkF m 8 #[.val (.int pi1), .val (.int (pi1 &&& (7 : Int32))), .unset, .unset, .unset, .unset, .unset] [(.int ((pi1 &&& (7 : Int32)) &&& (1 : Int32)))])) _
    refine XS.ifNo X0.here hx rfl (hb hby at_8) rfl ((if0 _ _).trans (feq hc8_0).1) ?_
    show Steps p.tables e below (s₁.setTop (mkF m 11 #[.val (.int pi1), .val (.int (pi1 &&& (7 : Int32))), .unset, .unset, .unset, .unset, .unset] [])) _
    refine XS.iconst X0.here hx rfl (hb hby at_11) ?_
    show Steps p.tables e below (s₁.setTop (mkF m 12 #[.val (.int pi1), .val (.int (pi1 &&& (7 : Int32))), .unset, .unset, .unset, .unset, .unset] [(.int (1 : Int32))])) _
    refine XS.goto X0.here hx rfl (pc0 := 12) (pc' := 16) rfl (hb hby at_12) (by decide) (by decide) ?_
    show Steps p.tables e below (s₁.setTop (mkF m 16 #[.val (.int pi1), .val (.int (pi1 &&& (7 : Int32))), .unset, .unset, .unset, .unset, .unset] [(.int (1 : Int32))])) _
    refine XS.istoreN X0.here hx rfl (hb hby at_16) rfl (l' := #[.val (.int pi1), .val (.int (pi1 &&& (7 : Int32))), .val (.int (1 : Int32)), .unset, .unset, .unset, .unset]) rfl ?_
    show Steps p.tables e below (s₁.setTop (mkF m 17 #[.val (.int pi1), .val (.int (pi1 &&& (7 : Int32))), .val (.int (1 : Int32)), .unset, .unset, .unset, .unset] [])) _
    refine XS.iloadN X0.here hx rfl (hb hby at_17) rfl ?_
    show Steps p.tables e below (s₁.setTop (mkF m 18 #[.val (.int pi1), .val (.int (pi1 &&& (7 : Int32))), .val (.int (1 : Int32)), .unset, .unset, .unset, .unset] [(.int (pi1 &&& (7 : Int32)))])) _
    refine XS.iconst X0.here hx rfl (hb hby at_18) ?_
    show Steps p.tables e below (s₁.setTop (mkF m 19 #[.val (.int pi1), .val (.int (pi1 &&& (7 : Int32))), .val (.int (1 : Int32)), .unset, .unset, .unset, .unset] [(.int (2 : Int32)), (.int (pi1 &&& (7 : Int32)))])) _
    refine XS.iand X0.here hx rfl (hb hby at_19) rfl ?_
    show Steps p.tables e below (s₁.setTop (mkF m 20 #[.val (.int pi1), .val (.int (pi1 &&& (7 : Int32))), .val (.int (1 : Int32)), .unset, .unset, .unset, .unset] [(.int ((pi1 &&& (7 : Int32)) &&& (2 : Int32)))])) _
    refine XS.ifNo X0.here hx rfl (hb hby at_20) rfl ((if0 _ _).trans (feq hc20_1).1) ?_
    show Steps p.tables e below (s₁.setTop (mkF m 23 #[.val (.int pi1), .val (.int (pi1 &&& (7 : Int32))), .val (.int (1 : Int32)), .unset, .unset, .unset, .unset] [])) _
    refine XS.iconst X0.here hx rfl (hb hby at_23) ?_
    show Steps p.tables e below (s₁.setTop (mkF m 24 #[.val (.int pi1), .val (.int (pi1 &&& (7 : Int32))), .val (.int (1 : Int32)), .unset, .unset, .unset, .unset] [(.int (1 : Int32))])) _
    refine XS.goto X0.here hx rfl (pc0 := 24) (pc' := 28) rfl (hb hby at_24) (by decide) (by decide) ?_
    show Steps p.tables e below (s₁.setTop (mkF m 28 #[.val (.int pi1), .val (.int (pi1 &&& (7 : Int32))), .val (.int (1 : Int32)), .unset, .unset, .unset, .unset] [(.int (1 : Int32))])) _
    refine XS.istoreN X0.here hx rfl (hb hby at_28) rfl (l' := #[.val (.int pi1), .val (.int (pi1 &&& (7 : Int32))), .val (.int (1 : Int32)), .val (.int (1 : Int32)), .unset, .unset, .unset]) rfl ?_
    show Steps p.tables e below (s₁.setTop (mkF m 29 #[.val (.int pi1), .val (.int (pi1 &&& (7 : Int32))), .val (.int (1 : Int32)), .val (.int (1 : Int32)), .unset, .unset, .unset] [])) _
    refine XS.iloadN X0.here hx rfl (hb hby at_29) rfl ?_
    show Steps p.tables e below (s₁.setTop (mkF m 30 #[.val (.int pi1), .val (.int (pi1 &&& (7 : Int32))), .val (.int (1 : Int32)), .val (.int (1 : Int32)), .unset, .unset, .unset] [(.int (pi1 &&& (7 : Int32)))])) _
    refine XS.iconst X0.here hx rfl (hb hby at_30) ?_
    show Steps p.tables e below (s₁.setTop (mkF m 31 #[.val (.int pi1), .val (.int (pi1 &&& (7 : Int32))), .val (.int (1 : Int32)), .val (.int (1 : Int32)), .unset, .unset, .unset] [(.int (4 : Int32)), (.int (pi1 &&& (7 : Int32)))])) _
    refine XS.iand X0.here hx rfl (hb hby at_31) rfl ?_
    show Steps p.tables e below (s₁.setTop (mkF m 32 #[.val (.int pi1), .val (.int (pi1 &&& (7 : Int32))), .val (.int (1 : Int32)), .val (.int (1 : Int32)), .unset, .unset, .unset] [(.int ((pi1 &&& (7 : Int32)) &&& (4 : Int32)))])) _
    refine XS.ifYes X0.here hx rfl (pc0 := 32) (pc' := 39) rfl (hb hby at_32) rfl ((if0 _ _).trans (teq hc32_2).1) (by decide) (by decide) ?_
    show Steps p.tables e below (s₁.setTop (mkF m 39 #[.val (.int pi1), .val (.int (pi1 &&& (7 : Int32))), .val (.int (1 : Int32)), .val (.int (1 : Int32)), .unset, .unset, .unset] [])) _
    refine XS.iconst X0.here hx rfl (hb hby at_39) ?_
    show Steps p.tables e below (s₁.setTop (mkF m 40 #[.val (.int pi1), .val (.int (pi1 &&& (7 : Int32))), .val (.int (1 : Int32)), .val (.int (1 : Int32)), .unset, .unset, .unset] [(.int (0 : Int32))])) _
    refine XS.istore X0.here hx rfl (hb hby at_40) rfl (l' := #[.val (.int pi1), .val (.int (pi1 &&& (7 : Int32))), .val (.int (1 : Int32)), .val (.int (1 : Int32)), .val (.int (0 : Int32)), .unset, .unset]) rfl ?_
    show Steps p.tables e below (s₁.setTop (mkF m 42 #[.val (.int pi1), .val (.int (pi1 &&& (7 : Int32))), .val (.int (1 : Int32)), .val (.int (1 : Int32)), .val (.int (0 : Int32)), .unset, .unset] [])) _
    refine XS.bipush X0.here hx rfl (hb hby at_42) ?_
    show Steps p.tables e below (s₁.setTop (mkF m 44 #[.val (.int pi1), .val (.int (pi1 &&& (7 : Int32))), .val (.int (1 : Int32)), .val (.int (1 : Int32)), .val (.int (0 : Int32)), .unset, .unset] [(.int (8 : Int32))])) _
    refine st1 _ ?_
    show Steps p.tables e below (T1.setTop (mkF m 47 #[.val (.int pi1), .val (.int (pi1 &&& (7 : Int32))), .val (.int (1 : Int32)), .val (.int (1 : Int32)), .val (.int (0 : Int32)), .unset, .unset] [(.ref b1)])) _
    refine XS.dup X1.here hx rfl (hb hby at_47) rfl rfl ?_
    show Steps p.tables e below (T1.setTop (mkF m 48 #[.val (.int pi1), .val (.int (pi1 &&& (7 : Int32))), .val (.int (1 : Int32)), .val (.int (1 : Int32)), .val (.int (0 : Int32)), .unset, .unset] [(.ref b1), (.ref b1)])) _
    refine XS.iconst X1.here hx rfl (hb hby at_48) ?_
    show Steps p.tables e below (T1.setTop (mkF m 49 #[.val (.int pi1), .val (.int (pi1 &&& (7 : Int32))), .val (.int (1 : Int32)), .val (.int (1 : Int32)), .val (.int (0 : Int32)), .unset, .unset] [(.int (0 : Int32)), (.ref b1), (.ref b1)])) _
    refine st2 _ ?_
    show Steps p.tables e below (T2.setTop (mkF m 52 #[.val (.int pi1), .val (.int (pi1 &&& (7 : Int32))), .val (.int (1 : Int32)), .val (.int (1 : Int32)), .val (.int (0 : Int32)), .unset, .unset] [(.ref w_PENDING), (.int (0 : Int32)), (.ref b1), (.ref b1)])) _
    refine st5 _ ?_
    show Steps p.tables e below (T5.setTop (mkF m 53 #[.val (.int pi1), .val (.int (pi1 &&& (7 : Int32))), .val (.int (1 : Int32)), .val (.int (1 : Int32)), .val (.int (0 : Int32)), .unset, .unset] [(.ref b1)])) _
    refine XS.dup X5.here hx rfl (hb hby at_53) rfl rfl ?_
    show Steps p.tables e below (T5.setTop (mkF m 54 #[.val (.int pi1), .val (.int (pi1 &&& (7 : Int32))), .val (.int (1 : Int32)), .val (.int (1 : Int32)), .val (.int (0 : Int32)), .unset, .unset] [(.ref b1), (.ref b1)])) _
    refine XS.iconst X5.here hx rfl (hb hby at_54) ?_
    show Steps p.tables e below (T5.setTop (mkF m 55 #[.val (.int pi1), .val (.int (pi1 &&& (7 : Int32))), .val (.int (1 : Int32)), .val (.int (1 : Int32)), .val (.int (0 : Int32)), .unset, .unset] [(.int (1 : Int32)), (.ref b1), (.ref b1)])) _
    refine st6 _ ?_
    show Steps p.tables e below (T6.setTop (mkF m 58 #[.val (.int pi1), .val (.int (pi1 &&& (7 : Int32))), .val (.int (1 : Int32)), .val (.int (1 : Int32)), .val (.int (0 : Int32)), .unset, .unset] [(.ref w_IN_PROGRESS), (.int (1 : Int32)), (.ref b1), (.ref b1)])) _
    refine st9 _ ?_
    show Steps p.tables e below (T9.setTop (mkF m 59 #[.val (.int pi1), .val (.int (pi1 &&& (7 : Int32))), .val (.int (1 : Int32)), .val (.int (1 : Int32)), .val (.int (0 : Int32)), .unset, .unset] [(.ref b1)])) _
    refine XS.dup X9.here hx rfl (hb hby at_59) rfl rfl ?_
    show Steps p.tables e below (T9.setTop (mkF m 60 #[.val (.int pi1), .val (.int (pi1 &&& (7 : Int32))), .val (.int (1 : Int32)), .val (.int (1 : Int32)), .val (.int (0 : Int32)), .unset, .unset] [(.ref b1), (.ref b1)])) _
    refine XS.iconst X9.here hx rfl (hb hby at_60) ?_
    show Steps p.tables e below (T9.setTop (mkF m 61 #[.val (.int pi1), .val (.int (pi1 &&& (7 : Int32))), .val (.int (1 : Int32)), .val (.int (1 : Int32)), .val (.int (0 : Int32)), .unset, .unset] [(.int (2 : Int32)), (.ref b1), (.ref b1)])) _
    refine st10 _ ?_
    show Steps p.tables e below (T10.setTop (mkF m 64 #[.val (.int pi1), .val (.int (pi1 &&& (7 : Int32))), .val (.int (1 : Int32)), .val (.int (1 : Int32)), .val (.int (0 : Int32)), .unset, .unset] [(.ref w_SUBMITTED), (.int (2 : Int32)), (.ref b1), (.ref b1)])) _
    refine st13 _ ?_
    show Steps p.tables e below (T13.setTop (mkF m 65 #[.val (.int pi1), .val (.int (pi1 &&& (7 : Int32))), .val (.int (1 : Int32)), .val (.int (1 : Int32)), .val (.int (0 : Int32)), .unset, .unset] [(.ref b1)])) _
    refine XS.dup X13.here hx rfl (hb hby at_65) rfl rfl ?_
    show Steps p.tables e below (T13.setTop (mkF m 66 #[.val (.int pi1), .val (.int (pi1 &&& (7 : Int32))), .val (.int (1 : Int32)), .val (.int (1 : Int32)), .val (.int (0 : Int32)), .unset, .unset] [(.ref b1), (.ref b1)])) _
    refine XS.iconst X13.here hx rfl (hb hby at_66) ?_
    show Steps p.tables e below (T13.setTop (mkF m 67 #[.val (.int pi1), .val (.int (pi1 &&& (7 : Int32))), .val (.int (1 : Int32)), .val (.int (1 : Int32)), .val (.int (0 : Int32)), .unset, .unset] [(.int (3 : Int32)), (.ref b1), (.ref b1)])) _
    refine st14 _ ?_
    show Steps p.tables e below (T14.setTop (mkF m 70 #[.val (.int pi1), .val (.int (pi1 &&& (7 : Int32))), .val (.int (1 : Int32)), .val (.int (1 : Int32)), .val (.int (0 : Int32)), .unset, .unset] [(.ref w_SUBMITTED), (.int (3 : Int32)), (.ref b1), (.ref b1)])) _
    refine st17 _ ?_
    show Steps p.tables e below (T17.setTop (mkF m 71 #[.val (.int pi1), .val (.int (pi1 &&& (7 : Int32))), .val (.int (1 : Int32)), .val (.int (1 : Int32)), .val (.int (0 : Int32)), .unset, .unset] [(.ref b1)])) _
    refine XS.dup X17.here hx rfl (hb hby at_71) rfl rfl ?_
    show Steps p.tables e below (T17.setTop (mkF m 72 #[.val (.int pi1), .val (.int (pi1 &&& (7 : Int32))), .val (.int (1 : Int32)), .val (.int (1 : Int32)), .val (.int (0 : Int32)), .unset, .unset] [(.ref b1), (.ref b1)])) _
    refine XS.iconst X17.here hx rfl (hb hby at_72) ?_
    show Steps p.tables e below (T17.setTop (mkF m 73 #[.val (.int pi1), .val (.int (pi1 &&& (7 : Int32))), .val (.int (1 : Int32)), .val (.int (1 : Int32)), .val (.int (0 : Int32)), .unset, .unset] [(.int (4 : Int32)), (.ref b1), (.ref b1)])) _
    refine st18 _ ?_
    show Steps p.tables e below (T18.setTop (mkF m 76 #[.val (.int pi1), .val (.int (pi1 &&& (7 : Int32))), .val (.int (1 : Int32)), .val (.int (1 : Int32)), .val (.int (0 : Int32)), .unset, .unset] [(.ref w_FINALIZED), (.int (4 : Int32)), (.ref b1), (.ref b1)])) _
    refine st21 _ ?_
    show Steps p.tables e below (T21.setTop (mkF m 77 #[.val (.int pi1), .val (.int (pi1 &&& (7 : Int32))), .val (.int (1 : Int32)), .val (.int (1 : Int32)), .val (.int (0 : Int32)), .unset, .unset] [(.ref b1)])) _
    refine XS.dup X21.here hx rfl (hb hby at_77) rfl rfl ?_
    show Steps p.tables e below (T21.setTop (mkF m 78 #[.val (.int pi1), .val (.int (pi1 &&& (7 : Int32))), .val (.int (1 : Int32)), .val (.int (1 : Int32)), .val (.int (0 : Int32)), .unset, .unset] [(.ref b1), (.ref b1)])) _
    refine XS.iconst X21.here hx rfl (hb hby at_78) ?_
    show Steps p.tables e below (T21.setTop (mkF m 79 #[.val (.int pi1), .val (.int (pi1 &&& (7 : Int32))), .val (.int (1 : Int32)), .val (.int (1 : Int32)), .val (.int (0 : Int32)), .unset, .unset] [(.int (5 : Int32)), (.ref b1), (.ref b1)])) _
    refine st22 _ ?_
    show Steps p.tables e below (T22.setTop (mkF m 82 #[.val (.int pi1), .val (.int (pi1 &&& (7 : Int32))), .val (.int (1 : Int32)), .val (.int (1 : Int32)), .val (.int (0 : Int32)), .unset, .unset] [(.ref w_FINALIZED), (.int (5 : Int32)), (.ref b1), (.ref b1)])) _
    refine st25 _ ?_
    show Steps p.tables e below (T25.setTop (mkF m 83 #[.val (.int pi1), .val (.int (pi1 &&& (7 : Int32))), .val (.int (1 : Int32)), .val (.int (1 : Int32)), .val (.int (0 : Int32)), .unset, .unset] [(.ref b1)])) _
    refine XS.dup X25.here hx rfl (hb hby at_83) rfl rfl ?_
    show Steps p.tables e below (T25.setTop (mkF m 84 #[.val (.int pi1), .val (.int (pi1 &&& (7 : Int32))), .val (.int (1 : Int32)), .val (.int (1 : Int32)), .val (.int (0 : Int32)), .unset, .unset] [(.ref b1), (.ref b1)])) _
    refine XS.bipush X25.here hx rfl (hb hby at_84) ?_
    show Steps p.tables e below (T25.setTop (mkF m 86 #[.val (.int pi1), .val (.int (pi1 &&& (7 : Int32))), .val (.int (1 : Int32)), .val (.int (1 : Int32)), .val (.int (0 : Int32)), .unset, .unset] [(.int (6 : Int32)), (.ref b1), (.ref b1)])) _
    refine st26 _ ?_
    show Steps p.tables e below (T26.setTop (mkF m 89 #[.val (.int pi1), .val (.int (pi1 &&& (7 : Int32))), .val (.int (1 : Int32)), .val (.int (1 : Int32)), .val (.int (0 : Int32)), .unset, .unset] [(.ref w_FINALIZED), (.int (6 : Int32)), (.ref b1), (.ref b1)])) _
    refine st29 _ ?_
    show Steps p.tables e below (T29.setTop (mkF m 90 #[.val (.int pi1), .val (.int (pi1 &&& (7 : Int32))), .val (.int (1 : Int32)), .val (.int (1 : Int32)), .val (.int (0 : Int32)), .unset, .unset] [(.ref b1)])) _
    refine XS.dup X29.here hx rfl (hb hby at_90) rfl rfl ?_
    show Steps p.tables e below (T29.setTop (mkF m 91 #[.val (.int pi1), .val (.int (pi1 &&& (7 : Int32))), .val (.int (1 : Int32)), .val (.int (1 : Int32)), .val (.int (0 : Int32)), .unset, .unset] [(.ref b1), (.ref b1)])) _
    refine XS.bipush X29.here hx rfl (hb hby at_91) ?_
    show Steps p.tables e below (T29.setTop (mkF m 93 #[.val (.int pi1), .val (.int (pi1 &&& (7 : Int32))), .val (.int (1 : Int32)), .val (.int (1 : Int32)), .val (.int (0 : Int32)), .unset, .unset] [(.int (7 : Int32)), (.ref b1), (.ref b1)])) _
    refine st30 _ ?_
    show Steps p.tables e below (T30.setTop (mkF m 96 #[.val (.int pi1), .val (.int (pi1 &&& (7 : Int32))), .val (.int (1 : Int32)), .val (.int (1 : Int32)), .val (.int (0 : Int32)), .unset, .unset] [(.ref w_FINALIZED), (.int (7 : Int32)), (.ref b1), (.ref b1)])) _
    refine st33 _ ?_
    show Steps p.tables e below (T33.setTop (mkF m 97 #[.val (.int pi1), .val (.int (pi1 &&& (7 : Int32))), .val (.int (1 : Int32)), .val (.int (1 : Int32)), .val (.int (0 : Int32)), .unset, .unset] [(.ref b1)])) _
    refine XS.astore X33.here hx rfl (hb hby at_97) rfl rfl (l' := #[.val (.int pi1), .val (.int (pi1 &&& (7 : Int32))), .val (.int (1 : Int32)), .val (.int (1 : Int32)), .val (.int (0 : Int32)), .val (.ref b1), .unset]) rfl ?_
    show Steps p.tables e below (T33.setTop (mkF m 99 #[.val (.int pi1), .val (.int (pi1 &&& (7 : Int32))), .val (.int (1 : Int32)), .val (.int (1 : Int32)), .val (.int (0 : Int32)), .val (.ref b1), .unset] [])) _
    refine XS.iloadN X33.here hx rfl (hb hby at_99) rfl ?_
    show Steps p.tables e below (T33.setTop (mkF m 100 #[.val (.int pi1), .val (.int (pi1 &&& (7 : Int32))), .val (.int (1 : Int32)), .val (.int (1 : Int32)), .val (.int (0 : Int32)), .val (.ref b1), .unset] [(.int (1 : Int32))])) _
    refine XS.iloadN X33.here hx rfl (hb hby at_100) rfl ?_
    show Steps p.tables e below (T33.setTop (mkF m 101 #[.val (.int pi1), .val (.int (pi1 &&& (7 : Int32))), .val (.int (1 : Int32)), .val (.int (1 : Int32)), .val (.int (0 : Int32)), .val (.ref b1), .unset] [(.int (1 : Int32)), (.int (1 : Int32))])) _
    refine XS.iload X33.here hx rfl (hb hby at_101) rfl ?_
    show Steps p.tables e below (T33.setTop (mkF m 103 #[.val (.int pi1), .val (.int (pi1 &&& (7 : Int32))), .val (.int (1 : Int32)), .val (.int (1 : Int32)), .val (.int (0 : Int32)), .val (.ref b1), .unset] [(.int (0 : Int32)), (.int (1 : Int32)), (.int (1 : Int32))])) _
    refine st34 _ ?_
    show Steps p.tables e below (T34.setTop (mkF m 106 #[.val (.int pi1), .val (.int (pi1 &&& (7 : Int32))), .val (.int (1 : Int32)), .val (.int (1 : Int32)), .val (.int (0 : Int32)), .val (.ref b1), .unset] [(.ref w_SUBMITTED)])) _
    refine XS.astore X34.here hx rfl (hb hby at_106) rfl rfl (l' := #[.val (.int pi1), .val (.int (pi1 &&& (7 : Int32))), .val (.int (1 : Int32)), .val (.int (1 : Int32)), .val (.int (0 : Int32)), .val (.ref b1), .val (.ref w_SUBMITTED)]) rfl ?_
    show Steps p.tables e below (T34.setTop (mkF m 108 #[.val (.int pi1), .val (.int (pi1 &&& (7 : Int32))), .val (.int (1 : Int32)), .val (.int (1 : Int32)), .val (.int (0 : Int32)), .val (.ref b1), .val (.ref w_SUBMITTED)] [])) _
    refine XS.aload X34.here hx rfl (hb hby at_108) rfl rfl ?_
    show Steps p.tables e below (T34.setTop (mkF m 110 #[.val (.int pi1), .val (.int (pi1 &&& (7 : Int32))), .val (.int (1 : Int32)), .val (.int (1 : Int32)), .val (.int (0 : Int32)), .val (.ref b1), .val (.ref w_SUBMITTED)] [(.ref w_SUBMITTED)])) _
    refine XS.aload X34.here hx rfl (hb hby at_110) rfl rfl ?_
    show Steps p.tables e below (T34.setTop (mkF m 112 #[.val (.int pi1), .val (.int (pi1 &&& (7 : Int32))), .val (.int (1 : Int32)), .val (.int (1 : Int32)), .val (.int (0 : Int32)), .val (.ref b1), .val (.ref w_SUBMITTED)] [(.ref b1), (.ref w_SUBMITTED)])) _
    refine XS.iloadN X34.here hx rfl (hb hby at_112) rfl ?_
    show Steps p.tables e below (T34.setTop (mkF m 113 #[.val (.int pi1), .val (.int (pi1 &&& (7 : Int32))), .val (.int (1 : Int32)), .val (.int (1 : Int32)), .val (.int (0 : Int32)), .val (.ref b1), .val (.ref w_SUBMITTED)] [(.int (pi1 &&& (7 : Int32))), (.ref b1), (.ref w_SUBMITTED)])) _
    refine X34.aaload hx (j := (pi1 &&& (7 : Int32))) (v := (.ref w_SUBMITTED)) (by rw [eq34]; exact Arc45.1) (State.isArrayOf_alike hZ.alike Arc45.2.1) rfl Arc45.2.2 hin46 (Has.at Hc45 hin46 (by rw [hj46]; rfl)) (g := (mkF m 113 #[.val (.int pi1), .val (.int (pi1 &&& (7 : Int32))), .val (.int (1 : Int32)), .val (.int (1 : Int32)), .val (.int (0 : Int32)), .val (.ref b1), .val (.ref w_SUBMITTED)] [(.int (pi1 &&& (7 : Int32))), (.ref b1), (.ref w_SUBMITTED)])) rfl rfl (hb hby at_113) _ ?_
    show Steps p.tables e below (T34.setTop (mkF m 114 #[.val (.int pi1), .val (.int (pi1 &&& (7 : Int32))), .val (.int (1 : Int32)), .val (.int (1 : Int32)), .val (.int (0 : Int32)), .val (.ref b1), .val (.ref w_SUBMITTED)] [(.ref w_SUBMITTED), (.ref w_SUBMITTED)])) _
    refine Jvm.RoadKit.acmp (g := (mkF m 114 #[.val (.int pi1), .val (.int (pi1 &&& (7 : Int32))), .val (.int (1 : Int32)), .val (.int (1 : Int32)), .val (.int (0 : Int32)), .val (.ref b1), .val (.ref w_SUBMITTED)] [(.ref w_SUBMITTED), (.ref w_SUBMITTED)])) X34 hx rfl rfl rfl (pc0 := 114) (pc' := 117) (same := true) rfl (hb hby at_114) rfl (decide_eq_true rfl) (by decide) (by decide) ?_
    show Steps p.tables e below (T34.setTop (mkF m 117 #[.val (.int pi1), .val (.int (pi1 &&& (7 : Int32))), .val (.int (1 : Int32)), .val (.int (1 : Int32)), .val (.int (0 : Int32)), .val (.ref b1), .val (.ref w_SUBMITTED)] [])) _
    refine XS.iconst X34.here hx rfl (hb hby at_117) ?_
    show Steps p.tables e below (T34.setTop (mkF m 118 #[.val (.int pi1), .val (.int (pi1 &&& (7 : Int32))), .val (.int (1 : Int32)), .val (.int (1 : Int32)), .val (.int (0 : Int32)), .val (.ref b1), .val (.ref w_SUBMITTED)] [(.int (1 : Int32))])) _
    refine XS.goto X34.here hx rfl (pc0 := 118) (pc' := 122) rfl (hb hby at_118) (by decide) (by decide) ?_
    show Steps p.tables e below (T34.setTop (mkF m 122 #[.val (.int pi1), .val (.int (pi1 &&& (7 : Int32))), .val (.int (1 : Int32)), .val (.int (1 : Int32)), .val (.int (0 : Int32)), .val (.ref b1), .val (.ref w_SUBMITTED)] [(.int (1 : Int32))])) _
    exact retN X34 hx (t := .boolean) Bd.returns (by simp) (hb hby at_122) hr
  · exact ⟨rfl, N34⟩
set_option maxRecDepth 65536 in
set_option maxHeartbeats 40000000 in
theorem rm0_fff (l : Launch) (Z : State) (a0 : Array Value) (hw : ∀ d ∈ tables_1, d.before a0 Z = true) (ws : List Jvm.Cond) (pi1 : Int32) (w_PENDING : Addr) (w_IN_PROGRESS : Addr) (w_SUBMITTED : Addr) (w_FINALIZED : Addr) (h0 : Heap) (n0 : Nat) (Z0 : n0 ≤ h0.size) (O0 : Old Z n0 h0) (S_PENDING : Sta Z Z.heap "com/example/diarist/diarist/questionnaire/QuestionnaireStatus" "PENDING" "Lcom/example/diarist/diarist/questionnaire/QuestionnaireStatus;" (.ref w_PENDING)) (E_w_PENDING : Exa Z Z.heap w_PENDING "com/example/diarist/diarist/questionnaire/QuestionnaireStatus") (S_IN_PROGRESS : Sta Z Z.heap "com/example/diarist/diarist/questionnaire/QuestionnaireStatus" "IN_PROGRESS" "Lcom/example/diarist/diarist/questionnaire/QuestionnaireStatus;" (.ref w_IN_PROGRESS)) (E_w_IN_PROGRESS : Exa Z Z.heap w_IN_PROGRESS "com/example/diarist/diarist/questionnaire/QuestionnaireStatus") (S_SUBMITTED : Sta Z Z.heap "com/example/diarist/diarist/questionnaire/QuestionnaireStatus" "SUBMITTED" "Lcom/example/diarist/diarist/questionnaire/QuestionnaireStatus;" (.ref w_SUBMITTED)) (E_w_SUBMITTED : Exa Z Z.heap w_SUBMITTED "com/example/diarist/diarist/questionnaire/QuestionnaireStatus") (S_FINALIZED : Sta Z Z.heap "com/example/diarist/diarist/questionnaire/QuestionnaireStatus" "FINALIZED" "Lcom/example/diarist/diarist/questionnaire/QuestionnaireStatus;" (.ref w_FINALIZED)) (E_w_FINALIZED : Exa Z Z.heap w_FINALIZED "com/example/diarist/diarist/questionnaire/QuestionnaireStatus") (hc8_0 : ¬ (((pi1 &&& (7 : Int32)) &&& (1 : Int32)) = (0 : Int32))) (hc20_1 : ¬ (((pi1 &&& (7 : Int32)) &&& (2 : Int32)) = (0 : Int32))) (hc32_2 : ¬ (((pi1 &&& (7 : Int32)) &&& (4 : Int32)) = (0 : Int32))) :
    MetFree l x (head1 (Jvm.Cond.code x code maxLocals ret :: ws) room_1) (fun a U => a = #[(.int pi1)] ∧ Z.Warmed39 U.vm ∧ U.heap = h0) (fun _ _ _ _ _ => True) (fun _ U o U' => ∃ v L, o = .returned v ∧ Q0 v L n0 ∧ FrameEnd U o U' L room_1.cells room_1.slots) := by
  refine MetFree.of_bodySF (plainFor_of_name pn_0) hisR ?_
  intro p e s m args below meth c s₁ Bd hml0 hP hK
  obtain ⟨rfl, hZ, hh⟩ := hP
  have hx := Bd.exec
  have hby := Bd.bytes
  have hml : c.maxLocals = 7 := hml0
  have hown : s.vm.findClass "com/example/diarist/diarist/questionnaire/QuestionnaireStatusOfPinLaw" = some m.cls := findClass_of_methodNamed Bd.named
  have hnm := (name_of_methodNamed Bd.named Bd.method).1
  have X0 : Stand p l e room_1 s m #[(.int pi1)] below meth c s₁ [] 0 0 := Stand.of_body Bd
  have e0 : s₁.heap = h0 := by rw [← hh, Bd.state]; rfl
  have N0 := Fr.nil n0
  have pre0 : ∀ t, Steps p.tables e below (s₁.setTop (mkF m 0 #[.val (.int pi1), .unset, .unset, .unset, .unset, .unset, .unset] [])) t → Steps p.tables e below (s₁.setTop (entryFrame m #[(.int pi1)] maxLocals)) t := fun t k => castTop (ef_0 m pi1) k
  obtain ⟨T1, h1, k1, X1, e1, E1, A1, O1, st1⟩ := newR X0 hx hZ hown (hw _ (List.mem_of_getElem? (i := 0) rfl)) (hw _ (List.mem_of_getElem? (i := 1) rfl)) e0 (g := (mkF m 44 #[.val (.int pi1), .val (.int (pi1 &&& (7 : Int32))), .val (.int (1 : Int32)), .val (.int (1 : Int32)), .val (.int (1 : Int32)), .unset, .unset] [(.int (8 : Int32))])) rfl (hb hby at_44) rfl (by decide) (cap := 8) (by decide) (by decide) (by decide) (by decide)
  obtain ⟨b1, g1⟩ : ∃ z, z = h0.size := ⟨_, rfl⟩
  rw [← g1] at A1 st1
  have V1 : Arv Z h1 b1 k1 (.object "com/example/diarist/diarist/questionnaire/QuestionnaireStatus") (8 : Int32) [.null, .null, .null, .null, .null, .null, .null, .null] .null := (Arv.new A1 (by decide)).pad (pad_rep [] .null 8)
  have o3 := O0.ext E1
  obtain ⟨T2, X2, e2, st2⟩ := getS2 X1 hx hZ hown (host := "") (Or.inl (hw _ (List.mem_of_getElem? (i := 2) rfl))) Via.refl e1 (S_PENDING.ext o3.2) (g := (mkF m 49 #[.val (.int pi1), .val (.int (pi1 &&& (7 : Int32))), .val (.int (1 : Int32)), .val (.int (1 : Int32)), .val (.int (1 : Int32)), .unset, .unset] [(.int (0 : Int32)), (.ref b1), (.ref b1)])) rfl (hb hby at_49)
  have g_b1 : n0 ≤ b1 := Nat.le_trans Z0 (Nat.le_of_eq g1.symm)
  have V_c4 := V1
  obtain ⟨c4, Arc4, qc4, Sc4, Nc4, Hc4, Gc4⟩ := V_c4
  have hin5 : ¬ ((0 : Int32) < 0 ∨ c4.slots.size ≤ ((0 : Int32)).toNatClampNeg) := inb_of Sc4 ⟨by decide, by decide⟩
  obtain ⟨T5, h5, X5, e5, W5, st5⟩ := stR X2 hx hZ e2 Arc4 (j := (0 : Int32)) hin5 rfl (Sto.ofV Arc4 qc4 O1 (Ins.self (E_w_PENDING.ext o3.2))) (g := (mkF m 52 #[.val (.int pi1), .val (.int (pi1 &&& (7 : Int32))), .val (.int (1 : Int32)), .val (.int (1 : Int32)), .val (.int (1 : Int32)), .unset, .unset] [(.ref w_PENDING), (.int (0 : Int32)), (.ref b1), (.ref b1)])) rfl rfl (hb hby at_52)
  have V5 : Arv Z h5 b1 k1 (.object "com/example/diarist/diarist/questionnaire/QuestionnaireStatus") (8 : Int32) [(.ref w_PENDING), .null, .null, .null, .null, .null, .null, .null] .null := Arv.set Arc4 qc4 Sc4 Nc4 Hc4 Gc4 rfl W5 0 rfl (Nat.le_of_ble_eq_true rfl)
  have N5 := Fr.snoc X5 N0 g_b1
  have o7 := o3.wr W5 g_b1
  obtain ⟨T6, X6, e6, st6⟩ := getS2 X5 hx hZ hown (host := "") (Or.inl (hw _ (List.mem_of_getElem? (i := 6) rfl))) Via.refl e5 (S_IN_PROGRESS.ext o7.2) (g := (mkF m 55 #[.val (.int pi1), .val (.int (pi1 &&& (7 : Int32))), .val (.int (1 : Int32)), .val (.int (1 : Int32)), .val (.int (1 : Int32)), .unset, .unset] [(.int (1 : Int32)), (.ref b1), (.ref b1)])) rfl (hb hby at_55)
  have V_c8 := V5
  obtain ⟨c8, Arc8, qc8, Sc8, Nc8, Hc8, Gc8⟩ := V_c8
  have hin9 : ¬ ((1 : Int32) < 0 ∨ c8.slots.size ≤ ((1 : Int32)).toNatClampNeg) := inb_of Sc8 ⟨by decide, by decide⟩
  obtain ⟨T9, h9, X9, e9, W9, st9⟩ := stR X6 hx hZ e6 Arc8 (j := (1 : Int32)) hin9 rfl (Sto.ofV Arc8 qc8 O1 (Ins.self (E_w_IN_PROGRESS.ext o7.2))) (g := (mkF m 58 #[.val (.int pi1), .val (.int (pi1 &&& (7 : Int32))), .val (.int (1 : Int32)), .val (.int (1 : Int32)), .val (.int (1 : Int32)), .unset, .unset] [(.ref w_IN_PROGRESS), (.int (1 : Int32)), (.ref b1), (.ref b1)])) rfl rfl (hb hby at_58)
  have V9 : Arv Z h9 b1 k1 (.object "com/example/diarist/diarist/questionnaire/QuestionnaireStatus") (8 : Int32) [(.ref w_PENDING), (.ref w_IN_PROGRESS), .null, .null, .null, .null, .null, .null] .null := Arv.set Arc8 qc8 Sc8 Nc8 Hc8 Gc8 rfl W9 1 rfl (Nat.le_of_ble_eq_true rfl)
  have N9 := Fr.snoc X9 N5 g_b1
  have o11 := o7.wr W9 g_b1
  obtain ⟨T10, X10, e10, st10⟩ := getS2 X9 hx hZ hown (host := "") (Or.inl (hw _ (List.mem_of_getElem? (i := 8) rfl))) Via.refl e9 (S_SUBMITTED.ext o11.2) (g := (mkF m 61 #[.val (.int pi1), .val (.int (pi1 &&& (7 : Int32))), .val (.int (1 : Int32)), .val (.int (1 : Int32)), .val (.int (1 : Int32)), .unset, .unset] [(.int (2 : Int32)), (.ref b1), (.ref b1)])) rfl (hb hby at_61)
  have V_c12 := V9
  obtain ⟨c12, Arc12, qc12, Sc12, Nc12, Hc12, Gc12⟩ := V_c12
  have hin13 : ¬ ((2 : Int32) < 0 ∨ c12.slots.size ≤ ((2 : Int32)).toNatClampNeg) := inb_of Sc12 ⟨by decide, by decide⟩
  obtain ⟨T13, h13, X13, e13, W13, st13⟩ := stR X10 hx hZ e10 Arc12 (j := (2 : Int32)) hin13 rfl (Sto.ofV Arc12 qc12 O1 (Ins.self (E_w_SUBMITTED.ext o11.2))) (g := (mkF m 64 #[.val (.int pi1), .val (.int (pi1 &&& (7 : Int32))), .val (.int (1 : Int32)), .val (.int (1 : Int32)), .val (.int (1 : Int32)), .unset, .unset] [(.ref w_SUBMITTED), (.int (2 : Int32)), (.ref b1), (.ref b1)])) rfl rfl (hb hby at_64)
  have V13 : Arv Z h13 b1 k1 (.object "com/example/diarist/diarist/questionnaire/QuestionnaireStatus") (8 : Int32) [(.ref w_PENDING), (.ref w_IN_PROGRESS), (.ref w_SUBMITTED), .null, .null, .null, .null, .null] .null := Arv.set Arc12 qc12 Sc12 Nc12 Hc12 Gc12 rfl W13 2 rfl (Nat.le_of_ble_eq_true rfl)
  have N13 := Fr.snoc X13 N9 g_b1
  have o15 := o11.wr W13 g_b1
  obtain ⟨T14, X14, e14, st14⟩ := getS2 X13 hx hZ hown (host := "") (Or.inl (hw _ (List.mem_of_getElem? (i := 8) rfl))) Via.refl e13 (S_SUBMITTED.ext o15.2) (g := (mkF m 67 #[.val (.int pi1), .val (.int (pi1 &&& (7 : Int32))), .val (.int (1 : Int32)), .val (.int (1 : Int32)), .val (.int (1 : Int32)), .unset, .unset] [(.int (3 : Int32)), (.ref b1), (.ref b1)])) rfl (hb hby at_67)
  have V_c16 := V13
  obtain ⟨c16, Arc16, qc16, Sc16, Nc16, Hc16, Gc16⟩ := V_c16
  have hin17 : ¬ ((3 : Int32) < 0 ∨ c16.slots.size ≤ ((3 : Int32)).toNatClampNeg) := inb_of Sc16 ⟨by decide, by decide⟩
  obtain ⟨T17, h17, X17, e17, W17, st17⟩ := stR X14 hx hZ e14 Arc16 (j := (3 : Int32)) hin17 rfl (Sto.ofV Arc16 qc16 O1 (Ins.self (E_w_SUBMITTED.ext o15.2))) (g := (mkF m 70 #[.val (.int pi1), .val (.int (pi1 &&& (7 : Int32))), .val (.int (1 : Int32)), .val (.int (1 : Int32)), .val (.int (1 : Int32)), .unset, .unset] [(.ref w_SUBMITTED), (.int (3 : Int32)), (.ref b1), (.ref b1)])) rfl rfl (hb hby at_70)
  have V17 : Arv Z h17 b1 k1 (.object "com/example/diarist/diarist/questionnaire/QuestionnaireStatus") (8 : Int32) [(.ref w_PENDING), (.ref w_IN_PROGRESS), (.ref w_SUBMITTED), (.ref w_SUBMITTED), .null, .null, .null, .null] .null := Arv.set Arc16 qc16 Sc16 Nc16 Hc16 Gc16 rfl W17 3 rfl (Nat.le_of_ble_eq_true rfl)
  have N17 := Fr.snoc X17 N13 g_b1
  have o19 := o15.wr W17 g_b1
  obtain ⟨T18, X18, e18, st18⟩ := getS2 X17 hx hZ hown (host := "") (Or.inl (hw _ (List.mem_of_getElem? (i := 10) rfl))) Via.refl e17 (S_FINALIZED.ext o19.2) (g := (mkF m 73 #[.val (.int pi1), .val (.int (pi1 &&& (7 : Int32))), .val (.int (1 : Int32)), .val (.int (1 : Int32)), .val (.int (1 : Int32)), .unset, .unset] [(.int (4 : Int32)), (.ref b1), (.ref b1)])) rfl (hb hby at_73)
  have V_c20 := V17
  obtain ⟨c20, Arc20, qc20, Sc20, Nc20, Hc20, Gc20⟩ := V_c20
  have hin21 : ¬ ((4 : Int32) < 0 ∨ c20.slots.size ≤ ((4 : Int32)).toNatClampNeg) := inb_of Sc20 ⟨by decide, by decide⟩
  obtain ⟨T21, h21, X21, e21, W21, st21⟩ := stR X18 hx hZ e18 Arc20 (j := (4 : Int32)) hin21 rfl (Sto.ofV Arc20 qc20 O1 (Ins.self (E_w_FINALIZED.ext o19.2))) (g := (mkF m 76 #[.val (.int pi1), .val (.int (pi1 &&& (7 : Int32))), .val (.int (1 : Int32)), .val (.int (1 : Int32)), .val (.int (1 : Int32)), .unset, .unset] [(.ref w_FINALIZED), (.int (4 : Int32)), (.ref b1), (.ref b1)])) rfl rfl (hb hby at_76)
  have V21 : Arv Z h21 b1 k1 (.object "com/example/diarist/diarist/questionnaire/QuestionnaireStatus") (8 : Int32) [(.ref w_PENDING), (.ref w_IN_PROGRESS), (.ref w_SUBMITTED), (.ref w_SUBMITTED), (.ref w_FINALIZED), .null, .null, .null] .null := Arv.set Arc20 qc20 Sc20 Nc20 Hc20 Gc20 rfl W21 4 rfl (Nat.le_of_ble_eq_true rfl)
  have N21 := Fr.snoc X21 N17 g_b1
  have o23 := o19.wr W21 g_b1
  obtain ⟨T22, X22, e22, st22⟩ := getS2 X21 hx hZ hown (host := "") (Or.inl (hw _ (List.mem_of_getElem? (i := 10) rfl))) Via.refl e21 (S_FINALIZED.ext o23.2) (g := (mkF m 79 #[.val (.int pi1), .val (.int (pi1 &&& (7 : Int32))), .val (.int (1 : Int32)), .val (.int (1 : Int32)), .val (.int (1 : Int32)), .unset, .unset] [(.int (5 : Int32)), (.ref b1), (.ref b1)])) rfl (hb hby at_79)
  have V_c24 := V21
  obtain ⟨c24, Arc24, qc24, Sc24, Nc24, Hc24, Gc24⟩ := V_c24
  have hin25 : ¬ ((5 : Int32) < 0 ∨ c24.slots.size ≤ ((5 : Int32)).toNatClampNeg) := inb_of Sc24 ⟨by decide, by decide⟩
  obtain ⟨T25, h25, X25, e25, W25, st25⟩ := stR X22 hx hZ e22 Arc24 (j := (5 : Int32)) hin25 rfl (Sto.ofV Arc24 qc24 O1 (Ins.self (E_w_FINALIZED.ext o23.2))) (g := (mkF m 82 #[.val (.int pi1), .val (.int (pi1 &&& (7 : Int32))), .val (.int (1 : Int32)), .val (.int (1 : Int32)), .val (.int (1 : Int32)), .unset, .unset] [(.ref w_FINALIZED), (.int (5 : Int32)), (.ref b1), (.ref b1)])) rfl rfl (hb hby at_82)
  have V25 : Arv Z h25 b1 k1 (.object "com/example/diarist/diarist/questionnaire/QuestionnaireStatus") (8 : Int32) [(.ref w_PENDING), (.ref w_IN_PROGRESS), (.ref w_SUBMITTED), (.ref w_SUBMITTED), (.ref w_FINALIZED), (.ref w_FINALIZED), .null, .null] .null := Arv.set Arc24 qc24 Sc24 Nc24 Hc24 Gc24 rfl W25 5 rfl (Nat.le_of_ble_eq_true rfl)
  have N25 := Fr.snoc X25 N21 g_b1
  have o27 := o23.wr W25 g_b1
  obtain ⟨T26, X26, e26, st26⟩ := getS2 X25 hx hZ hown (host := "") (Or.inl (hw _ (List.mem_of_getElem? (i := 10) rfl))) Via.refl e25 (S_FINALIZED.ext o27.2) (g := (mkF m 86 #[.val (.int pi1), .val (.int (pi1 &&& (7 : Int32))), .val (.int (1 : Int32)), .val (.int (1 : Int32)), .val (.int (1 : Int32)), .unset, .unset] [(.int (6 : Int32)), (.ref b1), (.ref b1)])) rfl (hb hby at_86)
  have V_c28 := V25
  obtain ⟨c28, Arc28, qc28, Sc28, Nc28, Hc28, Gc28⟩ := V_c28
  have hin29 : ¬ ((6 : Int32) < 0 ∨ c28.slots.size ≤ ((6 : Int32)).toNatClampNeg) := inb_of Sc28 ⟨by decide, by decide⟩
  obtain ⟨T29, h29, X29, e29, W29, st29⟩ := stR X26 hx hZ e26 Arc28 (j := (6 : Int32)) hin29 rfl (Sto.ofV Arc28 qc28 O1 (Ins.self (E_w_FINALIZED.ext o27.2))) (g := (mkF m 89 #[.val (.int pi1), .val (.int (pi1 &&& (7 : Int32))), .val (.int (1 : Int32)), .val (.int (1 : Int32)), .val (.int (1 : Int32)), .unset, .unset] [(.ref w_FINALIZED), (.int (6 : Int32)), (.ref b1), (.ref b1)])) rfl rfl (hb hby at_89)
  have V29 : Arv Z h29 b1 k1 (.object "com/example/diarist/diarist/questionnaire/QuestionnaireStatus") (8 : Int32) [(.ref w_PENDING), (.ref w_IN_PROGRESS), (.ref w_SUBMITTED), (.ref w_SUBMITTED), (.ref w_FINALIZED), (.ref w_FINALIZED), (.ref w_FINALIZED), .null] .null := Arv.set Arc28 qc28 Sc28 Nc28 Hc28 Gc28 rfl W29 6 rfl (Nat.le_of_ble_eq_true rfl)
  have N29 := Fr.snoc X29 N25 g_b1
  have o31 := o27.wr W29 g_b1
  obtain ⟨T30, X30, e30, st30⟩ := getS2 X29 hx hZ hown (host := "") (Or.inl (hw _ (List.mem_of_getElem? (i := 10) rfl))) Via.refl e29 (S_FINALIZED.ext o31.2) (g := (mkF m 93 #[.val (.int pi1), .val (.int (pi1 &&& (7 : Int32))), .val (.int (1 : Int32)), .val (.int (1 : Int32)), .val (.int (1 : Int32)), .unset, .unset] [(.int (7 : Int32)), (.ref b1), (.ref b1)])) rfl (hb hby at_93)
  have V_c32 := V29
  obtain ⟨c32, Arc32, qc32, Sc32, Nc32, Hc32, Gc32⟩ := V_c32
  have hin33 : ¬ ((7 : Int32) < 0 ∨ c32.slots.size ≤ ((7 : Int32)).toNatClampNeg) := inb_of Sc32 ⟨by decide, by decide⟩
  obtain ⟨T33, h33, X33, e33, W33, st33⟩ := stR X30 hx hZ e30 Arc32 (j := (7 : Int32)) hin33 rfl (Sto.ofV Arc32 qc32 O1 (Ins.self (E_w_FINALIZED.ext o31.2))) (g := (mkF m 96 #[.val (.int pi1), .val (.int (pi1 &&& (7 : Int32))), .val (.int (1 : Int32)), .val (.int (1 : Int32)), .val (.int (1 : Int32)), .unset, .unset] [(.ref w_FINALIZED), (.int (7 : Int32)), (.ref b1), (.ref b1)])) rfl rfl (hb hby at_96)
  have V33 : Arv Z h33 b1 k1 (.object "com/example/diarist/diarist/questionnaire/QuestionnaireStatus") (8 : Int32) [(.ref w_PENDING), (.ref w_IN_PROGRESS), (.ref w_SUBMITTED), (.ref w_SUBMITTED), (.ref w_FINALIZED), (.ref w_FINALIZED), (.ref w_FINALIZED), (.ref w_FINALIZED)] .null := Arv.set Arc32 qc32 Sc32 Nc32 Hc32 Gc32 rfl W33 7 rfl (Nat.le_of_ble_eq_true rfl)
  have N33 := Fr.snoc X33 N29 g_b1
  have z35 := Nat.le_trans Z0 E1.1
  have z36 := Nat.le_trans z35 (Keep.of_wr W5).1
  have z37 := Nat.le_trans z36 (Keep.of_wr W9).1
  have z38 := Nat.le_trans z37 (Keep.of_wr W13).1
  have z39 := Nat.le_trans z38 (Keep.of_wr W17).1
  have z40 := Nat.le_trans z39 (Keep.of_wr W21).1
  have z41 := Nat.le_trans z40 (Keep.of_wr W25).1
  have z42 := Nat.le_trans z41 (Keep.of_wr W29).1
  have z43 := Nat.le_trans z42 (Keep.of_wr W33).1
  have o44 := o31.wr W33 g_b1
  obtain ⟨_, _, ⟨T34, L34, k34, n34⟩, -, X34, ⟨Lc34, hQ34, l34, y34, z34⟩, st34⟩ := Jvm.LawKit.callS X33 hx (y := (⟨"com/example/diarist/diarist/questionnaire/QuestionnaireStatus", "of", "(ZZZ)Lcom/example/diarist/diarist/questionnaire/QuestionnaireStatus;"⟩ : MethodName)) hown (mvT hZ (hw _ (List.mem_of_getElem? (i := 12) rfl))) (mvT hZ (hw _ (List.mem_of_getElem? (i := 13) rfl))) (mvT hZ (hw _ (List.mem_of_getElem? (i := 3) rfl))) (mvT hZ (hw _ (List.mem_of_getElem? (i := 14) rfl))) (by decide) (backOf (W := 0) (rm1_f l Z a0 hw [] (1 : Int32) (1 : Int32) (1 : Int32) w_FINALIZED h33 n0 z43 o44 S_FINALIZED (by decide)) hZ (hw _ (List.mem_of_getElem? (i := 14) rfl)) (hw _ (List.mem_of_getElem? (i := 3) rfl)) (by decide) (by decide)) (g := (mkF m 103 #[.val (.int pi1), .val (.int (pi1 &&& (7 : Int32))), .val (.int (1 : Int32)), .val (.int (1 : Int32)), .val (.int (1 : Int32)), .val (.ref b1), .unset] [(.int (1 : Int32)), (.int (1 : Int32)), (.int (1 : Int32))])) rfl (by rw [hml]; rfl) (argsL := [(.int (1 : Int32)), (.int (1 : Int32)), (.int (1 : Int32))]) (rest := []) (lenOf pd_0 rfl) rfl (by show 2 * 0 + _ ≤ _; exact Nat.le_of_eq rfl) (hb hby at_103) (fun _ _ => ⟨rfl, e33, (by decide : 1 + 0 ≤ _), (by decide : 8 + 0 ≤ _)⟩)
  dsimp only [Pt.U, Pt.locs, Pt.cells, Pt.slots] at X34 l34 y34 z34 st34 hQ34
  subst l34 y34 z34
  obtain ⟨rfl, N34q, eq34⟩ := hQ34
  have N34 := Fr.app N33 N34q
  have V_c45 := V33
  obtain ⟨c45, Arc45, qc45, Sc45, Nc45, Hc45, Gc45⟩ := V_c45
  have hj46 : (pi1 &&& (7 : Int32)) = (7 : Int32) := own_idx (own_b1 hc8_0) (own_b2 hc20_1) (own_b4 hc32_2) rfl
  have hin46 : ¬ ((pi1 &&& (7 : Int32)) < 0 ∨ c45.slots.size ≤ ((pi1 &&& (7 : Int32))).toNatClampNeg) := by rw [hj46]; exact inb_of Sc45 ⟨by decide, by decide⟩
  obtain ⟨fs, hr, hrun, hended, hW, hsame⟩ := X34.leave (v := some (.int (1 : Int32))) (fun h => by rw [Bd.returns] at h; cases h)
  refine ⟨_, _, pre0 _ ?_, hrun, hended, _, _, rfl, ?_, ⟨_, rfl⟩, hW, hsame.mono (by decide) (by decide)⟩
  · show Steps p.tables e below (s₁.setTop (mkF m 0 #[.val (.int pi1), .unset, .unset, .unset, .unset, .unset, .unset] [])) _
    refine XS.iloadN X0.here hx rfl (hb hby at_0) rfl ?_
    show Steps p.tables e below (s₁.setTop (mkF m 1 #[.val (.int pi1), .unset, .unset, .unset, .unset, .unset, .unset] [(.int pi1)])) _
    refine XS.bipush X0.here hx rfl (hb hby at_1) ?_
    show Steps p.tables e below (s₁.setTop (mkF m 3 #[.val (.int pi1), .unset, .unset, .unset, .unset, .unset, .unset] [(.int (7 : Int32)), (.int pi1)])) _
    refine XS.iand X0.here hx rfl (hb hby at_3) rfl ?_
    show Steps p.tables e below (s₁.setTop (mkF m 4 #[.val (.int pi1), .unset, .unset, .unset, .unset, .unset, .unset] [(.int (pi1 &&& (7 : Int32)))])) _
    refine XS.istoreN X0.here hx rfl (hb hby at_4) rfl (l' := #[.val (.int pi1), .val (.int (pi1 &&& (7 : Int32))), .unset, .unset, .unset, .unset, .unset]) rfl ?_
    show Steps p.tables e below (s₁.setTop (mkF m 5 #[.val (.int pi1), .val (.int (pi1 &&& (7 : Int32))), .unset, .unset, .unset, .unset, .unset] [])) _
    refine XS.iloadN X0.here hx rfl (hb hby at_5) rfl ?_
    show Steps p.tables e below (s₁.setTop (mkF m 6 #[.val (.int pi1), .val (.int (pi1 &&& (7 : Int32))), .unset, .unset, .unset, .unset, .unset] [(.int (pi1 &&& (7 : Int32)))])) _
    refine XS.iconst X0.here hx rfl (hb hby at_6) ?_
    show Steps p.tables e below (s₁.setTop (mkF m 7 #[.val (.int pi1), .val (.int (pi1 &&& (7 : Int32))), .unset, .unset, .unset, .unset, .unset] [(.int (1 : Int32)), (.int (pi1 &&& (7 : Int32)))])) _
    refine XS.iand X0.here hx rfl (hb hby at_7) rfl ?_
    show Steps p.tables e below (s₁.setTop (mkF m 8 #[.val (.int pi1), .val (.int (pi1 &&& (7 : Int32))), .unset, .unset, .unset, .unset, .unset] [(.int ((pi1 &&& (7 : Int32)) &&& (1 : Int32)))])) _
    refine XS.ifNo X0.here hx rfl (hb hby at_8) rfl ((if0 _ _).trans (feq hc8_0).1) ?_
    show Steps p.tables e below (s₁.setTop (mkF m 11 #[.val (.int pi1), .val (.int (pi1 &&& (7 : Int32))), .unset, .unset, .unset, .unset, .unset] [])) _
    refine XS.iconst X0.here hx rfl (hb hby at_11) ?_
    show Steps p.tables e below (s₁.setTop (mkF m 12 #[.val (.int pi1), .val (.int (pi1 &&& (7 : Int32))), .unset, .unset, .unset, .unset, .unset] [(.int (1 : Int32))])) _
    refine XS.goto X0.here hx rfl (pc0 := 12) (pc' := 16) rfl (hb hby at_12) (by decide) (by decide) ?_
    show Steps p.tables e below (s₁.setTop (mkF m 16 #[.val (.int pi1), .val (.int (pi1 &&& (7 : Int32))), .unset, .unset, .unset, .unset, .unset] [(.int (1 : Int32))])) _
    refine XS.istoreN X0.here hx rfl (hb hby at_16) rfl (l' := #[.val (.int pi1), .val (.int (pi1 &&& (7 : Int32))), .val (.int (1 : Int32)), .unset, .unset, .unset, .unset]) rfl ?_
    show Steps p.tables e below (s₁.setTop (mkF m 17 #[.val (.int pi1), .val (.int (pi1 &&& (7 : Int32))), .val (.int (1 : Int32)), .unset, .unset, .unset, .unset] [])) _
    refine XS.iloadN X0.here hx rfl (hb hby at_17) rfl ?_
    show Steps p.tables e below (s₁.setTop (mkF m 18 #[.val (.int pi1), .val (.int (pi1 &&& (7 : Int32))), .val (.int (1 : Int32)), .unset, .unset, .unset, .unset] [(.int (pi1 &&& (7 : Int32)))])) _
    refine XS.iconst X0.here hx rfl (hb hby at_18) ?_
    show Steps p.tables e below (s₁.setTop (mkF m 19 #[.val (.int pi1), .val (.int (pi1 &&& (7 : Int32))), .val (.int (1 : Int32)), .unset, .unset, .unset, .unset] [(.int (2 : Int32)), (.int (pi1 &&& (7 : Int32)))])) _
    refine XS.iand X0.here hx rfl (hb hby at_19) rfl ?_
    show Steps p.tables e below (s₁.setTop (mkF m 20 #[.val (.int pi1), .val (.int (pi1 &&& (7 : Int32))), .val (.int (1 : Int32)), .unset, .unset, .unset, .unset] [(.int ((pi1 &&& (7 : Int32)) &&& (2 : Int32)))])) _
    refine XS.ifNo X0.here hx rfl (hb hby at_20) rfl ((if0 _ _).trans (feq hc20_1).1) ?_
    show Steps p.tables e below (s₁.setTop (mkF m 23 #[.val (.int pi1), .val (.int (pi1 &&& (7 : Int32))), .val (.int (1 : Int32)), .unset, .unset, .unset, .unset] [])) _
    refine XS.iconst X0.here hx rfl (hb hby at_23) ?_
    show Steps p.tables e below (s₁.setTop (mkF m 24 #[.val (.int pi1), .val (.int (pi1 &&& (7 : Int32))), .val (.int (1 : Int32)), .unset, .unset, .unset, .unset] [(.int (1 : Int32))])) _
    refine XS.goto X0.here hx rfl (pc0 := 24) (pc' := 28) rfl (hb hby at_24) (by decide) (by decide) ?_
    show Steps p.tables e below (s₁.setTop (mkF m 28 #[.val (.int pi1), .val (.int (pi1 &&& (7 : Int32))), .val (.int (1 : Int32)), .unset, .unset, .unset, .unset] [(.int (1 : Int32))])) _
    refine XS.istoreN X0.here hx rfl (hb hby at_28) rfl (l' := #[.val (.int pi1), .val (.int (pi1 &&& (7 : Int32))), .val (.int (1 : Int32)), .val (.int (1 : Int32)), .unset, .unset, .unset]) rfl ?_
    show Steps p.tables e below (s₁.setTop (mkF m 29 #[.val (.int pi1), .val (.int (pi1 &&& (7 : Int32))), .val (.int (1 : Int32)), .val (.int (1 : Int32)), .unset, .unset, .unset] [])) _
    refine XS.iloadN X0.here hx rfl (hb hby at_29) rfl ?_
    show Steps p.tables e below (s₁.setTop (mkF m 30 #[.val (.int pi1), .val (.int (pi1 &&& (7 : Int32))), .val (.int (1 : Int32)), .val (.int (1 : Int32)), .unset, .unset, .unset] [(.int (pi1 &&& (7 : Int32)))])) _
    refine XS.iconst X0.here hx rfl (hb hby at_30) ?_
    show Steps p.tables e below (s₁.setTop (mkF m 31 #[.val (.int pi1), .val (.int (pi1 &&& (7 : Int32))), .val (.int (1 : Int32)), .val (.int (1 : Int32)), .unset, .unset, .unset] [(.int (4 : Int32)), (.int (pi1 &&& (7 : Int32)))])) _
    refine XS.iand X0.here hx rfl (hb hby at_31) rfl ?_
    show Steps p.tables e below (s₁.setTop (mkF m 32 #[.val (.int pi1), .val (.int (pi1 &&& (7 : Int32))), .val (.int (1 : Int32)), .val (.int (1 : Int32)), .unset, .unset, .unset] [(.int ((pi1 &&& (7 : Int32)) &&& (4 : Int32)))])) _
    refine XS.ifNo X0.here hx rfl (hb hby at_32) rfl ((if0 _ _).trans (feq hc32_2).1) ?_
    show Steps p.tables e below (s₁.setTop (mkF m 35 #[.val (.int pi1), .val (.int (pi1 &&& (7 : Int32))), .val (.int (1 : Int32)), .val (.int (1 : Int32)), .unset, .unset, .unset] [])) _
    refine XS.iconst X0.here hx rfl (hb hby at_35) ?_
    show Steps p.tables e below (s₁.setTop (mkF m 36 #[.val (.int pi1), .val (.int (pi1 &&& (7 : Int32))), .val (.int (1 : Int32)), .val (.int (1 : Int32)), .unset, .unset, .unset] [(.int (1 : Int32))])) _
    refine XS.goto X0.here hx rfl (pc0 := 36) (pc' := 40) rfl (hb hby at_36) (by decide) (by decide) ?_
    show Steps p.tables e below (s₁.setTop (mkF m 40 #[.val (.int pi1), .val (.int (pi1 &&& (7 : Int32))), .val (.int (1 : Int32)), .val (.int (1 : Int32)), .unset, .unset, .unset] [(.int (1 : Int32))])) _
    refine XS.istore X0.here hx rfl (hb hby at_40) rfl (l' := #[.val (.int pi1), .val (.int (pi1 &&& (7 : Int32))), .val (.int (1 : Int32)), .val (.int (1 : Int32)), .val (.int (1 : Int32)), .unset, .unset]) rfl ?_
    show Steps p.tables e below (s₁.setTop (mkF m 42 #[.val (.int pi1), .val (.int (pi1 &&& (7 : Int32))), .val (.int (1 : Int32)), .val (.int (1 : Int32)), .val (.int (1 : Int32)), .unset, .unset] [])) _
    refine XS.bipush X0.here hx rfl (hb hby at_42) ?_
    show Steps p.tables e below (s₁.setTop (mkF m 44 #[.val (.int pi1), .val (.int (pi1 &&& (7 : Int32))), .val (.int (1 : Int32)), .val (.int (1 : Int32)), .val (.int (1 : Int32)), .unset, .unset] [(.int (8 : Int32))])) _
    refine st1 _ ?_
    show Steps p.tables e below (T1.setTop (mkF m 47 #[.val (.int pi1), .val (.int (pi1 &&& (7 : Int32))), .val (.int (1 : Int32)), .val (.int (1 : Int32)), .val (.int (1 : Int32)), .unset, .unset] [(.ref b1)])) _
    refine XS.dup X1.here hx rfl (hb hby at_47) rfl rfl ?_
    show Steps p.tables e below (T1.setTop (mkF m 48 #[.val (.int pi1), .val (.int (pi1 &&& (7 : Int32))), .val (.int (1 : Int32)), .val (.int (1 : Int32)), .val (.int (1 : Int32)), .unset, .unset] [(.ref b1), (.ref b1)])) _
    refine XS.iconst X1.here hx rfl (hb hby at_48) ?_
    show Steps p.tables e below (T1.setTop (mkF m 49 #[.val (.int pi1), .val (.int (pi1 &&& (7 : Int32))), .val (.int (1 : Int32)), .val (.int (1 : Int32)), .val (.int (1 : Int32)), .unset, .unset] [(.int (0 : Int32)), (.ref b1), (.ref b1)])) _
    refine st2 _ ?_
    show Steps p.tables e below (T2.setTop (mkF m 52 #[.val (.int pi1), .val (.int (pi1 &&& (7 : Int32))), .val (.int (1 : Int32)), .val (.int (1 : Int32)), .val (.int (1 : Int32)), .unset, .unset] [(.ref w_PENDING), (.int (0 : Int32)), (.ref b1), (.ref b1)])) _
    refine st5 _ ?_
    show Steps p.tables e below (T5.setTop (mkF m 53 #[.val (.int pi1), .val (.int (pi1 &&& (7 : Int32))), .val (.int (1 : Int32)), .val (.int (1 : Int32)), .val (.int (1 : Int32)), .unset, .unset] [(.ref b1)])) _
    refine XS.dup X5.here hx rfl (hb hby at_53) rfl rfl ?_
    show Steps p.tables e below (T5.setTop (mkF m 54 #[.val (.int pi1), .val (.int (pi1 &&& (7 : Int32))), .val (.int (1 : Int32)), .val (.int (1 : Int32)), .val (.int (1 : Int32)), .unset, .unset] [(.ref b1), (.ref b1)])) _
    refine XS.iconst X5.here hx rfl (hb hby at_54) ?_
    show Steps p.tables e below (T5.setTop (mkF m 55 #[.val (.int pi1), .val (.int (pi1 &&& (7 : Int32))), .val (.int (1 : Int32)), .val (.int (1 : Int32)), .val (.int (1 : Int32)), .unset, .unset] [(.int (1 : Int32)), (.ref b1), (.ref b1)])) _
    refine st6 _ ?_
    show Steps p.tables e below (T6.setTop (mkF m 58 #[.val (.int pi1), .val (.int (pi1 &&& (7 : Int32))), .val (.int (1 : Int32)), .val (.int (1 : Int32)), .val (.int (1 : Int32)), .unset, .unset] [(.ref w_IN_PROGRESS), (.int (1 : Int32)), (.ref b1), (.ref b1)])) _
    refine st9 _ ?_
    show Steps p.tables e below (T9.setTop (mkF m 59 #[.val (.int pi1), .val (.int (pi1 &&& (7 : Int32))), .val (.int (1 : Int32)), .val (.int (1 : Int32)), .val (.int (1 : Int32)), .unset, .unset] [(.ref b1)])) _
    refine XS.dup X9.here hx rfl (hb hby at_59) rfl rfl ?_
    show Steps p.tables e below (T9.setTop (mkF m 60 #[.val (.int pi1), .val (.int (pi1 &&& (7 : Int32))), .val (.int (1 : Int32)), .val (.int (1 : Int32)), .val (.int (1 : Int32)), .unset, .unset] [(.ref b1), (.ref b1)])) _
    refine XS.iconst X9.here hx rfl (hb hby at_60) ?_
    show Steps p.tables e below (T9.setTop (mkF m 61 #[.val (.int pi1), .val (.int (pi1 &&& (7 : Int32))), .val (.int (1 : Int32)), .val (.int (1 : Int32)), .val (.int (1 : Int32)), .unset, .unset] [(.int (2 : Int32)), (.ref b1), (.ref b1)])) _
    refine st10 _ ?_
    show Steps p.tables e below (T10.setTop (mkF m 64 #[.val (.int pi1), .val (.int (pi1 &&& (7 : Int32))), .val (.int (1 : Int32)), .val (.int (1 : Int32)), .val (.int (1 : Int32)), .unset, .unset] [(.ref w_SUBMITTED), (.int (2 : Int32)), (.ref b1), (.ref b1)])) _
    refine st13 _ ?_
    show Steps p.tables e below (T13.setTop (mkF m 65 #[.val (.int pi1), .val (.int (pi1 &&& (7 : Int32))), .val (.int (1 : Int32)), .val (.int (1 : Int32)), .val (.int (1 : Int32)), .unset, .unset] [(.ref b1)])) _
    refine XS.dup X13.here hx rfl (hb hby at_65) rfl rfl ?_
    show Steps p.tables e below (T13.setTop (mkF m 66 #[.val (.int pi1), .val (.int (pi1 &&& (7 : Int32))), .val (.int (1 : Int32)), .val (.int (1 : Int32)), .val (.int (1 : Int32)), .unset, .unset] [(.ref b1), (.ref b1)])) _
    refine XS.iconst X13.here hx rfl (hb hby at_66) ?_
    show Steps p.tables e below (T13.setTop (mkF m 67 #[.val (.int pi1), .val (.int (pi1 &&& (7 : Int32))), .val (.int (1 : Int32)), .val (.int (1 : Int32)), .val (.int (1 : Int32)), .unset, .unset] [(.int (3 : Int32)), (.ref b1), (.ref b1)])) _
    refine st14 _ ?_
    show Steps p.tables e below (T14.setTop (mkF m 70 #[.val (.int pi1), .val (.int (pi1 &&& (7 : Int32))), .val (.int (1 : Int32)), .val (.int (1 : Int32)), .val (.int (1 : Int32)), .unset, .unset] [(.ref w_SUBMITTED), (.int (3 : Int32)), (.ref b1), (.ref b1)])) _
    refine st17 _ ?_
    show Steps p.tables e below (T17.setTop (mkF m 71 #[.val (.int pi1), .val (.int (pi1 &&& (7 : Int32))), .val (.int (1 : Int32)), .val (.int (1 : Int32)), .val (.int (1 : Int32)), .unset, .unset] [(.ref b1)])) _
    refine XS.dup X17.here hx rfl (hb hby at_71) rfl rfl ?_
    show Steps p.tables e below (T17.setTop (mkF m 72 #[.val (.int pi1), .val (.int (pi1 &&& (7 : Int32))), .val (.int (1 : Int32)), .val (.int (1 : Int32)), .val (.int (1 : Int32)), .unset, .unset] [(.ref b1), (.ref b1)])) _
    refine XS.iconst X17.here hx rfl (hb hby at_72) ?_
    show Steps p.tables e below (T17.setTop (mkF m 73 #[.val (.int pi1), .val (.int (pi1 &&& (7 : Int32))), .val (.int (1 : Int32)), .val (.int (1 : Int32)), .val (.int (1 : Int32)), .unset, .unset] [(.int (4 : Int32)), (.ref b1), (.ref b1)])) _
    refine st18 _ ?_
    show Steps p.tables e below (T18.setTop (mkF m 76 #[.val (.int pi1), .val (.int (pi1 &&& (7 : Int32))), .val (.int (1 : Int32)), .val (.int (1 : Int32)), .val (.int (1 : Int32)), .unset, .unset] [(.ref w_FINALIZED), (.int (4 : Int32)), (.ref b1), (.ref b1)])) _
    refine st21 _ ?_
    show Steps p.tables e below (T21.setTop (mkF m 77 #[.val (.int pi1), .val (.int (pi1 &&& (7 : Int32))), .val (.int (1 : Int32)), .val (.int (1 : Int32)), .val (.int (1 : Int32)), .unset, .unset] [(.ref b1)])) _
    refine XS.dup X21.here hx rfl (hb hby at_77) rfl rfl ?_
    show Steps p.tables e below (T21.setTop (mkF m 78 #[.val (.int pi1), .val (.int (pi1 &&& (7 : Int32))), .val (.int (1 : Int32)), .val (.int (1 : Int32)), .val (.int (1 : Int32)), .unset, .unset] [(.ref b1), (.ref b1)])) _
    refine XS.iconst X21.here hx rfl (hb hby at_78) ?_
    show Steps p.tables e below (T21.setTop (mkF m 79 #[.val (.int pi1), .val (.int (pi1 &&& (7 : Int32))), .val (.int (1 : Int32)), .val (.int (1 : Int32)), .val (.int (1 : Int32)), .unset, .unset] [(.int (5 : Int32)), (.ref b1), (.ref b1)])) _
    refine st22 _ ?_
    show Steps p.tables e below (T22.setTop (mkF m 82 #[.val (.int pi1), .val (.int (pi1 &&& (7 : Int32))), .val (.int (1 : Int32)), .val (.int (1 : Int32)), .val (.int (1 : Int32)), .unset, .unset] [(.ref w_FINALIZED), (.int (5 : Int32)), (.ref b1), (.ref b1)])) _
    refine st25 _ ?_
    show Steps p.tables e below (T25.setTop (mkF m 83 #[.val (.int pi1), .val (.int (pi1 &&& (7 : Int32))), .val (.int (1 : Int32)), .val (.int (1 : Int32)), .val (.int (1 : Int32)), .unset, .unset] [(.ref b1)])) _
    refine XS.dup X25.here hx rfl (hb hby at_83) rfl rfl ?_
    show Steps p.tables e below (T25.setTop (mkF m 84 #[.val (.int pi1), .val (.int (pi1 &&& (7 : Int32))), .val (.int (1 : Int32)), .val (.int (1 : Int32)), .val (.int (1 : Int32)), .unset, .unset] [(.ref b1), (.ref b1)])) _
    refine XS.bipush X25.here hx rfl (hb hby at_84) ?_
    show Steps p.tables e below (T25.setTop (mkF m 86 #[.val (.int pi1), .val (.int (pi1 &&& (7 : Int32))), .val (.int (1 : Int32)), .val (.int (1 : Int32)), .val (.int (1 : Int32)), .unset, .unset] [(.int (6 : Int32)), (.ref b1), (.ref b1)])) _
    refine st26 _ ?_
    show Steps p.tables e below (T26.setTop (mkF m 89 #[.val (.int pi1), .val (.int (pi1 &&& (7 : Int32))), .val (.int (1 : Int32)), .val (.int (1 : Int32)), .val (.int (1 : Int32)), .unset, .unset] [(.ref w_FINALIZED), (.int (6 : Int32)), (.ref b1), (.ref b1)])) _
    refine st29 _ ?_
    show Steps p.tables e below (T29.setTop (mkF m 90 #[.val (.int pi1), .val (.int (pi1 &&& (7 : Int32))), .val (.int (1 : Int32)), .val (.int (1 : Int32)), .val (.int (1 : Int32)), .unset, .unset] [(.ref b1)])) _
    refine XS.dup X29.here hx rfl (hb hby at_90) rfl rfl ?_
    show Steps p.tables e below (T29.setTop (mkF m 91 #[.val (.int pi1), .val (.int (pi1 &&& (7 : Int32))), .val (.int (1 : Int32)), .val (.int (1 : Int32)), .val (.int (1 : Int32)), .unset, .unset] [(.ref b1), (.ref b1)])) _
    refine XS.bipush X29.here hx rfl (hb hby at_91) ?_
    show Steps p.tables e below (T29.setTop (mkF m 93 #[.val (.int pi1), .val (.int (pi1 &&& (7 : Int32))), .val (.int (1 : Int32)), .val (.int (1 : Int32)), .val (.int (1 : Int32)), .unset, .unset] [(.int (7 : Int32)), (.ref b1), (.ref b1)])) _
    refine st30 _ ?_
    show Steps p.tables e below (T30.setTop (mkF m 96 #[.val (.int pi1), .val (.int (pi1 &&& (7 : Int32))), .val (.int (1 : Int32)), .val (.int (1 : Int32)), .val (.int (1 : Int32)), .unset, .unset] [(.ref w_FINALIZED), (.int (7 : Int32)), (.ref b1), (.ref b1)])) _
    refine st33 _ ?_
    show Steps p.tables e below (T33.setTop (mkF m 97 #[.val (.int pi1), .val (.int (pi1 &&& (7 : Int32))), .val (.int (1 : Int32)), .val (.int (1 : Int32)), .val (.int (1 : Int32)), .unset, .unset] [(.ref b1)])) _
    refine XS.astore X33.here hx rfl (hb hby at_97) rfl rfl (l' := #[.val (.int pi1), .val (.int (pi1 &&& (7 : Int32))), .val (.int (1 : Int32)), .val (.int (1 : Int32)), .val (.int (1 : Int32)), .val (.ref b1), .unset]) rfl ?_
    show Steps p.tables e below (T33.setTop (mkF m 99 #[.val (.int pi1), .val (.int (pi1 &&& (7 : Int32))), .val (.int (1 : Int32)), .val (.int (1 : Int32)), .val (.int (1 : Int32)), .val (.ref b1), .unset] [])) _
    refine XS.iloadN X33.here hx rfl (hb hby at_99) rfl ?_
    show Steps p.tables e below (T33.setTop (mkF m 100 #[.val (.int pi1), .val (.int (pi1 &&& (7 : Int32))), .val (.int (1 : Int32)), .val (.int (1 : Int32)), .val (.int (1 : Int32)), .val (.ref b1), .unset] [(.int (1 : Int32))])) _
    refine XS.iloadN X33.here hx rfl (hb hby at_100) rfl ?_
    show Steps p.tables e below (T33.setTop (mkF m 101 #[.val (.int pi1), .val (.int (pi1 &&& (7 : Int32))), .val (.int (1 : Int32)), .val (.int (1 : Int32)), .val (.int (1 : Int32)), .val (.ref b1), .unset] [(.int (1 : Int32)), (.int (1 : Int32))])) _
    refine XS.iload X33.here hx rfl (hb hby at_101) rfl ?_
    show Steps p.tables e below (T33.setTop (mkF m 103 #[.val (.int pi1), .val (.int (pi1 &&& (7 : Int32))), .val (.int (1 : Int32)), .val (.int (1 : Int32)), .val (.int (1 : Int32)), .val (.ref b1), .unset] [(.int (1 : Int32)), (.int (1 : Int32)), (.int (1 : Int32))])) _
    refine st34 _ ?_
    show Steps p.tables e below (T34.setTop (mkF m 106 #[.val (.int pi1), .val (.int (pi1 &&& (7 : Int32))), .val (.int (1 : Int32)), .val (.int (1 : Int32)), .val (.int (1 : Int32)), .val (.ref b1), .unset] [(.ref w_FINALIZED)])) _
    refine XS.astore X34.here hx rfl (hb hby at_106) rfl rfl (l' := #[.val (.int pi1), .val (.int (pi1 &&& (7 : Int32))), .val (.int (1 : Int32)), .val (.int (1 : Int32)), .val (.int (1 : Int32)), .val (.ref b1), .val (.ref w_FINALIZED)]) rfl ?_
    show Steps p.tables e below (T34.setTop (mkF m 108 #[.val (.int pi1), .val (.int (pi1 &&& (7 : Int32))), .val (.int (1 : Int32)), .val (.int (1 : Int32)), .val (.int (1 : Int32)), .val (.ref b1), .val (.ref w_FINALIZED)] [])) _
    refine XS.aload X34.here hx rfl (hb hby at_108) rfl rfl ?_
    show Steps p.tables e below (T34.setTop (mkF m 110 #[.val (.int pi1), .val (.int (pi1 &&& (7 : Int32))), .val (.int (1 : Int32)), .val (.int (1 : Int32)), .val (.int (1 : Int32)), .val (.ref b1), .val (.ref w_FINALIZED)] [(.ref w_FINALIZED)])) _
    refine XS.aload X34.here hx rfl (hb hby at_110) rfl rfl ?_
    show Steps p.tables e below (T34.setTop (mkF m 112 #[.val (.int pi1), .val (.int (pi1 &&& (7 : Int32))), .val (.int (1 : Int32)), .val (.int (1 : Int32)), .val (.int (1 : Int32)), .val (.ref b1), .val (.ref w_FINALIZED)] [(.ref b1), (.ref w_FINALIZED)])) _
    refine XS.iloadN X34.here hx rfl (hb hby at_112) rfl ?_
    show Steps p.tables e below (T34.setTop (mkF m 113 #[.val (.int pi1), .val (.int (pi1 &&& (7 : Int32))), .val (.int (1 : Int32)), .val (.int (1 : Int32)), .val (.int (1 : Int32)), .val (.ref b1), .val (.ref w_FINALIZED)] [(.int (pi1 &&& (7 : Int32))), (.ref b1), (.ref w_FINALIZED)])) _
    refine X34.aaload hx (j := (pi1 &&& (7 : Int32))) (v := (.ref w_FINALIZED)) (by rw [eq34]; exact Arc45.1) (State.isArrayOf_alike hZ.alike Arc45.2.1) rfl Arc45.2.2 hin46 (Has.at Hc45 hin46 (by rw [hj46]; rfl)) (g := (mkF m 113 #[.val (.int pi1), .val (.int (pi1 &&& (7 : Int32))), .val (.int (1 : Int32)), .val (.int (1 : Int32)), .val (.int (1 : Int32)), .val (.ref b1), .val (.ref w_FINALIZED)] [(.int (pi1 &&& (7 : Int32))), (.ref b1), (.ref w_FINALIZED)])) rfl rfl (hb hby at_113) _ ?_
    show Steps p.tables e below (T34.setTop (mkF m 114 #[.val (.int pi1), .val (.int (pi1 &&& (7 : Int32))), .val (.int (1 : Int32)), .val (.int (1 : Int32)), .val (.int (1 : Int32)), .val (.ref b1), .val (.ref w_FINALIZED)] [(.ref w_FINALIZED), (.ref w_FINALIZED)])) _
    refine Jvm.RoadKit.acmp (g := (mkF m 114 #[.val (.int pi1), .val (.int (pi1 &&& (7 : Int32))), .val (.int (1 : Int32)), .val (.int (1 : Int32)), .val (.int (1 : Int32)), .val (.ref b1), .val (.ref w_FINALIZED)] [(.ref w_FINALIZED), (.ref w_FINALIZED)])) X34 hx rfl rfl rfl (pc0 := 114) (pc' := 117) (same := true) rfl (hb hby at_114) rfl (decide_eq_true rfl) (by decide) (by decide) ?_
    show Steps p.tables e below (T34.setTop (mkF m 117 #[.val (.int pi1), .val (.int (pi1 &&& (7 : Int32))), .val (.int (1 : Int32)), .val (.int (1 : Int32)), .val (.int (1 : Int32)), .val (.ref b1), .val (.ref w_FINALIZED)] [])) _
    refine XS.iconst X34.here hx rfl (hb hby at_117) ?_
    show Steps p.tables e below (T34.setTop (mkF m 118 #[.val (.int pi1), .val (.int (pi1 &&& (7 : Int32))), .val (.int (1 : Int32)), .val (.int (1 : Int32)), .val (.int (1 : Int32)), .val (.ref b1), .val (.ref w_FINALIZED)] [(.int (1 : Int32))])) _
    refine XS.goto X34.here hx rfl (pc0 := 118) (pc' := 122) rfl (hb hby at_118) (by decide) (by decide) ?_
    show Steps p.tables e below (T34.setTop (mkF m 122 #[.val (.int pi1), .val (.int (pi1 &&& (7 : Int32))), .val (.int (1 : Int32)), .val (.int (1 : Int32)), .val (.int (1 : Int32)), .val (.ref b1), .val (.ref w_FINALIZED)] [(.int (1 : Int32))])) _
    exact retN X34 hx (t := .boolean) Bd.returns (by simp) (hb hby at_122) hr
  · exact ⟨rfl, N34⟩
set_option maxRecDepth 65536 in
set_option maxHeartbeats 40000000 in
theorem rm0 (l : Launch) (Z : State) (a0 : Array Value) (hw : ∀ d ∈ tables_1, d.before a0 Z = true) (ws : List Jvm.Cond) (pi1 : Int32) (w_PENDING : Addr) (w_IN_PROGRESS : Addr) (w_SUBMITTED : Addr) (w_FINALIZED : Addr) (h0 : Heap) (n0 : Nat) (Z0 : n0 ≤ h0.size) (O0 : Old Z n0 h0) (S_PENDING : Sta Z Z.heap "com/example/diarist/diarist/questionnaire/QuestionnaireStatus" "PENDING" "Lcom/example/diarist/diarist/questionnaire/QuestionnaireStatus;" (.ref w_PENDING)) (E_w_PENDING : Exa Z Z.heap w_PENDING "com/example/diarist/diarist/questionnaire/QuestionnaireStatus") (S_IN_PROGRESS : Sta Z Z.heap "com/example/diarist/diarist/questionnaire/QuestionnaireStatus" "IN_PROGRESS" "Lcom/example/diarist/diarist/questionnaire/QuestionnaireStatus;" (.ref w_IN_PROGRESS)) (E_w_IN_PROGRESS : Exa Z Z.heap w_IN_PROGRESS "com/example/diarist/diarist/questionnaire/QuestionnaireStatus") (S_SUBMITTED : Sta Z Z.heap "com/example/diarist/diarist/questionnaire/QuestionnaireStatus" "SUBMITTED" "Lcom/example/diarist/diarist/questionnaire/QuestionnaireStatus;" (.ref w_SUBMITTED)) (E_w_SUBMITTED : Exa Z Z.heap w_SUBMITTED "com/example/diarist/diarist/questionnaire/QuestionnaireStatus") (S_FINALIZED : Sta Z Z.heap "com/example/diarist/diarist/questionnaire/QuestionnaireStatus" "FINALIZED" "Lcom/example/diarist/diarist/questionnaire/QuestionnaireStatus;" (.ref w_FINALIZED)) (E_w_FINALIZED : Exa Z Z.heap w_FINALIZED "com/example/diarist/diarist/questionnaire/QuestionnaireStatus") :
    MetFree l x (head1 (Jvm.Cond.code x code maxLocals ret :: ws) room_1) (fun a U => a = #[(.int pi1)] ∧ Z.Warmed39 U.vm ∧ U.heap = h0) (fun _ _ _ _ _ => True) (fun _ U o U' => ∃ v L, o = .returned v ∧ Q0 v L n0 ∧ FrameEnd U o U' L room_1.cells room_1.slots) := by
  by_cases H1 : ((pi1 &&& (7 : Int32)) &&& (1 : Int32)) = (0 : Int32)
  · by_cases H2 : ((pi1 &&& (7 : Int32)) &&& (2 : Int32)) = (0 : Int32)
    · by_cases H3 : ((pi1 &&& (7 : Int32)) &&& (4 : Int32)) = (0 : Int32)
      · exact rm0_ttt l Z a0 hw ws pi1 w_PENDING w_IN_PROGRESS w_SUBMITTED w_FINALIZED h0 n0 Z0 O0 S_PENDING E_w_PENDING S_IN_PROGRESS E_w_IN_PROGRESS S_SUBMITTED E_w_SUBMITTED S_FINALIZED E_w_FINALIZED H1 H2 H3
      · exact rm0_ttf l Z a0 hw ws pi1 w_PENDING w_IN_PROGRESS w_SUBMITTED w_FINALIZED h0 n0 Z0 O0 S_PENDING E_w_PENDING S_IN_PROGRESS E_w_IN_PROGRESS S_SUBMITTED E_w_SUBMITTED S_FINALIZED E_w_FINALIZED H1 H2 H3
    · by_cases H4 : ((pi1 &&& (7 : Int32)) &&& (4 : Int32)) = (0 : Int32)
      · exact rm0_tft l Z a0 hw ws pi1 w_PENDING w_IN_PROGRESS w_SUBMITTED w_FINALIZED h0 n0 Z0 O0 S_PENDING E_w_PENDING S_IN_PROGRESS E_w_IN_PROGRESS S_SUBMITTED E_w_SUBMITTED S_FINALIZED E_w_FINALIZED H1 H2 H4
      · exact rm0_tff l Z a0 hw ws pi1 w_PENDING w_IN_PROGRESS w_SUBMITTED w_FINALIZED h0 n0 Z0 O0 S_PENDING E_w_PENDING S_IN_PROGRESS E_w_IN_PROGRESS S_SUBMITTED E_w_SUBMITTED S_FINALIZED E_w_FINALIZED H1 H2 H4
  · by_cases H5 : ((pi1 &&& (7 : Int32)) &&& (2 : Int32)) = (0 : Int32)
    · by_cases H6 : ((pi1 &&& (7 : Int32)) &&& (4 : Int32)) = (0 : Int32)
      · exact rm0_ftt l Z a0 hw ws pi1 w_PENDING w_IN_PROGRESS w_SUBMITTED w_FINALIZED h0 n0 Z0 O0 S_PENDING E_w_PENDING S_IN_PROGRESS E_w_IN_PROGRESS S_SUBMITTED E_w_SUBMITTED S_FINALIZED E_w_FINALIZED H1 H5 H6
      · exact rm0_ftf l Z a0 hw ws pi1 w_PENDING w_IN_PROGRESS w_SUBMITTED w_FINALIZED h0 n0 Z0 O0 S_PENDING E_w_PENDING S_IN_PROGRESS E_w_IN_PROGRESS S_SUBMITTED E_w_SUBMITTED S_FINALIZED E_w_FINALIZED H1 H5 H6
    · by_cases H7 : ((pi1 &&& (7 : Int32)) &&& (4 : Int32)) = (0 : Int32)
      · exact rm0_fft l Z a0 hw ws pi1 w_PENDING w_IN_PROGRESS w_SUBMITTED w_FINALIZED h0 n0 Z0 O0 S_PENDING E_w_PENDING S_IN_PROGRESS E_w_IN_PROGRESS S_SUBMITTED E_w_SUBMITTED S_FINALIZED E_w_FINALIZED H1 H5 H7
      · exact rm0_fff l Z a0 hw ws pi1 w_PENDING w_IN_PROGRESS w_SUBMITTED w_FINALIZED h0 n0 Z0 O0 S_PENDING E_w_PENDING S_IN_PROGRESS E_w_IN_PROGRESS S_SUBMITTED E_w_SUBMITTED S_FINALIZED E_w_FINALIZED H1 H5 H7
set_option maxRecDepth 65536 in
set_option maxHeartbeats 40000000 in
theorem comes_1 {Post : Tables → Env → Array Value → State → Outcome → State → Prop} (hpost : ∀ tb e args s v u, (limb_1_1.after args s (.returned v) u = true ∧ limb_1_2.after args s (.returned v) u = true ∧ True) → FrameEnd s (.returned v) u (Jvm.fieldLocs frame_1_writes args s ++ Jvm.arrayLocs frame_1_arrays args s ++ Jvm.staticLocs frame_1_statics s) 16 128 → Post tb e args s (.returned v) u) :
    ArmFor flags0 classFile x code maxLocals ret World_1 tables_1 room_1 Calls_1 rest_1 Pre_1 Post := by
  intro l hfl _ _ p e ha hc hk s m args below hf hA hF happ hP
  obtain ⟨hcalls, hrest, hpre⟩ := hP
  obtain ⟨-, -, -, hnamed, -, -, -, hat⟩ := (Spec.applies_iff hf).mp happ
  obtain ⟨hg, hn⟩ := and_e (Cond.before_iff.mp (show (Jvm.Cond.and given_1 narrow_1).before args s = true from hpre))
  obtain ⟨g1, g2⟩ := and_e hg
  obtain ⟨w0, rfl⟩ : ∃ w0 : Value, args = #[w0] := by
    have hs : args.size = 1 := by simpa [Cond.value, given_1] using g1
    obtain ⟨L⟩ := args
    match L, hs with
    | [w0], _ => exact ⟨w0, rfl⟩
  have hw := fun d (hd : d ∈ tables_1) => atoms_spec (ws := Jvm.Cond.code x code maxLocals ret :: tables_1) hat d (List.mem_cons_of_mem _ hd)
  have hfit : Fit s := fun {y c} hc i hi => by
    obtain ⟨ha, rfl⟩ := Array.getElem?_eq_some_iff.mp hc
    have q := List.all_eq_true.mp ((Array.all_eq_true_iff_forall_mem.mp hF) _ (Array.getElem_mem ha)) i (List.mem_range.mpr hi)
    simpa [Array.getElem?_eq_getElem hi] using q
  obtain ⟨i0, ei0⟩ := is_v g2
  obtain rfl : w0 = (.int i0) := Option.some.inj ei0
  obtain ⟨nn1, nr1⟩ := and_e hn
  obtain ⟨nn2, nr2⟩ := and_e nr1
  obtain ⟨nn3, nr3⟩ := and_e nr2
  obtain ⟨w_PENDING, ev_PENDING⟩ := exa_v nn1
  have S_PENDING : Sta s s.heap "com/example/diarist/diarist/questionnaire/QuestionnaireStatus" "PENDING" "Lcom/example/diarist/diarist/questionnaire/QuestionnaireStatus;" (.ref w_PENDING) := Sta.start ev_PENDING (Or.inr ⟨(hw _ (List.mem_of_getElem? (i := 3) rfl)), (hw _ (List.mem_of_getElem? (i := 4) rfl))⟩)
  have E_w_PENDING : Exa s s.heap w_PENDING "com/example/diarist/diarist/questionnaire/QuestionnaireStatus" := Exa.start ev_PENDING nn1
  obtain ⟨w_IN_PROGRESS, ev_IN_PROGRESS⟩ := exa_v nn2
  have S_IN_PROGRESS : Sta s s.heap "com/example/diarist/diarist/questionnaire/QuestionnaireStatus" "IN_PROGRESS" "Lcom/example/diarist/diarist/questionnaire/QuestionnaireStatus;" (.ref w_IN_PROGRESS) := Sta.start ev_IN_PROGRESS (Or.inr ⟨(hw _ (List.mem_of_getElem? (i := 3) rfl)), (hw _ (List.mem_of_getElem? (i := 7) rfl))⟩)
  have E_w_IN_PROGRESS : Exa s s.heap w_IN_PROGRESS "com/example/diarist/diarist/questionnaire/QuestionnaireStatus" := Exa.start ev_IN_PROGRESS nn2
  obtain ⟨w_SUBMITTED, ev_SUBMITTED⟩ := exa_v nn3
  have S_SUBMITTED : Sta s s.heap "com/example/diarist/diarist/questionnaire/QuestionnaireStatus" "SUBMITTED" "Lcom/example/diarist/diarist/questionnaire/QuestionnaireStatus;" (.ref w_SUBMITTED) := Sta.start ev_SUBMITTED (Or.inr ⟨(hw _ (List.mem_of_getElem? (i := 3) rfl)), (hw _ (List.mem_of_getElem? (i := 9) rfl))⟩)
  have E_w_SUBMITTED : Exa s s.heap w_SUBMITTED "com/example/diarist/diarist/questionnaire/QuestionnaireStatus" := Exa.start ev_SUBMITTED nn3
  obtain ⟨w_FINALIZED, ev_FINALIZED⟩ := exa_v nr3
  have S_FINALIZED : Sta s s.heap "com/example/diarist/diarist/questionnaire/QuestionnaireStatus" "FINALIZED" "Lcom/example/diarist/diarist/questionnaire/QuestionnaireStatus;" (.ref w_FINALIZED) := Sta.start ev_FINALIZED (Or.inr ⟨(hw _ (List.mem_of_getElem? (i := 3) rfl)), (hw _ (List.mem_of_getElem? (i := 11) rfl))⟩)
  have E_w_FINALIZED : Exa s s.heap w_FINALIZED "com/example/diarist/diarist/questionnaire/QuestionnaireStatus" := Exa.start ev_FINALIZED nr3
  obtain ⟨n, o, h1, h2, h3, _, L, rfl, ⟨rfl, N⟩, hq⟩ := rm0 l s _ hw tables_1 i0 w_PENDING w_IN_PROGRESS w_SUBMITTED w_FINALIZED s.heap s.heap.size (Nat.le_refl _) (Old.start s) S_PENDING E_w_PENDING S_IN_PROGRESS E_w_IN_PROGRESS S_SUBMITTED E_w_SUBMITTED S_FINALIZED E_w_FINALIZED p e ha hc hk s m _ below hf ((Spec.applies_iff_loose hf).mp happ).1 ⟨rfl, State.Warmed39.refl s, rfl⟩ trivial
  refine ⟨n, _, h1, h2, h3, hpost _ _ _ _ _ _ ⟨Cond.after_iff.mpr rfl, Cond.after_iff.mpr (eq_i res_at (Term.int_eval (1)) rfl), trivial⟩ ⟨hq.1, hq.2.1, (hq.2.2.sift fun y hy => Or.inr (N y hy)).mono (by decide) (by decide)⟩⟩
theorem main_1_1 : Claimed_1_1 := comes_1 fun _ _ _ _ _ _ h hF => ⟨h.1, hF⟩
theorem main_1_2 : Claimed_1_2 := comes_1 fun _ _ _ _ _ _ h hF => ⟨h.2.1, hF⟩
end Jvm.Pilot.@@N@@
namespace Jvm.Pilot.@@N@@
open Jvm Jvm.ClassFile Sem Op Lib Jvm.Free Jvm.Stand Jvm.Pilot.@@N@@.Jvm.D
/-! MADE BY PROGRAM (witnessworld.py) out of the Statement's table words and the real class files: 14 classes; the members and pool entries that the words name. The judged class is class 1, her method 1. -/
namespace start1
open Jvm.ClassFile
def u (s : String) : CpInfo := .utf8 (stringToUtf16 s)
/-- a pool by its gaps: so many unusable entries, then the entry; so many at the end -/
def gap : Nat → List CpInfo → List CpInfo
  | 0, r => r
  | n + 1, r => .unusable :: gap n r
def poolList (es : List (Nat × CpInfo)) (last : Nat) : List CpInfo := es.foldr (fun e r => gap e.1 (e.2 :: r)) (gap last [])
def pool (es : List (Nat × CpInfo)) (last : Nat) : Array CpInfo := ⟨poolList es last⟩
def fileOf (pool : Array CpInfo) (this : Nat) (attrs : Array Attribute := #[]) (ms : Array MethodInfo := #[]) (fl : Nat := 33) (sup : Nat := 0) (ifs : Array Nat := #[]) (fds : Array FieldInfo := #[]) : ClassFile where
  minorVersion := 0
  majorVersion := 65
  constantPool := pool
  accessFlags := fl
  thisClass := this
  superClass := sup
  interfaces := ifs
  fields := fds
  methods := ms
  attributes := attrs
def plain (name : String) (sup : Option ClassId) : Class where
  name := name
  kind := .ordinary
  loader := none
  accessFlags := 33
  super := sup
  interfaces := #[]
  cf := none
  fields := #[]
  methods := #[]
  instanceTypes := #[]
  staticTypes := #[]
  resolved := #[]
  callSites := []
  init := .initialized
  statics := none
  mirror := none

def pool0 : Array CpInfo := pool [(5, u "<init>"), (0, u "()V"), (1, .class_ 10), (1, u "java/lang/Object")] 113

def k0m0 : Method := { name := "<init>", desc := "()V", sig := { parameters := [], returnType := none }, accessFlags := 1, code := none }
/-- java/lang/Object -/
def k0 : Class := { plain "java/lang/Object" none with
  accessFlags := 33
  interfaces := #[]
  cf := some (fileOf pool0 8 #[] #[{ accessFlags := 1, nameIndex := 5, descriptorIndex := 6, attributes := #[] }] 33 0 #[] #[])
  fields := #[]
  methods := #[k0m0]
  instanceTypes := #[]
  staticTypes := #[]
  resolved := Array.replicate 124 none
  statics := none }

def pool1 : Array CpInfo := pool [(2, .class_ 4), (1, u "java/lang/Object"), (0, u "<init>"), (0, u "()V"), (0, .class_ 8), (0, u "com/example/diarist/diarist/questionnaire/QuestionnaireStatus"), (0, .fieldref 7 10), (0, .nameAndType 11 12), (0, u "PENDING"), (0, u "Lcom/example/diarist/diarist/questionnaire/QuestionnaireStatus;"), (0, .fieldref 7 14), (0, .nameAndType 15 12), (0, u "IN_PROGRESS"), (0, .fieldref 7 17), (0, .nameAndType 18 12), (0, u "SUBMITTED"), (0, .fieldref 7 20), (0, .nameAndType 21 12), (0, u "FINALIZED"), (0, .methodref 7 23), (0, .nameAndType 24 25), (0, u "of"), (0, u "(ZZZ)Lcom/example/diarist/diarist/questionnaire/QuestionnaireStatus;"), (0, .class_ 27), (0, u "com/example/diarist/diarist/questionnaire/QuestionnaireStatusOfPinLaw"), (2, u "law"), (0, u "(I)Z")] 5

def k1m0 : Method := { name := "<init>", desc := "()V", sig := { parameters := [], returnType := none }, accessFlags := 2, code := none }
def k1c1 : Code := { maxStack := 4, maxLocals := 7, code := code, exceptionTable := #[], attributes := #[] }
def k1m1 : Method := { name := "law", desc := "(I)Z", sig := { parameters := [.int], returnType := some .boolean }, accessFlags := 9, code := some k1c1 }
/-- com/example/diarist/diarist/questionnaire/QuestionnaireStatusOfPinLaw -/
def k1 : Class := { plain "com/example/diarist/diarist/questionnaire/QuestionnaireStatusOfPinLaw" (some 0) with
  accessFlags := 49
  interfaces := #[]
  cf := some (fileOf pool1 26 #[] #[{ accessFlags := 2, nameIndex := 5, descriptorIndex := 6, attributes := #[] }, { accessFlags := 9, nameIndex := 30, descriptorIndex := 31, attributes := #[] }] 49 2 #[] #[])
  fields := #[]
  methods := #[k1m0, k1m1]
  instanceTypes := #[]
  staticTypes := #[]
  resolved := Array.replicate 37 none
  statics := none }

def pool2 : Array CpInfo := pool [(1, .class_ 2), (0, u "java/lang/constant/Constable"), (0, .class_ 4), (0, u "java/lang/Object")] 6

/-- java/lang/constant/Constable -/
def k2 : Class := { plain "java/lang/constant/Constable" (some 0) with
  accessFlags := 1537
  interfaces := #[]
  cf := some (fileOf pool2 1 #[] #[] 1537 3 #[] #[])
  fields := #[]
  methods := #[]
  instanceTypes := #[]
  staticTypes := #[]
  resolved := Array.replicate 11 none
  statics := none }

def pool3 : Array CpInfo := pool [(1, .class_ 2), (0, u "java/lang/Comparable"), (0, .class_ 4), (0, u "java/lang/Object")] 7

/-- java/lang/Comparable -/
def k3 : Class := { plain "java/lang/Comparable" (some 0) with
  accessFlags := 1537
  interfaces := #[]
  cf := some (fileOf pool3 1 #[] #[] 1537 3 #[] #[])
  fields := #[]
  methods := #[]
  instanceTypes := #[]
  staticTypes := #[]
  resolved := Array.replicate 12 none
  statics := none }

def pool4 : Array CpInfo := pool [(1, .class_ 2), (0, u "java/io/Serializable"), (0, .class_ 4), (0, u "java/lang/Object")] 2

/-- java/io/Serializable -/
def k4 : Class := { plain "java/io/Serializable" (some 0) with
  accessFlags := 1537
  interfaces := #[]
  cf := some (fileOf pool4 1 #[] #[] 1537 3 #[] #[])
  fields := #[]
  methods := #[]
  instanceTypes := #[]
  staticTypes := #[]
  resolved := Array.replicate 7 none
  statics := none }

def pool5 : Array CpInfo := pool [(2, .class_ 4), (1, u "java/lang/Enum"), (0, u "name"), (0, u "Ljava/lang/String;"), (2, u "ordinal"), (0, u "I"), (1, .class_ 14), (1, u "java/lang/Object"), (4, u "hash"), (86, .class_ 108), (1, u "java/lang/Enum$EnumDesc"), (2, .class_ 112), (0, u "java/lang/constant/Constable"), (0, .class_ 114), (0, u "java/lang/Comparable"), (0, .class_ 116), (0, u "java/io/Serializable")] 87

/-- java/lang/Enum -/
def k5 : Class := { plain "java/lang/Enum" (some 0) with
  accessFlags := 1057
  interfaces := #[2, 3, 4]
  cf := some (fileOf pool5 2 #[.nestMembers #[106]] #[] 1057 12 #[111, 113, 115] #[{ accessFlags := 18, nameIndex := 5, descriptorIndex := 6, attributes := #[] }, { accessFlags := 18, nameIndex := 9, descriptorIndex := 10, attributes := #[] }, { accessFlags := 2, nameIndex := 19, descriptorIndex := 10, attributes := #[] }])
  fields := #[{ name := "name", type := (.object "java/lang/String"), accessFlags := 18, slot := 0, constantValue := 0 }, { name := "ordinal", type := .int, accessFlags := 18, slot := 1, constantValue := 0 }, { name := "hash", type := .int, accessFlags := 2, slot := 2, constantValue := 0 }]
  methods := #[]
  instanceTypes := #[(.object "java/lang/String"), .int, .int]
  staticTypes := #[]
  resolved := Array.replicate 204 none
  statics := none }

def pool6 : Array CpInfo := pool [(9, .class_ 10), (0, u "com/example/diarist/diarist/Coded"), (20, .class_ 32), (0, u "java/lang/Object")] 9

/-- com/example/diarist/diarist/Coded -/
def k6 : Class := { plain "com/example/diarist/diarist/Coded" (some 0) with
  accessFlags := 1537
  interfaces := #[]
  cf := some (fileOf pool6 9 #[] #[] 1537 31 #[] #[])
  fields := #[]
  methods := #[]
  instanceTypes := #[]
  staticTypes := #[]
  resolved := Array.replicate 42 none
  statics := none }

def pool7 : Array CpInfo := pool [(1, .class_ 2), (0, u "com/example/diarist/diarist/questionnaire/QuestionnaireStatus"), (0, .fieldref 1 4), (0, .nameAndType 5 6), (0, u "PENDING"), (0, u "Lcom/example/diarist/diarist/questionnaire/QuestionnaireStatus;"), (0, .fieldref 1 8), (0, .nameAndType 9 6), (0, u "IN_PROGRESS"), (0, .fieldref 1 11), (0, .nameAndType 12 6), (0, u "SUBMITTED"), (0, .fieldref 1 14), (0, .nameAndType 15 6), (0, u "FINALIZED"), (2, u "$VALUES"), (0, u "[Lcom/example/diarist/diarist/questionnaire/QuestionnaireStatus;"), (6, .class_ 28), (1, u "java/lang/Enum"), (8, u "code"), (0, u "Ljava/lang/String;"), (19, .class_ 59), (0, u "com/example/diarist/diarist/Coded"), (8, u "of"), (0, u "(ZZZ)Lcom/example/diarist/diarist/questionnaire/QuestionnaireStatus;")] 6

def k7c0 : Code := { maxStack := 1, maxLocals := 3, code := prog_52_method_5_code, exceptionTable := #[], attributes := #[] }
def k7m0 : Method := { name := "of", desc := "(ZZZ)Lcom/example/diarist/diarist/questionnaire/QuestionnaireStatus;", sig := { parameters := [.boolean, .boolean, .boolean], returnType := some (.object "com/example/diarist/diarist/questionnaire/QuestionnaireStatus") }, accessFlags := 9, code := some k7c0 }
/-- com/example/diarist/diarist/questionnaire/QuestionnaireStatus -/
def k7 : Class := { plain "com/example/diarist/diarist/questionnaire/QuestionnaireStatus" (some 5) with
  accessFlags := 16433
  interfaces := #[6]
  cf := some (fileOf pool7 1 #[] #[{ accessFlags := 9, nameIndex := 68, descriptorIndex := 69, attributes := #[] }] 16433 26 #[58] #[{ accessFlags := 16409, nameIndex := 5, descriptorIndex := 6, attributes := #[] }, { accessFlags := 16409, nameIndex := 9, descriptorIndex := 6, attributes := #[] }, { accessFlags := 16409, nameIndex := 12, descriptorIndex := 6, attributes := #[] }, { accessFlags := 16409, nameIndex := 15, descriptorIndex := 6, attributes := #[] }, { accessFlags := 18, nameIndex := 37, descriptorIndex := 38, attributes := #[] }, { accessFlags := 4122, nameIndex := 18, descriptorIndex := 19, attributes := #[] }])
  fields := #[{ name := "PENDING", type := (.object "com/example/diarist/diarist/questionnaire/QuestionnaireStatus"), accessFlags := 16409, slot := 0, constantValue := 0 }, { name := "IN_PROGRESS", type := (.object "com/example/diarist/diarist/questionnaire/QuestionnaireStatus"), accessFlags := 16409, slot := 1, constantValue := 0 }, { name := "SUBMITTED", type := (.object "com/example/diarist/diarist/questionnaire/QuestionnaireStatus"), accessFlags := 16409, slot := 2, constantValue := 0 }, { name := "FINALIZED", type := (.object "com/example/diarist/diarist/questionnaire/QuestionnaireStatus"), accessFlags := 16409, slot := 3, constantValue := 0 }, { name := "code", type := (.object "java/lang/String"), accessFlags := 18, slot := 3, constantValue := 0 }, { name := "$VALUES", type := (.array (.object "com/example/diarist/diarist/questionnaire/QuestionnaireStatus")), accessFlags := 4122, slot := 4, constantValue := 0 }]
  methods := #[k7m0]
  instanceTypes := #[(.object "java/lang/String"), .int, .int, (.object "java/lang/String")]
  staticTypes := #[(.object "com/example/diarist/diarist/questionnaire/QuestionnaireStatus"), (.object "com/example/diarist/diarist/questionnaire/QuestionnaireStatus"), (.object "com/example/diarist/diarist/questionnaire/QuestionnaireStatus"), (.object "com/example/diarist/diarist/questionnaire/QuestionnaireStatus"), (.array (.object "com/example/diarist/diarist/questionnaire/QuestionnaireStatus"))]
  resolved := Array.replicate 76 none
  statics := some 0 }

def pool8 : Array CpInfo := pool [(1, u "java/lang/Cloneable"), (0, .class_ 1), (0, u "java/lang/Object"), (0, .class_ 3)] 3

/-- java/lang/Cloneable -/
def k8 : Class := { plain "java/lang/Cloneable" (some 0) with
  accessFlags := 1537
  interfaces := #[]
  cf := some (fileOf pool8 2 #[] #[] 1537 4 #[] #[])
  fields := #[]
  methods := #[]
  instanceTypes := #[]
  staticTypes := #[]
  resolved := Array.replicate 8 none
  statics := none }

/-- the primitive byte -/
def k9 : Class := { plain "byte" none with kind := .primitive 'B', accessFlags := 0x411 }
/-- [B -/
def k10 : Class := { plain "[B" (some 0) with kind := .array 9 .byte, interfaces := #[8, 4], accessFlags := 1041 }

/-- the primitive int -/
def k11 : Class := { plain "int" none with kind := .primitive 'I', accessFlags := 0x411 }
/-- [I -/
def k12 : Class := { plain "[I" (some 0) with kind := .array 11 .int, interfaces := #[8, 4], accessFlags := 1041 }

/-- [Lcom/example/diarist/diarist/questionnaire/QuestionnaireStatus; -/
def k13 : Class := { plain "[Lcom/example/diarist/diarist/questionnaire/QuestionnaireStatus;" (some 0) with kind := .array 7 (.object "com/example/diarist/diarist/questionnaire/QuestionnaireStatus"), interfaces := #[8, 4], accessFlags := 1041 }

def heap : Heap := #[{ cls := 7, slots := #[.ref 1, .ref 1, .ref 1, .ref 1, .null], vm := .statics 7 },
  { cls := 7, slots := #[.null, .int 0, .int 0, .null], vm := .none }]
def classes : Array Class := #[k0, k1, k2, k3, k4, k5, k6, k7, k8, k9, k10, k11, k12, k13]
def interned : List (Array UInt16 × Addr) := []
def slotsUsed : Nat := 9
def theMethod : MethodId := ⟨1, 1⟩
def args0 : Array Value := #[.int 3]
def aboutOver (below : List Frame) : State where
  vm := { classes := classes, interned := interned.toArray }
  heap := heap
  slotsUsed := slotsUsed
  threads := #[{ frames := .invoking theMethod args0 :: below }]
def below0 : List Frame := [.native { method := ⟨0, 0⟩, args := #[] }]
def about1 : State := aboutOver below0
def p0 : Program := .bare "" "" ""
def e0 : Env := launch0.env 0 0 0
theorem w_frames : about1.frames = Frame.invoking theMethod args0 :: below0 := rfl
set_option maxRecDepth 65536 in
theorem w_args : argsFit about1.vm theMethod args0 = true := by decide +kernel
set_option maxRecDepth 65536 in
theorem w_heap : heapFits about1 = true := by decide +kernel
set_option maxRecDepth 65536 in
theorem w_runnable : about1.curStatus? = some .runnable := by decide +kernel
set_option maxRecDepth 65536 in
theorem w_alone : about1.alone = true := by decide +kernel
set_option maxRecDepth 65536 in
theorem w_named : about1.methodNamed? x = some theMethod := by decide +kernel
set_option maxRecDepth 65536 in
theorem w_hears : about1.hears theMethod below0 = true := by decide +kernel
set_option maxRecDepth 65536 in
theorem w_ripe : about1.ripe theMethod args0 below0 = true := by decide +kernel
theorem w_running : about1.status = .running := rfl
set_option maxRecDepth 65536 in
theorem w_room : about1.hasRoom e0.platform room_1 = true :=
  launch0.hasRoom_least _ room_1 (by decide +kernel) (by decide +kernel) (by decide +kernel) (by decide +kernel) (by decide +kernel) (by decide +kernel)
theorem allAtoms_all (ts : List Jvm.Cond) (a : Array Jvm.Value) (st : Jvm.State) : (allAtoms ts).before a st = ts.all (fun c => c.before a st) := by
  induction ts with
  | nil => rfl
  | cons c t ih =>
    show (Jvm.Cond.and c (allAtoms t)).before a st = _
    rw [Jvm.Cond.before_and, ih, List.all_cons]
def words1 : List Jvm.Cond := Jvm.Cond.code x code maxLocals ret :: tables_1
/-- a 'code' word, met by the world's own term for the bytes: nothing is compared byte by byte -/
theorem code_word {y : MethodName} {bytes : ByteArray} {mx : Nat} {rt : Option FieldType} {a : Array Value} {s : State} {m : MethodId} {meth : Method} {c : Code} (h1 : s.methodNamed? y = some m) (h2 : s.vm.method? m = some meth) (h3 : meth.code = some c) (h4 : c.code = bytes)
    (h5 : (c.maxLocals == mx && c.exceptionTable.isEmpty && decide (c.maxStack ≤ mostOperands) && decide (meth.sig.returnType = rt) && !meth.locks && decide (parseMethodDescriptor y.desc = some meth.sig)) = true) : (Jvm.Cond.code y bytes mx rt).before a s = true := by
  simp only [Bool.and_eq_true, beq_iff_eq, Bool.not_eq_true', decide_eq_true_eq] at h5
  obtain ⟨⟨⟨⟨⟨g1, g2⟩, g3⟩, g4⟩, g5⟩, g6⟩ := h5
  simp [Cond.before, Cond.holds, Cond.value, h1, h2, h3, h4, g1, g2, g3, g4, g5, g6]
def isCode : Jvm.Cond → Bool
  | .code _ _ _ _ => true
  | _ => false
theorem all_split {L : List Jvm.Cond} {P : Jvm.Cond → Bool} (h1 : L.all (fun c => isCode c || P c) = true) (h2 : ∀ c ∈ L.filter isCode, P c = true) : L.all P = true := by
  refine List.all_eq_true.mpr fun c hc => ?_
  have h := List.all_eq_true.mp h1 c hc
  rcases Bool.eq_false_or_eq_true (isCode c) with hi | hi
  · exact h2 c (List.mem_filter.mpr ⟨hc, hi⟩)
  · simpa [hi] using h
set_option maxRecDepth 65536 in
theorem w_c0 : (Jvm.Cond.code x code maxLocals ret).before args0 about1 = true := code_word (m := ⟨1, 1⟩) (meth := k1m1) (c := k1c1) (by decide +kernel) rfl rfl rfl (by decide +kernel)
set_option maxRecDepth 65536 in
theorem w_c1 : (Jvm.Cond.code ({ cls := "com/example/diarist/diarist/questionnaire/QuestionnaireStatus", name := "of", desc := "(ZZZ)Lcom/example/diarist/diarist/questionnaire/QuestionnaireStatus;" } : Jvm.MethodName) prog_52_method_5_code (3 : Nat) (Option.some (Jvm.ClassFile.FieldType.object "com/example/diarist/diarist/questionnaire/QuestionnaireStatus"))).before args0 about1 = true := code_word (m := ⟨7, 0⟩) (meth := k7m0) (c := k7c0) (by decide +kernel) rfl rfl rfl (by decide +kernel)
def codes1 : List Jvm.Cond := [Jvm.Cond.code x code maxLocals ret, Jvm.Cond.code ({ cls := "com/example/diarist/diarist/questionnaire/QuestionnaireStatus", name := "of", desc := "(ZZZ)Lcom/example/diarist/diarist/questionnaire/QuestionnaireStatus;" } : Jvm.MethodName) prog_52_method_5_code (3 : Nat) (Option.some (Jvm.ClassFile.FieldType.object "com/example/diarist/diarist/questionnaire/QuestionnaireStatus"))]
set_option maxRecDepth 65536 in
theorem codes_eq : words1.filter isCode = codes1 := rfl
theorem w_codes : ∀ c ∈ words1.filter isCode, c.before args0 about1 = true := by
  rw [codes_eq]
  intro c hc
  simp only [codes1, List.mem_cons, List.not_mem_nil, or_false] at hc
  rcases hc with rfl | rfl
  · exact w_c0
  · exact w_c1
set_option maxRecDepth 65536 in
theorem w_t1 : words1.all (fun c => isCode c || c.before args0 about1) = true := by decide +kernel
theorem w_tables : (allAtoms (Jvm.Cond.code x code maxLocals ret :: tables_1)).before args0 about1 = true := by
  rw [allAtoms_all]
  show words1.all (fun c => c.before args0 about1) = true
  refine all_split ?_ w_codes
  rw [w_t1]
set_option maxRecDepth 65536 in
theorem w_case : (Jvm.Cond.and given_1 narrow_1).before args0 about1 = true := by decide +kernel
theorem w_applies : (headSpec (Jvm.Cond.code x code maxLocals ret :: tables_1) room_1).applies x e0.platform about1 = true :=
  (Spec.applies_iff w_frames).mpr ⟨w_running, w_runnable, w_alone, w_named, w_hears, w_ripe, w_room, w_tables⟩
theorem atStart : AtStart classFile x code maxLocals ret World_1 tables_1 room_1 Calls_1 rest_1 Pre_1 launch0 p0 e0 about1 theMethod args0 below0 :=
  ⟨lists_1, trivial, launch0.admits_env _ _ _, launch0.least_env, fairChoices_fair.cas, fairChoices_fair.clock, w_frames, w_args, w_heap, w_applies, trivial, trivial, w_case⟩
end start1
theorem witness_1 : WitnessClaimed_1 := ⟨start1.p0, start1.e0, start1.about1, start1.theMethod, start1.args0, start1.below0, start1.atStart⟩
end Jvm.Pilot.@@N@@
