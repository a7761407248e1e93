import JvmDerived
import JvmDerived.Pilot.@@N@@Statement
import JvmDerived.Pilot.@@N@@Code
set_option linter.unusedVariables false
set_option linter.unusedSimpArgs false
namespace Jvm.RoadKit
open Sem ClassFile Op Lib Jvm.Stand Jvm.Free Jvm.LawKit
section New
variable {p : Program} {l : Launch} {e : Env} {R : Room} {s : State} {m : MethodId} {args : Array Value} {below : List Frame} {meth : Method} {c : Code} {T : State} {locs : List Loc} {cells slots : Nat}
theorem retI (X : Stand p l e R s m args below meth c T locs cells slots) (hx : p.tables.exec = Jvm.exec) {pc : Nat} {Ls : Array Slot} {z : Int32} {rest : List Value} (hret : meth.sig.returnType = some .int) (hd : decode c.code pc = .ok (.ireturn, 1)) {fs : List Frame}
    (hl : ∀ (f : JFrame) (acts : List Action), f.method = m → f.locked = none → f.entered = [] → (doReturn e (T.setTop f) acts (some (.int z))).1 = T.setFrames fs) : Steps p.tables e below (T.setTop (mkF m pc Ls (.int z :: rest))) (T.setFrames fs) := by
  have hm' : T.vm.method? m = some meth := X.method'
  have hn : narrow .int (.int z) = .int z := rfl
  show Steps p.tables e below (T.setTop { method := m, pc := pc, locals := Ls, stack := _ :: rest, locked := none }) _
  jvm_step X.here [X.here.top, hx, hd, hm', hret, hn]
  first | (intro acts; rw [hl _ acts rfl rfl rfl]) | rw [hl _ _ rfl rfl rfl]
  exact Steps.refl _
theorem own_dia {c : Prop} [Decidable c] {tb : Tables} {S tgt : State} {F : Int32 → State} {A B : Int32} (hy : c → ∀ t, Steps tb e below (F A) t → Steps tb e below S t) (hn : ¬ c → ∀ t, Steps tb e below (F B) t → Steps tb e below S t) (k : Steps tb e below (F (if c then A else B)) tgt) : Steps tb e below S tgt := by
  by_cases q : c
  · rw [if_pos q] at k; exact hy q _ k
  · rw [if_neg q] at k; exact hn q _ k
end New
end Jvm.RoadKit
namespace Jvm.Pilot.@@N@@
open Jvm Jvm.ClassFile Sem Op Lib Jvm.Free Jvm.Stand Jvm.LawKit Jvm.RoadKit Bundle Jvm.Pilot.@@N@@.Jvm.D
theorem d1_0 : decode jdk_29_method_70_code 0 = .ok (.lload_n 0, 1) := by decide +kernel
theorem d1_1 : decode jdk_29_method_70_code 1 = .ok (.lload_n 2, 1) := by decide +kernel
theorem d1_2 : decode jdk_29_method_70_code 2 = .ok (.lcmp, 1) := by decide +kernel
theorem d1_3 : decode jdk_29_method_70_code 3 = .ok (.ifCond .gt 7, 3) := by decide +kernel
theorem d1_10 : decode jdk_29_method_70_code 10 = .ok (.lload_n 2, 1) := by decide +kernel
theorem d1_11 : decode jdk_29_method_70_code 11 = .ok (.lreturn, 1) := by decide +kernel
theorem ef_1 (m : MethodId) (pl1 : Int64) (pl2 : Int64) : entryFrame m #[(.long pl1), (.long pl2)] 4 = mkF m 0 #[.val (.long pl1), .second, .val (.long pl2), .second] [] := by first | (simp [entryFrame, mkF, argsToLocals, Value.category]; done) | rfl
def Q1_t (Z : State) (pl1 : Int64) (pl2 : Int64) (h0 : Heap) (n0 : Nat) (v : Option Value) (h : Heap) (L : List Loc) : Prop := v = some (.long pl2) ∧ Fr n0 L ∧ h = h0
set_option maxRecDepth 65536 in
set_option maxHeartbeats 40000000 in
theorem rm1_t (l : Launch) (Z : State) (a0 : Array Value) (hw : ∀ d ∈ tables_1, d.before a0 Z = true) (ws : List Jvm.Cond) (pl1 : Int64) (pl2 : Int64) (h0 : Heap) (n0 : Nat) (Z0 : n0 ≤ h0.size) (O0 : Old Z n0 h0) (hc3_0 : (0 : Int32) < (lcmpW pl1 pl2)) :
    MetFree l (⟨"java/lang/Math", "min", "(JJ)J"⟩ : MethodName) (head1 (Jvm.Cond.code (⟨"java/lang/Math", "min", "(JJ)J"⟩ : MethodName) jdk_29_method_70_code 4 (some .long) :: ws) ({ frames := 0, cells := 0, slots := 0, locals := 0 } : Room)) (fun a U => a = #[(.long pl1), (.long pl2)] ∧ Z.Warmed39 U.vm ∧ U.heap = h0) (fun _ _ _ _ _ => True) (fun _ U o U' => ∃ v L, o = .returned v ∧ Q1_t Z pl1 pl2 h0 n0 v U'.heap L ∧ FrameEnd U o U' L ({ frames := 0, cells := 0, slots := 0, locals := 0 } : Room).cells ({ frames := 0, cells := 0, slots := 0, locals := 0 } : Room).slots) := by
  refine MetFree.of_bodySF (Jvm.Free.JP.mathPlain rfl (by decide +kernel)) hisR ?_
  intro p e s m args below meth c s₁ Bd hml0 hP hK
  obtain ⟨rfl, hZ, hh⟩ := hP
  have hx := Bd.exec
  have hby := Bd.bytes
  have hml : c.maxLocals = 4 := hml0
  have hown : s.vm.findClass "java/lang/Math" = some m.cls := findClass_of_methodNamed Bd.named
  have hnm := (name_of_methodNamed Bd.named Bd.method).1
  have X0 : Stand p l e ({ frames := 0, cells := 0, slots := 0, locals := 0 } : Room) s m #[(.long pl1), (.long pl2)] below meth c s₁ [] 0 0 := Stand.of_body Bd
  have e0 : s₁.heap = h0 := by rw [← hh, Bd.state]; rfl
  have N0 := Fr.nil n0
  have pre0 : ∀ t, Steps p.tables e below (s₁.setTop (mkF m 0 #[.val (.long pl1), .second, .val (.long pl2), .second] [])) t → Steps p.tables e below (s₁.setTop (entryFrame m #[(.long pl1), (.long pl2)] 4)) t := fun t k => castTop (ef_1 m pl1 pl2) k
  obtain ⟨fs, hr, hrun, hended, hW, hsame⟩ := X0.leave (v := some (.long pl2)) (fun h => by rw [Bd.returns] at h; cases h) (by first | exact BodyLoose.notSynchronized Bd | exact Body.notSynchronized Bd)
  refine ⟨_, _, pre0 _ ?_, hrun, hended, _, _, rfl, ?_, ⟨_, rfl⟩, hW, hsame.mono (by decide) (by decide)⟩
  · show Steps p.tables e below (s₁.setTop (mkF m 0 #[.val (.long pl1), .second, .val (.long pl2), .second] [])) _
    refine XS.lloadN X0.here hx rfl (hb hby d1_0) rfl ?_
    show Steps p.tables e below (s₁.setTop (mkF m 1 #[.val (.long pl1), .second, .val (.long pl2), .second] [(.long pl1)])) _
    refine XS.lloadN X0.here hx rfl (hb hby d1_1) rfl ?_
    show Steps p.tables e below (s₁.setTop (mkF m 2 #[.val (.long pl1), .second, .val (.long pl2), .second] [(.long pl2), (.long pl1)])) _
    refine XS.lcmp X0.here hx rfl (hb hby d1_2) rfl ?_
    show Steps p.tables e below (s₁.setTop (mkF m 3 #[.val (.long pl1), .second, .val (.long pl2), .second] [(.int (lcmpW pl1 pl2))])) _
    refine XS.ifYes X0.here hx rfl (pc0 := 3) (pc' := 10) rfl (hb hby d1_3) rfl ((if0 _ _).trans (tlt hc3_0).2.2.1) (by decide) (by decide) ?_
    show Steps p.tables e below (s₁.setTop (mkF m 10 #[.val (.long pl1), .second, .val (.long pl2), .second] [])) _
    refine XS.lloadN X0.here hx rfl (hb hby d1_10) rfl ?_
    show Steps p.tables e below (s₁.setTop (mkF m 11 #[.val (.long pl1), .second, .val (.long pl2), .second] [(.long pl2)])) _
    jvm_step X0.here [X0.here.top, hx, (hb hby d1_11), X0.method', Bd.returns, narrow]
    first | (intro acts; rw [hr _ acts rfl rfl rfl]) | rw [hr _ _ rfl rfl rfl]
    exact Steps.refl _
  · show Q1_t Z pl1 pl2 h0 n0 _ s₁.heap _
    rw [e0]
    exact ⟨rfl, N0, rfl⟩
theorem d1_6 : decode jdk_29_method_70_code 6 = .ok (.lload_n 0, 1) := by decide +kernel
theorem d1_7 : decode jdk_29_method_70_code 7 = .ok (.goto 4, 3) := by decide +kernel
def Q1_f (Z : State) (pl1 : Int64) (pl2 : Int64) (h0 : Heap) (n0 : Nat) (v : Option Value) (h : Heap) (L : List Loc) : Prop := v = some (.long pl1) ∧ Fr n0 L ∧ h = h0
set_option maxRecDepth 65536 in
set_option maxHeartbeats 40000000 in
theorem rm1_f (l : Launch) (Z : State) (a0 : Array Value) (hw : ∀ d ∈ tables_1, d.before a0 Z = true) (ws : List Jvm.Cond) (pl1 : Int64) (pl2 : Int64) (h0 : Heap) (n0 : Nat) (Z0 : n0 ≤ h0.size) (O0 : Old Z n0 h0) (hc3_0 : ¬ ((0 : Int32) < (lcmpW pl1 pl2))) :
    MetFree l (⟨"java/lang/Math", "min", "(JJ)J"⟩ : MethodName) (head1 (Jvm.Cond.code (⟨"java/lang/Math", "min", "(JJ)J"⟩ : MethodName) jdk_29_method_70_code 4 (some .long) :: ws) ({ frames := 0, cells := 0, slots := 0, locals := 0 } : Room)) (fun a U => a = #[(.long pl1), (.long pl2)] ∧ Z.Warmed39 U.vm ∧ U.heap = h0) (fun _ _ _ _ _ => True) (fun _ U o U' => ∃ v L, o = .returned v ∧ Q1_f Z pl1 pl2 h0 n0 v U'.heap L ∧ FrameEnd U o U' L ({ frames := 0, cells := 0, slots := 0, locals := 0 } : Room).cells ({ frames := 0, cells := 0, slots := 0, locals := 0 } : Room).slots) := by
  refine MetFree.of_bodySF (Jvm.Free.JP.mathPlain rfl (by decide +kernel)) hisR ?_
  intro p e s m args below meth c s₁ Bd hml0 hP hK
  obtain ⟨rfl, hZ, hh⟩ := hP
  have hx := Bd.exec
  have hby := Bd.bytes
  have hml : c.maxLocals = 4 := hml0
  have hown : s.vm.findClass "java/lang/Math" = some m.cls := findClass_of_methodNamed Bd.named
  have hnm := (name_of_methodNamed Bd.named Bd.method).1
  have X0 : Stand p l e ({ frames := 0, cells := 0, slots := 0, locals := 0 } : Room) s m #[(.long pl1), (.long pl2)] below meth c s₁ [] 0 0 := Stand.of_body Bd
  have e0 : s₁.heap = h0 := by rw [← hh, Bd.state]; rfl
  have N0 := Fr.nil n0
  have pre0 : ∀ t, Steps p.tables e below (s₁.setTop (mkF m 0 #[.val (.long pl1), .second, .val (.long pl2), .second] [])) t → Steps p.tables e below (s₁.setTop (entryFrame m #[(.long pl1), (.long pl2)] 4)) t := fun t k => castTop (ef_1 m pl1 pl2) k
  obtain ⟨fs, hr, hrun, hended, hW, hsame⟩ := X0.leave (v := some (.long pl1)) (fun h => by rw [Bd.returns] at h; cases h) (by first | exact BodyLoose.notSynchronized Bd | exact Body.notSynchronized Bd)
  refine ⟨_, _, pre0 _ ?_, hrun, hended, _, _, rfl, ?_, ⟨_, rfl⟩, hW, hsame.mono (by decide) (by decide)⟩
  · show Steps p.tables e below (s₁.setTop (mkF m 0 #[.val (.long pl1), .second, .val (.long pl2), .second] [])) _
    refine XS.lloadN X0.here hx rfl (hb hby d1_0) rfl ?_
    show Steps p.tables e below (s₁.setTop (mkF m 1 #[.val (.long pl1), .second, .val (.long pl2), .second] [(.long pl1)])) _
    refine XS.lloadN X0.here hx rfl (hb hby d1_1) rfl ?_
    show Steps p.tables e below (s₁.setTop (mkF m 2 #[.val (.long pl1), .second, .val (.long pl2), .second] [(.long pl2), (.long pl1)])) _
    refine XS.lcmp X0.here hx rfl (hb hby d1_2) rfl ?_
    show Steps p.tables e below (s₁.setTop (mkF m 3 #[.val (.long pl1), .second, .val (.long pl2), .second] [(.int (lcmpW pl1 pl2))])) _
    refine XS.ifNo X0.here hx rfl (hb hby d1_3) rfl ((if0 _ _).trans (flt hc3_0).2.2.1) ?_
    show Steps p.tables e below (s₁.setTop (mkF m 6 #[.val (.long pl1), .second, .val (.long pl2), .second] [])) _
    refine XS.lloadN X0.here hx rfl (hb hby d1_6) rfl ?_
    show Steps p.tables e below (s₁.setTop (mkF m 7 #[.val (.long pl1), .second, .val (.long pl2), .second] [(.long pl1)])) _
    refine XS.goto X0.here hx rfl (pc0 := 7) (pc' := 11) rfl (hb hby d1_7) (by decide) (by decide) ?_
    show Steps p.tables e below (s₁.setTop (mkF m 11 #[.val (.long pl1), .second, .val (.long pl2), .second] [(.long pl1)])) _
    jvm_step X0.here [X0.here.top, hx, (hb hby d1_11), X0.method', Bd.returns, narrow]
    first | (intro acts; rw [hr _ acts rfl rfl rfl]) | rw [hr _ _ rfl rfl rfl]
    exact Steps.refl _
  · show Q1_f Z pl1 pl2 h0 n0 _ s₁.heap _
    rw [e0]
    exact ⟨rfl, N0, rfl⟩
def own_min (pl1 : Int64) (pl2 : Int64) : Int64 := (if (0 : Int32) < (lcmpW pl1 pl2) then pl2 else pl1)
def Q1m (Z : State) (pl1 : Int64) (pl2 : Int64) (h0 : Heap) (n0 : Nat) (v : Option Value) (h : Heap) (L : List Loc) : Prop := v = some (.long (own_min pl1 pl2)) ∧ Fr n0 L ∧ h = h0
set_option maxRecDepth 65536 in
theorem rm1m (l : Launch) (Z : State) (a0 : Array Value) (hw : ∀ d ∈ tables_1, d.before a0 Z = true) (ws : List Jvm.Cond) (pl1 : Int64) (pl2 : Int64) (h0 : Heap) (n0 : Nat) (Z0 : n0 ≤ h0.size) (O0 : Old Z n0 h0) :
    MetFree l (⟨"java/lang/Math", "min", "(JJ)J"⟩ : MethodName) (head1 (Jvm.Cond.code (⟨"java/lang/Math", "min", "(JJ)J"⟩ : MethodName) jdk_29_method_70_code 4 (some .long) :: ws) ({ frames := 0, cells := 0, slots := 0, locals := 0 } : Room)) (fun a U => a = #[(.long pl1), (.long pl2)] ∧ Z.Warmed39 U.vm ∧ U.heap = h0) (fun _ _ _ _ _ => True) (fun _ U o U' => ∃ v L, o = .returned v ∧ Q1m Z pl1 pl2 h0 n0 v U'.heap L ∧ FrameEnd U o U' L ({ frames := 0, cells := 0, slots := 0, locals := 0 } : Room).cells ({ frames := 0, cells := 0, slots := 0, locals := 0 } : Room).slots) := by
  by_cases H1 : (0 : Int32) < (lcmpW pl1 pl2)
  · have e : (own_min pl1 pl2) = pl2 := by unfold own_min; rw [if_pos H1]
    show MetFree l (⟨"java/lang/Math", "min", "(JJ)J"⟩ : MethodName) (head1 (Jvm.Cond.code (⟨"java/lang/Math", "min", "(JJ)J"⟩ : MethodName) jdk_29_method_70_code 4 (some .long) :: ws) ({ frames := 0, cells := 0, slots := 0, locals := 0 } : Room)) (fun a U => a = #[(.long pl1), (.long pl2)] ∧ Z.Warmed39 U.vm ∧ U.heap = h0) (fun _ _ _ _ _ => True) (fun _ U o U' => ∃ v L, o = .returned v ∧ (v = some (.long (own_min pl1 pl2)) ∧ Fr n0 L ∧ U'.heap = h0) ∧ FrameEnd U o U' L ({ frames := 0, cells := 0, slots := 0, locals := 0 } : Room).cells ({ frames := 0, cells := 0, slots := 0, locals := 0 } : Room).slots)
    rw [e]
    exact rm1_t l Z a0 hw ws pl1 pl2 h0 n0 Z0 O0  H1
  · have e : (own_min pl1 pl2) = pl1 := by unfold own_min; rw [if_neg H1]
    show MetFree l (⟨"java/lang/Math", "min", "(JJ)J"⟩ : MethodName) (head1 (Jvm.Cond.code (⟨"java/lang/Math", "min", "(JJ)J"⟩ : MethodName) jdk_29_method_70_code 4 (some .long) :: ws) ({ frames := 0, cells := 0, slots := 0, locals := 0 } : Room)) (fun a U => a = #[(.long pl1), (.long pl2)] ∧ Z.Warmed39 U.vm ∧ U.heap = h0) (fun _ _ _ _ _ => True) (fun _ U o U' => ∃ v L, o = .returned v ∧ (v = some (.long (own_min pl1 pl2)) ∧ Fr n0 L ∧ U'.heap = h0) ∧ FrameEnd U o U' L ({ frames := 0, cells := 0, slots := 0, locals := 0 } : Room).cells ({ frames := 0, cells := 0, slots := 0, locals := 0 } : Room).slots)
    rw [e]
    exact rm1_f l Z a0 hw ws pl1 pl2 h0 n0 Z0 O0  H1
theorem d2_0 : decode jdk_29_method_66_code 0 = .ok (.lload_n 0, 1) := by decide +kernel
theorem d2_1 : decode jdk_29_method_66_code 1 = .ok (.lload_n 2, 1) := by decide +kernel
theorem d2_2 : decode jdk_29_method_66_code 2 = .ok (.lcmp, 1) := by decide +kernel
theorem d2_3 : decode jdk_29_method_66_code 3 = .ok (.ifCond .lt 7, 3) := by decide +kernel
theorem d2_10 : decode jdk_29_method_66_code 10 = .ok (.lload_n 2, 1) := by decide +kernel
theorem d2_11 : decode jdk_29_method_66_code 11 = .ok (.lreturn, 1) := by decide +kernel
theorem ef_2 (m : MethodId) (pl1 : Int64) (pl2 : Int64) : entryFrame m #[(.long pl1), (.long pl2)] 4 = mkF m 0 #[.val (.long pl1), .second, .val (.long pl2), .second] [] := by first | (simp [entryFrame, mkF, argsToLocals, Value.category]; done) | rfl
def Q2_t (Z : State) (pl1 : Int64) (pl2 : Int64) (h0 : Heap) (n0 : Nat) (v : Option Value) (h : Heap) (L : List Loc) : Prop := v = some (.long pl2) ∧ Fr n0 L ∧ h = h0
set_option maxRecDepth 65536 in
set_option maxHeartbeats 40000000 in
theorem rm2_t (l : Launch) (Z : State) (a0 : Array Value) (hw : ∀ d ∈ tables_1, d.before a0 Z = true) (ws : List Jvm.Cond) (pl1 : Int64) (pl2 : Int64) (h0 : Heap) (n0 : Nat) (Z0 : n0 ≤ h0.size) (O0 : Old Z n0 h0) (hc3_0 : (lcmpW pl1 pl2) < (0 : Int32)) :
    MetFree l (⟨"java/lang/Math", "max", "(JJ)J"⟩ : MethodName) (head1 (Jvm.Cond.code (⟨"java/lang/Math", "max", "(JJ)J"⟩ : MethodName) jdk_29_method_66_code 4 (some .long) :: ws) ({ frames := 0, cells := 0, slots := 0, locals := 0 } : Room)) (fun a U => a = #[(.long pl1), (.long pl2)] ∧ Z.Warmed39 U.vm ∧ U.heap = h0) (fun _ _ _ _ _ => True) (fun _ U o U' => ∃ v L, o = .returned v ∧ Q2_t Z pl1 pl2 h0 n0 v U'.heap L ∧ FrameEnd U o U' L ({ frames := 0, cells := 0, slots := 0, locals := 0 } : Room).cells ({ frames := 0, cells := 0, slots := 0, locals := 0 } : Room).slots) := by
  refine MetFree.of_bodySF (Jvm.Free.JP.mathPlain rfl (by decide +kernel)) hisR ?_
  intro p e s m args below meth c s₁ Bd hml0 hP hK
  obtain ⟨rfl, hZ, hh⟩ := hP
  have hx := Bd.exec
  have hby := Bd.bytes
  have hml : c.maxLocals = 4 := hml0
  have hown : s.vm.findClass "java/lang/Math" = some m.cls := findClass_of_methodNamed Bd.named
  have hnm := (name_of_methodNamed Bd.named Bd.method).1
  have X0 : Stand p l e ({ frames := 0, cells := 0, slots := 0, locals := 0 } : Room) s m #[(.long pl1), (.long pl2)] below meth c s₁ [] 0 0 := Stand.of_body Bd
  have e0 : s₁.heap = h0 := by rw [← hh, Bd.state]; rfl
  have N0 := Fr.nil n0
  have pre0 : ∀ t, Steps p.tables e below (s₁.setTop (mkF m 0 #[.val (.long pl1), .second, .val (.long pl2), .second] [])) t → Steps p.tables e below (s₁.setTop (entryFrame m #[(.long pl1), (.long pl2)] 4)) t := fun t k => castTop (ef_2 m pl1 pl2) k
  obtain ⟨fs, hr, hrun, hended, hW, hsame⟩ := X0.leave (v := some (.long pl2)) (fun h => by rw [Bd.returns] at h; cases h) (by first | exact BodyLoose.notSynchronized Bd | exact Body.notSynchronized Bd)
  refine ⟨_, _, pre0 _ ?_, hrun, hended, _, _, rfl, ?_, ⟨_, rfl⟩, hW, hsame.mono (by decide) (by decide)⟩
  · show Steps p.tables e below (s₁.setTop (mkF m 0 #[.val (.long pl1), .second, .val (.long pl2), .second] [])) _
    refine XS.lloadN X0.here hx rfl (hb hby d2_0) rfl ?_
    show Steps p.tables e below (s₁.setTop (mkF m 1 #[.val (.long pl1), .second, .val (.long pl2), .second] [(.long pl1)])) _
    refine XS.lloadN X0.here hx rfl (hb hby d2_1) rfl ?_
    show Steps p.tables e below (s₁.setTop (mkF m 2 #[.val (.long pl1), .second, .val (.long pl2), .second] [(.long pl2), (.long pl1)])) _
    refine XS.lcmp X0.here hx rfl (hb hby d2_2) rfl ?_
    show Steps p.tables e below (s₁.setTop (mkF m 3 #[.val (.long pl1), .second, .val (.long pl2), .second] [(.int (lcmpW pl1 pl2))])) _
    refine XS.ifYes X0.here hx rfl (pc0 := 3) (pc' := 10) rfl (hb hby d2_3) rfl ((if0 _ _).trans (tlt hc3_0).1) (by decide) (by decide) ?_
    show Steps p.tables e below (s₁.setTop (mkF m 10 #[.val (.long pl1), .second, .val (.long pl2), .second] [])) _
    refine XS.lloadN X0.here hx rfl (hb hby d2_10) rfl ?_
    show Steps p.tables e below (s₁.setTop (mkF m 11 #[.val (.long pl1), .second, .val (.long pl2), .second] [(.long pl2)])) _
    jvm_step X0.here [X0.here.top, hx, (hb hby d2_11), X0.method', Bd.returns, narrow]
    first | (intro acts; rw [hr _ acts rfl rfl rfl]) | rw [hr _ _ rfl rfl rfl]
    exact Steps.refl _
  · show Q2_t Z pl1 pl2 h0 n0 _ s₁.heap _
    rw [e0]
    exact ⟨rfl, N0, rfl⟩
theorem d2_6 : decode jdk_29_method_66_code 6 = .ok (.lload_n 0, 1) := by decide +kernel
theorem d2_7 : decode jdk_29_method_66_code 7 = .ok (.goto 4, 3) := by decide +kernel
def Q2_f (Z : State) (pl1 : Int64) (pl2 : Int64) (h0 : Heap) (n0 : Nat) (v : Option Value) (h : Heap) (L : List Loc) : Prop := v = some (.long pl1) ∧ Fr n0 L ∧ h = h0
set_option maxRecDepth 65536 in
set_option maxHeartbeats 40000000 in
theorem rm2_f (l : Launch) (Z : State) (a0 : Array Value) (hw : ∀ d ∈ tables_1, d.before a0 Z = true) (ws : List Jvm.Cond) (pl1 : Int64) (pl2 : Int64) (h0 : Heap) (n0 : Nat) (Z0 : n0 ≤ h0.size) (O0 : Old Z n0 h0) (hc3_0 : ¬ ((lcmpW pl1 pl2) < (0 : Int32))) :
    MetFree l (⟨"java/lang/Math", "max", "(JJ)J"⟩ : MethodName) (head1 (Jvm.Cond.code (⟨"java/lang/Math", "max", "(JJ)J"⟩ : MethodName) jdk_29_method_66_code 4 (some .long) :: ws) ({ frames := 0, cells := 0, slots := 0, locals := 0 } : Room)) (fun a U => a = #[(.long pl1), (.long pl2)] ∧ Z.Warmed39 U.vm ∧ U.heap = h0) (fun _ _ _ _ _ => True) (fun _ U o U' => ∃ v L, o = .returned v ∧ Q2_f Z pl1 pl2 h0 n0 v U'.heap L ∧ FrameEnd U o U' L ({ frames := 0, cells := 0, slots := 0, locals := 0 } : Room).cells ({ frames := 0, cells := 0, slots := 0, locals := 0 } : Room).slots) := by
  refine MetFree.of_bodySF (Jvm.Free.JP.mathPlain rfl (by decide +kernel)) hisR ?_
  intro p e s m args below meth c s₁ Bd hml0 hP hK
  obtain ⟨rfl, hZ, hh⟩ := hP
  have hx := Bd.exec
  have hby := Bd.bytes
  have hml : c.maxLocals = 4 := hml0
  have hown : s.vm.findClass "java/lang/Math" = some m.cls := findClass_of_methodNamed Bd.named
  have hnm := (name_of_methodNamed Bd.named Bd.method).1
  have X0 : Stand p l e ({ frames := 0, cells := 0, slots := 0, locals := 0 } : Room) s m #[(.long pl1), (.long pl2)] below meth c s₁ [] 0 0 := Stand.of_body Bd
  have e0 : s₁.heap = h0 := by rw [← hh, Bd.state]; rfl
  have N0 := Fr.nil n0
  have pre0 : ∀ t, Steps p.tables e below (s₁.setTop (mkF m 0 #[.val (.long pl1), .second, .val (.long pl2), .second] [])) t → Steps p.tables e below (s₁.setTop (entryFrame m #[(.long pl1), (.long pl2)] 4)) t := fun t k => castTop (ef_2 m pl1 pl2) k
  obtain ⟨fs, hr, hrun, hended, hW, hsame⟩ := X0.leave (v := some (.long pl1)) (fun h => by rw [Bd.returns] at h; cases h) (by first | exact BodyLoose.notSynchronized Bd | exact Body.notSynchronized Bd)
  refine ⟨_, _, pre0 _ ?_, hrun, hended, _, _, rfl, ?_, ⟨_, rfl⟩, hW, hsame.mono (by decide) (by decide)⟩
  · show Steps p.tables e below (s₁.setTop (mkF m 0 #[.val (.long pl1), .second, .val (.long pl2), .second] [])) _
    refine XS.lloadN X0.here hx rfl (hb hby d2_0) rfl ?_
    show Steps p.tables e below (s₁.setTop (mkF m 1 #[.val (.long pl1), .second, .val (.long pl2), .second] [(.long pl1)])) _
    refine XS.lloadN X0.here hx rfl (hb hby d2_1) rfl ?_
    show Steps p.tables e below (s₁.setTop (mkF m 2 #[.val (.long pl1), .second, .val (.long pl2), .second] [(.long pl2), (.long pl1)])) _
    refine XS.lcmp X0.here hx rfl (hb hby d2_2) rfl ?_
    show Steps p.tables e below (s₁.setTop (mkF m 3 #[.val (.long pl1), .second, .val (.long pl2), .second] [(.int (lcmpW pl1 pl2))])) _
    refine XS.ifNo X0.here hx rfl (hb hby d2_3) rfl ((if0 _ _).trans (flt hc3_0).1) ?_
    show Steps p.tables e below (s₁.setTop (mkF m 6 #[.val (.long pl1), .second, .val (.long pl2), .second] [])) _
    refine XS.lloadN X0.here hx rfl (hb hby d2_6) rfl ?_
    show Steps p.tables e below (s₁.setTop (mkF m 7 #[.val (.long pl1), .second, .val (.long pl2), .second] [(.long pl1)])) _
    refine XS.goto X0.here hx rfl (pc0 := 7) (pc' := 11) rfl (hb hby d2_7) (by decide) (by decide) ?_
    show Steps p.tables e below (s₁.setTop (mkF m 11 #[.val (.long pl1), .second, .val (.long pl2), .second] [(.long pl1)])) _
    jvm_step X0.here [X0.here.top, hx, (hb hby d2_11), X0.method', Bd.returns, narrow]
    first | (intro acts; rw [hr _ acts rfl rfl rfl]) | rw [hr _ _ rfl rfl rfl]
    exact Steps.refl _
  · show Q2_f Z pl1 pl2 h0 n0 _ s₁.heap _
    rw [e0]
    exact ⟨rfl, N0, rfl⟩
def own_max (pl1 : Int64) (pl2 : Int64) : Int64 := (if (lcmpW pl1 pl2) < (0 : Int32) then pl2 else pl1)
def Q2m (Z : State) (pl1 : Int64) (pl2 : Int64) (h0 : Heap) (n0 : Nat) (v : Option Value) (h : Heap) (L : List Loc) : Prop := v = some (.long (own_max pl1 pl2)) ∧ Fr n0 L ∧ h = h0
set_option maxRecDepth 65536 in
theorem rm2m (l : Launch) (Z : State) (a0 : Array Value) (hw : ∀ d ∈ tables_1, d.before a0 Z = true) (ws : List Jvm.Cond) (pl1 : Int64) (pl2 : Int64) (h0 : Heap) (n0 : Nat) (Z0 : n0 ≤ h0.size) (O0 : Old Z n0 h0) :
    MetFree l (⟨"java/lang/Math", "max", "(JJ)J"⟩ : MethodName) (head1 (Jvm.Cond.code (⟨"java/lang/Math", "max", "(JJ)J"⟩ : MethodName) jdk_29_method_66_code 4 (some .long) :: ws) ({ frames := 0, cells := 0, slots := 0, locals := 0 } : Room)) (fun a U => a = #[(.long pl1), (.long pl2)] ∧ Z.Warmed39 U.vm ∧ U.heap = h0) (fun _ _ _ _ _ => True) (fun _ U o U' => ∃ v L, o = .returned v ∧ Q2m Z pl1 pl2 h0 n0 v U'.heap L ∧ FrameEnd U o U' L ({ frames := 0, cells := 0, slots := 0, locals := 0 } : Room).cells ({ frames := 0, cells := 0, slots := 0, locals := 0 } : Room).slots) := by
  by_cases H1 : (lcmpW pl1 pl2) < (0 : Int32)
  · have e : (own_max pl1 pl2) = pl2 := by unfold own_max; rw [if_pos H1]
    show MetFree l (⟨"java/lang/Math", "max", "(JJ)J"⟩ : MethodName) (head1 (Jvm.Cond.code (⟨"java/lang/Math", "max", "(JJ)J"⟩ : MethodName) jdk_29_method_66_code 4 (some .long) :: ws) ({ frames := 0, cells := 0, slots := 0, locals := 0 } : Room)) (fun a U => a = #[(.long pl1), (.long pl2)] ∧ Z.Warmed39 U.vm ∧ U.heap = h0) (fun _ _ _ _ _ => True) (fun _ U o U' => ∃ v L, o = .returned v ∧ (v = some (.long (own_max pl1 pl2)) ∧ Fr n0 L ∧ U'.heap = h0) ∧ FrameEnd U o U' L ({ frames := 0, cells := 0, slots := 0, locals := 0 } : Room).cells ({ frames := 0, cells := 0, slots := 0, locals := 0 } : Room).slots)
    rw [e]
    exact rm2_t l Z a0 hw ws pl1 pl2 h0 n0 Z0 O0  H1
  · have e : (own_max pl1 pl2) = pl1 := by unfold own_max; rw [if_neg H1]
    show MetFree l (⟨"java/lang/Math", "max", "(JJ)J"⟩ : MethodName) (head1 (Jvm.Cond.code (⟨"java/lang/Math", "max", "(JJ)J"⟩ : MethodName) jdk_29_method_66_code 4 (some .long) :: ws) ({ frames := 0, cells := 0, slots := 0, locals := 0 } : Room)) (fun a U => a = #[(.long pl1), (.long pl2)] ∧ Z.Warmed39 U.vm ∧ U.heap = h0) (fun _ _ _ _ _ => True) (fun _ U o U' => ∃ v L, o = .returned v ∧ (v = some (.long (own_max pl1 pl2)) ∧ Fr n0 L ∧ U'.heap = h0) ∧ FrameEnd U o U' L ({ frames := 0, cells := 0, slots := 0, locals := 0 } : Room).cells ({ frames := 0, cells := 0, slots := 0, locals := 0 } : Room).slots)
    rw [e]
    exact rm2_f l Z a0 hw ws pl1 pl2 h0 n0 Z0 O0  H1
theorem d3_0 : decode prog_21_method_7_code 0 = .ok (.lload_n 0, 1) := by decide +kernel
theorem d3_1 : decode prog_21_method_7_code 1 = .ok (.lload 6, 2) := by decide +kernel
theorem d3_3 : decode prog_21_method_7_code 3 = .ok (.lcmp, 1) := by decide +kernel
theorem d3_4 : decode prog_21_method_7_code 4 = .ok (.ifCond .ge 14, 3) := by decide +kernel
theorem d3_7 : decode prog_21_method_7_code 7 = .ok (.lload 4, 2) := by decide +kernel
theorem d3_9 : decode prog_21_method_7_code 9 = .ok (.lload_n 2, 1) := by decide +kernel
theorem d3_10 : decode prog_21_method_7_code 10 = .ok (.lcmp, 1) := by decide +kernel
theorem d3_11 : decode prog_21_method_7_code 11 = .ok (.ifCond .ge 7, 3) := by decide +kernel
theorem d3_14 : decode prog_21_method_7_code 14 = .ok (.iconst 1, 1) := by decide +kernel
theorem d3_15 : decode prog_21_method_7_code 15 = .ok (.goto 4, 3) := by decide +kernel
theorem d3_19 : decode prog_21_method_7_code 19 = .ok (.ireturn, 1) := by decide +kernel
theorem pn_3 : plainName "com/example/diarist/diarist/days/NosebleedTimes" = true := by first | (simp [plainName, overriddenIn]; done) | decide +kernel
theorem ef_3 (m : MethodId) (pl1 : Int64) (pl2 : Int64) (pl3 : Int64) (pl4 : Int64) : entryFrame m #[(.long pl1), (.long pl2), (.long pl3), (.long pl4)] 8 = mkF m 0 #[.val (.long pl1), .second, .val (.long pl2), .second, .val (.long pl3), .second, .val (.long pl4), .second] [] := by first | (simp [entryFrame, mkF, argsToLocals, Value.category]; done) | rfl
def Q3_tt (Z : State) (pl1 : Int64) (pl2 : Int64) (pl3 : Int64) (pl4 : Int64) (h0 : Heap) (n0 : Nat) (v : Option Value) (h : Heap) (L : List Loc) : Prop := v = some (.int (1 : Int32)) ∧ Fr n0 L ∧ h = h0
set_option maxRecDepth 65536 in
set_option maxHeartbeats 40000000 in
theorem rm3_tt (l : Launch) (Z : State) (a0 : Array Value) (hw : ∀ d ∈ tables_1, d.before a0 Z = true) (ws : List Jvm.Cond) (pl1 : Int64) (pl2 : Int64) (pl3 : Int64) (pl4 : Int64) (h0 : Heap) (n0 : Nat) (Z0 : n0 ≤ h0.size) (O0 : Old Z n0 h0) (hc4_0 : (lcmpW pl1 pl4) < (0 : Int32)) (hc11_1 : (lcmpW pl3 pl2) < (0 : Int32)) :
    MetFree l (⟨"com/example/diarist/diarist/days/NosebleedTimes", "overlaps", "(JJJJ)Z"⟩ : MethodName) (head1 (Jvm.Cond.code (⟨"com/example/diarist/diarist/days/NosebleedTimes", "overlaps", "(JJJJ)Z"⟩ : MethodName) prog_21_method_7_code 8 (some .boolean) :: ws) ({ frames := 0, cells := 0, slots := 0, locals := 0 } : Room)) (fun a U => a = #[(.long pl1), (.long pl2), (.long pl3), (.long pl4)] ∧ Z.Warmed39 U.vm ∧ U.heap = h0) (fun _ _ _ _ _ => True) (fun _ U o U' => ∃ v L, o = .returned v ∧ Q3_tt Z pl1 pl2 pl3 pl4 h0 n0 v U'.heap L ∧ FrameEnd U o U' L ({ frames := 0, cells := 0, slots := 0, locals := 0 } : Room).cells ({ frames := 0, cells := 0, slots := 0, locals := 0 } : Room).slots) := by
  refine MetFree.of_bodySF (plainFor_of_name pn_3) hisR ?_
  intro p e s m args below meth c s₁ Bd hml0 hP hK
  obtain ⟨rfl, hZ, hh⟩ := hP
  have hx := Bd.exec
  have hby := Bd.bytes
  have hml : c.maxLocals = 8 := hml0
  have hown : s.vm.findClass "com/example/diarist/diarist/days/NosebleedTimes" = some m.cls := findClass_of_methodNamed Bd.named
  have hnm := (name_of_methodNamed Bd.named Bd.method).1
  have X0 : Stand p l e ({ frames := 0, cells := 0, slots := 0, locals := 0 } : Room) s m #[(.long pl1), (.long pl2), (.long pl3), (.long pl4)] below meth c s₁ [] 0 0 := Stand.of_body Bd
  have e0 : s₁.heap = h0 := by rw [← hh, Bd.state]; rfl
  have N0 := Fr.nil n0
  have pre0 : ∀ t, Steps p.tables e below (s₁.setTop (mkF m 0 #[.val (.long pl1), .second, .val (.long pl2), .second, .val (.long pl3), .second, .val (.long pl4), .second] [])) t → Steps p.tables e below (s₁.setTop (entryFrame m #[(.long pl1), (.long pl2), (.long pl3), (.long pl4)] 8)) t := fun t k => castTop (ef_3 m pl1 pl2 pl3 pl4) k
  obtain ⟨fs, hr, hrun, hended, hW, hsame⟩ := X0.leave (v := some (.int (1 : Int32))) (fun h => by rw [Bd.returns] at h; cases h) (by first | exact BodyLoose.notSynchronized Bd | exact Body.notSynchronized Bd)
  refine ⟨_, _, pre0 _ ?_, hrun, hended, _, _, rfl, ?_, ⟨_, rfl⟩, hW, hsame.mono (by decide) (by decide)⟩
  · show Steps p.tables e below (s₁.setTop (mkF m 0 #[.val (.long pl1), .second, .val (.long pl2), .second, .val (.long pl3), .second, .val (.long pl4), .second] [])) _
    refine XS.lloadN X0.here hx rfl (hb hby d3_0) rfl ?_
    show Steps p.tables e below (s₁.setTop (mkF m 1 #[.val (.long pl1), .second, .val (.long pl2), .second, .val (.long pl3), .second, .val (.long pl4), .second] [(.long pl1)])) _
    refine XS.lload X0.here hx rfl (hb hby d3_1) rfl ?_
    show Steps p.tables e below (s₁.setTop (mkF m 3 #[.val (.long pl1), .second, .val (.long pl2), .second, .val (.long pl3), .second, .val (.long pl4), .second] [(.long pl4), (.long pl1)])) _
    refine XS.lcmp X0.here hx rfl (hb hby d3_3) rfl ?_
    show Steps p.tables e below (s₁.setTop (mkF m 4 #[.val (.long pl1), .second, .val (.long pl2), .second, .val (.long pl3), .second, .val (.long pl4), .second] [(.int (lcmpW pl1 pl4))])) _
    refine XS.ifNo X0.here hx rfl (hb hby d3_4) rfl ((if0 _ _).trans (tlt hc4_0).2.1) ?_
    show Steps p.tables e below (s₁.setTop (mkF m 7 #[.val (.long pl1), .second, .val (.long pl2), .second, .val (.long pl3), .second, .val (.long pl4), .second] [])) _
    refine XS.lload X0.here hx rfl (hb hby d3_7) rfl ?_
    show Steps p.tables e below (s₁.setTop (mkF m 9 #[.val (.long pl1), .second, .val (.long pl2), .second, .val (.long pl3), .second, .val (.long pl4), .second] [(.long pl3)])) _
    refine XS.lloadN X0.here hx rfl (hb hby d3_9) rfl ?_
    show Steps p.tables e below (s₁.setTop (mkF m 10 #[.val (.long pl1), .second, .val (.long pl2), .second, .val (.long pl3), .second, .val (.long pl4), .second] [(.long pl2), (.long pl3)])) _
    refine XS.lcmp X0.here hx rfl (hb hby d3_10) rfl ?_
    show Steps p.tables e below (s₁.setTop (mkF m 11 #[.val (.long pl1), .second, .val (.long pl2), .second, .val (.long pl3), .second, .val (.long pl4), .second] [(.int (lcmpW pl3 pl2))])) _
    refine XS.ifNo X0.here hx rfl (hb hby d3_11) rfl ((if0 _ _).trans (tlt hc11_1).2.1) ?_
    show Steps p.tables e below (s₁.setTop (mkF m 14 #[.val (.long pl1), .second, .val (.long pl2), .second, .val (.long pl3), .second, .val (.long pl4), .second] [])) _
    refine XS.iconst X0.here hx rfl (hb hby d3_14) ?_
    show Steps p.tables e below (s₁.setTop (mkF m 15 #[.val (.long pl1), .second, .val (.long pl2), .second, .val (.long pl3), .second, .val (.long pl4), .second] [(.int (1 : Int32))])) _
    refine XS.goto X0.here hx rfl (pc0 := 15) (pc' := 19) rfl (hb hby d3_15) (by decide) (by decide) ?_
    show Steps p.tables e below (s₁.setTop (mkF m 19 #[.val (.long pl1), .second, .val (.long pl2), .second, .val (.long pl3), .second, .val (.long pl4), .second] [(.int (1 : Int32))])) _
    exact retN X0 hx (t := .boolean) Bd.returns (by simp) (hb hby d3_19) hr
  · show Q3_tt Z pl1 pl2 pl3 pl4 h0 n0 _ s₁.heap _
    rw [e0]
    exact ⟨rfl, N0, rfl⟩
theorem d3_18 : decode prog_21_method_7_code 18 = .ok (.iconst 0, 1) := by decide +kernel
def Q3_tf (Z : State) (pl1 : Int64) (pl2 : Int64) (pl3 : Int64) (pl4 : Int64) (h0 : Heap) (n0 : Nat) (v : Option Value) (h : Heap) (L : List Loc) : Prop := v = some (.int (0 : Int32)) ∧ Fr n0 L ∧ h = h0
set_option maxRecDepth 65536 in
set_option maxHeartbeats 40000000 in
theorem rm3_tf (l : Launch) (Z : State) (a0 : Array Value) (hw : ∀ d ∈ tables_1, d.before a0 Z = true) (ws : List Jvm.Cond) (pl1 : Int64) (pl2 : Int64) (pl3 : Int64) (pl4 : Int64) (h0 : Heap) (n0 : Nat) (Z0 : n0 ≤ h0.size) (O0 : Old Z n0 h0) (hc4_0 : (lcmpW pl1 pl4) < (0 : Int32)) (hc11_1 : ¬ ((lcmpW pl3 pl2) < (0 : Int32))) :
    MetFree l (⟨"com/example/diarist/diarist/days/NosebleedTimes", "overlaps", "(JJJJ)Z"⟩ : MethodName) (head1 (Jvm.Cond.code (⟨"com/example/diarist/diarist/days/NosebleedTimes", "overlaps", "(JJJJ)Z"⟩ : MethodName) prog_21_method_7_code 8 (some .boolean) :: ws) ({ frames := 0, cells := 0, slots := 0, locals := 0 } : Room)) (fun a U => a = #[(.long pl1), (.long pl2), (.long pl3), (.long pl4)] ∧ Z.Warmed39 U.vm ∧ U.heap = h0) (fun _ _ _ _ _ => True) (fun _ U o U' => ∃ v L, o = .returned v ∧ Q3_tf Z pl1 pl2 pl3 pl4 h0 n0 v U'.heap L ∧ FrameEnd U o U' L ({ frames := 0, cells := 0, slots := 0, locals := 0 } : Room).cells ({ frames := 0, cells := 0, slots := 0, locals := 0 } : Room).slots) := by
  refine MetFree.of_bodySF (plainFor_of_name pn_3) hisR ?_
  intro p e s m args below meth c s₁ Bd hml0 hP hK
  obtain ⟨rfl, hZ, hh⟩ := hP
  have hx := Bd.exec
  have hby := Bd.bytes
  have hml : c.maxLocals = 8 := hml0
  have hown : s.vm.findClass "com/example/diarist/diarist/days/NosebleedTimes" = some m.cls := findClass_of_methodNamed Bd.named
  have hnm := (name_of_methodNamed Bd.named Bd.method).1
  have X0 : Stand p l e ({ frames := 0, cells := 0, slots := 0, locals := 0 } : Room) s m #[(.long pl1), (.long pl2), (.long pl3), (.long pl4)] below meth c s₁ [] 0 0 := Stand.of_body Bd
  have e0 : s₁.heap = h0 := by rw [← hh, Bd.state]; rfl
  have N0 := Fr.nil n0
  have pre0 : ∀ t, Steps p.tables e below (s₁.setTop (mkF m 0 #[.val (.long pl1), .second, .val (.long pl2), .second, .val (.long pl3), .second, .val (.long pl4), .second] [])) t → Steps p.tables e below (s₁.setTop (entryFrame m #[(.long pl1), (.long pl2), (.long pl3), (.long pl4)] 8)) t := fun t k => castTop (ef_3 m pl1 pl2 pl3 pl4) k
  obtain ⟨fs, hr, hrun, hended, hW, hsame⟩ := X0.leave (v := some (.int (0 : Int32))) (fun h => by rw [Bd.returns] at h; cases h) (by first | exact BodyLoose.notSynchronized Bd | exact Body.notSynchronized Bd)
  refine ⟨_, _, pre0 _ ?_, hrun, hended, _, _, rfl, ?_, ⟨_, rfl⟩, hW, hsame.mono (by decide) (by decide)⟩
  · show Steps p.tables e below (s₁.setTop (mkF m 0 #[.val (.long pl1), .second, .val (.long pl2), .second, .val (.long pl3), .second, .val (.long pl4), .second] [])) _
    refine XS.lloadN X0.here hx rfl (hb hby d3_0) rfl ?_
    show Steps p.tables e below (s₁.setTop (mkF m 1 #[.val (.long pl1), .second, .val (.long pl2), .second, .val (.long pl3), .second, .val (.long pl4), .second] [(.long pl1)])) _
    refine XS.lload X0.here hx rfl (hb hby d3_1) rfl ?_
    show Steps p.tables e below (s₁.setTop (mkF m 3 #[.val (.long pl1), .second, .val (.long pl2), .second, .val (.long pl3), .second, .val (.long pl4), .second] [(.long pl4), (.long pl1)])) _
    refine XS.lcmp X0.here hx rfl (hb hby d3_3) rfl ?_
    show Steps p.tables e below (s₁.setTop (mkF m 4 #[.val (.long pl1), .second, .val (.long pl2), .second, .val (.long pl3), .second, .val (.long pl4), .second] [(.int (lcmpW pl1 pl4))])) _
    refine XS.ifNo X0.here hx rfl (hb hby d3_4) rfl ((if0 _ _).trans (tlt hc4_0).2.1) ?_
    show Steps p.tables e below (s₁.setTop (mkF m 7 #[.val (.long pl1), .second, .val (.long pl2), .second, .val (.long pl3), .second, .val (.long pl4), .second] [])) _
    refine XS.lload X0.here hx rfl (hb hby d3_7) rfl ?_
    show Steps p.tables e below (s₁.setTop (mkF m 9 #[.val (.long pl1), .second, .val (.long pl2), .second, .val (.long pl3), .second, .val (.long pl4), .second] [(.long pl3)])) _
    refine XS.lloadN X0.here hx rfl (hb hby d3_9) rfl ?_
    show Steps p.tables e below (s₁.setTop (mkF m 10 #[.val (.long pl1), .second, .val (.long pl2), .second, .val (.long pl3), .second, .val (.long pl4), .second] [(.long pl2), (.long pl3)])) _
    refine XS.lcmp X0.here hx rfl (hb hby d3_10) rfl ?_
    show Steps p.tables e below (s₁.setTop (mkF m 11 #[.val (.long pl1), .second, .val (.long pl2), .second, .val (.long pl3), .second, .val (.long pl4), .second] [(.int (lcmpW pl3 pl2))])) _
    refine XS.ifYes X0.here hx rfl (pc0 := 11) (pc' := 18) rfl (hb hby d3_11) rfl ((if0 _ _).trans (flt hc11_1).2.1) (by decide) (by decide) ?_
    show Steps p.tables e below (s₁.setTop (mkF m 18 #[.val (.long pl1), .second, .val (.long pl2), .second, .val (.long pl3), .second, .val (.long pl4), .second] [])) _
    refine XS.iconst X0.here hx rfl (hb hby d3_18) ?_
    show Steps p.tables e below (s₁.setTop (mkF m 19 #[.val (.long pl1), .second, .val (.long pl2), .second, .val (.long pl3), .second, .val (.long pl4), .second] [(.int (0 : Int32))])) _
    exact retN X0 hx (t := .boolean) Bd.returns (by simp) (hb hby d3_19) hr
  · show Q3_tf Z pl1 pl2 pl3 pl4 h0 n0 _ s₁.heap _
    rw [e0]
    exact ⟨rfl, N0, rfl⟩
def Q3_f (Z : State) (pl1 : Int64) (pl2 : Int64) (pl3 : Int64) (pl4 : Int64) (h0 : Heap) (n0 : Nat) (v : Option Value) (h : Heap) (L : List Loc) : Prop := v = some (.int (0 : Int32)) ∧ Fr n0 L ∧ h = h0
set_option maxRecDepth 65536 in
set_option maxHeartbeats 40000000 in
theorem rm3_f (l : Launch) (Z : State) (a0 : Array Value) (hw : ∀ d ∈ tables_1, d.before a0 Z = true) (ws : List Jvm.Cond) (pl1 : Int64) (pl2 : Int64) (pl3 : Int64) (pl4 : Int64) (h0 : Heap) (n0 : Nat) (Z0 : n0 ≤ h0.size) (O0 : Old Z n0 h0) (hc4_0 : ¬ ((lcmpW pl1 pl4) < (0 : Int32))) :
    MetFree l (⟨"com/example/diarist/diarist/days/NosebleedTimes", "overlaps", "(JJJJ)Z"⟩ : MethodName) (head1 (Jvm.Cond.code (⟨"com/example/diarist/diarist/days/NosebleedTimes", "overlaps", "(JJJJ)Z"⟩ : MethodName) prog_21_method_7_code 8 (some .boolean) :: ws) ({ frames := 0, cells := 0, slots := 0, locals := 0 } : Room)) (fun a U => a = #[(.long pl1), (.long pl2), (.long pl3), (.long pl4)] ∧ Z.Warmed39 U.vm ∧ U.heap = h0) (fun _ _ _ _ _ => True) (fun _ U o U' => ∃ v L, o = .returned v ∧ Q3_f Z pl1 pl2 pl3 pl4 h0 n0 v U'.heap L ∧ FrameEnd U o U' L ({ frames := 0, cells := 0, slots := 0, locals := 0 } : Room).cells ({ frames := 0, cells := 0, slots := 0, locals := 0 } : Room).slots) := by
  refine MetFree.of_bodySF (plainFor_of_name pn_3) hisR ?_
  intro p e s m args below meth c s₁ Bd hml0 hP hK
  obtain ⟨rfl, hZ, hh⟩ := hP
  have hx := Bd.exec
  have hby := Bd.bytes
  have hml : c.maxLocals = 8 := hml0
  have hown : s.vm.findClass "com/example/diarist/diarist/days/NosebleedTimes" = some m.cls := findClass_of_methodNamed Bd.named
  have hnm := (name_of_methodNamed Bd.named Bd.method).1
  have X0 : Stand p l e ({ frames := 0, cells := 0, slots := 0, locals := 0 } : Room) s m #[(.long pl1), (.long pl2), (.long pl3), (.long pl4)] below meth c s₁ [] 0 0 := Stand.of_body Bd
  have e0 : s₁.heap = h0 := by rw [← hh, Bd.state]; rfl
  have N0 := Fr.nil n0
  have pre0 : ∀ t, Steps p.tables e below (s₁.setTop (mkF m 0 #[.val (.long pl1), .second, .val (.long pl2), .second, .val (.long pl3), .second, .val (.long pl4), .second] [])) t → Steps p.tables e below (s₁.setTop (entryFrame m #[(.long pl1), (.long pl2), (.long pl3), (.long pl4)] 8)) t := fun t k => castTop (ef_3 m pl1 pl2 pl3 pl4) k
  obtain ⟨fs, hr, hrun, hended, hW, hsame⟩ := X0.leave (v := some (.int (0 : Int32))) (fun h => by rw [Bd.returns] at h; cases h) (by first | exact BodyLoose.notSynchronized Bd | exact Body.notSynchronized Bd)
  refine ⟨_, _, pre0 _ ?_, hrun, hended, _, _, rfl, ?_, ⟨_, rfl⟩, hW, hsame.mono (by decide) (by decide)⟩
  · show Steps p.tables e below (s₁.setTop (mkF m 0 #[.val (.long pl1), .second, .val (.long pl2), .second, .val (.long pl3), .second, .val (.long pl4), .second] [])) _
    refine XS.lloadN X0.here hx rfl (hb hby d3_0) rfl ?_
    show Steps p.tables e below (s₁.setTop (mkF m 1 #[.val (.long pl1), .second, .val (.long pl2), .second, .val (.long pl3), .second, .val (.long pl4), .second] [(.long pl1)])) _
    refine XS.lload X0.here hx rfl (hb hby d3_1) rfl ?_
    show Steps p.tables e below (s₁.setTop (mkF m 3 #[.val (.long pl1), .second, .val (.long pl2), .second, .val (.long pl3), .second, .val (.long pl4), .second] [(.long pl4), (.long pl1)])) _
    refine XS.lcmp X0.here hx rfl (hb hby d3_3) rfl ?_
    show Steps p.tables e below (s₁.setTop (mkF m 4 #[.val (.long pl1), .second, .val (.long pl2), .second, .val (.long pl3), .second, .val (.long pl4), .second] [(.int (lcmpW pl1 pl4))])) _
    refine XS.ifYes X0.here hx rfl (pc0 := 4) (pc' := 18) rfl (hb hby d3_4) rfl ((if0 _ _).trans (flt hc4_0).2.1) (by decide) (by decide) ?_
    show Steps p.tables e below (s₁.setTop (mkF m 18 #[.val (.long pl1), .second, .val (.long pl2), .second, .val (.long pl3), .second, .val (.long pl4), .second] [])) _
    refine XS.iconst X0.here hx rfl (hb hby d3_18) ?_
    show Steps p.tables e below (s₁.setTop (mkF m 19 #[.val (.long pl1), .second, .val (.long pl2), .second, .val (.long pl3), .second, .val (.long pl4), .second] [(.int (0 : Int32))])) _
    exact retN X0 hx (t := .boolean) Bd.returns (by simp) (hb hby d3_19) hr
  · show Q3_f Z pl1 pl2 pl3 pl4 h0 n0 _ s₁.heap _
    rw [e0]
    exact ⟨rfl, N0, rfl⟩
def own_ov (pl1 : Int64) (pl2 : Int64) (pl3 : Int64) (pl4 : Int64) : Int32 := (if (lcmpW pl1 pl4) < (0 : Int32) then (if (lcmpW pl3 pl2) < (0 : Int32) then (1 : Int32) else (0 : Int32)) else (0 : Int32))
def Q3m (Z : State) (pl1 : Int64) (pl2 : Int64) (pl3 : Int64) (pl4 : Int64) (h0 : Heap) (n0 : Nat) (v : Option Value) (h : Heap) (L : List Loc) : Prop := v = some (.int (own_ov pl1 pl2 pl3 pl4)) ∧ Fr n0 L ∧ h = h0
set_option maxRecDepth 65536 in
theorem rm3m (l : Launch) (Z : State) (a0 : Array Value) (hw : ∀ d ∈ tables_1, d.before a0 Z = true) (ws : List Jvm.Cond) (pl1 : Int64) (pl2 : Int64) (pl3 : Int64) (pl4 : Int64) (h0 : Heap) (n0 : Nat) (Z0 : n0 ≤ h0.size) (O0 : Old Z n0 h0) :
    MetFree l (⟨"com/example/diarist/diarist/days/NosebleedTimes", "overlaps", "(JJJJ)Z"⟩ : MethodName) (head1 (Jvm.Cond.code (⟨"com/example/diarist/diarist/days/NosebleedTimes", "overlaps", "(JJJJ)Z"⟩ : MethodName) prog_21_method_7_code 8 (some .boolean) :: ws) ({ frames := 0, cells := 0, slots := 0, locals := 0 } : Room)) (fun a U => a = #[(.long pl1), (.long pl2), (.long pl3), (.long pl4)] ∧ Z.Warmed39 U.vm ∧ U.heap = h0) (fun _ _ _ _ _ => True) (fun _ U o U' => ∃ v L, o = .returned v ∧ Q3m Z pl1 pl2 pl3 pl4 h0 n0 v U'.heap L ∧ FrameEnd U o U' L ({ frames := 0, cells := 0, slots := 0, locals := 0 } : Room).cells ({ frames := 0, cells := 0, slots := 0, locals := 0 } : Room).slots) := by
  by_cases H1 : (lcmpW pl1 pl4) < (0 : Int32)
  · by_cases H2 : (lcmpW pl3 pl2) < (0 : Int32)
    · have e : (own_ov pl1 pl2 pl3 pl4) = (1 : Int32) := by unfold own_ov; rw [if_pos H1, if_pos H2]
      show MetFree l (⟨"com/example/diarist/diarist/days/NosebleedTimes", "overlaps", "(JJJJ)Z"⟩ : MethodName) (head1 (Jvm.Cond.code (⟨"com/example/diarist/diarist/days/NosebleedTimes", "overlaps", "(JJJJ)Z"⟩ : MethodName) prog_21_method_7_code 8 (some .boolean) :: ws) ({ frames := 0, cells := 0, slots := 0, locals := 0 } : Room)) (fun a U => a = #[(.long pl1), (.long pl2), (.long pl3), (.long pl4)] ∧ Z.Warmed39 U.vm ∧ U.heap = h0) (fun _ _ _ _ _ => True) (fun _ U o U' => ∃ v L, o = .returned v ∧ (v = some (.int (own_ov pl1 pl2 pl3 pl4)) ∧ Fr n0 L ∧ U'.heap = h0) ∧ FrameEnd U o U' L ({ frames := 0, cells := 0, slots := 0, locals := 0 } : Room).cells ({ frames := 0, cells := 0, slots := 0, locals := 0 } : Room).slots)
      rw [e]
      exact rm3_tt l Z a0 hw ws pl1 pl2 pl3 pl4 h0 n0 Z0 O0  H1 H2
    · have e : (own_ov pl1 pl2 pl3 pl4) = (0 : Int32) := by unfold own_ov; rw [if_pos H1, if_neg H2]
      show MetFree l (⟨"com/example/diarist/diarist/days/NosebleedTimes", "overlaps", "(JJJJ)Z"⟩ : MethodName) (head1 (Jvm.Cond.code (⟨"com/example/diarist/diarist/days/NosebleedTimes", "overlaps", "(JJJJ)Z"⟩ : MethodName) prog_21_method_7_code 8 (some .boolean) :: ws) ({ frames := 0, cells := 0, slots := 0, locals := 0 } : Room)) (fun a U => a = #[(.long pl1), (.long pl2), (.long pl3), (.long pl4)] ∧ Z.Warmed39 U.vm ∧ U.heap = h0) (fun _ _ _ _ _ => True) (fun _ U o U' => ∃ v L, o = .returned v ∧ (v = some (.int (own_ov pl1 pl2 pl3 pl4)) ∧ Fr n0 L ∧ U'.heap = h0) ∧ FrameEnd U o U' L ({ frames := 0, cells := 0, slots := 0, locals := 0 } : Room).cells ({ frames := 0, cells := 0, slots := 0, locals := 0 } : Room).slots)
      rw [e]
      exact rm3_tf l Z a0 hw ws pl1 pl2 pl3 pl4 h0 n0 Z0 O0  H1 H2
  · have e : (own_ov pl1 pl2 pl3 pl4) = (0 : Int32) := by unfold own_ov; rw [if_neg H1]
    show MetFree l (⟨"com/example/diarist/diarist/days/NosebleedTimes", "overlaps", "(JJJJ)Z"⟩ : MethodName) (head1 (Jvm.Cond.code (⟨"com/example/diarist/diarist/days/NosebleedTimes", "overlaps", "(JJJJ)Z"⟩ : MethodName) prog_21_method_7_code 8 (some .boolean) :: ws) ({ frames := 0, cells := 0, slots := 0, locals := 0 } : Room)) (fun a U => a = #[(.long pl1), (.long pl2), (.long pl3), (.long pl4)] ∧ Z.Warmed39 U.vm ∧ U.heap = h0) (fun _ _ _ _ _ => True) (fun _ U o U' => ∃ v L, o = .returned v ∧ (v = some (.int (own_ov pl1 pl2 pl3 pl4)) ∧ Fr n0 L ∧ U'.heap = h0) ∧ FrameEnd U o U' L ({ frames := 0, cells := 0, slots := 0, locals := 0 } : Room).cells ({ frames := 0, cells := 0, slots := 0, locals := 0 } : Room).slots)
    rw [e]
    exact rm3_f l Z a0 hw ws pl1 pl2 pl3 pl4 h0 n0 Z0 O0  H1
theorem own_minI (a b : Int64) : (own_min a b).toInt = min a.toInt b.toInt := by
  unfold own_min
  by_cases h : (0 : Int32) < lcmpW a b
  · rw [if_pos h]; rw [lcW, lc_gt, Int64.lt_iff_toInt_lt] at h; omega
  · rw [if_neg h]; rw [lcW, lc_gt, Int64.lt_iff_toInt_lt] at h; omega
theorem own_maxI (a b : Int64) : (own_max a b).toInt = max a.toInt b.toInt := by
  unfold own_max
  by_cases h : lcmpW a b < (0 : Int32)
  · rw [if_pos h]; rw [lcW, lc_lt, Int64.lt_iff_toInt_lt] at h; omega
  · rw [if_neg h]; rw [lcW, lc_lt, Int64.lt_iff_toInt_lt] at h; omega
theorem own_ov1 (a b c d : Int64) (h : a.toInt < d.toInt ∧ c.toInt < b.toInt) : own_ov a b c d = 1 := by
  unfold own_ov
  rw [if_pos (by rw [lcW, lc_lt, Int64.lt_iff_toInt_lt]; exact h.1), if_pos (by rw [lcW, lc_lt, Int64.lt_iff_toInt_lt]; exact h.2)]
theorem own_ov0 (a b c d : Int64) (h : ¬ (a.toInt < d.toInt ∧ c.toInt < b.toInt)) : own_ov a b c d = 0 := by
  unfold own_ov
  by_cases q : lcmpW a d < (0 : Int32)
  · rw [if_pos q]
    rw [lcW, lc_lt, Int64.lt_iff_toInt_lt] at q
    rw [if_neg (by rw [lcW, lc_lt, Int64.lt_iff_toInt_lt]; exact fun r => h ⟨q, r⟩)]
  · rw [if_neg q]
theorem own_t {a b c d : Int64} (h1 : ¬ lcmpW a b = (0 : Int32)) (h2 : ¬ lcmpW c d = (0 : Int32)) (h3 : lcmpW (own_max (own_min a b) (own_min c d)) (own_min (own_max a b) (own_max c d)) < (0 : Int32)) :
    own_ov (own_min a b) (own_max a b) (own_min c d) (own_max c d) = 1 ∧ own_ov (own_min c d) (own_max c d) (own_min a b) (own_max a b) = 1 := by
  rw [lcW, lc_eq, ← Int64.toInt_inj] at h1 h2
  rw [lcW, lc_lt, Int64.lt_iff_toInt_lt, own_maxI, own_minI, own_minI, own_minI, own_maxI, own_maxI] at h3
  refine ⟨own_ov1 _ _ _ _ ?_, own_ov1 _ _ _ _ ?_⟩ <;> simp only [own_minI, own_maxI] <;> omega
theorem own_f {a b c d : Int64} (h1 : ¬ lcmpW a b = (0 : Int32)) (h2 : ¬ lcmpW c d = (0 : Int32)) (h3 : ¬ lcmpW (own_max (own_min a b) (own_min c d)) (own_min (own_max a b) (own_max c d)) < (0 : Int32)) :
    own_ov (own_min a b) (own_max a b) (own_min c d) (own_max c d) = 0 ∧ own_ov (own_min c d) (own_max c d) (own_min a b) (own_max a b) = 0 := by
  rw [lcW, lc_eq, ← Int64.toInt_inj] at h1 h2
  rw [lcW, lc_lt, Int64.lt_iff_toInt_lt, own_maxI, own_minI, own_minI, own_minI, own_maxI, own_maxI] at h3
  refine ⟨own_ov0 _ _ _ _ ?_, own_ov0 _ _ _ _ ?_⟩ <;> simp only [own_minI, own_maxI] <;> omega
theorem pn_0 : plainName "com/example/diarist/diarist/days/NosebleedTimesOverlapsPinLaw" = true := by first | (simp [plainName, overriddenIn]; done) | decide +kernel
theorem ef_0 (m : MethodId) (pl1 : Int64) (pl2 : Int64) (pl3 : Int64) (pl4 : Int64) : entryFrame m #[(.long pl1), (.long pl2), (.long pl3), (.long pl4)] maxLocals = mkF m 0 #[.val (.long pl1), .second, .val (.long pl2), .second, .val (.long pl3), .second, .val (.long pl4), .second, .unset, .unset, .unset, .unset, .unset, .unset, .unset, .unset, .unset, .unset, .unset] [] := by first | (simp [entryFrame, mkF, argsToLocals, Value.category, maxLocals]; done) | rfl
def Q0 (v : Option Value) (L : List Loc) (n0 : Nat) : Prop := v = some (.int (1 : Int32)) ∧ Fr n0 L
set_option maxRecDepth 65536 in
set_option maxHeartbeats 40000000 in
theorem rm0_t (l : Launch) (Z : State) (a0 : Array Value) (hw : ∀ d ∈ tables_1, d.before a0 Z = true) (ws : List Jvm.Cond) (pl1 : Int64) (pl2 : Int64) (pl3 : Int64) (pl4 : Int64) (h0 : Heap) (n0 : Nat) (Z0 : n0 ≤ h0.size) (O0 : Old Z n0 h0) (hc3_0 : (lcmpW pl1 pl2) = (0 : Int32)) :
    MetFree l x (head1 (Jvm.Cond.code x code maxLocals ret :: ws) room_1) (fun a U => a = #[(.long pl1), (.long pl2), (.long pl3), (.long pl4)] ∧ Z.Warmed39 U.vm ∧ U.heap = h0) (fun _ _ _ _ _ => True) (fun _ U o U' => ∃ v L, o = .returned v ∧ Q0 v L n0 ∧ FrameEnd U o U' L room_1.cells room_1.slots) := by
  refine MetFree.of_bodySF (plainFor_of_name pn_0) hisR ?_
  intro p e s m args below meth c s₁ Bd hml0 hP hK
  obtain ⟨rfl, hZ, hh⟩ := hP
  have hx := Bd.exec
  have hby := Bd.bytes
  have hml : c.maxLocals = 19 := hml0
  have hown : s.vm.findClass "com/example/diarist/diarist/days/NosebleedTimesOverlapsPinLaw" = some m.cls := findClass_of_methodNamed Bd.named
  have hnm := (name_of_methodNamed Bd.named Bd.method).1
  have X0 : Stand p l e room_1 s m #[(.long pl1), (.long pl2), (.long pl3), (.long pl4)] below meth c s₁ [] 0 0 := Stand.of_body Bd
  have e0 : s₁.heap = h0 := by rw [← hh, Bd.state]; rfl
  have N0 := Fr.nil n0
  have pre0 : ∀ t, Steps p.tables e below (s₁.setTop (mkF m 0 #[.val (.long pl1), .second, .val (.long pl2), .second, .val (.long pl3), .second, .val (.long pl4), .second, .unset, .unset, .unset, .unset, .unset, .unset, .unset, .unset, .unset, .unset, .unset] [])) t → Steps p.tables e below (s₁.setTop (entryFrame m #[(.long pl1), (.long pl2), (.long pl3), (.long pl4)] maxLocals)) t := fun t k => castTop (ef_0 m pl1 pl2 pl3 pl4) k
  obtain ⟨fs, hr, hrun, hended, hW, hsame⟩ := X0.leave (v := some (.int (1 : Int32))) (fun h => by rw [Bd.returns] at h; cases h) (by first | exact BodyLoose.notSynchronized Bd | exact Body.notSynchronized Bd)
  refine ⟨_, _, pre0 _ ?_, hrun, hended, _, _, rfl, ?_, ⟨_, rfl⟩, hW, hsame.mono (by decide) (by decide)⟩
  · show Steps p.tables e below (s₁.setTop (mkF m 0 #[.val (.long pl1), .second, .val (.long pl2), .second, .val (.long pl3), .second, .val (.long pl4), .second, .unset, .unset, .unset, .unset, .unset, .unset, .unset, .unset, .unset, .unset, .unset] [])) _
    refine XS.lloadN X0.here hx rfl (hb hby at_0) rfl ?_
    show Steps p.tables e below (s₁.setTop (mkF m 1 #[.val (.long pl1), .second, .val (.long pl2), .second, .val (.long pl3), .second, .val (.long pl4), .second, .unset, .unset, .unset, .unset, .unset, .unset, .unset, .unset, .unset, .unset, .unset] [(.long pl1)])) _
    refine XS.lloadN X0.here hx rfl (hb hby at_1) rfl ?_
    show Steps p.tables e below (s₁.setTop (mkF m 2 #[.val (.long pl1), .second, .val (.long pl2), .second, .val (.long pl3), .second, .val (.long pl4), .second, .unset, .unset, .unset, .unset, .unset, .unset, .unset, .unset, .unset, .unset, .unset] [(.long pl2), (.long pl1)])) _
    refine XS.lcmp X0.here hx rfl (hb hby at_2) rfl ?_
    show Steps p.tables e below (s₁.setTop (mkF m 3 #[.val (.long pl1), .second, .val (.long pl2), .second, .val (.long pl3), .second, .val (.long pl4), .second, .unset, .unset, .unset, .unset, .unset, .unset, .unset, .unset, .unset, .unset, .unset] [(.int (lcmpW pl1 pl2))])) _
    refine XS.ifYes X0.here hx rfl (pc0 := 3) (pc' := 14) rfl (hb hby at_3) rfl ((if0 _ _).trans (teq hc3_0).1) (by decide) (by decide) ?_
    show Steps p.tables e below (s₁.setTop (mkF m 14 #[.val (.long pl1), .second, .val (.long pl2), .second, .val (.long pl3), .second, .val (.long pl4), .second, .unset, .unset, .unset, .unset, .unset, .unset, .unset, .unset, .unset, .unset, .unset] [])) _
    refine XS.iconst X0.here hx rfl (hb hby at_14) ?_
    show Steps p.tables e below (s₁.setTop (mkF m 15 #[.val (.long pl1), .second, .val (.long pl2), .second, .val (.long pl3), .second, .val (.long pl4), .second, .unset, .unset, .unset, .unset, .unset, .unset, .unset, .unset, .unset, .unset, .unset] [(.int (1 : Int32))])) _
    exact retN X0 hx (t := .boolean) Bd.returns (by simp) (hb hby at_15) hr
  · exact ⟨rfl, N0⟩
set_option maxRecDepth 65536 in
set_option maxHeartbeats 40000000 in
theorem rm0_ft (l : Launch) (Z : State) (a0 : Array Value) (hw : ∀ d ∈ tables_1, d.before a0 Z = true) (ws : List Jvm.Cond) (pl1 : Int64) (pl2 : Int64) (pl3 : Int64) (pl4 : Int64) (h0 : Heap) (n0 : Nat) (Z0 : n0 ≤ h0.size) (O0 : Old Z n0 h0) (hc3_0 : ¬ ((lcmpW pl1 pl2) = (0 : Int32))) (hc11_1 : (lcmpW pl3 pl4) = (0 : Int32)) :
    MetFree l x (head1 (Jvm.Cond.code x code maxLocals ret :: ws) room_1) (fun a U => a = #[(.long pl1), (.long pl2), (.long pl3), (.long pl4)] ∧ Z.Warmed39 U.vm ∧ U.heap = h0) (fun _ _ _ _ _ => True) (fun _ U o U' => ∃ v L, o = .returned v ∧ Q0 v L n0 ∧ FrameEnd U o U' L room_1.cells room_1.slots) := by
  refine MetFree.of_bodySF (plainFor_of_name pn_0) hisR ?_
  intro p e s m args below meth c s₁ Bd hml0 hP hK
  obtain ⟨rfl, hZ, hh⟩ := hP
  have hx := Bd.exec
  have hby := Bd.bytes
  have hml : c.maxLocals = 19 := hml0
  have hown : s.vm.findClass "com/example/diarist/diarist/days/NosebleedTimesOverlapsPinLaw" = some m.cls := findClass_of_methodNamed Bd.named
  have hnm := (name_of_methodNamed Bd.named Bd.method).1
  have X0 : Stand p l e room_1 s m #[(.long pl1), (.long pl2), (.long pl3), (.long pl4)] below meth c s₁ [] 0 0 := Stand.of_body Bd
  have e0 : s₁.heap = h0 := by rw [← hh, Bd.state]; rfl
  have N0 := Fr.nil n0
  have pre0 : ∀ t, Steps p.tables e below (s₁.setTop (mkF m 0 #[.val (.long pl1), .second, .val (.long pl2), .second, .val (.long pl3), .second, .val (.long pl4), .second, .unset, .unset, .unset, .unset, .unset, .unset, .unset, .unset, .unset, .unset, .unset] [])) t → Steps p.tables e below (s₁.setTop (entryFrame m #[(.long pl1), (.long pl2), (.long pl3), (.long pl4)] maxLocals)) t := fun t k => castTop (ef_0 m pl1 pl2 pl3 pl4) k
  obtain ⟨fs, hr, hrun, hended, hW, hsame⟩ := X0.leave (v := some (.int (1 : Int32))) (fun h => by rw [Bd.returns] at h; cases h) (by first | exact BodyLoose.notSynchronized Bd | exact Body.notSynchronized Bd)
  refine ⟨_, _, pre0 _ ?_, hrun, hended, _, _, rfl, ?_, ⟨_, rfl⟩, hW, hsame.mono (by decide) (by decide)⟩
  · show Steps p.tables e below (s₁.setTop (mkF m 0 #[.val (.long pl1), .second, .val (.long pl2), .second, .val (.long pl3), .second, .val (.long pl4), .second, .unset, .unset, .unset, .unset, .unset, .unset, .unset, .unset, .unset, .unset, .unset] [])) _
    refine XS.lloadN X0.here hx rfl (hb hby at_0) rfl ?_
    show Steps p.tables e below (s₁.setTop (mkF m 1 #[.val (.long pl1), .second, .val (.long pl2), .second, .val (.long pl3), .second, .val (.long pl4), .second, .unset, .unset, .unset, .unset, .unset, .unset, .unset, .unset, .unset, .unset, .unset] [(.long pl1)])) _
    refine XS.lloadN X0.here hx rfl (hb hby at_1) rfl ?_
    show Steps p.tables e below (s₁.setTop (mkF m 2 #[.val (.long pl1), .second, .val (.long pl2), .second, .val (.long pl3), .second, .val (.long pl4), .second, .unset, .unset, .unset, .unset, .unset, .unset, .unset, .unset, .unset, .unset, .unset] [(.long pl2), (.long pl1)])) _
    refine XS.lcmp X0.here hx rfl (hb hby at_2) rfl ?_
    show Steps p.tables e below (s₁.setTop (mkF m 3 #[.val (.long pl1), .second, .val (.long pl2), .second, .val (.long pl3), .second, .val (.long pl4), .second, .unset, .unset, .unset, .unset, .unset, .unset, .unset, .unset, .unset, .unset, .unset] [(.int (lcmpW pl1 pl2))])) _
    refine XS.ifNo X0.here hx rfl (hb hby at_3) rfl ((if0 _ _).trans (feq hc3_0).1) ?_
    show Steps p.tables e below (s₁.setTop (mkF m 6 #[.val (.long pl1), .second, .val (.long pl2), .second, .val (.long pl3), .second, .val (.long pl4), .second, .unset, .unset, .unset, .unset, .unset, .unset, .unset, .unset, .unset, .unset, .unset] [])) _
    refine XS.lload X0.here hx rfl (hb hby at_6) rfl ?_
    show Steps p.tables e below (s₁.setTop (mkF m 8 #[.val (.long pl1), .second, .val (.long pl2), .second, .val (.long pl3), .second, .val (.long pl4), .second, .unset, .unset, .unset, .unset, .unset, .unset, .unset, .unset, .unset, .unset, .unset] [(.long pl3)])) _
    refine XS.lload X0.here hx rfl (hb hby at_8) rfl ?_
    show Steps p.tables e below (s₁.setTop (mkF m 10 #[.val (.long pl1), .second, .val (.long pl2), .second, .val (.long pl3), .second, .val (.long pl4), .second, .unset, .unset, .unset, .unset, .unset, .unset, .unset, .unset, .unset, .unset, .unset] [(.long pl4), (.long pl3)])) _
    refine XS.lcmp X0.here hx rfl (hb hby at_10) rfl ?_
    show Steps p.tables e below (s₁.setTop (mkF m 11 #[.val (.long pl1), .second, .val (.long pl2), .second, .val (.long pl3), .second, .val (.long pl4), .second, .unset, .unset, .unset, .unset, .unset, .unset, .unset, .unset, .unset, .unset, .unset] [(.int (lcmpW pl3 pl4))])) _
    refine XS.ifNo X0.here hx rfl (hb hby at_11) rfl ((if0 _ _).trans (teq hc11_1).2) ?_
    show Steps p.tables e below (s₁.setTop (mkF m 14 #[.val (.long pl1), .second, .val (.long pl2), .second, .val (.long pl3), .second, .val (.long pl4), .second, .unset, .unset, .unset, .unset, .unset, .unset, .unset, .unset, .unset, .unset, .unset] [])) _
    refine XS.iconst X0.here hx rfl (hb hby at_14) ?_
    show Steps p.tables e below (s₁.setTop (mkF m 15 #[.val (.long pl1), .second, .val (.long pl2), .second, .val (.long pl3), .second, .val (.long pl4), .second, .unset, .unset, .unset, .unset, .unset, .unset, .unset, .unset, .unset, .unset, .unset] [(.int (1 : Int32))])) _
    exact retN X0 hx (t := .boolean) Bd.returns (by simp) (hb hby at_15) hr
  · exact ⟨rfl, N0⟩
theorem pd_0 : parseMethodDescriptor "(JJ)J" = some ⟨[.long, .long], some .long⟩ := by decide +kernel
theorem pd_1 : parseMethodDescriptor "(JJJJ)Z" = some ⟨[.long, .long, .long, .long], some .boolean⟩ := by decide +kernel
set_option maxRecDepth 65536 in
set_option maxHeartbeats 40000000 in
theorem rm0_fft (l : Launch) (Z : State) (a0 : Array Value) (hw : ∀ d ∈ tables_1, d.before a0 Z = true) (ws : List Jvm.Cond) (pl1 : Int64) (pl2 : Int64) (pl3 : Int64) (pl4 : Int64) (h0 : Heap) (n0 : Nat) (Z0 : n0 ≤ h0.size) (O0 : Old Z n0 h0) (hc3_0 : ¬ ((lcmpW pl1 pl2) = (0 : Int32))) (hc11_1 : ¬ ((lcmpW pl3 pl4) = (0 : Int32))) (hc63_2 : (lcmpW (own_max (own_min pl1 pl2) (own_min pl3 pl4)) (own_min (own_max pl1 pl2) (own_max pl3 pl4))) < (0 : Int32)) :
    MetFree l x (head1 (Jvm.Cond.code x code maxLocals ret :: ws) room_1) (fun a U => a = #[(.long pl1), (.long pl2), (.long pl3), (.long pl4)] ∧ Z.Warmed39 U.vm ∧ U.heap = h0) (fun _ _ _ _ _ => True) (fun _ U o U' => ∃ v L, o = .returned v ∧ Q0 v L n0 ∧ FrameEnd U o U' L room_1.cells room_1.slots) := by
  refine MetFree.of_bodySF (plainFor_of_name pn_0) hisR ?_
  intro p e s m args below meth c s₁ Bd hml0 hP hK
  obtain ⟨rfl, hZ, hh⟩ := hP
  have hx := Bd.exec
  have hby := Bd.bytes
  have hml : c.maxLocals = 19 := hml0
  have hown : s.vm.findClass "com/example/diarist/diarist/days/NosebleedTimesOverlapsPinLaw" = some m.cls := findClass_of_methodNamed Bd.named
  have hnm := (name_of_methodNamed Bd.named Bd.method).1
  have X0 : Stand p l e room_1 s m #[(.long pl1), (.long pl2), (.long pl3), (.long pl4)] below meth c s₁ [] 0 0 := Stand.of_body Bd
  have e0 : s₁.heap = h0 := by rw [← hh, Bd.state]; rfl
  have N0 := Fr.nil n0
  have pre0 : ∀ t, Steps p.tables e below (s₁.setTop (mkF m 0 #[.val (.long pl1), .second, .val (.long pl2), .second, .val (.long pl3), .second, .val (.long pl4), .second, .unset, .unset, .unset, .unset, .unset, .unset, .unset, .unset, .unset, .unset, .unset] [])) t → Steps p.tables e below (s₁.setTop (entryFrame m #[(.long pl1), (.long pl2), (.long pl3), (.long pl4)] maxLocals)) t := fun t k => castTop (ef_0 m pl1 pl2 pl3 pl4) k
  obtain ⟨_, _, ⟨T1, L1, k1, n1⟩, -, X1, ⟨Lc1, hQ1, l1, y1, z1⟩, st1⟩ := Jvm.LawKit.callS X0 hx (y := (⟨"java/lang/Math", "min", "(JJ)J"⟩ : MethodName)) hown (mvT hZ (hw _ (List.mem_of_getElem? (i := 0) rfl))) (mvT hZ (hw _ (List.mem_of_getElem? (i := 1) rfl))) (mvT hZ (hw _ (List.mem_of_getElem? (i := 2) rfl))) (mvT hZ (hw _ (List.mem_of_getElem? (i := 3) rfl))) (by decide) (backOf (W := 0) (rm1m l Z a0 hw [] pl1 pl2 h0 n0 Z0 O0 ) hZ (hw _ (List.mem_of_getElem? (i := 3) rfl)) (hw _ (List.mem_of_getElem? (i := 2) rfl)) (by decide) (by decide)) (g := (mkF m 18 #[.val (.long pl1), .second, .val (.long pl2), .second, .val (.long pl3), .second, .val (.long pl4), .second, .unset, .unset, .unset, .unset, .unset, .unset, .unset, .unset, .unset, .unset, .unset] [(.long pl2), (.long pl1)])) rfl (by rw [hml]; rfl) (argsL := [(.long pl1), (.long pl2)]) (rest := []) (lenOf pd_0 rfl) rfl (by show 2 * 0 + _ ≤ _; exact Nat.le_of_eq rfl) (hb hby at_18) (fun _ _ => ⟨rfl, e0, (by decide : 0 + 0 ≤ _), (by decide : 0 + 0 ≤ _)⟩)
  dsimp only [Pt.U, Pt.locs, Pt.cells, Pt.slots] at X1 l1 y1 z1 st1 hQ1
  subst l1 y1 z1
  obtain ⟨rfl, N1q, eq1⟩ := hQ1
  have N1 := Fr.app N0 N1q
  obtain ⟨_, _, ⟨T2, L2, k2, n2⟩, -, X2, ⟨Lc2, hQ2, l2, y2, z2⟩, st2⟩ := Jvm.LawKit.callS X1 hx (y := (⟨"java/lang/Math", "max", "(JJ)J"⟩ : MethodName)) hown (mvT hZ (hw _ (List.mem_of_getElem? (i := 4) rfl))) (mvT hZ (hw _ (List.mem_of_getElem? (i := 5) rfl))) (mvT hZ (hw _ (List.mem_of_getElem? (i := 2) rfl))) (mvT hZ (hw _ (List.mem_of_getElem? (i := 6) rfl))) (by decide) (backOf (W := 0) (rm2m l Z a0 hw [] pl1 pl2 h0 n0 Z0 O0 ) hZ (hw _ (List.mem_of_getElem? (i := 6) rfl)) (hw _ (List.mem_of_getElem? (i := 2) rfl)) (by decide) (by decide)) (g := (mkF m 25 #[.val (.long pl1), .second, .val (.long pl2), .second, .val (.long pl3), .second, .val (.long pl4), .second, .val (.long (own_min pl1 pl2)), .second, .unset, .unset, .unset, .unset, .unset, .unset, .unset, .unset, .unset] [(.long pl2), (.long pl1)])) rfl (by rw [hml]; rfl) (argsL := [(.long pl1), (.long pl2)]) (rest := []) (lenOf pd_0 rfl) rfl (by show 2 * 0 + _ ≤ _; exact Nat.le_of_eq rfl) (hb hby at_25) (fun _ _ => ⟨rfl, eq1, (by decide : 0 + 0 ≤ _), (by decide : 0 + 0 ≤ _)⟩)
  dsimp only [Pt.U, Pt.locs, Pt.cells, Pt.slots] at X2 l2 y2 z2 st2 hQ2
  subst l2 y2 z2
  obtain ⟨rfl, N2q, eq2⟩ := hQ2
  have N2 := Fr.app N1 N2q
  obtain ⟨_, _, ⟨T3, L3, k3, n3⟩, -, X3, ⟨Lc3, hQ3, l3, y3, z3⟩, st3⟩ := Jvm.LawKit.callS X2 hx (y := (⟨"java/lang/Math", "min", "(JJ)J"⟩ : MethodName)) hown (mvT hZ (hw _ (List.mem_of_getElem? (i := 0) rfl))) (mvT hZ (hw _ (List.mem_of_getElem? (i := 1) rfl))) (mvT hZ (hw _ (List.mem_of_getElem? (i := 2) rfl))) (mvT hZ (hw _ (List.mem_of_getElem? (i := 3) rfl))) (by decide) (backOf (W := 0) (rm1m l Z a0 hw [] pl3 pl4 h0 n0 Z0 O0 ) hZ (hw _ (List.mem_of_getElem? (i := 3) rfl)) (hw _ (List.mem_of_getElem? (i := 2) rfl)) (by decide) (by decide)) (g := (mkF m 34 #[.val (.long pl1), .second, .val (.long pl2), .second, .val (.long pl3), .second, .val (.long pl4), .second, .val (.long (own_min pl1 pl2)), .second, .val (.long (own_max pl1 pl2)), .second, .unset, .unset, .unset, .unset, .unset, .unset, .unset] [(.long pl4), (.long pl3)])) rfl (by rw [hml]; rfl) (argsL := [(.long pl3), (.long pl4)]) (rest := []) (lenOf pd_0 rfl) rfl (by show 2 * 0 + _ ≤ _; exact Nat.le_of_eq rfl) (hb hby at_34) (fun _ _ => ⟨rfl, eq2, (by decide : 0 + 0 ≤ _), (by decide : 0 + 0 ≤ _)⟩)
  dsimp only [Pt.U, Pt.locs, Pt.cells, Pt.slots] at X3 l3 y3 z3 st3 hQ3
  subst l3 y3 z3
  obtain ⟨rfl, N3q, eq3⟩ := hQ3
  have N3 := Fr.app N2 N3q
  obtain ⟨_, _, ⟨T4, L4, k4, n4⟩, -, X4, ⟨Lc4, hQ4, l4, y4, z4⟩, st4⟩ := Jvm.LawKit.callS X3 hx (y := (⟨"java/lang/Math", "max", "(JJ)J"⟩ : MethodName)) hown (mvT hZ (hw _ (List.mem_of_getElem? (i := 4) rfl))) (mvT hZ (hw _ (List.mem_of_getElem? (i := 5) rfl))) (mvT hZ (hw _ (List.mem_of_getElem? (i := 2) rfl))) (mvT hZ (hw _ (List.mem_of_getElem? (i := 6) rfl))) (by decide) (backOf (W := 0) (rm2m l Z a0 hw [] pl3 pl4 h0 n0 Z0 O0 ) hZ (hw _ (List.mem_of_getElem? (i := 6) rfl)) (hw _ (List.mem_of_getElem? (i := 2) rfl)) (by decide) (by decide)) (g := (mkF m 43 #[.val (.long pl1), .second, .val (.long pl2), .second, .val (.long pl3), .second, .val (.long pl4), .second, .val (.long (own_min pl1 pl2)), .second, .val (.long (own_max pl1 pl2)), .second, .val (.long (own_min pl3 pl4)), .second, .unset, .unset, .unset, .unset, .unset] [(.long pl4), (.long pl3)])) rfl (by rw [hml]; rfl) (argsL := [(.long pl3), (.long pl4)]) (rest := []) (lenOf pd_0 rfl) rfl (by show 2 * 0 + _ ≤ _; exact Nat.le_of_eq rfl) (hb hby at_43) (fun _ _ => ⟨rfl, eq3, (by decide : 0 + 0 ≤ _), (by decide : 0 + 0 ≤ _)⟩)
  dsimp only [Pt.U, Pt.locs, Pt.cells, Pt.slots] at X4 l4 y4 z4 st4 hQ4
  subst l4 y4 z4
  obtain ⟨rfl, N4q, eq4⟩ := hQ4
  have N4 := Fr.app N3 N4q
  obtain ⟨_, _, ⟨T5, L5, k5, n5⟩, -, X5, ⟨Lc5, hQ5, l5, y5, z5⟩, st5⟩ := Jvm.LawKit.callS X4 hx (y := (⟨"java/lang/Math", "max", "(JJ)J"⟩ : MethodName)) hown (mvT hZ (hw _ (List.mem_of_getElem? (i := 4) rfl))) (mvT hZ (hw _ (List.mem_of_getElem? (i := 5) rfl))) (mvT hZ (hw _ (List.mem_of_getElem? (i := 2) rfl))) (mvT hZ (hw _ (List.mem_of_getElem? (i := 6) rfl))) (by decide) (backOf (W := 0) (rm2m l Z a0 hw [] (own_min pl1 pl2) (own_min pl3 pl4) h0 n0 Z0 O0 ) hZ (hw _ (List.mem_of_getElem? (i := 6) rfl)) (hw _ (List.mem_of_getElem? (i := 2) rfl)) (by decide) (by decide)) (g := (mkF m 52 #[.val (.long pl1), .second, .val (.long pl2), .second, .val (.long pl3), .second, .val (.long pl4), .second, .val (.long (own_min pl1 pl2)), .second, .val (.long (own_max pl1 pl2)), .second, .val (.long (own_min pl3 pl4)), .second, .val (.long (own_max pl3 pl4)), .second, .unset, .unset, .unset] [(.long (own_min pl3 pl4)), (.long (own_min pl1 pl2))])) rfl (by rw [hml]; rfl) (argsL := [(.long (own_min pl1 pl2)), (.long (own_min pl3 pl4))]) (rest := []) (lenOf pd_0 rfl) rfl (by show 2 * 0 + _ ≤ _; exact Nat.le_of_eq rfl) (hb hby at_52) (fun _ _ => ⟨rfl, eq4, (by decide : 0 + 0 ≤ _), (by decide : 0 + 0 ≤ _)⟩)
  dsimp only [Pt.U, Pt.locs, Pt.cells, Pt.slots] at X5 l5 y5 z5 st5 hQ5
  subst l5 y5 z5
  obtain ⟨rfl, N5q, eq5⟩ := hQ5
  have N5 := Fr.app N4 N5q
  obtain ⟨_, _, ⟨T6, L6, k6, n6⟩, -, X6, ⟨Lc6, hQ6, l6, y6, z6⟩, st6⟩ := Jvm.LawKit.callS X5 hx (y := (⟨"java/lang/Math", "min", "(JJ)J"⟩ : MethodName)) hown (mvT hZ (hw _ (List.mem_of_getElem? (i := 0) rfl))) (mvT hZ (hw _ (List.mem_of_getElem? (i := 1) rfl))) (mvT hZ (hw _ (List.mem_of_getElem? (i := 2) rfl))) (mvT hZ (hw _ (List.mem_of_getElem? (i := 3) rfl))) (by decide) (backOf (W := 2) (rm1m l Z a0 hw [] (own_max pl1 pl2) (own_max pl3 pl4) h0 n0 Z0 O0 ) hZ (hw _ (List.mem_of_getElem? (i := 3) rfl)) (hw _ (List.mem_of_getElem? (i := 2) rfl)) (by decide) (by decide)) (g := (mkF m 59 #[.val (.long pl1), .second, .val (.long pl2), .second, .val (.long pl3), .second, .val (.long pl4), .second, .val (.long (own_min pl1 pl2)), .second, .val (.long (own_max pl1 pl2)), .second, .val (.long (own_min pl3 pl4)), .second, .val (.long (own_max pl3 pl4)), .second, .unset, .unset, .unset] [(.long (own_max pl3 pl4)), (.long (own_max pl1 pl2)), (.long (own_max (own_min pl1 pl2) (own_min pl3 pl4)))])) rfl (by rw [hml]; rfl) (argsL := [(.long (own_max pl1 pl2)), (.long (own_max pl3 pl4))]) (rest := [(.long (own_max (own_min pl1 pl2) (own_min pl3 pl4)))]) (lenOf pd_0 rfl) rfl (by show 2 * 0 + _ ≤ _; exact Nat.le_of_eq rfl) (hb hby at_59) (fun _ _ => ⟨rfl, eq5, (by decide : 0 + 0 ≤ _), (by decide : 0 + 0 ≤ _)⟩)
  dsimp only [Pt.U, Pt.locs, Pt.cells, Pt.slots] at X6 l6 y6 z6 st6 hQ6
  subst l6 y6 z6
  obtain ⟨rfl, N6q, eq6⟩ := hQ6
  have N6 := Fr.app N5 N6q
  obtain ⟨_, _, ⟨T7, L7, k7, n7⟩, -, X7, ⟨Lc7, hQ7, l7, y7, z7⟩, st7⟩ := Jvm.LawKit.callS X6 hx (y := (⟨"com/example/diarist/diarist/days/NosebleedTimes", "overlaps", "(JJJJ)Z"⟩ : MethodName)) hown (mvT hZ (hw _ (List.mem_of_getElem? (i := 7) rfl))) (mvT hZ (hw _ (List.mem_of_getElem? (i := 8) rfl))) (mvT hZ (hw _ (List.mem_of_getElem? (i := 9) rfl))) (mvT hZ (hw _ (List.mem_of_getElem? (i := 10) rfl))) (by decide) (backOf (W := 0) (rm3m l Z a0 hw [] (own_min pl1 pl2) (own_max pl1 pl2) (own_min pl3 pl4) (own_max pl3 pl4) h0 n0 Z0 O0 ) hZ (hw _ (List.mem_of_getElem? (i := 10) rfl)) (hw _ (List.mem_of_getElem? (i := 9) rfl)) (by decide) (by decide)) (g := (mkF m 81 #[.val (.long pl1), .second, .val (.long pl2), .second, .val (.long pl3), .second, .val (.long pl4), .second, .val (.long (own_min pl1 pl2)), .second, .val (.long (own_max pl1 pl2)), .second, .val (.long (own_min pl3 pl4)), .second, .val (.long (own_max pl3 pl4)), .second, .val (.int (1 : Int32)), .unset, .unset] [(.long (own_max pl3 pl4)), (.long (own_min pl3 pl4)), (.long (own_max pl1 pl2)), (.long (own_min pl1 pl2))])) rfl (by rw [hml]; rfl) (argsL := [(.long (own_min pl1 pl2)), (.long (own_max pl1 pl2)), (.long (own_min pl3 pl4)), (.long (own_max pl3 pl4))]) (rest := []) (lenOf pd_1 rfl) rfl (by show 2 * 0 + _ ≤ _; exact Nat.le_of_eq rfl) (hb hby at_81) (fun _ _ => ⟨rfl, eq6, (by decide : 0 + 0 ≤ _), (by decide : 0 + 0 ≤ _)⟩)
  dsimp only [Pt.U, Pt.locs, Pt.cells, Pt.slots] at X7 l7 y7 z7 st7 hQ7
  subst l7 y7 z7
  obtain ⟨rfl, N7q, eq7⟩ := hQ7
  have N7 := Fr.app N6 N7q
  obtain ⟨_, _, ⟨T8, L8, k8, n8⟩, -, X8, ⟨Lc8, hQ8, l8, y8, z8⟩, st8⟩ := Jvm.LawKit.callS X7 hx (y := (⟨"com/example/diarist/diarist/days/NosebleedTimes", "overlaps", "(JJJJ)Z"⟩ : MethodName)) hown (mvT hZ (hw _ (List.mem_of_getElem? (i := 7) rfl))) (mvT hZ (hw _ (List.mem_of_getElem? (i := 8) rfl))) (mvT hZ (hw _ (List.mem_of_getElem? (i := 9) rfl))) (mvT hZ (hw _ (List.mem_of_getElem? (i := 10) rfl))) (by decide) (backOf (W := 0) (rm3m l Z a0 hw [] (own_min pl3 pl4) (own_max pl3 pl4) (own_min pl1 pl2) (own_max pl1 pl2) h0 n0 Z0 O0 ) hZ (hw _ (List.mem_of_getElem? (i := 10) rfl)) (hw _ (List.mem_of_getElem? (i := 9) rfl)) (by decide) (by decide)) (g := (mkF m 94 #[.val (.long pl1), .second, .val (.long pl2), .second, .val (.long pl3), .second, .val (.long pl4), .second, .val (.long (own_min pl1 pl2)), .second, .val (.long (own_max pl1 pl2)), .second, .val (.long (own_min pl3 pl4)), .second, .val (.long (own_max pl3 pl4)), .second, .val (.int (1 : Int32)), .val (.int (own_ov (own_min pl1 pl2) (own_max pl1 pl2) (own_min pl3 pl4) (own_max pl3 pl4))), .unset] [(.long (own_max pl1 pl2)), (.long (own_min pl1 pl2)), (.long (own_max pl3 pl4)), (.long (own_min pl3 pl4))])) rfl (by rw [hml]; rfl) (argsL := [(.long (own_min pl3 pl4)), (.long (own_max pl3 pl4)), (.long (own_min pl1 pl2)), (.long (own_max pl1 pl2))]) (rest := []) (lenOf pd_1 rfl) rfl (by show 2 * 0 + _ ≤ _; exact Nat.le_of_eq rfl) (hb hby at_94) (fun _ _ => ⟨rfl, eq7, (by decide : 0 + 0 ≤ _), (by decide : 0 + 0 ≤ _)⟩)
  dsimp only [Pt.U, Pt.locs, Pt.cells, Pt.slots] at X8 l8 y8 z8 st8 hQ8
  subst l8 y8 z8
  obtain ⟨rfl, N8q, eq8⟩ := hQ8
  have N8 := Fr.app N7 N8q
  obtain ⟨fs, hr, hrun, hended, hW, hsame⟩ := X8.leave (v := some (.int (1 : Int32))) (fun h => by rw [Bd.returns] at h; cases h) (by first | exact BodyLoose.notSynchronized Bd | exact Body.notSynchronized Bd)
  refine ⟨_, _, pre0 _ ?_, hrun, hended, _, _, rfl, ?_, ⟨_, rfl⟩, hW, hsame.mono (by decide) (by decide)⟩
  · show Steps p.tables e below (s₁.setTop (mkF m 0 #[.val (.long pl1), .second, .val (.long pl2), .second, .val (.long pl3), .second, .val (.long pl4), .second, .unset, .unset, .unset, .unset, .unset, .unset, .unset, .unset, .unset, .unset, .unset] [])) _
    refine XS.lloadN X0.here hx rfl (hb hby at_0) rfl ?_
    show Steps p.tables e below (s₁.setTop (mkF m 1 #[.val (.long pl1), .second, .val (.long pl2), .second, .val (.long pl3), .second, .val (.long pl4), .second, .unset, .unset, .unset, .unset, .unset, .unset, .unset, .unset, .unset, .unset, .unset] [(.long pl1)])) _
    refine XS.lloadN X0.here hx rfl (hb hby at_1) rfl ?_
    show Steps p.tables e below (s₁.setTop (mkF m 2 #[.val (.long pl1), .second, .val (.long pl2), .second, .val (.long pl3), .second, .val (.long pl4), .second, .unset, .unset, .unset, .unset, .unset, .unset, .unset, .unset, .unset, .unset, .unset] [(.long pl2), (.long pl1)])) _
    refine XS.lcmp X0.here hx rfl (hb hby at_2) rfl ?_
    show Steps p.tables e below (s₁.setTop (mkF m 3 #[.val (.long pl1), .second, .val (.long pl2), .second, .val (.long pl3), .second, .val (.long pl4), .second, .unset, .unset, .unset, .unset, .unset, .unset, .unset, .unset, .unset, .unset, .unset] [(.int (lcmpW pl1 pl2))])) _
    refine XS.ifNo X0.here hx rfl (hb hby at_3) rfl ((if0 _ _).trans (feq hc3_0).1) ?_
    show Steps p.tables e below (s₁.setTop (mkF m 6 #[.val (.long pl1), .second, .val (.long pl2), .second, .val (.long pl3), .second, .val (.long pl4), .second, .unset, .unset, .unset, .unset, .unset, .unset, .unset, .unset, .unset, .unset, .unset] [])) _
    refine XS.lload X0.here hx rfl (hb hby at_6) rfl ?_
    show Steps p.tables e below (s₁.setTop (mkF m 8 #[.val (.long pl1), .second, .val (.long pl2), .second, .val (.long pl3), .second, .val (.long pl4), .second, .unset, .unset, .unset, .unset, .unset, .unset, .unset, .unset, .unset, .unset, .unset] [(.long pl3)])) _
    refine XS.lload X0.here hx rfl (hb hby at_8) rfl ?_
    show Steps p.tables e below (s₁.setTop (mkF m 10 #[.val (.long pl1), .second, .val (.long pl2), .second, .val (.long pl3), .second, .val (.long pl4), .second, .unset, .unset, .unset, .unset, .unset, .unset, .unset, .unset, .unset, .unset, .unset] [(.long pl4), (.long pl3)])) _
    refine XS.lcmp X0.here hx rfl (hb hby at_10) rfl ?_
    show Steps p.tables e below (s₁.setTop (mkF m 11 #[.val (.long pl1), .second, .val (.long pl2), .second, .val (.long pl3), .second, .val (.long pl4), .second, .unset, .unset, .unset, .unset, .unset, .unset, .unset, .unset, .unset, .unset, .unset] [(.int (lcmpW pl3 pl4))])) _
    refine XS.ifYes X0.here hx rfl (pc0 := 11) (pc' := 16) rfl (hb hby at_11) rfl ((if0 _ _).trans (feq hc11_1).2) (by decide) (by decide) ?_
    show Steps p.tables e below (s₁.setTop (mkF m 16 #[.val (.long pl1), .second, .val (.long pl2), .second, .val (.long pl3), .second, .val (.long pl4), .second, .unset, .unset, .unset, .unset, .unset, .unset, .unset, .unset, .unset, .unset, .unset] [])) _
    refine XS.lloadN X0.here hx rfl (hb hby at_16) rfl ?_
    show Steps p.tables e below (s₁.setTop (mkF m 17 #[.val (.long pl1), .second, .val (.long pl2), .second, .val (.long pl3), .second, .val (.long pl4), .second, .unset, .unset, .unset, .unset, .unset, .unset, .unset, .unset, .unset, .unset, .unset] [(.long pl1)])) _
    refine XS.lloadN X0.here hx rfl (hb hby at_17) rfl ?_
    show Steps p.tables e below (s₁.setTop (mkF m 18 #[.val (.long pl1), .second, .val (.long pl2), .second, .val (.long pl3), .second, .val (.long pl4), .second, .unset, .unset, .unset, .unset, .unset, .unset, .unset, .unset, .unset, .unset, .unset] [(.long pl2), (.long pl1)])) _
    refine st1 _ ?_
    show Steps p.tables e below (T1.setTop (mkF m 21 #[.val (.long pl1), .second, .val (.long pl2), .second, .val (.long pl3), .second, .val (.long pl4), .second, .unset, .unset, .unset, .unset, .unset, .unset, .unset, .unset, .unset, .unset, .unset] [(.long (own_min pl1 pl2))])) _
    refine XS.lstore X1.here hx rfl (hb hby at_21) rfl (l' := #[.val (.long pl1), .second, .val (.long pl2), .second, .val (.long pl3), .second, .val (.long pl4), .second, .val (.long (own_min pl1 pl2)), .second, .unset, .unset, .unset, .unset, .unset, .unset, .unset, .unset, .unset]) rfl ?_
    show Steps p.tables e below (T1.setTop (mkF m 23 #[.val (.long pl1), .second, .val (.long pl2), .second, .val (.long pl3), .second, .val (.long pl4), .second, .val (.long (own_min pl1 pl2)), .second, .unset, .unset, .unset, .unset, .unset, .unset, .unset, .unset, .unset] [])) _
    refine XS.lloadN X1.here hx rfl (hb hby at_23) rfl ?_
    show Steps p.tables e below (T1.setTop (mkF m 24 #[.val (.long pl1), .second, .val (.long pl2), .second, .val (.long pl3), .second, .val (.long pl4), .second, .val (.long (own_min pl1 pl2)), .second, .unset, .unset, .unset, .unset, .unset, .unset, .unset, .unset, .unset] [(.long pl1)])) _
    refine XS.lloadN X1.here hx rfl (hb hby at_24) rfl ?_
    show Steps p.tables e below (T1.setTop (mkF m 25 #[.val (.long pl1), .second, .val (.long pl2), .second, .val (.long pl3), .second, .val (.long pl4), .second, .val (.long (own_min pl1 pl2)), .second, .unset, .unset, .unset, .unset, .unset, .unset, .unset, .unset, .unset] [(.long pl2), (.long pl1)])) _
    refine st2 _ ?_
    show Steps p.tables e below (T2.setTop (mkF m 28 #[.val (.long pl1), .second, .val (.long pl2), .second, .val (.long pl3), .second, .val (.long pl4), .second, .val (.long (own_min pl1 pl2)), .second, .unset, .unset, .unset, .unset, .unset, .unset, .unset, .unset, .unset] [(.long (own_max pl1 pl2))])) _
    refine XS.lstore X2.here hx rfl (hb hby at_28) rfl (l' := #[.val (.long pl1), .second, .val (.long pl2), .second, .val (.long pl3), .second, .val (.long pl4), .second, .val (.long (own_min pl1 pl2)), .second, .val (.long (own_max pl1 pl2)), .second, .unset, .unset, .unset, .unset, .unset, .unset, .unset]) rfl ?_
    show Steps p.tables e below (T2.setTop (mkF m 30 #[.val (.long pl1), .second, .val (.long pl2), .second, .val (.long pl3), .second, .val (.long pl4), .second, .val (.long (own_min pl1 pl2)), .second, .val (.long (own_max pl1 pl2)), .second, .unset, .unset, .unset, .unset, .unset, .unset, .unset] [])) _
    refine XS.lload X2.here hx rfl (hb hby at_30) rfl ?_
    show Steps p.tables e below (T2.setTop (mkF m 32 #[.val (.long pl1), .second, .val (.long pl2), .second, .val (.long pl3), .second, .val (.long pl4), .second, .val (.long (own_min pl1 pl2)), .second, .val (.long (own_max pl1 pl2)), .second, .unset, .unset, .unset, .unset, .unset, .unset, .unset] [(.long pl3)])) _
    refine XS.lload X2.here hx rfl (hb hby at_32) rfl ?_
    show Steps p.tables e below (T2.setTop (mkF m 34 #[.val (.long pl1), .second, .val (.long pl2), .second, .val (.long pl3), .second, .val (.long pl4), .second, .val (.long (own_min pl1 pl2)), .second, .val (.long (own_max pl1 pl2)), .second, .unset, .unset, .unset, .unset, .unset, .unset, .unset] [(.long pl4), (.long pl3)])) _
    refine st3 _ ?_
    show Steps p.tables e below (T3.setTop (mkF m 37 #[.val (.long pl1), .second, .val (.long pl2), .second, .val (.long pl3), .second, .val (.long pl4), .second, .val (.long (own_min pl1 pl2)), .second, .val (.long (own_max pl1 pl2)), .second, .unset, .unset, .unset, .unset, .unset, .unset, .unset] [(.long (own_min pl3 pl4))])) _
    refine XS.lstore X3.here hx rfl (hb hby at_37) rfl (l' := #[.val (.long pl1), .second, .val (.long pl2), .second, .val (.long pl3), .second, .val (.long pl4), .second, .val (.long (own_min pl1 pl2)), .second, .val (.long (own_max pl1 pl2)), .second, .val (.long (own_min pl3 pl4)), .second, .unset, .unset, .unset, .unset, .unset]) rfl ?_
    show Steps p.tables e below (T3.setTop (mkF m 39 #[.val (.long pl1), .second, .val (.long pl2), .second, .val (.long pl3), .second, .val (.long pl4), .second, .val (.long (own_min pl1 pl2)), .second, .val (.long (own_max pl1 pl2)), .second, .val (.long (own_min pl3 pl4)), .second, .unset, .unset, .unset, .unset, .unset] [])) _
    refine XS.lload X3.here hx rfl (hb hby at_39) rfl ?_
    show Steps p.tables e below (T3.setTop (mkF m 41 #[.val (.long pl1), .second, .val (.long pl2), .second, .val (.long pl3), .second, .val (.long pl4), .second, .val (.long (own_min pl1 pl2)), .second, .val (.long (own_max pl1 pl2)), .second, .val (.long (own_min pl3 pl4)), .second, .unset, .unset, .unset, .unset, .unset] [(.long pl3)])) _
    refine XS.lload X3.here hx rfl (hb hby at_41) rfl ?_
    show Steps p.tables e below (T3.setTop (mkF m 43 #[.val (.long pl1), .second, .val (.long pl2), .second, .val (.long pl3), .second, .val (.long pl4), .second, .val (.long (own_min pl1 pl2)), .second, .val (.long (own_max pl1 pl2)), .second, .val (.long (own_min pl3 pl4)), .second, .unset, .unset, .unset, .unset, .unset] [(.long pl4), (.long pl3)])) _
    refine st4 _ ?_
    show Steps p.tables e below (T4.setTop (mkF m 46 #[.val (.long pl1), .second, .val (.long pl2), .second, .val (.long pl3), .second, .val (.long pl4), .second, .val (.long (own_min pl1 pl2)), .second, .val (.long (own_max pl1 pl2)), .second, .val (.long (own_min pl3 pl4)), .second, .unset, .unset, .unset, .unset, .unset] [(.long (own_max pl3 pl4))])) _
    refine XS.lstore X4.here hx rfl (hb hby at_46) rfl (l' := #[.val (.long pl1), .second, .val (.long pl2), .second, .val (.long pl3), .second, .val (.long pl4), .second, .val (.long (own_min pl1 pl2)), .second, .val (.long (own_max pl1 pl2)), .second, .val (.long (own_min pl3 pl4)), .second, .val (.long (own_max pl3 pl4)), .second, .unset, .unset, .unset]) rfl ?_
    show Steps p.tables e below (T4.setTop (mkF m 48 #[.val (.long pl1), .second, .val (.long pl2), .second, .val (.long pl3), .second, .val (.long pl4), .second, .val (.long (own_min pl1 pl2)), .second, .val (.long (own_max pl1 pl2)), .second, .val (.long (own_min pl3 pl4)), .second, .val (.long (own_max pl3 pl4)), .second, .unset, .unset, .unset] [])) _
    refine XS.lload X4.here hx rfl (hb hby at_48) rfl ?_
    show Steps p.tables e below (T4.setTop (mkF m 50 #[.val (.long pl1), .second, .val (.long pl2), .second, .val (.long pl3), .second, .val (.long pl4), .second, .val (.long (own_min pl1 pl2)), .second, .val (.long (own_max pl1 pl2)), .second, .val (.long (own_min pl3 pl4)), .second, .val (.long (own_max pl3 pl4)), .second, .unset, .unset, .unset] [(.long (own_min pl1 pl2))])) _
    refine XS.lload X4.here hx rfl (hb hby at_50) rfl ?_
    show Steps p.tables e below (T4.setTop (mkF m 52 #[.val (.long pl1), .second, .val (.long pl2), .second, .val (.long pl3), .second, .val (.long pl4), .second, .val (.long (own_min pl1 pl2)), .second, .val (.long (own_max pl1 pl2)), .second, .val (.long (own_min pl3 pl4)), .second, .val (.long (own_max pl3 pl4)), .second, .unset, .unset, .unset] [(.long (own_min pl3 pl4)), (.long (own_min pl1 pl2))])) _
    refine st5 _ ?_
    show Steps p.tables e below (T5.setTop (mkF m 55 #[.val (.long pl1), .second, .val (.long pl2), .second, .val (.long pl3), .second, .val (.long pl4), .second, .val (.long (own_min pl1 pl2)), .second, .val (.long (own_max pl1 pl2)), .second, .val (.long (own_min pl3 pl4)), .second, .val (.long (own_max pl3 pl4)), .second, .unset, .unset, .unset] [(.long (own_max (own_min pl1 pl2) (own_min pl3 pl4)))])) _
    refine XS.lload X5.here hx rfl (hb hby at_55) rfl ?_
    show Steps p.tables e below (T5.setTop (mkF m 57 #[.val (.long pl1), .second, .val (.long pl2), .second, .val (.long pl3), .second, .val (.long pl4), .second, .val (.long (own_min pl1 pl2)), .second, .val (.long (own_max pl1 pl2)), .second, .val (.long (own_min pl3 pl4)), .second, .val (.long (own_max pl3 pl4)), .second, .unset, .unset, .unset] [(.long (own_max pl1 pl2)), (.long (own_max (own_min pl1 pl2) (own_min pl3 pl4)))])) _
    refine XS.lload X5.here hx rfl (hb hby at_57) rfl ?_
    show Steps p.tables e below (T5.setTop (mkF m 59 #[.val (.long pl1), .second, .val (.long pl2), .second, .val (.long pl3), .second, .val (.long pl4), .second, .val (.long (own_min pl1 pl2)), .second, .val (.long (own_max pl1 pl2)), .second, .val (.long (own_min pl3 pl4)), .second, .val (.long (own_max pl3 pl4)), .second, .unset, .unset, .unset] [(.long (own_max pl3 pl4)), (.long (own_max pl1 pl2)), (.long (own_max (own_min pl1 pl2) (own_min pl3 pl4)))])) _
    refine st6 _ ?_
    show Steps p.tables e below (T6.setTop (mkF m 62 #[.val (.long pl1), .second, .val (.long pl2), .second, .val (.long pl3), .second, .val (.long pl4), .second, .val (.long (own_min pl1 pl2)), .second, .val (.long (own_max pl1 pl2)), .second, .val (.long (own_min pl3 pl4)), .second, .val (.long (own_max pl3 pl4)), .second, .unset, .unset, .unset] [(.long (own_min (own_max pl1 pl2) (own_max pl3 pl4))), (.long (own_max (own_min pl1 pl2) (own_min pl3 pl4)))])) _
    refine XS.lcmp X6.here hx rfl (hb hby at_62) rfl ?_
    show Steps p.tables e below (T6.setTop (mkF m 63 #[.val (.long pl1), .second, .val (.long pl2), .second, .val (.long pl3), .second, .val (.long pl4), .second, .val (.long (own_min pl1 pl2)), .second, .val (.long (own_max pl1 pl2)), .second, .val (.long (own_min pl3 pl4)), .second, .val (.long (own_max pl3 pl4)), .second, .unset, .unset, .unset] [(.int (lcmpW (own_max (own_min pl1 pl2) (own_min pl3 pl4)) (own_min (own_max pl1 pl2) (own_max pl3 pl4))))])) _
    refine XS.ifNo X6.here hx rfl (hb hby at_63) rfl ((if0 _ _).trans (tlt hc63_2).2.1) ?_
    show Steps p.tables e below (T6.setTop (mkF m 66 #[.val (.long pl1), .second, .val (.long pl2), .second, .val (.long pl3), .second, .val (.long pl4), .second, .val (.long (own_min pl1 pl2)), .second, .val (.long (own_max pl1 pl2)), .second, .val (.long (own_min pl3 pl4)), .second, .val (.long (own_max pl3 pl4)), .second, .unset, .unset, .unset] [])) _
    refine XS.iconst X6.here hx rfl (hb hby at_66) ?_
    show Steps p.tables e below (T6.setTop (mkF m 67 #[.val (.long pl1), .second, .val (.long pl2), .second, .val (.long pl3), .second, .val (.long pl4), .second, .val (.long (own_min pl1 pl2)), .second, .val (.long (own_max pl1 pl2)), .second, .val (.long (own_min pl3 pl4)), .second, .val (.long (own_max pl3 pl4)), .second, .unset, .unset, .unset] [(.int (1 : Int32))])) _
    refine XS.goto X6.here hx rfl (pc0 := 67) (pc' := 71) rfl (hb hby at_67) (by decide) (by decide) ?_
    show Steps p.tables e below (T6.setTop (mkF m 71 #[.val (.long pl1), .second, .val (.long pl2), .second, .val (.long pl3), .second, .val (.long pl4), .second, .val (.long (own_min pl1 pl2)), .second, .val (.long (own_max pl1 pl2)), .second, .val (.long (own_min pl3 pl4)), .second, .val (.long (own_max pl3 pl4)), .second, .unset, .unset, .unset] [(.int (1 : Int32))])) _
    refine XS.istore X6.here hx rfl (hb hby at_71) rfl (l' := #[.val (.long pl1), .second, .val (.long pl2), .second, .val (.long pl3), .second, .val (.long pl4), .second, .val (.long (own_min pl1 pl2)), .second, .val (.long (own_max pl1 pl2)), .second, .val (.long (own_min pl3 pl4)), .second, .val (.long (own_max pl3 pl4)), .second, .val (.int (1 : Int32)), .unset, .unset]) rfl ?_
    show Steps p.tables e below (T6.setTop (mkF m 73 #[.val (.long pl1), .second, .val (.long pl2), .second, .val (.long pl3), .second, .val (.long pl4), .second, .val (.long (own_min pl1 pl2)), .second, .val (.long (own_max pl1 pl2)), .second, .val (.long (own_min pl3 pl4)), .second, .val (.long (own_max pl3 pl4)), .second, .val (.int (1 : Int32)), .unset, .unset] [])) _
    refine XS.lload X6.here hx rfl (hb hby at_73) rfl ?_
    show Steps p.tables e below (T6.setTop (mkF m 75 #[.val (.long pl1), .second, .val (.long pl2), .second, .val (.long pl3), .second, .val (.long pl4), .second, .val (.long (own_min pl1 pl2)), .second, .val (.long (own_max pl1 pl2)), .second, .val (.long (own_min pl3 pl4)), .second, .val (.long (own_max pl3 pl4)), .second, .val (.int (1 : Int32)), .unset, .unset] [(.long (own_min pl1 pl2))])) _
    refine XS.lload X6.here hx rfl (hb hby at_75) rfl ?_
    show Steps p.tables e below (T6.setTop (mkF m 77 #[.val (.long pl1), .second, .val (.long pl2), .second, .val (.long pl3), .second, .val (.long pl4), .second, .val (.long (own_min pl1 pl2)), .second, .val (.long (own_max pl1 pl2)), .second, .val (.long (own_min pl3 pl4)), .second, .val (.long (own_max pl3 pl4)), .second, .val (.int (1 : Int32)), .unset, .unset] [(.long (own_max pl1 pl2)), (.long (own_min pl1 pl2))])) _
    refine XS.lload X6.here hx rfl (hb hby at_77) rfl ?_
    show Steps p.tables e below (T6.setTop (mkF m 79 #[.val (.long pl1), .second, .val (.long pl2), .second, .val (.long pl3), .second, .val (.long pl4), .second, .val (.long (own_min pl1 pl2)), .second, .val (.long (own_max pl1 pl2)), .second, .val (.long (own_min pl3 pl4)), .second, .val (.long (own_max pl3 pl4)), .second, .val (.int (1 : Int32)), .unset, .unset] [(.long (own_min pl3 pl4)), (.long (own_max pl1 pl2)), (.long (own_min pl1 pl2))])) _
    refine XS.lload X6.here hx rfl (hb hby at_79) rfl ?_
    show Steps p.tables e below (T6.setTop (mkF m 81 #[.val (.long pl1), .second, .val (.long pl2), .second, .val (.long pl3), .second, .val (.long pl4), .second, .val (.long (own_min pl1 pl2)), .second, .val (.long (own_max pl1 pl2)), .second, .val (.long (own_min pl3 pl4)), .second, .val (.long (own_max pl3 pl4)), .second, .val (.int (1 : Int32)), .unset, .unset] [(.long (own_max pl3 pl4)), (.long (own_min pl3 pl4)), (.long (own_max pl1 pl2)), (.long (own_min pl1 pl2))])) _
    refine st7 _ ?_
    show Steps p.tables e below (T7.setTop (mkF m 84 #[.val (.long pl1), .second, .val (.long pl2), .second, .val (.long pl3), .second, .val (.long pl4), .second, .val (.long (own_min pl1 pl2)), .second, .val (.long (own_max pl1 pl2)), .second, .val (.long (own_min pl3 pl4)), .second, .val (.long (own_max pl3 pl4)), .second, .val (.int (1 : Int32)), .unset, .unset] [(.int (own_ov (own_min pl1 pl2) (own_max pl1 pl2) (own_min pl3 pl4) (own_max pl3 pl4)))])) _
    refine XS.istore X7.here hx rfl (hb hby at_84) rfl (l' := #[.val (.long pl1), .second, .val (.long pl2), .second, .val (.long pl3), .second, .val (.long pl4), .second, .val (.long (own_min pl1 pl2)), .second, .val (.long (own_max pl1 pl2)), .second, .val (.long (own_min pl3 pl4)), .second, .val (.long (own_max pl3 pl4)), .second, .val (.int (1 : Int32)), .val (.int (own_ov (own_min pl1 pl2) (own_max pl1 pl2) (own_min pl3 pl4) (own_max pl3 pl4))), .unset]) rfl ?_
    show Steps p.tables e below (T7.setTop (mkF m 86 #[.val (.long pl1), .second, .val (.long pl2), .second, .val (.long pl3), .second, .val (.long pl4), .second, .val (.long (own_min pl1 pl2)), .second, .val (.long (own_max pl1 pl2)), .second, .val (.long (own_min pl3 pl4)), .second, .val (.long (own_max pl3 pl4)), .second, .val (.int (1 : Int32)), .val (.int (own_ov (own_min pl1 pl2) (own_max pl1 pl2) (own_min pl3 pl4) (own_max pl3 pl4))), .unset] [])) _
    refine XS.lload X7.here hx rfl (hb hby at_86) rfl ?_
    show Steps p.tables e below (T7.setTop (mkF m 88 #[.val (.long pl1), .second, .val (.long pl2), .second, .val (.long pl3), .second, .val (.long pl4), .second, .val (.long (own_min pl1 pl2)), .second, .val (.long (own_max pl1 pl2)), .second, .val (.long (own_min pl3 pl4)), .second, .val (.long (own_max pl3 pl4)), .second, .val (.int (1 : Int32)), .val (.int (own_ov (own_min pl1 pl2) (own_max pl1 pl2) (own_min pl3 pl4) (own_max pl3 pl4))), .unset] [(.long (own_min pl3 pl4))])) _
    refine XS.lload X7.here hx rfl (hb hby at_88) rfl ?_
    show Steps p.tables e below (T7.setTop (mkF m 90 #[.val (.long pl1), .second, .val (.long pl2), .second, .val (.long pl3), .second, .val (.long pl4), .second, .val (.long (own_min pl1 pl2)), .second, .val (.long (own_max pl1 pl2)), .second, .val (.long (own_min pl3 pl4)), .second, .val (.long (own_max pl3 pl4)), .second, .val (.int (1 : Int32)), .val (.int (own_ov (own_min pl1 pl2) (own_max pl1 pl2) (own_min pl3 pl4) (own_max pl3 pl4))), .unset] [(.long (own_max pl3 pl4)), (.long (own_min pl3 pl4))])) _
    refine XS.lload X7.here hx rfl (hb hby at_90) rfl ?_
    show Steps p.tables e below (T7.setTop (mkF m 92 #[.val (.long pl1), .second, .val (.long pl2), .second, .val (.long pl3), .second, .val (.long pl4), .second, .val (.long (own_min pl1 pl2)), .second, .val (.long (own_max pl1 pl2)), .second, .val (.long (own_min pl3 pl4)), .second, .val (.long (own_max pl3 pl4)), .second, .val (.int (1 : Int32)), .val (.int (own_ov (own_min pl1 pl2) (own_max pl1 pl2) (own_min pl3 pl4) (own_max pl3 pl4))), .unset] [(.long (own_min pl1 pl2)), (.long (own_max pl3 pl4)), (.long (own_min pl3 pl4))])) _
    refine XS.lload X7.here hx rfl (hb hby at_92) rfl ?_
    show Steps p.tables e below (T7.setTop (mkF m 94 #[.val (.long pl1), .second, .val (.long pl2), .second, .val (.long pl3), .second, .val (.long pl4), .second, .val (.long (own_min pl1 pl2)), .second, .val (.long (own_max pl1 pl2)), .second, .val (.long (own_min pl3 pl4)), .second, .val (.long (own_max pl3 pl4)), .second, .val (.int (1 : Int32)), .val (.int (own_ov (own_min pl1 pl2) (own_max pl1 pl2) (own_min pl3 pl4) (own_max pl3 pl4))), .unset] [(.long (own_max pl1 pl2)), (.long (own_min pl1 pl2)), (.long (own_max pl3 pl4)), (.long (own_min pl3 pl4))])) _
    refine st8 _ ?_
    show Steps p.tables e below (T8.setTop (mkF m 97 #[.val (.long pl1), .second, .val (.long pl2), .second, .val (.long pl3), .second, .val (.long pl4), .second, .val (.long (own_min pl1 pl2)), .second, .val (.long (own_max pl1 pl2)), .second, .val (.long (own_min pl3 pl4)), .second, .val (.long (own_max pl3 pl4)), .second, .val (.int (1 : Int32)), .val (.int (own_ov (own_min pl1 pl2) (own_max pl1 pl2) (own_min pl3 pl4) (own_max pl3 pl4))), .unset] [(.int (own_ov (own_min pl3 pl4) (own_max pl3 pl4) (own_min pl1 pl2) (own_max pl1 pl2)))])) _
    refine XS.istore X8.here hx rfl (hb hby at_97) rfl (l' := #[.val (.long pl1), .second, .val (.long pl2), .second, .val (.long pl3), .second, .val (.long pl4), .second, .val (.long (own_min pl1 pl2)), .second, .val (.long (own_max pl1 pl2)), .second, .val (.long (own_min pl3 pl4)), .second, .val (.long (own_max pl3 pl4)), .second, .val (.int (1 : Int32)), .val (.int (own_ov (own_min pl1 pl2) (own_max pl1 pl2) (own_min pl3 pl4) (own_max pl3 pl4))), .val (.int (own_ov (own_min pl3 pl4) (own_max pl3 pl4) (own_min pl1 pl2) (own_max pl1 pl2)))]) rfl ?_
    show Steps p.tables e below (T8.setTop (mkF m 99 #[.val (.long pl1), .second, .val (.long pl2), .second, .val (.long pl3), .second, .val (.long pl4), .second, .val (.long (own_min pl1 pl2)), .second, .val (.long (own_max pl1 pl2)), .second, .val (.long (own_min pl3 pl4)), .second, .val (.long (own_max pl3 pl4)), .second, .val (.int (1 : Int32)), .val (.int (own_ov (own_min pl1 pl2) (own_max pl1 pl2) (own_min pl3 pl4) (own_max pl3 pl4))), .val (.int (own_ov (own_min pl3 pl4) (own_max pl3 pl4) (own_min pl1 pl2) (own_max pl1 pl2)))] [])) _
    refine XS.iload X8.here hx rfl (hb hby at_99) rfl ?_
    show Steps p.tables e below (T8.setTop (mkF m 101 #[.val (.long pl1), .second, .val (.long pl2), .second, .val (.long pl3), .second, .val (.long pl4), .second, .val (.long (own_min pl1 pl2)), .second, .val (.long (own_max pl1 pl2)), .second, .val (.long (own_min pl3 pl4)), .second, .val (.long (own_max pl3 pl4)), .second, .val (.int (1 : Int32)), .val (.int (own_ov (own_min pl1 pl2) (own_max pl1 pl2) (own_min pl3 pl4) (own_max pl3 pl4))), .val (.int (own_ov (own_min pl3 pl4) (own_max pl3 pl4) (own_min pl1 pl2) (own_max pl1 pl2)))] [(.int (own_ov (own_min pl1 pl2) (own_max pl1 pl2) (own_min pl3 pl4) (own_max pl3 pl4)))])) _
    refine XS.iload X8.here hx rfl (hb hby at_101) rfl ?_
    show Steps p.tables e below (T8.setTop (mkF m 103 #[.val (.long pl1), .second, .val (.long pl2), .second, .val (.long pl3), .second, .val (.long pl4), .second, .val (.long (own_min pl1 pl2)), .second, .val (.long (own_max pl1 pl2)), .second, .val (.long (own_min pl3 pl4)), .second, .val (.long (own_max pl3 pl4)), .second, .val (.int (1 : Int32)), .val (.int (own_ov (own_min pl1 pl2) (own_max pl1 pl2) (own_min pl3 pl4) (own_max pl3 pl4))), .val (.int (own_ov (own_min pl3 pl4) (own_max pl3 pl4) (own_min pl1 pl2) (own_max pl1 pl2)))] [(.int (1 : Int32)), (.int (own_ov (own_min pl1 pl2) (own_max pl1 pl2) (own_min pl3 pl4) (own_max pl3 pl4)))])) _
    refine XS.icmpNo X8.here hx rfl (hb hby at_103) rfl (teq (own_t hc3_0 hc11_1 hc63_2).1).2 ?_
    show Steps p.tables e below (T8.setTop (mkF m 106 #[.val (.long pl1), .second, .val (.long pl2), .second, .val (.long pl3), .second, .val (.long pl4), .second, .val (.long (own_min pl1 pl2)), .second, .val (.long (own_max pl1 pl2)), .second, .val (.long (own_min pl3 pl4)), .second, .val (.long (own_max pl3 pl4)), .second, .val (.int (1 : Int32)), .val (.int (own_ov (own_min pl1 pl2) (own_max pl1 pl2) (own_min pl3 pl4) (own_max pl3 pl4))), .val (.int (own_ov (own_min pl3 pl4) (own_max pl3 pl4) (own_min pl1 pl2) (own_max pl1 pl2)))] [])) _
    refine XS.iload X8.here hx rfl (hb hby at_106) rfl ?_
    show Steps p.tables e below (T8.setTop (mkF m 108 #[.val (.long pl1), .second, .val (.long pl2), .second, .val (.long pl3), .second, .val (.long pl4), .second, .val (.long (own_min pl1 pl2)), .second, .val (.long (own_max pl1 pl2)), .second, .val (.long (own_min pl3 pl4)), .second, .val (.long (own_max pl3 pl4)), .second, .val (.int (1 : Int32)), .val (.int (own_ov (own_min pl1 pl2) (own_max pl1 pl2) (own_min pl3 pl4) (own_max pl3 pl4))), .val (.int (own_ov (own_min pl3 pl4) (own_max pl3 pl4) (own_min pl1 pl2) (own_max pl1 pl2)))] [(.int (own_ov (own_min pl3 pl4) (own_max pl3 pl4) (own_min pl1 pl2) (own_max pl1 pl2)))])) _
    refine XS.iload X8.here hx rfl (hb hby at_108) rfl ?_
    show Steps p.tables e below (T8.setTop (mkF m 110 #[.val (.long pl1), .second, .val (.long pl2), .second, .val (.long pl3), .second, .val (.long pl4), .second, .val (.long (own_min pl1 pl2)), .second, .val (.long (own_max pl1 pl2)), .second, .val (.long (own_min pl3 pl4)), .second, .val (.long (own_max pl3 pl4)), .second, .val (.int (1 : Int32)), .val (.int (own_ov (own_min pl1 pl2) (own_max pl1 pl2) (own_min pl3 pl4) (own_max pl3 pl4))), .val (.int (own_ov (own_min pl3 pl4) (own_max pl3 pl4) (own_min pl1 pl2) (own_max pl1 pl2)))] [(.int (1 : Int32)), (.int (own_ov (own_min pl3 pl4) (own_max pl3 pl4) (own_min pl1 pl2) (own_max pl1 pl2)))])) _
    refine XS.icmpNo X8.here hx rfl (hb hby at_110) rfl (teq (own_t hc3_0 hc11_1 hc63_2).2).2 ?_
    show Steps p.tables e below (T8.setTop (mkF m 113 #[.val (.long pl1), .second, .val (.long pl2), .second, .val (.long pl3), .second, .val (.long pl4), .second, .val (.long (own_min pl1 pl2)), .second, .val (.long (own_max pl1 pl2)), .second, .val (.long (own_min pl3 pl4)), .second, .val (.long (own_max pl3 pl4)), .second, .val (.int (1 : Int32)), .val (.int (own_ov (own_min pl1 pl2) (own_max pl1 pl2) (own_min pl3 pl4) (own_max pl3 pl4))), .val (.int (own_ov (own_min pl3 pl4) (own_max pl3 pl4) (own_min pl1 pl2) (own_max pl1 pl2)))] [])) _
    refine XS.iconst X8.here hx rfl (hb hby at_113) ?_
    show Steps p.tables e below (T8.setTop (mkF m 114 #[.val (.long pl1), .second, .val (.long pl2), .second, .val (.long pl3), .second, .val (.long pl4), .second, .val (.long (own_min pl1 pl2)), .second, .val (.long (own_max pl1 pl2)), .second, .val (.long (own_min pl3 pl4)), .second, .val (.long (own_max pl3 pl4)), .second, .val (.int (1 : Int32)), .val (.int (own_ov (own_min pl1 pl2) (own_max pl1 pl2) (own_min pl3 pl4) (own_max pl3 pl4))), .val (.int (own_ov (own_min pl3 pl4) (own_max pl3 pl4) (own_min pl1 pl2) (own_max pl1 pl2)))] [(.int (1 : Int32))])) _
    refine XS.goto X8.here hx rfl (pc0 := 114) (pc' := 118) rfl (hb hby at_114) (by decide) (by decide) ?_
    show Steps p.tables e below (T8.setTop (mkF m 118 #[.val (.long pl1), .second, .val (.long pl2), .second, .val (.long pl3), .second, .val (.long pl4), .second, .val (.long (own_min pl1 pl2)), .second, .val (.long (own_max pl1 pl2)), .second, .val (.long (own_min pl3 pl4)), .second, .val (.long (own_max pl3 pl4)), .second, .val (.int (1 : Int32)), .val (.int (own_ov (own_min pl1 pl2) (own_max pl1 pl2) (own_min pl3 pl4) (own_max pl3 pl4))), .val (.int (own_ov (own_min pl3 pl4) (own_max pl3 pl4) (own_min pl1 pl2) (own_max pl1 pl2)))] [(.int (1 : Int32))])) _
    exact retN X8 hx (t := .boolean) Bd.returns (by simp) (hb hby at_118) hr
  · exact ⟨rfl, N8⟩
set_option maxRecDepth 65536 in
set_option maxHeartbeats 40000000 in
theorem rm0_fff (l : Launch) (Z : State) (a0 : Array Value) (hw : ∀ d ∈ tables_1, d.before a0 Z = true) (ws : List Jvm.Cond) (pl1 : Int64) (pl2 : Int64) (pl3 : Int64) (pl4 : Int64) (h0 : Heap) (n0 : Nat) (Z0 : n0 ≤ h0.size) (O0 : Old Z n0 h0) (hc3_0 : ¬ ((lcmpW pl1 pl2) = (0 : Int32))) (hc11_1 : ¬ ((lcmpW pl3 pl4) = (0 : Int32))) (hc63_2 : ¬ ((lcmpW (own_max (own_min pl1 pl2) (own_min pl3 pl4)) (own_min (own_max pl1 pl2) (own_max pl3 pl4))) < (0 : Int32))) :
    MetFree l x (head1 (Jvm.Cond.code x code maxLocals ret :: ws) room_1) (fun a U => a = #[(.long pl1), (.long pl2), (.long pl3), (.long pl4)] ∧ Z.Warmed39 U.vm ∧ U.heap = h0) (fun _ _ _ _ _ => True) (fun _ U o U' => ∃ v L, o = .returned v ∧ Q0 v L n0 ∧ FrameEnd U o U' L room_1.cells room_1.slots) := by
  refine MetFree.of_bodySF (plainFor_of_name pn_0) hisR ?_
  intro p e s m args below meth c s₁ Bd hml0 hP hK
  obtain ⟨rfl, hZ, hh⟩ := hP
  have hx := Bd.exec
  have hby := Bd.bytes
  have hml : c.maxLocals = 19 := hml0
  have hown : s.vm.findClass "com/example/diarist/diarist/days/NosebleedTimesOverlapsPinLaw" = some m.cls := findClass_of_methodNamed Bd.named
  have hnm := (name_of_methodNamed Bd.named Bd.method).1
  have X0 : Stand p l e room_1 s m #[(.long pl1), (.long pl2), (.long pl3), (.long pl4)] below meth c s₁ [] 0 0 := Stand.of_body Bd
  have e0 : s₁.heap = h0 := by rw [← hh, Bd.state]; rfl
  have N0 := Fr.nil n0
  have pre0 : ∀ t, Steps p.tables e below (s₁.setTop (mkF m 0 #[.val (.long pl1), .second, .val (.long pl2), .second, .val (.long pl3), .second, .val (.long pl4), .second, .unset, .unset, .unset, .unset, .unset, .unset, .unset, .unset, .unset, .unset, .unset] [])) t → Steps p.tables e below (s₁.setTop (entryFrame m #[(.long pl1), (.long pl2), (.long pl3), (.long pl4)] maxLocals)) t := fun t k => castTop (ef_0 m pl1 pl2 pl3 pl4) k
  obtain ⟨_, _, ⟨T1, L1, k1, n1⟩, -, X1, ⟨Lc1, hQ1, l1, y1, z1⟩, st1⟩ := Jvm.LawKit.callS X0 hx (y := (⟨"java/lang/Math", "min", "(JJ)J"⟩ : MethodName)) hown (mvT hZ (hw _ (List.mem_of_getElem? (i := 0) rfl))) (mvT hZ (hw _ (List.mem_of_getElem? (i := 1) rfl))) (mvT hZ (hw _ (List.mem_of_getElem? (i := 2) rfl))) (mvT hZ (hw _ (List.mem_of_getElem? (i := 3) rfl))) (by decide) (backOf (W := 0) (rm1m l Z a0 hw [] pl1 pl2 h0 n0 Z0 O0 ) hZ (hw _ (List.mem_of_getElem? (i := 3) rfl)) (hw _ (List.mem_of_getElem? (i := 2) rfl)) (by decide) (by decide)) (g := (mkF m 18 #[.val (.long pl1), .second, .val (.long pl2), .second, .val (.long pl3), .second, .val (.long pl4), .second, .unset, .unset, .unset, .unset, .unset, .unset, .unset, .unset, .unset, .unset, .unset] [(.long pl2), (.long pl1)])) rfl (by rw [hml]; rfl) (argsL := [(.long pl1), (.long pl2)]) (rest := []) (lenOf pd_0 rfl) rfl (by show 2 * 0 + _ ≤ _; exact Nat.le_of_eq rfl) (hb hby at_18) (fun _ _ => ⟨rfl, e0, (by decide : 0 + 0 ≤ _), (by decide : 0 + 0 ≤ _)⟩)
  dsimp only [Pt.U, Pt.locs, Pt.cells, Pt.slots] at X1 l1 y1 z1 st1 hQ1
  subst l1 y1 z1
  obtain ⟨rfl, N1q, eq1⟩ := hQ1
  have N1 := Fr.app N0 N1q
  obtain ⟨_, _, ⟨T2, L2, k2, n2⟩, -, X2, ⟨Lc2, hQ2, l2, y2, z2⟩, st2⟩ := Jvm.LawKit.callS X1 hx (y := (⟨"java/lang/Math", "max", "(JJ)J"⟩ : MethodName)) hown (mvT hZ (hw _ (List.mem_of_getElem? (i := 4) rfl))) (mvT hZ (hw _ (List.mem_of_getElem? (i := 5) rfl))) (mvT hZ (hw _ (List.mem_of_getElem? (i := 2) rfl))) (mvT hZ (hw _ (List.mem_of_getElem? (i := 6) rfl))) (by decide) (backOf (W := 0) (rm2m l Z a0 hw [] pl1 pl2 h0 n0 Z0 O0 ) hZ (hw _ (List.mem_of_getElem? (i := 6) rfl)) (hw _ (List.mem_of_getElem? (i := 2) rfl)) (by decide) (by decide)) (g := (mkF m 25 #[.val (.long pl1), .second, .val (.long pl2), .second, .val (.long pl3), .second, .val (.long pl4), .second, .val (.long (own_min pl1 pl2)), .second, .unset, .unset, .unset, .unset, .unset, .unset, .unset, .unset, .unset] [(.long pl2), (.long pl1)])) rfl (by rw [hml]; rfl) (argsL := [(.long pl1), (.long pl2)]) (rest := []) (lenOf pd_0 rfl) rfl (by show 2 * 0 + _ ≤ _; exact Nat.le_of_eq rfl) (hb hby at_25) (fun _ _ => ⟨rfl, eq1, (by decide : 0 + 0 ≤ _), (by decide : 0 + 0 ≤ _)⟩)
  dsimp only [Pt.U, Pt.locs, Pt.cells, Pt.slots] at X2 l2 y2 z2 st2 hQ2
  subst l2 y2 z2
  obtain ⟨rfl, N2q, eq2⟩ := hQ2
  have N2 := Fr.app N1 N2q
  obtain ⟨_, _, ⟨T3, L3, k3, n3⟩, -, X3, ⟨Lc3, hQ3, l3, y3, z3⟩, st3⟩ := Jvm.LawKit.callS X2 hx (y := (⟨"java/lang/Math", "min", "(JJ)J"⟩ : MethodName)) hown (mvT hZ (hw _ (List.mem_of_getElem? (i := 0) rfl))) (mvT hZ (hw _ (List.mem_of_getElem? (i := 1) rfl))) (mvT hZ (hw _ (List.mem_of_getElem? (i := 2) rfl))) (mvT hZ (hw _ (List.mem_of_getElem? (i := 3) rfl))) (by decide) (backOf (W := 0) (rm1m l Z a0 hw [] pl3 pl4 h0 n0 Z0 O0 ) hZ (hw _ (List.mem_of_getElem? (i := 3) rfl)) (hw _ (List.mem_of_getElem? (i := 2) rfl)) (by decide) (by decide)) (g := (mkF m 34 #[.val (.long pl1), .second, .val (.long pl2), .second, .val (.long pl3), .second, .val (.long pl4), .second, .val (.long (own_min pl1 pl2)), .second, .val (.long (own_max pl1 pl2)), .second, .unset, .unset, .unset, .unset, .unset, .unset, .unset] [(.long pl4), (.long pl3)])) rfl (by rw [hml]; rfl) (argsL := [(.long pl3), (.long pl4)]) (rest := []) (lenOf pd_0 rfl) rfl (by show 2 * 0 + _ ≤ _; exact Nat.le_of_eq rfl) (hb hby at_34) (fun _ _ => ⟨rfl, eq2, (by decide : 0 + 0 ≤ _), (by decide : 0 + 0 ≤ _)⟩)
  dsimp only [Pt.U, Pt.locs, Pt.cells, Pt.slots] at X3 l3 y3 z3 st3 hQ3
  subst l3 y3 z3
  obtain ⟨rfl, N3q, eq3⟩ := hQ3
  have N3 := Fr.app N2 N3q
  obtain ⟨_, _, ⟨T4, L4, k4, n4⟩, -, X4, ⟨Lc4, hQ4, l4, y4, z4⟩, st4⟩ := Jvm.LawKit.callS X3 hx (y := (⟨"java/lang/Math", "max", "(JJ)J"⟩ : MethodName)) hown (mvT hZ (hw _ (List.mem_of_getElem? (i := 4) rfl))) (mvT hZ (hw _ (List.mem_of_getElem? (i := 5) rfl))) (mvT hZ (hw _ (List.mem_of_getElem? (i := 2) rfl))) (mvT hZ (hw _ (List.mem_of_getElem? (i := 6) rfl))) (by decide) (backOf (W := 0) (rm2m l Z a0 hw [] pl3 pl4 h0 n0 Z0 O0 ) hZ (hw _ (List.mem_of_getElem? (i := 6) rfl)) (hw _ (List.mem_of_getElem? (i := 2) rfl)) (by decide) (by decide)) (g := (mkF m 43 #[.val (.long pl1), .second, .val (.long pl2), .second, .val (.long pl3), .second, .val (.long pl4), .second, .val (.long (own_min pl1 pl2)), .second, .val (.long (own_max pl1 pl2)), .second, .val (.long (own_min pl3 pl4)), .second, .unset, .unset, .unset, .unset, .unset] [(.long pl4), (.long pl3)])) rfl (by rw [hml]; rfl) (argsL := [(.long pl3), (.long pl4)]) (rest := []) (lenOf pd_0 rfl) rfl (by show 2 * 0 + _ ≤ _; exact Nat.le_of_eq rfl) (hb hby at_43) (fun _ _ => ⟨rfl, eq3, (by decide : 0 + 0 ≤ _), (by decide : 0 + 0 ≤ _)⟩)
  dsimp only [Pt.U, Pt.locs, Pt.cells, Pt.slots] at X4 l4 y4 z4 st4 hQ4
  subst l4 y4 z4
  obtain ⟨rfl, N4q, eq4⟩ := hQ4
  have N4 := Fr.app N3 N4q
  obtain ⟨_, _, ⟨T5, L5, k5, n5⟩, -, X5, ⟨Lc5, hQ5, l5, y5, z5⟩, st5⟩ := Jvm.LawKit.callS X4 hx (y := (⟨"java/lang/Math", "max", "(JJ)J"⟩ : MethodName)) hown (mvT hZ (hw _ (List.mem_of_getElem? (i := 4) rfl))) (mvT hZ (hw _ (List.mem_of_getElem? (i := 5) rfl))) (mvT hZ (hw _ (List.mem_of_getElem? (i := 2) rfl))) (mvT hZ (hw _ (List.mem_of_getElem? (i := 6) rfl))) (by decide) (backOf (W := 0) (rm2m l Z a0 hw [] (own_min pl1 pl2) (own_min pl3 pl4) h0 n0 Z0 O0 ) hZ (hw _ (List.mem_of_getElem? (i := 6) rfl)) (hw _ (List.mem_of_getElem? (i := 2) rfl)) (by decide) (by decide)) (g := (mkF m 52 #[.val (.long pl1), .second, .val (.long pl2), .second, .val (.long pl3), .second, .val (.long pl4), .second, .val (.long (own_min pl1 pl2)), .second, .val (.long (own_max pl1 pl2)), .second, .val (.long (own_min pl3 pl4)), .second, .val (.long (own_max pl3 pl4)), .second, .unset, .unset, .unset] [(.long (own_min pl3 pl4)), (.long (own_min pl1 pl2))])) rfl (by rw [hml]; rfl) (argsL := [(.long (own_min pl1 pl2)), (.long (own_min pl3 pl4))]) (rest := []) (lenOf pd_0 rfl) rfl (by show 2 * 0 + _ ≤ _; exact Nat.le_of_eq rfl) (hb hby at_52) (fun _ _ => ⟨rfl, eq4, (by decide : 0 + 0 ≤ _), (by decide : 0 + 0 ≤ _)⟩)
  dsimp only [Pt.U, Pt.locs, Pt.cells, Pt.slots] at X5 l5 y5 z5 st5 hQ5
  subst l5 y5 z5
  obtain ⟨rfl, N5q, eq5⟩ := hQ5
  have N5 := Fr.app N4 N5q
  obtain ⟨_, _, ⟨T6, L6, k6, n6⟩, -, X6, ⟨Lc6, hQ6, l6, y6, z6⟩, st6⟩ := Jvm.LawKit.callS X5 hx (y := (⟨"java/lang/Math", "min", "(JJ)J"⟩ : MethodName)) hown (mvT hZ (hw _ (List.mem_of_getElem? (i := 0) rfl))) (mvT hZ (hw _ (List.mem_of_getElem? (i := 1) rfl))) (mvT hZ (hw _ (List.mem_of_getElem? (i := 2) rfl))) (mvT hZ (hw _ (List.mem_of_getElem? (i := 3) rfl))) (by decide) (backOf (W := 2) (rm1m l Z a0 hw [] (own_max pl1 pl2) (own_max pl3 pl4) h0 n0 Z0 O0 ) hZ (hw _ (List.mem_of_getElem? (i := 3) rfl)) (hw _ (List.mem_of_getElem? (i := 2) rfl)) (by decide) (by decide)) (g := (mkF m 59 #[.val (.long pl1), .second, .val (.long pl2), .second, .val (.long pl3), .second, .val (.long pl4), .second, .val (.long (own_min pl1 pl2)), .second, .val (.long (own_max pl1 pl2)), .second, .val (.long (own_min pl3 pl4)), .second, .val (.long (own_max pl3 pl4)), .second, .unset, .unset, .unset] [(.long (own_max pl3 pl4)), (.long (own_max pl1 pl2)), (.long (own_max (own_min pl1 pl2) (own_min pl3 pl4)))])) rfl (by rw [hml]; rfl) (argsL := [(.long (own_max pl1 pl2)), (.long (own_max pl3 pl4))]) (rest := [(.long (own_max (own_min pl1 pl2) (own_min pl3 pl4)))]) (lenOf pd_0 rfl) rfl (by show 2 * 0 + _ ≤ _; exact Nat.le_of_eq rfl) (hb hby at_59) (fun _ _ => ⟨rfl, eq5, (by decide : 0 + 0 ≤ _), (by decide : 0 + 0 ≤ _)⟩)
  dsimp only [Pt.U, Pt.locs, Pt.cells, Pt.slots] at X6 l6 y6 z6 st6 hQ6
  subst l6 y6 z6
  obtain ⟨rfl, N6q, eq6⟩ := hQ6
  have N6 := Fr.app N5 N6q
  obtain ⟨_, _, ⟨T7, L7, k7, n7⟩, -, X7, ⟨Lc7, hQ7, l7, y7, z7⟩, st7⟩ := Jvm.LawKit.callS X6 hx (y := (⟨"com/example/diarist/diarist/days/NosebleedTimes", "overlaps", "(JJJJ)Z"⟩ : MethodName)) hown (mvT hZ (hw _ (List.mem_of_getElem? (i := 7) rfl))) (mvT hZ (hw _ (List.mem_of_getElem? (i := 8) rfl))) (mvT hZ (hw _ (List.mem_of_getElem? (i := 9) rfl))) (mvT hZ (hw _ (List.mem_of_getElem? (i := 10) rfl))) (by decide) (backOf (W := 0) (rm3m l Z a0 hw [] (own_min pl1 pl2) (own_max pl1 pl2) (own_min pl3 pl4) (own_max pl3 pl4) h0 n0 Z0 O0 ) hZ (hw _ (List.mem_of_getElem? (i := 10) rfl)) (hw _ (List.mem_of_getElem? (i := 9) rfl)) (by decide) (by decide)) (g := (mkF m 81 #[.val (.long pl1), .second, .val (.long pl2), .second, .val (.long pl3), .second, .val (.long pl4), .second, .val (.long (own_min pl1 pl2)), .second, .val (.long (own_max pl1 pl2)), .second, .val (.long (own_min pl3 pl4)), .second, .val (.long (own_max pl3 pl4)), .second, .val (.int (0 : Int32)), .unset, .unset] [(.long (own_max pl3 pl4)), (.long (own_min pl3 pl4)), (.long (own_max pl1 pl2)), (.long (own_min pl1 pl2))])) rfl (by rw [hml]; rfl) (argsL := [(.long (own_min pl1 pl2)), (.long (own_max pl1 pl2)), (.long (own_min pl3 pl4)), (.long (own_max pl3 pl4))]) (rest := []) (lenOf pd_1 rfl) rfl (by show 2 * 0 + _ ≤ _; exact Nat.le_of_eq rfl) (hb hby at_81) (fun _ _ => ⟨rfl, eq6, (by decide : 0 + 0 ≤ _), (by decide : 0 + 0 ≤ _)⟩)
  dsimp only [Pt.U, Pt.locs, Pt.cells, Pt.slots] at X7 l7 y7 z7 st7 hQ7
  subst l7 y7 z7
  obtain ⟨rfl, N7q, eq7⟩ := hQ7
  have N7 := Fr.app N6 N7q
  obtain ⟨_, _, ⟨T8, L8, k8, n8⟩, -, X8, ⟨Lc8, hQ8, l8, y8, z8⟩, st8⟩ := Jvm.LawKit.callS X7 hx (y := (⟨"com/example/diarist/diarist/days/NosebleedTimes", "overlaps", "(JJJJ)Z"⟩ : MethodName)) hown (mvT hZ (hw _ (List.mem_of_getElem? (i := 7) rfl))) (mvT hZ (hw _ (List.mem_of_getElem? (i := 8) rfl))) (mvT hZ (hw _ (List.mem_of_getElem? (i := 9) rfl))) (mvT hZ (hw _ (List.mem_of_getElem? (i := 10) rfl))) (by decide) (backOf (W := 0) (rm3m l Z a0 hw [] (own_min pl3 pl4) (own_max pl3 pl4) (own_min pl1 pl2) (own_max pl1 pl2) h0 n0 Z0 O0 ) hZ (hw _ (List.mem_of_getElem? (i := 10) rfl)) (hw _ (List.mem_of_getElem? (i := 9) rfl)) (by decide) (by decide)) (g := (mkF m 94 #[.val (.long pl1), .second, .val (.long pl2), .second, .val (.long pl3), .second, .val (.long pl4), .second, .val (.long (own_min pl1 pl2)), .second, .val (.long (own_max pl1 pl2)), .second, .val (.long (own_min pl3 pl4)), .second, .val (.long (own_max pl3 pl4)), .second, .val (.int (0 : Int32)), .val (.int (own_ov (own_min pl1 pl2) (own_max pl1 pl2) (own_min pl3 pl4) (own_max pl3 pl4))), .unset] [(.long (own_max pl1 pl2)), (.long (own_min pl1 pl2)), (.long (own_max pl3 pl4)), (.long (own_min pl3 pl4))])) rfl (by rw [hml]; rfl) (argsL := [(.long (own_min pl3 pl4)), (.long (own_max pl3 pl4)), (.long (own_min pl1 pl2)), (.long (own_max pl1 pl2))]) (rest := []) (lenOf pd_1 rfl) rfl (by show 2 * 0 + _ ≤ _; exact Nat.le_of_eq rfl) (hb hby at_94) (fun _ _ => ⟨rfl, eq7, (by decide : 0 + 0 ≤ _), (by decide : 0 + 0 ≤ _)⟩)
  dsimp only [Pt.U, Pt.locs, Pt.cells, Pt.slots] at X8 l8 y8 z8 st8 hQ8
  subst l8 y8 z8
  obtain ⟨rfl, N8q, eq8⟩ := hQ8
  have N8 := Fr.app N7 N8q
  obtain ⟨fs, hr, hrun, hended, hW, hsame⟩ := X8.leave (v := some (.int (1 : Int32))) (fun h => by rw [Bd.returns] at h; cases h) (by first | exact BodyLoose.notSynchronized Bd | exact Body.notSynchronized Bd)
  refine ⟨_, _, pre0 _ ?_, hrun, hended, _, _, rfl, ?_, ⟨_, rfl⟩, hW, hsame.mono (by decide) (by decide)⟩
  · show Steps p.tables e below (s₁.setTop (mkF m 0 #[.val (.long pl1), .second, .val (.long pl2), .second, .val (.long pl3), .second, .val (.long pl4), .second, .unset, .unset, .unset, .unset, .unset, .unset, .unset, .unset, .unset, .unset, .unset] [])) _
    refine XS.lloadN X0.here hx rfl (hb hby at_0) rfl ?_
    show Steps p.tables e below (s₁.setTop (mkF m 1 #[.val (.long pl1), .second, .val (.long pl2), .second, .val (.long pl3), .second, .val (.long pl4), .second, .unset, .unset, .unset, .unset, .unset, .unset, .unset, .unset, .unset, .unset, .unset] [(.long pl1)])) _
    refine XS.lloadN X0.here hx rfl (hb hby at_1) rfl ?_
    show Steps p.tables e below (s₁.setTop (mkF m 2 #[.val (.long pl1), .second, .val (.long pl2), .second, .val (.long pl3), .second, .val (.long pl4), .second, .unset, .unset, .unset, .unset, .unset, .unset, .unset, .unset, .unset, .unset, .unset] [(.long pl2), (.long pl1)])) _
    refine XS.lcmp X0.here hx rfl (hb hby at_2) rfl ?_
    show Steps p.tables e below (s₁.setTop (mkF m 3 #[.val (.long pl1), .second, .val (.long pl2), .second, .val (.long pl3), .second, .val (.long pl4), .second, .unset, .unset, .unset, .unset, .unset, .unset, .unset, .unset, .unset, .unset, .unset] [(.int (lcmpW pl1 pl2))])) _
    refine XS.ifNo X0.here hx rfl (hb hby at_3) rfl ((if0 _ _).trans (feq hc3_0).1) ?_
    show Steps p.tables e below (s₁.setTop (mkF m 6 #[.val (.long pl1), .second, .val (.long pl2), .second, .val (.long pl3), .second, .val (.long pl4), .second, .unset, .unset, .unset, .unset, .unset, .unset, .unset, .unset, .unset, .unset, .unset] [])) _
    refine XS.lload X0.here hx rfl (hb hby at_6) rfl ?_
    show Steps p.tables e below (s₁.setTop (mkF m 8 #[.val (.long pl1), .second, .val (.long pl2), .second, .val (.long pl3), .second, .val (.long pl4), .second, .unset, .unset, .unset, .unset, .unset, .unset, .unset, .unset, .unset, .unset, .unset] [(.long pl3)])) _
    refine XS.lload X0.here hx rfl (hb hby at_8) rfl ?_
    show Steps p.tables e below (s₁.setTop (mkF m 10 #[.val (.long pl1), .second, .val (.long pl2), .second, .val (.long pl3), .second, .val (.long pl4), .second, .unset, .unset, .unset, .unset, .unset, .unset, .unset, .unset, .unset, .unset, .unset] [(.long pl4), (.long pl3)])) _
    refine XS.lcmp X0.here hx rfl (hb hby at_10) rfl ?_
    show Steps p.tables e below (s₁.setTop (mkF m 11 #[.val (.long pl1), .second, .val (.long pl2), .second, .val (.long pl3), .second, .val (.long pl4), .second, .unset, .unset, .unset, .unset, .unset, .unset, .unset, .unset, .unset, .unset, .unset] [(.int (lcmpW pl3 pl4))])) _
    refine XS.ifYes X0.here hx rfl (pc0 := 11) (pc' := 16) rfl (hb hby at_11) rfl ((if0 _ _).trans (feq hc11_1).2) (by decide) (by decide) ?_
    show Steps p.tables e below (s₁.setTop (mkF m 16 #[.val (.long pl1), .second, .val (.long pl2), .second, .val (.long pl3), .second, .val (.long pl4), .second, .unset, .unset, .unset, .unset, .unset, .unset, .unset, .unset, .unset, .unset, .unset] [])) _
    refine XS.lloadN X0.here hx rfl (hb hby at_16) rfl ?_
    show Steps p.tables e below (s₁.setTop (mkF m 17 #[.val (.long pl1), .second, .val (.long pl2), .second, .val (.long pl3), .second, .val (.long pl4), .second, .unset, .unset, .unset, .unset, .unset, .unset, .unset, .unset, .unset, .unset, .unset] [(.long pl1)])) _
    refine XS.lloadN X0.here hx rfl (hb hby at_17) rfl ?_
    show Steps p.tables e below (s₁.setTop (mkF m 18 #[.val (.long pl1), .second, .val (.long pl2), .second, .val (.long pl3), .second, .val (.long pl4), .second, .unset, .unset, .unset, .unset, .unset, .unset, .unset, .unset, .unset, .unset, .unset] [(.long pl2), (.long pl1)])) _
    refine st1 _ ?_
    show Steps p.tables e below (T1.setTop (mkF m 21 #[.val (.long pl1), .second, .val (.long pl2), .second, .val (.long pl3), .second, .val (.long pl4), .second, .unset, .unset, .unset, .unset, .unset, .unset, .unset, .unset, .unset, .unset, .unset] [(.long (own_min pl1 pl2))])) _
    refine XS.lstore X1.here hx rfl (hb hby at_21) rfl (l' := #[.val (.long pl1), .second, .val (.long pl2), .second, .val (.long pl3), .second, .val (.long pl4), .second, .val (.long (own_min pl1 pl2)), .second, .unset, .unset, .unset, .unset, .unset, .unset, .unset, .unset, .unset]) rfl ?_
    show Steps p.tables e below (T1.setTop (mkF m 23 #[.val (.long pl1), .second, .val (.long pl2), .second, .val (.long pl3), .second, .val (.long pl4), .second, .val (.long (own_min pl1 pl2)), .second, .unset, .unset, .unset, .unset, .unset, .unset, .unset, .unset, .unset] [])) _
    refine XS.lloadN X1.here hx rfl (hb hby at_23) rfl ?_
    show Steps p.tables e below (T1.setTop (mkF m 24 #[.val (.long pl1), .second, .val (.long pl2), .second, .val (.long pl3), .second, .val (.long pl4), .second, .val (.long (own_min pl1 pl2)), .second, .unset, .unset, .unset, .unset, .unset, .unset, .unset, .unset, .unset] [(.long pl1)])) _
    refine XS.lloadN X1.here hx rfl (hb hby at_24) rfl ?_
    show Steps p.tables e below (T1.setTop (mkF m 25 #[.val (.long pl1), .second, .val (.long pl2), .second, .val (.long pl3), .second, .val (.long pl4), .second, .val (.long (own_min pl1 pl2)), .second, .unset, .unset, .unset, .unset, .unset, .unset, .unset, .unset, .unset] [(.long pl2), (.long pl1)])) _
    refine st2 _ ?_
    show Steps p.tables e below (T2.setTop (mkF m 28 #[.val (.long pl1), .second, .val (.long pl2), .second, .val (.long pl3), .second, .val (.long pl4), .second, .val (.long (own_min pl1 pl2)), .second, .unset, .unset, .unset, .unset, .unset, .unset, .unset, .unset, .unset] [(.long (own_max pl1 pl2))])) _
    refine XS.lstore X2.here hx rfl (hb hby at_28) rfl (l' := #[.val (.long pl1), .second, .val (.long pl2), .second, .val (.long pl3), .second, .val (.long pl4), .second, .val (.long (own_min pl1 pl2)), .second, .val (.long (own_max pl1 pl2)), .second, .unset, .unset, .unset, .unset, .unset, .unset, .unset]) rfl ?_
    show Steps p.tables e below (T2.setTop (mkF m 30 #[.val (.long pl1), .second, .val (.long pl2), .second, .val (.long pl3), .second, .val (.long pl4), .second, .val (.long (own_min pl1 pl2)), .second, .val (.long (own_max pl1 pl2)), .second, .unset, .unset, .unset, .unset, .unset, .unset, .unset] [])) _
    refine XS.lload X2.here hx rfl (hb hby at_30) rfl ?_
    show Steps p.tables e below (T2.setTop (mkF m 32 #[.val (.long pl1), .second, .val (.long pl2), .second, .val (.long pl3), .second, .val (.long pl4), .second, .val (.long (own_min pl1 pl2)), .second, .val (.long (own_max pl1 pl2)), .second, .unset, .unset, .unset, .unset, .unset, .unset, .unset] [(.long pl3)])) _
    refine XS.lload X2.here hx rfl (hb hby at_32) rfl ?_
    show Steps p.tables e below (T2.setTop (mkF m 34 #[.val (.long pl1), .second, .val (.long pl2), .second, .val (.long pl3), .second, .val (.long pl4), .second, .val (.long (own_min pl1 pl2)), .second, .val (.long (own_max pl1 pl2)), .second, .unset, .unset, .unset, .unset, .unset, .unset, .unset] [(.long pl4), (.long pl3)])) _
    refine st3 _ ?_
    show Steps p.tables e below (T3.setTop (mkF m 37 #[.val (.long pl1), .second, .val (.long pl2), .second, .val (.long pl3), .second, .val (.long pl4), .second, .val (.long (own_min pl1 pl2)), .second, .val (.long (own_max pl1 pl2)), .second, .unset, .unset, .unset, .unset, .unset, .unset, .unset] [(.long (own_min pl3 pl4))])) _
    refine XS.lstore X3.here hx rfl (hb hby at_37) rfl (l' := #[.val (.long pl1), .second, .val (.long pl2), .second, .val (.long pl3), .second, .val (.long pl4), .second, .val (.long (own_min pl1 pl2)), .second, .val (.long (own_max pl1 pl2)), .second, .val (.long (own_min pl3 pl4)), .second, .unset, .unset, .unset, .unset, .unset]) rfl ?_
    show Steps p.tables e below (T3.setTop (mkF m 39 #[.val (.long pl1), .second, .val (.long pl2), .second, .val (.long pl3), .second, .val (.long pl4), .second, .val (.long (own_min pl1 pl2)), .second, .val (.long (own_max pl1 pl2)), .second, .val (.long (own_min pl3 pl4)), .second, .unset, .unset, .unset, .unset, .unset] [])) _
    refine XS.lload X3.here hx rfl (hb hby at_39) rfl ?_
    show Steps p.tables e below (T3.setTop (mkF m 41 #[.val (.long pl1), .second, .val (.long pl2), .second, .val (.long pl3), .second, .val (.long pl4), .second, .val (.long (own_min pl1 pl2)), .second, .val (.long (own_max pl1 pl2)), .second, .val (.long (own_min pl3 pl4)), .second, .unset, .unset, .unset, .unset, .unset] [(.long pl3)])) _
    refine XS.lload X3.here hx rfl (hb hby at_41) rfl ?_
    show Steps p.tables e below (T3.setTop (mkF m 43 #[.val (.long pl1), .second, .val (.long pl2), .second, .val (.long pl3), .second, .val (.long pl4), .second, .val (.long (own_min pl1 pl2)), .second, .val (.long (own_max pl1 pl2)), .second, .val (.long (own_min pl3 pl4)), .second, .unset, .unset, .unset, .unset, .unset] [(.long pl4), (.long pl3)])) _
    refine st4 _ ?_
    show Steps p.tables e below (T4.setTop (mkF m 46 #[.val (.long pl1), .second, .val (.long pl2), .second, .val (.long pl3), .second, .val (.long pl4), .second, .val (.long (own_min pl1 pl2)), .second, .val (.long (own_max pl1 pl2)), .second, .val (.long (own_min pl3 pl4)), .second, .unset, .unset, .unset, .unset, .unset] [(.long (own_max pl3 pl4))])) _
    refine XS.lstore X4.here hx rfl (hb hby at_46) rfl (l' := #[.val (.long pl1), .second, .val (.long pl2), .second, .val (.long pl3), .second, .val (.long pl4), .second, .val (.long (own_min pl1 pl2)), .second, .val (.long (own_max pl1 pl2)), .second, .val (.long (own_min pl3 pl4)), .second, .val (.long (own_max pl3 pl4)), .second, .unset, .unset, .unset]) rfl ?_
    show Steps p.tables e below (T4.setTop (mkF m 48 #[.val (.long pl1), .second, .val (.long pl2), .second, .val (.long pl3), .second, .val (.long pl4), .second, .val (.long (own_min pl1 pl2)), .second, .val (.long (own_max pl1 pl2)), .second, .val (.long (own_min pl3 pl4)), .second, .val (.long (own_max pl3 pl4)), .second, .unset, .unset, .unset] [])) _
    refine XS.lload X4.here hx rfl (hb hby at_48) rfl ?_
    show Steps p.tables e below (T4.setTop (mkF m 50 #[.val (.long pl1), .second, .val (.long pl2), .second, .val (.long pl3), .second, .val (.long pl4), .second, .val (.long (own_min pl1 pl2)), .second, .val (.long (own_max pl1 pl2)), .second, .val (.long (own_min pl3 pl4)), .second, .val (.long (own_max pl3 pl4)), .second, .unset, .unset, .unset] [(.long (own_min pl1 pl2))])) _
    refine XS.lload X4.here hx rfl (hb hby at_50) rfl ?_
    show Steps p.tables e below (T4.setTop (mkF m 52 #[.val (.long pl1), .second, .val (.long pl2), .second, .val (.long pl3), .second, .val (.long pl4), .second, .val (.long (own_min pl1 pl2)), .second, .val (.long (own_max pl1 pl2)), .second, .val (.long (own_min pl3 pl4)), .second, .val (.long (own_max pl3 pl4)), .second, .unset, .unset, .unset] [(.long (own_min pl3 pl4)), (.long (own_min pl1 pl2))])) _
    refine st5 _ ?_
    show Steps p.tables e below (T5.setTop (mkF m 55 #[.val (.long pl1), .second, .val (.long pl2), .second, .val (.long pl3), .second, .val (.long pl4), .second, .val (.long (own_min pl1 pl2)), .second, .val (.long (own_max pl1 pl2)), .second, .val (.long (own_min pl3 pl4)), .second, .val (.long (own_max pl3 pl4)), .second, .unset, .unset, .unset] [(.long (own_max (own_min pl1 pl2) (own_min pl3 pl4)))])) _
    refine XS.lload X5.here hx rfl (hb hby at_55) rfl ?_
    show Steps p.tables e below (T5.setTop (mkF m 57 #[.val (.long pl1), .second, .val (.long pl2), .second, .val (.long pl3), .second, .val (.long pl4), .second, .val (.long (own_min pl1 pl2)), .second, .val (.long (own_max pl1 pl2)), .second, .val (.long (own_min pl3 pl4)), .second, .val (.long (own_max pl3 pl4)), .second, .unset, .unset, .unset] [(.long (own_max pl1 pl2)), (.long (own_max (own_min pl1 pl2) (own_min pl3 pl4)))])) _
    refine XS.lload X5.here hx rfl (hb hby at_57) rfl ?_
    show Steps p.tables e below (T5.setTop (mkF m 59 #[.val (.long pl1), .second, .val (.long pl2), .second, .val (.long pl3), .second, .val (.long pl4), .second, .val (.long (own_min pl1 pl2)), .second, .val (.long (own_max pl1 pl2)), .second, .val (.long (own_min pl3 pl4)), .second, .val (.long (own_max pl3 pl4)), .second, .unset, .unset, .unset] [(.long (own_max pl3 pl4)), (.long (own_max pl1 pl2)), (.long (own_max (own_min pl1 pl2) (own_min pl3 pl4)))])) _
    refine st6 _ ?_
    show Steps p.tables e below (T6.setTop (mkF m 62 #[.val (.long pl1), .second, .val (.long pl2), .second, .val (.long pl3), .second, .val (.long pl4), .second, .val (.long (own_min pl1 pl2)), .second, .val (.long (own_max pl1 pl2)), .second, .val (.long (own_min pl3 pl4)), .second, .val (.long (own_max pl3 pl4)), .second, .unset, .unset, .unset] [(.long (own_min (own_max pl1 pl2) (own_max pl3 pl4))), (.long (own_max (own_min pl1 pl2) (own_min pl3 pl4)))])) _
    refine XS.lcmp X6.here hx rfl (hb hby at_62) rfl ?_
    show Steps p.tables e below (T6.setTop (mkF m 63 #[.val (.long pl1), .second, .val (.long pl2), .second, .val (.long pl3), .second, .val (.long pl4), .second, .val (.long (own_min pl1 pl2)), .second, .val (.long (own_max pl1 pl2)), .second, .val (.long (own_min pl3 pl4)), .second, .val (.long (own_max pl3 pl4)), .second, .unset, .unset, .unset] [(.int (lcmpW (own_max (own_min pl1 pl2) (own_min pl3 pl4)) (own_min (own_max pl1 pl2) (own_max pl3 pl4))))])) _
    refine XS.ifYes X6.here hx rfl (pc0 := 63) (pc' := 70) rfl (hb hby at_63) rfl ((if0 _ _).trans (flt hc63_2).2.1) (by decide) (by decide) ?_
    show Steps p.tables e below (T6.setTop (mkF m 70 #[.val (.long pl1), .second, .val (.long pl2), .second, .val (.long pl3), .second, .val (.long pl4), .second, .val (.long (own_min pl1 pl2)), .second, .val (.long (own_max pl1 pl2)), .second, .val (.long (own_min pl3 pl4)), .second, .val (.long (own_max pl3 pl4)), .second, .unset, .unset, .unset] [])) _
    refine XS.iconst X6.here hx rfl (hb hby at_70) ?_
    show Steps p.tables e below (T6.setTop (mkF m 71 #[.val (.long pl1), .second, .val (.long pl2), .second, .val (.long pl3), .second, .val (.long pl4), .second, .val (.long (own_min pl1 pl2)), .second, .val (.long (own_max pl1 pl2)), .second, .val (.long (own_min pl3 pl4)), .second, .val (.long (own_max pl3 pl4)), .second, .unset, .unset, .unset] [(.int (0 : Int32))])) _
    refine XS.istore X6.here hx rfl (hb hby at_71) rfl (l' := #[.val (.long pl1), .second, .val (.long pl2), .second, .val (.long pl3), .second, .val (.long pl4), .second, .val (.long (own_min pl1 pl2)), .second, .val (.long (own_max pl1 pl2)), .second, .val (.long (own_min pl3 pl4)), .second, .val (.long (own_max pl3 pl4)), .second, .val (.int (0 : Int32)), .unset, .unset]) rfl ?_
    show Steps p.tables e below (T6.setTop (mkF m 73 #[.val (.long pl1), .second, .val (.long pl2), .second, .val (.long pl3), .second, .val (.long pl4), .second, .val (.long (own_min pl1 pl2)), .second, .val (.long (own_max pl1 pl2)), .second, .val (.long (own_min pl3 pl4)), .second, .val (.long (own_max pl3 pl4)), .second, .val (.int (0 : Int32)), .unset, .unset] [])) _
    refine XS.lload X6.here hx rfl (hb hby at_73) rfl ?_
    show Steps p.tables e below (T6.setTop (mkF m 75 #[.val (.long pl1), .second, .val (.long pl2), .second, .val (.long pl3), .second, .val (.long pl4), .second, .val (.long (own_min pl1 pl2)), .second, .val (.long (own_max pl1 pl2)), .second, .val (.long (own_min pl3 pl4)), .second, .val (.long (own_max pl3 pl4)), .second, .val (.int (0 : Int32)), .unset, .unset] [(.long (own_min pl1 pl2))])) _
    refine XS.lload X6.here hx rfl (hb hby at_75) rfl ?_
    show Steps p.tables e below (T6.setTop (mkF m 77 #[.val (.long pl1), .second, .val (.long pl2), .second, .val (.long pl3), .second, .val (.long pl4), .second, .val (.long (own_min pl1 pl2)), .second, .val (.long (own_max pl1 pl2)), .second, .val (.long (own_min pl3 pl4)), .second, .val (.long (own_max pl3 pl4)), .second, .val (.int (0 : Int32)), .unset, .unset] [(.long (own_max pl1 pl2)), (.long (own_min pl1 pl2))])) _
    refine XS.lload X6.here hx rfl (hb hby at_77) rfl ?_
    show Steps p.tables e below (T6.setTop (mkF m 79 #[.val (.long pl1), .second, .val (.long pl2), .second, .val (.long pl3), .second, .val (.long pl4), .second, .val (.long (own_min pl1 pl2)), .second, .val (.long (own_max pl1 pl2)), .second, .val (.long (own_min pl3 pl4)), .second, .val (.long (own_max pl3 pl4)), .second, .val (.int (0 : Int32)), .unset, .unset] [(.long (own_min pl3 pl4)), (.long (own_max pl1 pl2)), (.long (own_min pl1 pl2))])) _
    refine XS.lload X6.here hx rfl (hb hby at_79) rfl ?_
    show Steps p.tables e below (T6.setTop (mkF m 81 #[.val (.long pl1), .second, .val (.long pl2), .second, .val (.long pl3), .second, .val (.long pl4), .second, .val (.long (own_min pl1 pl2)), .second, .val (.long (own_max pl1 pl2)), .second, .val (.long (own_min pl3 pl4)), .second, .val (.long (own_max pl3 pl4)), .second, .val (.int (0 : Int32)), .unset, .unset] [(.long (own_max pl3 pl4)), (.long (own_min pl3 pl4)), (.long (own_max pl1 pl2)), (.long (own_min pl1 pl2))])) _
    refine st7 _ ?_
    show Steps p.tables e below (T7.setTop (mkF m 84 #[.val (.long pl1), .second, .val (.long pl2), .second, .val (.long pl3), .second, .val (.long pl4), .second, .val (.long (own_min pl1 pl2)), .second, .val (.long (own_max pl1 pl2)), .second, .val (.long (own_min pl3 pl4)), .second, .val (.long (own_max pl3 pl4)), .second, .val (.int (0 : Int32)), .unset, .unset] [(.int (own_ov (own_min pl1 pl2) (own_max pl1 pl2) (own_min pl3 pl4) (own_max pl3 pl4)))])) _
    refine XS.istore X7.here hx rfl (hb hby at_84) rfl (l' := #[.val (.long pl1), .second, .val (.long pl2), .second, .val (.long pl3), .second, .val (.long pl4), .second, .val (.long (own_min pl1 pl2)), .second, .val (.long (own_max pl1 pl2)), .second, .val (.long (own_min pl3 pl4)), .second, .val (.long (own_max pl3 pl4)), .second, .val (.int (0 : Int32)), .val (.int (own_ov (own_min pl1 pl2) (own_max pl1 pl2) (own_min pl3 pl4) (own_max pl3 pl4))), .unset]) rfl ?_
    show Steps p.tables e below (T7.setTop (mkF m 86 #[.val (.long pl1), .second, .val (.long pl2), .second, .val (.long pl3), .second, .val (.long pl4), .second, .val (.long (own_min pl1 pl2)), .second, .val (.long (own_max pl1 pl2)), .second, .val (.long (own_min pl3 pl4)), .second, .val (.long (own_max pl3 pl4)), .second, .val (.int (0 : Int32)), .val (.int (own_ov (own_min pl1 pl2) (own_max pl1 pl2) (own_min pl3 pl4) (own_max pl3 pl4))), .unset] [])) _
    refine XS.lload X7.here hx rfl (hb hby at_86) rfl ?_
    show Steps p.tables e below (T7.setTop (mkF m 88 #[.val (.long pl1), .second, .val (.long pl2), .second, .val (.long pl3), .second, .val (.long pl4), .second, .val (.long (own_min pl1 pl2)), .second, .val (.long (own_max pl1 pl2)), .second, .val (.long (own_min pl3 pl4)), .second, .val (.long (own_max pl3 pl4)), .second, .val (.int (0 : Int32)), .val (.int (own_ov (own_min pl1 pl2) (own_max pl1 pl2) (own_min pl3 pl4) (own_max pl3 pl4))), .unset] [(.long (own_min pl3 pl4))])) _
    refine XS.lload X7.here hx rfl (hb hby at_88) rfl ?_
    show Steps p.tables e below (T7.setTop (mkF m 90 #[.val (.long pl1), .second, .val (.long pl2), .second, .val (.long pl3), .second, .val (.long pl4), .second, .val (.long (own_min pl1 pl2)), .second, .val (.long (own_max pl1 pl2)), .second, .val (.long (own_min pl3 pl4)), .second, .val (.long (own_max pl3 pl4)), .second, .val (.int (0 : Int32)), .val (.int (own_ov (own_min pl1 pl2) (own_max pl1 pl2) (own_min pl3 pl4) (own_max pl3 pl4))), .unset] [(.long (own_max pl3 pl4)), (.long (own_min pl3 pl4))])) _
    refine XS.lload X7.here hx rfl (hb hby at_90) rfl ?_
    show Steps p.tables e below (T7.setTop (mkF m 92 #[.val (.long pl1), .second, .val (.long pl2), .second, .val (.long pl3), .second, .val (.long pl4), .second, .val (.long (own_min pl1 pl2)), .second, .val (.long (own_max pl1 pl2)), .second, .val (.long (own_min pl3 pl4)), .second, .val (.long (own_max pl3 pl4)), .second, .val (.int (0 : Int32)), .val (.int (own_ov (own_min pl1 pl2) (own_max pl1 pl2) (own_min pl3 pl4) (own_max pl3 pl4))), .unset] [(.long (own_min pl1 pl2)), (.long (own_max pl3 pl4)), (.long (own_min pl3 pl4))])) _
    refine XS.lload X7.here hx rfl (hb hby at_92) rfl ?_
    show Steps p.tables e below (T7.setTop (mkF m 94 #[.val (.long pl1), .second, .val (.long pl2), .second, .val (.long pl3), .second, .val (.long pl4), .second, .val (.long (own_min pl1 pl2)), .second, .val (.long (own_max pl1 pl2)), .second, .val (.long (own_min pl3 pl4)), .second, .val (.long (own_max pl3 pl4)), .second, .val (.int (0 : Int32)), .val (.int (own_ov (own_min pl1 pl2) (own_max pl1 pl2) (own_min pl3 pl4) (own_max pl3 pl4))), .unset] [(.long (own_max pl1 pl2)), (.long (own_min pl1 pl2)), (.long (own_max pl3 pl4)), (.long (own_min pl3 pl4))])) _
    refine st8 _ ?_
    show Steps p.tables e below (T8.setTop (mkF m 97 #[.val (.long pl1), .second, .val (.long pl2), .second, .val (.long pl3), .second, .val (.long pl4), .second, .val (.long (own_min pl1 pl2)), .second, .val (.long (own_max pl1 pl2)), .second, .val (.long (own_min pl3 pl4)), .second, .val (.long (own_max pl3 pl4)), .second, .val (.int (0 : Int32)), .val (.int (own_ov (own_min pl1 pl2) (own_max pl1 pl2) (own_min pl3 pl4) (own_max pl3 pl4))), .unset] [(.int (own_ov (own_min pl3 pl4) (own_max pl3 pl4) (own_min pl1 pl2) (own_max pl1 pl2)))])) _
    refine XS.istore X8.here hx rfl (hb hby at_97) rfl (l' := #[.val (.long pl1), .second, .val (.long pl2), .second, .val (.long pl3), .second, .val (.long pl4), .second, .val (.long (own_min pl1 pl2)), .second, .val (.long (own_max pl1 pl2)), .second, .val (.long (own_min pl3 pl4)), .second, .val (.long (own_max pl3 pl4)), .second, .val (.int (0 : Int32)), .val (.int (own_ov (own_min pl1 pl2) (own_max pl1 pl2) (own_min pl3 pl4) (own_max pl3 pl4))), .val (.int (own_ov (own_min pl3 pl4) (own_max pl3 pl4) (own_min pl1 pl2) (own_max pl1 pl2)))]) rfl ?_
    show Steps p.tables e below (T8.setTop (mkF m 99 #[.val (.long pl1), .second, .val (.long pl2), .second, .val (.long pl3), .second, .val (.long pl4), .second, .val (.long (own_min pl1 pl2)), .second, .val (.long (own_max pl1 pl2)), .second, .val (.long (own_min pl3 pl4)), .second, .val (.long (own_max pl3 pl4)), .second, .val (.int (0 : Int32)), .val (.int (own_ov (own_min pl1 pl2) (own_max pl1 pl2) (own_min pl3 pl4) (own_max pl3 pl4))), .val (.int (own_ov (own_min pl3 pl4) (own_max pl3 pl4) (own_min pl1 pl2) (own_max pl1 pl2)))] [])) _
    refine XS.iload X8.here hx rfl (hb hby at_99) rfl ?_
    show Steps p.tables e below (T8.setTop (mkF m 101 #[.val (.long pl1), .second, .val (.long pl2), .second, .val (.long pl3), .second, .val (.long pl4), .second, .val (.long (own_min pl1 pl2)), .second, .val (.long (own_max pl1 pl2)), .second, .val (.long (own_min pl3 pl4)), .second, .val (.long (own_max pl3 pl4)), .second, .val (.int (0 : Int32)), .val (.int (own_ov (own_min pl1 pl2) (own_max pl1 pl2) (own_min pl3 pl4) (own_max pl3 pl4))), .val (.int (own_ov (own_min pl3 pl4) (own_max pl3 pl4) (own_min pl1 pl2) (own_max pl1 pl2)))] [(.int (own_ov (own_min pl1 pl2) (own_max pl1 pl2) (own_min pl3 pl4) (own_max pl3 pl4)))])) _
    refine XS.iload X8.here hx rfl (hb hby at_101) rfl ?_
    show Steps p.tables e below (T8.setTop (mkF m 103 #[.val (.long pl1), .second, .val (.long pl2), .second, .val (.long pl3), .second, .val (.long pl4), .second, .val (.long (own_min pl1 pl2)), .second, .val (.long (own_max pl1 pl2)), .second, .val (.long (own_min pl3 pl4)), .second, .val (.long (own_max pl3 pl4)), .second, .val (.int (0 : Int32)), .val (.int (own_ov (own_min pl1 pl2) (own_max pl1 pl2) (own_min pl3 pl4) (own_max pl3 pl4))), .val (.int (own_ov (own_min pl3 pl4) (own_max pl3 pl4) (own_min pl1 pl2) (own_max pl1 pl2)))] [(.int (0 : Int32)), (.int (own_ov (own_min pl1 pl2) (own_max pl1 pl2) (own_min pl3 pl4) (own_max pl3 pl4)))])) _
    refine XS.icmpNo X8.here hx rfl (hb hby at_103) rfl (teq (own_f hc3_0 hc11_1 hc63_2).1).2 ?_
    show Steps p.tables e below (T8.setTop (mkF m 106 #[.val (.long pl1), .second, .val (.long pl2), .second, .val (.long pl3), .second, .val (.long pl4), .second, .val (.long (own_min pl1 pl2)), .second, .val (.long (own_max pl1 pl2)), .second, .val (.long (own_min pl3 pl4)), .second, .val (.long (own_max pl3 pl4)), .second, .val (.int (0 : Int32)), .val (.int (own_ov (own_min pl1 pl2) (own_max pl1 pl2) (own_min pl3 pl4) (own_max pl3 pl4))), .val (.int (own_ov (own_min pl3 pl4) (own_max pl3 pl4) (own_min pl1 pl2) (own_max pl1 pl2)))] [])) _
    refine XS.iload X8.here hx rfl (hb hby at_106) rfl ?_
    show Steps p.tables e below (T8.setTop (mkF m 108 #[.val (.long pl1), .second, .val (.long pl2), .second, .val (.long pl3), .second, .val (.long pl4), .second, .val (.long (own_min pl1 pl2)), .second, .val (.long (own_max pl1 pl2)), .second, .val (.long (own_min pl3 pl4)), .second, .val (.long (own_max pl3 pl4)), .second, .val (.int (0 : Int32)), .val (.int (own_ov (own_min pl1 pl2) (own_max pl1 pl2) (own_min pl3 pl4) (own_max pl3 pl4))), .val (.int (own_ov (own_min pl3 pl4) (own_max pl3 pl4) (own_min pl1 pl2) (own_max pl1 pl2)))] [(.int (own_ov (own_min pl3 pl4) (own_max pl3 pl4) (own_min pl1 pl2) (own_max pl1 pl2)))])) _
    refine XS.iload X8.here hx rfl (hb hby at_108) rfl ?_
    show Steps p.tables e below (T8.setTop (mkF m 110 #[.val (.long pl1), .second, .val (.long pl2), .second, .val (.long pl3), .second, .val (.long pl4), .second, .val (.long (own_min pl1 pl2)), .second, .val (.long (own_max pl1 pl2)), .second, .val (.long (own_min pl3 pl4)), .second, .val (.long (own_max pl3 pl4)), .second, .val (.int (0 : Int32)), .val (.int (own_ov (own_min pl1 pl2) (own_max pl1 pl2) (own_min pl3 pl4) (own_max pl3 pl4))), .val (.int (own_ov (own_min pl3 pl4) (own_max pl3 pl4) (own_min pl1 pl2) (own_max pl1 pl2)))] [(.int (0 : Int32)), (.int (own_ov (own_min pl3 pl4) (own_max pl3 pl4) (own_min pl1 pl2) (own_max pl1 pl2)))])) _
    refine XS.icmpNo X8.here hx rfl (hb hby at_110) rfl (teq (own_f hc3_0 hc11_1 hc63_2).2).2 ?_
    show Steps p.tables e below (T8.setTop (mkF m 113 #[.val (.long pl1), .second, .val (.long pl2), .second, .val (.long pl3), .second, .val (.long pl4), .second, .val (.long (own_min pl1 pl2)), .second, .val (.long (own_max pl1 pl2)), .second, .val (.long (own_min pl3 pl4)), .second, .val (.long (own_max pl3 pl4)), .second, .val (.int (0 : Int32)), .val (.int (own_ov (own_min pl1 pl2) (own_max pl1 pl2) (own_min pl3 pl4) (own_max pl3 pl4))), .val (.int (own_ov (own_min pl3 pl4) (own_max pl3 pl4) (own_min pl1 pl2) (own_max pl1 pl2)))] [])) _
    refine XS.iconst X8.here hx rfl (hb hby at_113) ?_
    show Steps p.tables e below (T8.setTop (mkF m 114 #[.val (.long pl1), .second, .val (.long pl2), .second, .val (.long pl3), .second, .val (.long pl4), .second, .val (.long (own_min pl1 pl2)), .second, .val (.long (own_max pl1 pl2)), .second, .val (.long (own_min pl3 pl4)), .second, .val (.long (own_max pl3 pl4)), .second, .val (.int (0 : Int32)), .val (.int (own_ov (own_min pl1 pl2) (own_max pl1 pl2) (own_min pl3 pl4) (own_max pl3 pl4))), .val (.int (own_ov (own_min pl3 pl4) (own_max pl3 pl4) (own_min pl1 pl2) (own_max pl1 pl2)))] [(.int (1 : Int32))])) _
    refine XS.goto X8.here hx rfl (pc0 := 114) (pc' := 118) rfl (hb hby at_114) (by decide) (by decide) ?_
    show Steps p.tables e below (T8.setTop (mkF m 118 #[.val (.long pl1), .second, .val (.long pl2), .second, .val (.long pl3), .second, .val (.long pl4), .second, .val (.long (own_min pl1 pl2)), .second, .val (.long (own_max pl1 pl2)), .second, .val (.long (own_min pl3 pl4)), .second, .val (.long (own_max pl3 pl4)), .second, .val (.int (0 : Int32)), .val (.int (own_ov (own_min pl1 pl2) (own_max pl1 pl2) (own_min pl3 pl4) (own_max pl3 pl4))), .val (.int (own_ov (own_min pl3 pl4) (own_max pl3 pl4) (own_min pl1 pl2) (own_max pl1 pl2)))] [(.int (1 : Int32))])) _
    exact retN X8 hx (t := .boolean) Bd.returns (by simp) (hb hby at_118) hr
  · exact ⟨rfl, N8⟩
set_option maxRecDepth 65536 in
set_option maxHeartbeats 40000000 in
theorem rm0 (l : Launch) (Z : State) (a0 : Array Value) (hw : ∀ d ∈ tables_1, d.before a0 Z = true) (ws : List Jvm.Cond) (pl1 : Int64) (pl2 : Int64) (pl3 : Int64) (pl4 : Int64) (h0 : Heap) (n0 : Nat) (Z0 : n0 ≤ h0.size) (O0 : Old Z n0 h0) :
    MetFree l x (head1 (Jvm.Cond.code x code maxLocals ret :: ws) room_1) (fun a U => a = #[(.long pl1), (.long pl2), (.long pl3), (.long pl4)] ∧ Z.Warmed39 U.vm ∧ U.heap = h0) (fun _ _ _ _ _ => True) (fun _ U o U' => ∃ v L, o = .returned v ∧ Q0 v L n0 ∧ FrameEnd U o U' L room_1.cells room_1.slots) := by
  by_cases H1 : (lcmpW pl1 pl2) = (0 : Int32)
  · exact rm0_t l Z a0 hw ws pl1 pl2 pl3 pl4 h0 n0 Z0 O0  H1
  · by_cases H2 : (lcmpW pl3 pl4) = (0 : Int32)
    · exact rm0_ft l Z a0 hw ws pl1 pl2 pl3 pl4 h0 n0 Z0 O0  H1 H2
    · by_cases H3 : (lcmpW (own_max (own_min pl1 pl2) (own_min pl3 pl4)) (own_min (own_max pl1 pl2) (own_max pl3 pl4))) < (0 : Int32)
      · exact rm0_fft l Z a0 hw ws pl1 pl2 pl3 pl4 h0 n0 Z0 O0  H1 H2 H3
      · exact rm0_fff l Z a0 hw ws pl1 pl2 pl3 pl4 h0 n0 Z0 O0  H1 H2 H3
set_option maxRecDepth 65536 in
set_option maxHeartbeats 40000000 in
theorem comes_1 {Post : Tables → Env → Array Value → State → Outcome → State → Prop} (hpost : ∀ tb e args s v u, (limb_1_1.after args s (.returned v) u = true ∧ limb_1_2.after args s (.returned v) u = true ∧ True) → FrameEnd s (.returned v) u (Jvm.fieldLocs frame_1_writes args s ++ Jvm.arrayLocs frame_1_arrays args s ++ Jvm.staticLocs frame_1_statics s) 0 0 → Post tb e args s (.returned v) u) :
    ArmFor flags0 classFile x code maxLocals ret World_1 tables_1 room_1 Calls_1 rest_1 Pre_1 Post := by
  intro l hfl _ _ p e ha hc hk s m args below hf hA hF happ hP
  obtain ⟨hcalls, hrest, hpre⟩ := hP
  obtain ⟨-, -, -, hnamed, -, -, -, hat⟩ := (Spec.applies_iff hf).mp happ
  obtain ⟨hg, hn⟩ := and_e (Cond.before_iff.mp (show (Jvm.Cond.and given_1 narrow_1).before args s = true from hpre))
  obtain ⟨g1, g2⟩ := and_e hg
  obtain ⟨g3, g4⟩ := and_e g2
  obtain ⟨g5, g6⟩ := and_e g4
  obtain ⟨g7, g8⟩ := and_e g6
  obtain ⟨w0, w1, w2, w3, rfl⟩ : ∃ w0 w1 w2 w3 : Value, args = #[w0, w1, w2, w3] := by
    have hs : args.size = 4 := by simpa [Cond.value, given_1] using g1
    obtain ⟨L⟩ := args
    match L, hs with
    | [w0, w1, w2, w3], _ => exact ⟨w0, w1, w2, w3, rfl⟩
  have hw := fun d (hd : d ∈ tables_1) => atoms_spec (ws := Jvm.Cond.code x code maxLocals ret :: tables_1) hat d (List.mem_cons_of_mem _ hd)
  have hfit : Fit s := fun {y c} hc i hi => by
    obtain ⟨ha, rfl⟩ := Array.getElem?_eq_some_iff.mp hc
    have q := List.all_eq_true.mp ((Array.all_eq_true_iff_forall_mem.mp hF) _ (Array.getElem_mem ha)) i (List.mem_range.mpr hi)
    simpa [Array.getElem?_eq_getElem hi] using q
  obtain ⟨i0, ei0⟩ := isL_v g3
  obtain rfl : w0 = (.long i0) := Option.some.inj ei0
  obtain ⟨i1, ei1⟩ := isL_v g5
  obtain rfl : w1 = (.long i1) := Option.some.inj ei1
  obtain ⟨i2, ei2⟩ := isL_v g7
  obtain rfl : w2 = (.long i2) := Option.some.inj ei2
  obtain ⟨i3, ei3⟩ := isL_v g8
  obtain rfl : w3 = (.long i3) := Option.some.inj ei3
  obtain ⟨n, o, h1, h2, h3, _, L, rfl, ⟨rfl, N⟩, hq⟩ := rm0 l s _ hw tables_1 i0 i1 i2 i3  s.heap s.heap.size (Nat.le_refl _) (Old.start s)  p e ha hc hk s m _ below hf ((Spec.applies_iff_loose hf).mp happ).1 ⟨rfl, State.Warmed39.refl s, rfl⟩ trivial
  refine ⟨n, _, h1, h2, h3, hpost _ _ _ _ _ _ ⟨Cond.after_iff.mpr rfl, Cond.after_iff.mpr (eq_i res_at (Term.int_eval (1)) rfl), trivial⟩ ⟨hq.1, hq.2.1, (hq.2.2.sift fun y hy => Or.inr (N y hy)).mono (by decide) (by decide)⟩⟩
theorem main_1_1 : Claimed_1_1 := comes_1 fun _ _ _ _ _ _ h hF => ⟨h.1, hF⟩
theorem main_1_2 : Claimed_1_2 := comes_1 fun _ _ _ _ _ _ h hF => ⟨h.2.1, hF⟩
end Jvm.Pilot.@@N@@
namespace Jvm.Pilot.@@N@@
open Jvm Jvm.ClassFile Sem Op Lib Jvm.Free Jvm.Stand Jvm.Pilot.@@N@@.Jvm.D
/-! MADE BY PROGRAM (witnessworld.py) out of the Statement's table words and the real class files: 11 classes; the members and pool entries that the words name. The judged class is class 1, her method 1. -/
namespace start1
open Jvm.ClassFile
def u (s : String) : CpInfo := .utf8 (stringToUtf16 s)
/-- a pool by its gaps: so many unusable entries, then the entry; so many at the end -/
def gap : Nat → List CpInfo → List CpInfo
  | 0, r => r
  | n + 1, r => .unusable :: gap n r
def poolList (es : List (Nat × CpInfo)) (last : Nat) : List CpInfo := es.foldr (fun e r => gap e.1 (e.2 :: r)) (gap last [])
def pool (es : List (Nat × CpInfo)) (last : Nat) : Array CpInfo := ⟨poolList es last⟩
def fileOf (pool : Array CpInfo) (this : Nat) (attrs : Array Attribute := #[]) (ms : Array MethodInfo := #[]) (fl : Nat := 33) (sup : Nat := 0) (ifs : Array Nat := #[]) (fds : Array FieldInfo := #[]) : ClassFile where
  minorVersion := 0
  majorVersion := 65
  constantPool := pool
  accessFlags := fl
  thisClass := this
  superClass := sup
  interfaces := ifs
  fields := fds
  methods := ms
  attributes := attrs
def plain (name : String) (sup : Option ClassId) : Class where
  name := name
  kind := .ordinary
  loader := none
  accessFlags := 33
  super := sup
  interfaces := #[]
  cf := none
  fields := #[]
  methods := #[]
  instanceTypes := #[]
  staticTypes := #[]
  resolved := #[]
  callSites := []
  init := .initialized
  statics := none
  mirror := none

def pool0 : Array CpInfo := pool [(5, u "<init>"), (0, u "()V"), (1, .class_ 10), (1, u "java/lang/Object")] 113

def k0m0 : Method := { name := "<init>", desc := "()V", sig := { parameters := [], returnType := none }, accessFlags := 1, code := none }
/-- java/lang/Object -/
def k0 : Class := { plain "java/lang/Object" none with
  accessFlags := 33
  interfaces := #[]
  cf := some (fileOf pool0 8 #[] #[{ accessFlags := 1, nameIndex := 5, descriptorIndex := 6, attributes := #[] }] 33 0 #[] #[])
  fields := #[]
  methods := #[k0m0]
  instanceTypes := #[]
  staticTypes := #[]
  resolved := Array.replicate 124 none
  statics := none }

def pool1 : Array CpInfo := pool [(2, .class_ 4), (1, u "java/lang/Object"), (0, u "<init>"), (0, u "()V"), (0, .methodref 8 9), (0, .class_ 10), (0, .nameAndType 11 12), (0, u "java/lang/Math"), (0, u "min"), (0, u "(JJ)J"), (0, .methodref 8 14), (0, .nameAndType 15 12), (0, u "max"), (0, .methodref 17 18), (0, .class_ 19), (0, .nameAndType 20 21), (0, u "com/example/diarist/diarist/days/NosebleedTimes"), (0, u "overlaps"), (0, u "(JJJJ)Z"), (0, .class_ 23), (0, u "com/example/diarist/diarist/days/NosebleedTimesOverlapsPinLaw"), (2, u "law")] 3

def k1m0 : Method := { name := "<init>", desc := "()V", sig := { parameters := [], returnType := none }, accessFlags := 1, code := none }
def k1c1 : Code := { maxStack := 8, maxLocals := 19, code := code, exceptionTable := #[], attributes := #[] }
def k1m1 : Method := { name := "law", desc := "(JJJJ)Z", sig := { parameters := [.long, .long, .long, .long], returnType := some .boolean }, accessFlags := 9, code := some k1c1 }
/-- com/example/diarist/diarist/days/NosebleedTimesOverlapsPinLaw -/
def k1 : Class := { plain "com/example/diarist/diarist/days/NosebleedTimesOverlapsPinLaw" (some 0) with
  accessFlags := 49
  interfaces := #[]
  cf := some (fileOf pool1 22 #[] #[{ accessFlags := 1, nameIndex := 5, descriptorIndex := 6, attributes := #[] }, { accessFlags := 9, nameIndex := 26, descriptorIndex := 21, attributes := #[] }] 49 2 #[] #[])
  fields := #[]
  methods := #[k1m0, k1m1]
  instanceTypes := #[]
  staticTypes := #[]
  resolved := Array.replicate 30 none
  statics := none }

def pool2 : Array CpInfo := pool [(1, .class_ 2), (0, u "java/lang/Math"), (1, .class_ 6), (1, u "java/lang/Object"), (0, u "<init>"), (0, u "()V"), (89, .class_ 100), (1, u "java/lang/Math$RandomNumberGeneratorHolder"), (20, u "(JJ)J"), (50, u "negativeZeroFloatBits"), (0, u "J"), (2, u "negativeZeroDoubleBits"), (21, u "max"), (2, u "min"), (43, u "$assertionsDisabled"), (0, u "Z"), (91, u "twoToTheDoubleScaleDown"), (0, u "D"), (4, u "twoToTheDoubleScaleUp"), (9, u "E"), (3, u "PI"), (2, u "TAU"), (2, u "DEGREES_TO_RADIANS"), (0, u "RADIANS_TO_DEGREES")] 94

def k2m0 : Method := { name := "<init>", desc := "()V", sig := { parameters := [], returnType := none }, accessFlags := 2, code := none }
def k2c1 : Code := { maxStack := 4, maxLocals := 4, code := jdk_29_method_66_code, exceptionTable := #[], attributes := #[] }
def k2m1 : Method := { name := "max", desc := "(JJ)J", sig := { parameters := [.long, .long], returnType := some .long }, accessFlags := 9, code := some k2c1 }
def k2c2 : Code := { maxStack := 4, maxLocals := 4, code := jdk_29_method_70_code, exceptionTable := #[], attributes := #[] }
def k2m2 : Method := { name := "min", desc := "(JJ)J", sig := { parameters := [.long, .long], returnType := some .long }, accessFlags := 9, code := some k2c2 }
/-- java/lang/Math -/
def k2 : Class := { plain "java/lang/Math" (some 0) with
  accessFlags := 49
  interfaces := #[]
  cf := some (fileOf pool2 1 #[.nestMembers #[98]] #[{ accessFlags := 2, nameIndex := 7, descriptorIndex := 8, attributes := #[] }, { accessFlags := 9, nameIndex := 198, descriptorIndex := 121, attributes := #[] }, { accessFlags := 9, nameIndex := 201, descriptorIndex := 121, attributes := #[] }] 49 4 #[] #[{ accessFlags := 25, nameIndex := 354, descriptorIndex := 339, attributes := #[] }, { accessFlags := 25, nameIndex := 358, descriptorIndex := 339, attributes := #[] }, { accessFlags := 25, nameIndex := 361, descriptorIndex := 339, attributes := #[] }, { accessFlags := 26, nameIndex := 364, descriptorIndex := 339, attributes := #[] }, { accessFlags := 26, nameIndex := 365, descriptorIndex := 339, attributes := #[] }, { accessFlags := 26, nameIndex := 172, descriptorIndex := 173, attributes := #[] }, { accessFlags := 26, nameIndex := 176, descriptorIndex := 173, attributes := #[] }, { accessFlags := 8, nameIndex := 344, descriptorIndex := 339, attributes := #[] }, { accessFlags := 8, nameIndex := 338, descriptorIndex := 339, attributes := #[] }, { accessFlags := 4120, nameIndex := 245, descriptorIndex := 246, attributes := #[] }])
  fields := #[{ name := "E", type := .double, accessFlags := 25, slot := 0, constantValue := 0 }, { name := "PI", type := .double, accessFlags := 25, slot := 1, constantValue := 0 }, { name := "TAU", type := .double, accessFlags := 25, slot := 2, constantValue := 0 }, { name := "DEGREES_TO_RADIANS", type := .double, accessFlags := 26, slot := 3, constantValue := 0 }, { name := "RADIANS_TO_DEGREES", type := .double, accessFlags := 26, slot := 4, constantValue := 0 }, { name := "negativeZeroFloatBits", type := .long, accessFlags := 26, slot := 5, constantValue := 0 }, { name := "negativeZeroDoubleBits", type := .long, accessFlags := 26, slot := 6, constantValue := 0 }, { name := "twoToTheDoubleScaleUp", type := .double, accessFlags := 8, slot := 7, constantValue := 0 }, { name := "twoToTheDoubleScaleDown", type := .double, accessFlags := 8, slot := 8, constantValue := 0 }, { name := "$assertionsDisabled", type := .boolean, accessFlags := 4120, slot := 9, constantValue := 0 }]
  methods := #[k2m0, k2m1, k2m2]
  instanceTypes := #[]
  staticTypes := #[.double, .double, .double, .double, .double, .long, .long, .double, .double, .boolean]
  resolved := Array.replicate 460 none
  statics := none }

def pool3 : Array CpInfo := pool [(2, .class_ 4), (1, u "java/lang/Object"), (0, u "<init>"), (0, u "()V"), (0, .class_ 8), (0, u "java/lang/Record")] 13

def k3m0 : Method := { name := "<init>", desc := "()V", sig := { parameters := [], returnType := none }, accessFlags := 4, code := none }
/-- java/lang/Record -/
def k3 : Class := { plain "java/lang/Record" (some 0) with
  accessFlags := 1057
  interfaces := #[]
  cf := some (fileOf pool3 7 #[] #[{ accessFlags := 4, nameIndex := 5, descriptorIndex := 6, attributes := #[] }] 1057 2 #[] #[])
  fields := #[]
  methods := #[k3m0]
  instanceTypes := #[]
  staticTypes := #[]
  resolved := Array.replicate 22 none
  statics := none }

def pool4 : Array CpInfo := pool [(2, .class_ 4), (1, u "java/lang/Record"), (3, u "start"), (33, .class_ 44), (1, u "com/example/diarist/diarist/days/NosebleedTimes"), (0, u "Ljava/time/OffsetDateTime;"), (2, u "end"), (36, u "overlaps"), (0, u "(JJJJ)Z")] 73

def k4c0 : Code := { maxStack := 4, maxLocals := 8, code := prog_21_method_7_code, exceptionTable := #[], attributes := #[] }
def k4m0 : Method := { name := "overlaps", desc := "(JJJJ)Z", sig := { parameters := [.long, .long, .long, .long], returnType := some .boolean }, accessFlags := 9, code := some k4c0 }
/-- com/example/diarist/diarist/days/NosebleedTimes -/
def k4 : Class := { plain "com/example/diarist/diarist/days/NosebleedTimes" (some 3) with
  accessFlags := 49
  interfaces := #[]
  cf := some (fileOf pool4 42 #[] #[{ accessFlags := 9, nameIndex := 85, descriptorIndex := 86, attributes := #[] }] 49 2 #[] #[{ accessFlags := 18, nameIndex := 8, descriptorIndex := 45, attributes := #[] }, { accessFlags := 18, nameIndex := 48, descriptorIndex := 45, attributes := #[] }])
  fields := #[{ name := "start", type := (.object "java/time/OffsetDateTime"), accessFlags := 18, slot := 0, constantValue := 0 }, { name := "end", type := (.object "java/time/OffsetDateTime"), accessFlags := 18, slot := 1, constantValue := 0 }]
  methods := #[k4m0]
  instanceTypes := #[(.object "java/time/OffsetDateTime"), (.object "java/time/OffsetDateTime")]
  staticTypes := #[]
  resolved := Array.replicate 160 none
  statics := none }

def pool5 : Array CpInfo := pool [(1, u "java/lang/Cloneable"), (0, .class_ 1), (0, u "java/lang/Object"), (0, .class_ 3)] 3

/-- java/lang/Cloneable -/
def k5 : Class := { plain "java/lang/Cloneable" (some 0) with
  accessFlags := 1537
  interfaces := #[]
  cf := some (fileOf pool5 2 #[] #[] 1537 4 #[] #[])
  fields := #[]
  methods := #[]
  instanceTypes := #[]
  staticTypes := #[]
  resolved := Array.replicate 8 none
  statics := none }

def pool6 : Array CpInfo := pool [(1, u "java/io/Serializable"), (0, .class_ 1), (0, u "java/lang/Object"), (0, .class_ 3)] 3

/-- java/io/Serializable -/
def k6 : Class := { plain "java/io/Serializable" (some 0) with
  accessFlags := 1537
  interfaces := #[]
  cf := some (fileOf pool6 2 #[] #[] 1537 4 #[] #[])
  fields := #[]
  methods := #[]
  instanceTypes := #[]
  staticTypes := #[]
  resolved := Array.replicate 8 none
  statics := none }

/-- the primitive byte -/
def k7 : Class := { plain "byte" none with kind := .primitive 'B', accessFlags := 0x411 }
/-- [B -/
def k8 : Class := { plain "[B" (some 0) with kind := .array 7 .byte, interfaces := #[5, 6], accessFlags := 1041 }

/-- the primitive int -/
def k9 : Class := { plain "int" none with kind := .primitive 'I', accessFlags := 0x411 }
/-- [I -/
def k10 : Class := { plain "[I" (some 0) with kind := .array 9 .int, interfaces := #[5, 6], accessFlags := 1041 }

def heap : Heap := #[]
def classes : Array Class := #[k0, k1, k2, k3, k4, k5, k6, k7, k8, k9, k10]
def interned : List (Array UInt16 × Addr) := []
def slotsUsed : Nat := 0
def theMethod : MethodId := ⟨1, 1⟩
def args0 : Array Value := #[.long 5, .long 7, .long 6, .long 9]
def aboutOver (below : List Frame) : State where
  vm := { classes := classes, interned := interned.toArray }
  heap := heap
  slotsUsed := slotsUsed
  threads := #[{ frames := .invoking theMethod args0 :: below }]
def below0 : List Frame := [.native { method := ⟨0, 0⟩, args := #[] }]
def about1 : State := aboutOver below0
def p0 : Program := .bare "" "" ""
def e0 : Env := launch0.env 0 0 0
theorem w_frames : about1.frames = Frame.invoking theMethod args0 :: below0 := rfl
set_option maxRecDepth 65536 in
theorem w_args : argsFit about1.vm theMethod args0 = true := by decide +kernel
set_option maxRecDepth 65536 in
theorem w_heap : heapFits about1 = true := by decide +kernel
set_option maxRecDepth 65536 in
theorem w_runnable : about1.curStatus? = some .runnable := by decide +kernel
set_option maxRecDepth 65536 in
theorem w_alone : about1.alone = true := by decide +kernel
set_option maxRecDepth 65536 in
theorem w_named : about1.methodNamed? x = some theMethod := by decide +kernel
set_option maxRecDepth 65536 in
theorem w_hears : about1.hears theMethod below0 = true := by decide +kernel
set_option maxRecDepth 65536 in
theorem w_ripe : about1.ripe theMethod args0 below0 = true := by decide +kernel
theorem w_running : about1.status = .running := rfl
set_option maxRecDepth 65536 in
theorem w_room : about1.hasRoom e0.platform room_1 = true :=
  launch0.hasRoom_least _ room_1 (by decide +kernel) (by decide +kernel) (by decide +kernel) (by decide +kernel) (by decide +kernel) (by decide +kernel)
theorem allAtoms_all (ts : List Jvm.Cond) (a : Array Jvm.Value) (st : Jvm.State) : (allAtoms ts).before a st = ts.all (fun c => c.before a st) := by
  induction ts with
  | nil => rfl
  | cons c t ih =>
    show (Jvm.Cond.and c (allAtoms t)).before a st = _
    rw [Jvm.Cond.before_and, ih, List.all_cons]
def words1 : List Jvm.Cond := Jvm.Cond.code x code maxLocals ret :: tables_1
/-- a 'code' word, met by the world's own term for the bytes: nothing is compared byte by byte -/
theorem code_word {y : MethodName} {bytes : ByteArray} {mx : Nat} {rt : Option FieldType} {a : Array Value} {s : State} {m : MethodId} {meth : Method} {c : Code} (h1 : s.methodNamed? y = some m) (h2 : s.vm.method? m = some meth) (h3 : meth.code = some c) (h4 : c.code = bytes)
    (h5 : (c.maxLocals == mx && c.exceptionTable.isEmpty && decide (c.maxStack ≤ mostOperands) && decide (meth.sig.returnType = rt) && !meth.locks && decide (parseMethodDescriptor y.desc = some meth.sig)) = true) : (Jvm.Cond.code y bytes mx rt).before a s = true := by
  simp only [Bool.and_eq_true, beq_iff_eq, Bool.not_eq_true', decide_eq_true_eq] at h5
  obtain ⟨⟨⟨⟨⟨g1, g2⟩, g3⟩, g4⟩, g5⟩, g6⟩ := h5
  simp [Cond.before, Cond.holds, Cond.value, h1, h2, h3, h4, g1, g2, g3, g4, g5, g6]
def isCode : Jvm.Cond → Bool
  | .code _ _ _ _ => true
  | _ => false
theorem all_split {L : List Jvm.Cond} {P : Jvm.Cond → Bool} (h1 : L.all (fun c => isCode c || P c) = true) (h2 : ∀ c ∈ L.filter isCode, P c = true) : L.all P = true := by
  refine List.all_eq_true.mpr fun c hc => ?_
  have h := List.all_eq_true.mp h1 c hc
  rcases Bool.eq_false_or_eq_true (isCode c) with hi | hi
  · exact h2 c (List.mem_filter.mpr ⟨hc, hi⟩)
  · simpa [hi] using h
set_option maxRecDepth 65536 in
theorem w_c0 : (Jvm.Cond.code x code maxLocals ret).before args0 about1 = true := code_word (m := ⟨1, 1⟩) (meth := k1m1) (c := k1c1) (by decide +kernel) rfl rfl rfl (by decide +kernel)
set_option maxRecDepth 65536 in
theorem w_c1 : (Jvm.Cond.code ({ cls := "java/lang/Math", name := "min", desc := "(JJ)J" } : Jvm.MethodName) jdk_29_method_70_code (4 : Nat) (Option.some Jvm.ClassFile.FieldType.long)).before args0 about1 = true := code_word (m := ⟨2, 2⟩) (meth := k2m2) (c := k2c2) (by decide +kernel) rfl rfl rfl (by decide +kernel)
set_option maxRecDepth 65536 in
theorem w_c2 : (Jvm.Cond.code ({ cls := "java/lang/Math", name := "max", desc := "(JJ)J" } : Jvm.MethodName) jdk_29_method_66_code (4 : Nat) (Option.some Jvm.ClassFile.FieldType.long)).before args0 about1 = true := code_word (m := ⟨2, 1⟩) (meth := k2m1) (c := k2c1) (by decide +kernel) rfl rfl rfl (by decide +kernel)
set_option maxRecDepth 65536 in
theorem w_c3 : (Jvm.Cond.code ({ cls := "com/example/diarist/diarist/days/NosebleedTimes", name := "overlaps", desc := "(JJJJ)Z" } : Jvm.MethodName) prog_21_method_7_code (8 : Nat) (Option.some Jvm.ClassFile.FieldType.boolean)).before args0 about1 = true := code_word (m := ⟨4, 0⟩) (meth := k4m0) (c := k4c0) (by decide +kernel) rfl rfl rfl (by decide +kernel)
def codes1 : List Jvm.Cond := [Jvm.Cond.code x code maxLocals ret, Jvm.Cond.code ({ cls := "java/lang/Math", name := "min", desc := "(JJ)J" } : Jvm.MethodName) jdk_29_method_70_code (4 : Nat) (Option.some Jvm.ClassFile.FieldType.long), Jvm.Cond.code ({ cls := "java/lang/Math", name := "max", desc := "(JJ)J" } : Jvm.MethodName) jdk_29_method_66_code (4 : Nat) (Option.some Jvm.ClassFile.FieldType.long), Jvm.Cond.code ({ cls := "com/example/diarist/diarist/days/NosebleedTimes", name := "overlaps", desc := "(JJJJ)Z" } : Jvm.MethodName) prog_21_method_7_code (8 : Nat) (Option.some Jvm.ClassFile.FieldType.boolean)]
set_option maxRecDepth 65536 in
theorem codes_eq : words1.filter isCode = codes1 := rfl
theorem w_codes : ∀ c ∈ words1.filter isCode, c.before args0 about1 = true := by
  rw [codes_eq]
  intro c hc
  simp only [codes1, List.mem_cons, List.not_mem_nil, or_false] at hc
  rcases hc with rfl | rfl | rfl | rfl
  · exact w_c0
  · exact w_c1
  · exact w_c2
  · exact w_c3
set_option maxRecDepth 65536 in
theorem w_t1 : words1.all (fun c => isCode c || c.before args0 about1) = true := by decide +kernel
theorem w_tables : (allAtoms (Jvm.Cond.code x code maxLocals ret :: tables_1)).before args0 about1 = true := by
  rw [allAtoms_all]
  show words1.all (fun c => c.before args0 about1) = true
  refine all_split ?_ w_codes
  rw [w_t1]
set_option maxRecDepth 65536 in
theorem w_case : (Jvm.Cond.and given_1 narrow_1).before args0 about1 = true := by decide +kernel
theorem w_applies : (headSpec (Jvm.Cond.code x code maxLocals ret :: tables_1) room_1).applies x e0.platform about1 = true :=
  (Spec.applies_iff w_frames).mpr ⟨w_running, w_runnable, w_alone, w_named, w_hears, w_ripe, w_room, w_tables⟩
theorem atStart : AtStart classFile x code maxLocals ret World_1 tables_1 room_1 Calls_1 rest_1 Pre_1 launch0 p0 e0 about1 theMethod args0 below0 :=
  ⟨lists_1, trivial, launch0.admits_env _ _ _, launch0.least_env, fairChoices_fair.cas, fairChoices_fair.clock, w_frames, w_args, w_heap, w_applies, trivial, trivial, w_case⟩
end start1
theorem witness_1 : WitnessClaimed_1 := ⟨start1.p0, start1.e0, start1.about1, start1.theMethod, start1.args0, start1.below0, start1.atStart⟩
end Jvm.Pilot.@@N@@
