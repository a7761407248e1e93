import JvmDerived
import JvmDerived.Pilot.@@N@@Statement
import JvmDerived.Pilot.@@N@@Code
set_option linter.unusedVariables false
set_option linter.unusedSimpArgs false
namespace Jvm.RoadKit
open Sem ClassFile Op Lib Jvm.Stand Jvm.Free Jvm.LawKit
section New
variable {p : Program} {l : Launch} {e : Env} {R : Room} {s : State} {m : MethodId} {args : Array Value} {below : List Frame} {meth : Method} {c : Code} {T : State} {locs : List Loc} {cells slots : Nat}
theorem retI (X : Stand p l e R s m args below meth c T locs cells slots) (hx : p.tables.exec = Jvm.exec) {pc : Nat} {Ls : Array Slot} {z : Int32} {rest : List Value} (hret : meth.sig.returnType = some .int) (hd : decode c.code pc = .ok (.ireturn, 1)) {fs : List Frame}
    (hl : ∀ (f : JFrame) (acts : List Action), f.method = m → f.locked = none → f.entered = [] → (doReturn e (T.setTop f) acts (some (.int z))).1 = T.setFrames fs) : Steps p.tables e below (T.setTop (mkF m pc Ls (.int z :: rest))) (T.setFrames fs) := by
  have hm' : T.vm.method? m = some meth := X.method'
  have hn : narrow .int (.int z) = .int z := rfl
  show Steps p.tables e below (T.setTop { method := m, pc := pc, locals := Ls, stack := _ :: rest, locked := none }) _
  jvm_step X.here [X.here.top, hx, hd, hm', hret, hn]
  first | (intro acts; rw [hl _ acts rfl rfl rfl]) | rw [hl _ _ rfl rfl rfl]
  exact Steps.refl _
theorem own_dia {c : Prop} [Decidable c] {tb : Tables} {S tgt : State} {F : Int32 → State} {A B : Int32} (hy : c → ∀ t, Steps tb e below (F A) t → Steps tb e below S t) (hn : ¬ c → ∀ t, Steps tb e below (F B) t → Steps tb e below S t) (k : Steps tb e below (F (if c then A else B)) tgt) : Steps tb e below S tgt := by
  by_cases q : c
  · rw [if_pos q] at k; exact hy q _ k
  · rw [if_neg q] at k; exact hn q _ k
end New
end Jvm.RoadKit
namespace Jvm.Pilot.@@N@@
open Jvm Jvm.ClassFile Sem Op Lib Jvm.Free Jvm.Stand Jvm.LawKit Jvm.RoadKit Bundle Jvm.Pilot.@@N@@.Jvm.D
theorem d1_0 : decode method_2_code 0 = .ok (.iload_n 0, 1) := by decide +kernel
theorem d1_1 : decode method_2_code 1 = .ok (.ldc 7, 2) := by decide +kernel
theorem d1_3 : decode method_2_code 3 = .ok (.iand, 1) := by decide +kernel
theorem d1_4 : decode method_2_code 4 = .ok (.istore_n 1, 1) := by decide +kernel
theorem d1_5 : decode method_2_code 5 = .ok (.iload_n 1, 1) := by decide +kernel
theorem d1_6 : decode method_2_code 6 = .ok (.ifCond .ne 7, 3) := by decide +kernel
theorem d1_9 : decode method_2_code 9 = .ok (.iconst 1, 1) := by decide +kernel
theorem d1_10 : decode method_2_code 10 = .ok (.goto 4, 3) := by decide +kernel
theorem d1_14 : decode method_2_code 14 = .ok (.ireturn, 1) := by decide +kernel
theorem pn_1 : plainName "com/example/leafcount/leafcount/PageRequestOfPinLaw" = true := by first | (simp [plainName, overriddenIn]; done) | decide +kernel
theorem ef_1 (m : MethodId) (pi1 : Int32) : entryFrame m #[(.int pi1)] 2 = mkF m 0 #[.val (.int pi1), .unset] [] := by first | (simp [entryFrame, mkF, argsToLocals, Value.category]; done) | rfl
def Q1_t (Z : State) (pi1 : Int32) (h0 : Heap) (n0 : Nat) (v : Option Value) (h : Heap) (L : List Loc) : Prop := v = some (.int (1 : Int32)) ∧ Fr n0 L ∧ h = h0
set_option maxRecDepth 65536 in
set_option maxHeartbeats 40000000 in
theorem rm1_t (l : Launch) (Z : State) (a0 : Array Value) (hw : ∀ d ∈ tables_1, d.before a0 Z = true) (ws : List Jvm.Cond) (pi1 : Int32) (h0 : Heap) (n0 : Nat) (Z0 : n0 ≤ h0.size) (O0 : Old Z n0 h0) (hc6_0 : (pi1 &&& (2147483647 : Int32)) = (0 : Int32)) :
    MetFree l (⟨"com/example/leafcount/leafcount/PageRequestOfPinLaw", "positive", "(I)I"⟩ : MethodName) (head1 (Jvm.Cond.code (⟨"com/example/leafcount/leafcount/PageRequestOfPinLaw", "positive", "(I)I"⟩ : MethodName) method_2_code 2 (some .int) :: ws) ({ frames := 0, cells := 0, slots := 0, locals := 0 } : Room)) (fun a U => a = #[(.int pi1)] ∧ Z.Warmed39 U.vm ∧ U.heap = h0) (fun _ _ _ _ _ => True) (fun _ U o U' => ∃ v L, o = .returned v ∧ Q1_t Z pi1 h0 n0 v U'.heap L ∧ FrameEnd U o U' L ({ frames := 0, cells := 0, slots := 0, locals := 0 } : Room).cells ({ frames := 0, cells := 0, slots := 0, locals := 0 } : Room).slots) := by
  refine MetFree.of_bodySF (plainFor_of_name pn_1) hisR ?_
  intro p e s m args below meth c s₁ Bd hml0 hP hK
  obtain ⟨rfl, hZ, hh⟩ := hP
  have hx := Bd.exec
  have hby := Bd.bytes
  have hml : c.maxLocals = 2 := hml0
  have hown : s.vm.findClass "com/example/leafcount/leafcount/PageRequestOfPinLaw" = some m.cls := findClass_of_methodNamed Bd.named
  have hnm := (name_of_methodNamed Bd.named Bd.method).1
  have X0 : Stand p l e ({ frames := 0, cells := 0, slots := 0, locals := 0 } : Room) s m #[(.int pi1)] below meth c s₁ [] 0 0 := Stand.of_body Bd
  have e0 : s₁.heap = h0 := by rw [← hh, Bd.state]; rfl
  have N0 := Fr.nil n0
  have pre0 : ∀ t, Steps p.tables e below (s₁.setTop (mkF m 0 #[.val (.int pi1), .unset] [])) t → Steps p.tables e below (s₁.setTop (entryFrame m #[(.int pi1)] 2)) t := fun t k => castTop (ef_1 m pi1) k
  obtain ⟨fs, hr, hrun, hended, hW, hsame⟩ := X0.leave (v := some (.int (1 : Int32))) (fun h => by rw [Bd.returns] at h; cases h)
  refine ⟨_, _, pre0 _ ?_, hrun, hended, _, _, rfl, ?_, ⟨_, rfl⟩, hW, hsame.mono (by decide) (by decide)⟩
  · show Steps p.tables e below (s₁.setTop (mkF m 0 #[.val (.int pi1), .unset] [])) _
    refine XS.iloadN X0.here hx rfl (hb hby d1_0) rfl ?_
    show Steps p.tables e below (s₁.setTop (mkF m 1 #[.val (.int pi1), .unset] [(.int pi1)])) _
    refine X0.ldcInt hx hown (mvT hZ (hw _ (List.mem_of_getElem? (i := 4) rfl))) (g := (mkF m 1 #[.val (.int pi1), .unset] [(.int pi1)])) rfl (hb hby d1_1) _ ?_
    show Steps p.tables e below (s₁.setTop (mkF m 3 #[.val (.int pi1), .unset] [(.int (2147483647 : Int32)), (.int pi1)])) _
    refine XS.iand X0.here hx rfl (hb hby d1_3) rfl ?_
    show Steps p.tables e below (s₁.setTop (mkF m 4 #[.val (.int pi1), .unset] [(.int (pi1 &&& (2147483647 : Int32)))])) _
    refine XS.istoreN X0.here hx rfl (hb hby d1_4) rfl (l' := #[.val (.int pi1), .val (.int (pi1 &&& (2147483647 : Int32)))]) rfl ?_
    show Steps p.tables e below (s₁.setTop (mkF m 5 #[.val (.int pi1), .val (.int (pi1 &&& (2147483647 : Int32)))] [])) _
    refine XS.iloadN X0.here hx rfl (hb hby d1_5) rfl ?_
    show Steps p.tables e below (s₁.setTop (mkF m 6 #[.val (.int pi1), .val (.int (pi1 &&& (2147483647 : Int32)))] [(.int (pi1 &&& (2147483647 : Int32)))])) _
    refine XS.ifNo X0.here hx rfl (hb hby d1_6) rfl ((if0 _ _).trans (teq hc6_0).2) ?_
    show Steps p.tables e below (s₁.setTop (mkF m 9 #[.val (.int pi1), .val (.int (pi1 &&& (2147483647 : Int32)))] [])) _
    refine XS.iconst X0.here hx rfl (hb hby d1_9) ?_
    show Steps p.tables e below (s₁.setTop (mkF m 10 #[.val (.int pi1), .val (.int (pi1 &&& (2147483647 : Int32)))] [(.int (1 : Int32))])) _
    refine XS.goto X0.here hx rfl (pc0 := 10) (pc' := 14) rfl (hb hby d1_10) (by decide) (by decide) ?_
    show Steps p.tables e below (s₁.setTop (mkF m 14 #[.val (.int pi1), .val (.int (pi1 &&& (2147483647 : Int32)))] [(.int (1 : Int32))])) _
    exact retI X0 hx Bd.returns (hb hby d1_14) hr
  · show Q1_t Z pi1 h0 n0 _ s₁.heap _
    rw [e0]
    exact ⟨rfl, N0, rfl⟩
theorem d1_13 : decode method_2_code 13 = .ok (.iload_n 1, 1) := by decide +kernel
def Q1_f (Z : State) (pi1 : Int32) (h0 : Heap) (n0 : Nat) (v : Option Value) (h : Heap) (L : List Loc) : Prop := v = some (.int (pi1 &&& (2147483647 : Int32))) ∧ Fr n0 L ∧ h = h0
set_option maxRecDepth 65536 in
set_option maxHeartbeats 40000000 in
theorem rm1_f (l : Launch) (Z : State) (a0 : Array Value) (hw : ∀ d ∈ tables_1, d.before a0 Z = true) (ws : List Jvm.Cond) (pi1 : Int32) (h0 : Heap) (n0 : Nat) (Z0 : n0 ≤ h0.size) (O0 : Old Z n0 h0) (hc6_0 : ¬ ((pi1 &&& (2147483647 : Int32)) = (0 : Int32))) :
    MetFree l (⟨"com/example/leafcount/leafcount/PageRequestOfPinLaw", "positive", "(I)I"⟩ : MethodName) (head1 (Jvm.Cond.code (⟨"com/example/leafcount/leafcount/PageRequestOfPinLaw", "positive", "(I)I"⟩ : MethodName) method_2_code 2 (some .int) :: ws) ({ frames := 0, cells := 0, slots := 0, locals := 0 } : Room)) (fun a U => a = #[(.int pi1)] ∧ Z.Warmed39 U.vm ∧ U.heap = h0) (fun _ _ _ _ _ => True) (fun _ U o U' => ∃ v L, o = .returned v ∧ Q1_f Z pi1 h0 n0 v U'.heap L ∧ FrameEnd U o U' L ({ frames := 0, cells := 0, slots := 0, locals := 0 } : Room).cells ({ frames := 0, cells := 0, slots := 0, locals := 0 } : Room).slots) := by
  refine MetFree.of_bodySF (plainFor_of_name pn_1) hisR ?_
  intro p e s m args below meth c s₁ Bd hml0 hP hK
  obtain ⟨rfl, hZ, hh⟩ := hP
  have hx := Bd.exec
  have hby := Bd.bytes
  have hml : c.maxLocals = 2 := hml0
  have hown : s.vm.findClass "com/example/leafcount/leafcount/PageRequestOfPinLaw" = some m.cls := findClass_of_methodNamed Bd.named
  have hnm := (name_of_methodNamed Bd.named Bd.method).1
  have X0 : Stand p l e ({ frames := 0, cells := 0, slots := 0, locals := 0 } : Room) s m #[(.int pi1)] below meth c s₁ [] 0 0 := Stand.of_body Bd
  have e0 : s₁.heap = h0 := by rw [← hh, Bd.state]; rfl
  have N0 := Fr.nil n0
  have pre0 : ∀ t, Steps p.tables e below (s₁.setTop (mkF m 0 #[.val (.int pi1), .unset] [])) t → Steps p.tables e below (s₁.setTop (entryFrame m #[(.int pi1)] 2)) t := fun t k => castTop (ef_1 m pi1) k
  obtain ⟨fs, hr, hrun, hended, hW, hsame⟩ := X0.leave (v := some (.int (pi1 &&& (2147483647 : Int32)))) (fun h => by rw [Bd.returns] at h; cases h)
  refine ⟨_, _, pre0 _ ?_, hrun, hended, _, _, rfl, ?_, ⟨_, rfl⟩, hW, hsame.mono (by decide) (by decide)⟩
  · show Steps p.tables e below (s₁.setTop (mkF m 0 #[.val (.int pi1), .unset] [])) _
    refine XS.iloadN X0.here hx rfl (hb hby d1_0) rfl ?_
    show Steps p.tables e below (s₁.setTop (mkF m 1 #[.val (.int pi1), .unset] [(.int pi1)])) _
    refine X0.ldcInt hx hown (mvT hZ (hw _ (List.mem_of_getElem? (i := 4) rfl))) (g := (mkF m 1 #[.val (.int pi1), .unset] [(.int pi1)])) rfl (hb hby d1_1) _ ?_
    show Steps p.tables e below (s₁.setTop (mkF m 3 #[.val (.int pi1), .unset] [(.int (2147483647 : Int32)), (.int pi1)])) _
    refine XS.iand X0.here hx rfl (hb hby d1_3) rfl ?_
    show Steps p.tables e below (s₁.setTop (mkF m 4 #[.val (.int pi1), .unset] [(.int (pi1 &&& (2147483647 : Int32)))])) _
    refine XS.istoreN X0.here hx rfl (hb hby d1_4) rfl (l' := #[.val (.int pi1), .val (.int (pi1 &&& (2147483647 : Int32)))]) rfl ?_
    show Steps p.tables e below (s₁.setTop (mkF m 5 #[.val (.int pi1), .val (.int (pi1 &&& (2147483647 : Int32)))] [])) _
    refine XS.iloadN X0.here hx rfl (hb hby d1_5) rfl ?_
    show Steps p.tables e below (s₁.setTop (mkF m 6 #[.val (.int pi1), .val (.int (pi1 &&& (2147483647 : Int32)))] [(.int (pi1 &&& (2147483647 : Int32)))])) _
    refine XS.ifYes X0.here hx rfl (pc0 := 6) (pc' := 13) rfl (hb hby d1_6) rfl ((if0 _ _).trans (feq hc6_0).2) (by decide) (by decide) ?_
    show Steps p.tables e below (s₁.setTop (mkF m 13 #[.val (.int pi1), .val (.int (pi1 &&& (2147483647 : Int32)))] [])) _
    refine XS.iloadN X0.here hx rfl (hb hby d1_13) rfl ?_
    show Steps p.tables e below (s₁.setTop (mkF m 14 #[.val (.int pi1), .val (.int (pi1 &&& (2147483647 : Int32)))] [(.int (pi1 &&& (2147483647 : Int32)))])) _
    exact retI X0 hx Bd.returns (hb hby d1_14) hr
  · show Q1_f Z pi1 h0 n0 _ s₁.heap _
    rw [e0]
    exact ⟨rfl, N0, rfl⟩
def own_pos (pi1 : Int32) : Int32 := (if (pi1 &&& (2147483647 : Int32)) = (0 : Int32) then (1 : Int32) else (pi1 &&& (2147483647 : Int32)))
def Q1m (Z : State) (pi1 : Int32) (h0 : Heap) (n0 : Nat) (v : Option Value) (h : Heap) (L : List Loc) : Prop := v = some (.int (own_pos pi1)) ∧ Fr n0 L ∧ h = h0
set_option maxRecDepth 65536 in
theorem rm1m (l : Launch) (Z : State) (a0 : Array Value) (hw : ∀ d ∈ tables_1, d.before a0 Z = true) (ws : List Jvm.Cond) (pi1 : Int32) (h0 : Heap) (n0 : Nat) (Z0 : n0 ≤ h0.size) (O0 : Old Z n0 h0) :
    MetFree l (⟨"com/example/leafcount/leafcount/PageRequestOfPinLaw", "positive", "(I)I"⟩ : MethodName) (head1 (Jvm.Cond.code (⟨"com/example/leafcount/leafcount/PageRequestOfPinLaw", "positive", "(I)I"⟩ : MethodName) method_2_code 2 (some .int) :: ws) ({ frames := 0, cells := 0, slots := 0, locals := 0 } : Room)) (fun a U => a = #[(.int pi1)] ∧ Z.Warmed39 U.vm ∧ U.heap = h0) (fun _ _ _ _ _ => True) (fun _ U o U' => ∃ v L, o = .returned v ∧ Q1m Z pi1 h0 n0 v U'.heap L ∧ FrameEnd U o U' L ({ frames := 0, cells := 0, slots := 0, locals := 0 } : Room).cells ({ frames := 0, cells := 0, slots := 0, locals := 0 } : Room).slots) := by
  by_cases H1 : (pi1 &&& (2147483647 : Int32)) = (0 : Int32)
  · have e : (own_pos pi1) = (1 : Int32) := by unfold own_pos; rw [if_pos H1]
    show MetFree l (⟨"com/example/leafcount/leafcount/PageRequestOfPinLaw", "positive", "(I)I"⟩ : MethodName) (head1 (Jvm.Cond.code (⟨"com/example/leafcount/leafcount/PageRequestOfPinLaw", "positive", "(I)I"⟩ : MethodName) method_2_code 2 (some .int) :: ws) ({ frames := 0, cells := 0, slots := 0, locals := 0 } : Room)) (fun a U => a = #[(.int pi1)] ∧ Z.Warmed39 U.vm ∧ U.heap = h0) (fun _ _ _ _ _ => True) (fun _ U o U' => ∃ v L, o = .returned v ∧ (v = some (.int (own_pos pi1)) ∧ Fr n0 L ∧ U'.heap = h0) ∧ FrameEnd U o U' L ({ frames := 0, cells := 0, slots := 0, locals := 0 } : Room).cells ({ frames := 0, cells := 0, slots := 0, locals := 0 } : Room).slots)
    rw [e]
    exact rm1_t l Z a0 hw ws pi1 h0 n0 Z0 O0  H1
  · have e : (own_pos pi1) = (pi1 &&& (2147483647 : Int32)) := by unfold own_pos; rw [if_neg H1]
    show MetFree l (⟨"com/example/leafcount/leafcount/PageRequestOfPinLaw", "positive", "(I)I"⟩ : MethodName) (head1 (Jvm.Cond.code (⟨"com/example/leafcount/leafcount/PageRequestOfPinLaw", "positive", "(I)I"⟩ : MethodName) method_2_code 2 (some .int) :: ws) ({ frames := 0, cells := 0, slots := 0, locals := 0 } : Room)) (fun a U => a = #[(.int pi1)] ∧ Z.Warmed39 U.vm ∧ U.heap = h0) (fun _ _ _ _ _ => True) (fun _ U o U' => ∃ v L, o = .returned v ∧ (v = some (.int (own_pos pi1)) ∧ Fr n0 L ∧ U'.heap = h0) ∧ FrameEnd U o U' L ({ frames := 0, cells := 0, slots := 0, locals := 0 } : Room).cells ({ frames := 0, cells := 0, slots := 0, locals := 0 } : Room).slots)
    rw [e]
    exact rm1_f l Z a0 hw ws pi1 h0 n0 Z0 O0  H1
theorem own_mask (p : Int32) : 0 ≤ (p &&& (2147483647 : Int32)).toInt := by
  have h : (p &&& (2147483647 : Int32)).toBitVec.msb = false := by
    show (p.toBitVec &&& 2147483647#32).msb = false
    rw [BitVec.msb_and]; simp [show (2147483647#32).msb = false from rfl]
  show 0 ≤ (p &&& (2147483647 : Int32)).toBitVec.toInt
  rw [BitVec.toInt_eq_msb_cond, h]; simp
theorem own_pos_ge (p : Int32) : ¬ own_pos p < (1 : Int32) := by
  rw [Int32.lt_iff_toInt_lt]
  unfold own_pos
  have h := own_mask p
  by_cases q : (p &&& (2147483647 : Int32)) = (0 : Int32)
  · rw [if_pos q]; decide
  · rw [if_neg q]
    rw [← Int32.toInt_inj] at q
    have e : (0 : Int32).toInt = 0 := rfl
    have e1 : (1 : Int32).toInt = 1 := rfl
    omega
theorem own_pos_nz (p : Int32) : ¬ (own_pos p).toInt64 = (0 : Int64) := by
  have h := own_pos_ge p
  rw [Int32.lt_iff_toInt_lt] at h
  rw [← Int64.toInt_inj, Int32.toInt_toInt64]
  have e1 : (1 : Int32).toInt = 1 := rfl
  have e : (0 : Int64).toInt = 0 := rfl
  omega
theorem own_tot (t : Int64) : ¬ lcmpW (t &&& (9223372036854775807 : Int64)) (0 : Int64) < (0 : Int32) := by
  rw [lcW, lc_lt, Int64.lt_iff_toInt_lt]
  have h : (t &&& (9223372036854775807 : Int64)).toBitVec.msb = false := by
    show (t.toBitVec &&& 9223372036854775807#64).msb = false
    rw [BitVec.msb_and]; simp [show (9223372036854775807#64).msb = false from rfl]
  have : 0 ≤ (t &&& (9223372036854775807 : Int64)).toInt := by
    show 0 ≤ (t &&& (9223372036854775807 : Int64)).toBitVec.toInt
    rw [BitVec.toInt_eq_msb_cond, h]; simp
  have e : (0 : Int64).toInt = 0 := rfl
  omega
theorem own_off (p s : Int64) : lcmpW ((p - (1 : Int64)) * s) ((p * s) - s) = (0 : Int32) := by
  rw [lcW, lc_eq, Int64.sub_mul, Int64.one_mul]
theorem d3_0 : decode prog_22_method_17_code 0 = .ok (.iload_n 0, 1) := by decide +kernel
theorem d3_1 : decode prog_22_method_17_code 1 = .ok (.iconst 1, 1) := by decide +kernel
theorem d3_2 : decode prog_22_method_17_code 2 = .ok (.if_icmp .ge 17, 3) := by decide +kernel
theorem d3_19 : decode prog_22_method_17_code 19 = .ok (.return_, 1) := by decide +kernel
theorem pn_3 : plainName "com/example/leafcount/leafcount/PageRequest" = true := by first | (simp [plainName, overriddenIn]; done) | decide +kernel
theorem ef_3 (m : MethodId) (pi1 : Int32) : entryFrame m #[(.int pi1)] 1 = mkF m 0 #[.val (.int pi1)] [] := by first | (simp [entryFrame, mkF, argsToLocals, Value.category]; done) | rfl
def Q3 (Z : State) (pi1 : Int32) (h0 : Heap) (n0 : Nat) (v : Option Value) (h : Heap) (L : List Loc) : Prop := v = none ∧ Fr n0 L ∧ h = h0
set_option maxRecDepth 65536 in
set_option maxHeartbeats 40000000 in
theorem rm3 (l : Launch) (Z : State) (a0 : Array Value) (hw : ∀ d ∈ tables_1, d.before a0 Z = true) (ws : List Jvm.Cond) (pi1 : Int32) (h0 : Heap) (n0 : Nat) (Z0 : n0 ≤ h0.size) (O0 : Old Z n0 h0) (hc2_0 : ¬ (pi1 < (1 : Int32))) :
    MetFree l (⟨"com/example/leafcount/leafcount/PageRequest", "checkSize", "(I)V"⟩ : MethodName) (head1 (Jvm.Cond.code (⟨"com/example/leafcount/leafcount/PageRequest", "checkSize", "(I)V"⟩ : MethodName) prog_22_method_17_code 1 none :: ws) ({ frames := 0, cells := 0, slots := 0, locals := 0 } : Room)) (fun a U => a = #[(.int pi1)] ∧ Z.Warmed39 U.vm ∧ U.heap = h0) (fun _ _ _ _ _ => True) (fun _ U o U' => ∃ v L, o = .returned v ∧ Q3 Z pi1 h0 n0 v U'.heap L ∧ FrameEnd U o U' L ({ frames := 0, cells := 0, slots := 0, locals := 0 } : Room).cells ({ frames := 0, cells := 0, slots := 0, locals := 0 } : Room).slots) := by
  refine MetFree.of_bodySF (plainFor_of_name pn_3) hisR ?_
  intro p e s m args below meth c s₁ Bd hml0 hP hK
  obtain ⟨rfl, hZ, hh⟩ := hP
  have hx := Bd.exec
  have hby := Bd.bytes
  have hml : c.maxLocals = 1 := hml0
  have hown : s.vm.findClass "com/example/leafcount/leafcount/PageRequest" = some m.cls := findClass_of_methodNamed Bd.named
  have hnm := (name_of_methodNamed Bd.named Bd.method).1
  have X0 : Stand p l e ({ frames := 0, cells := 0, slots := 0, locals := 0 } : Room) s m #[(.int pi1)] below meth c s₁ [] 0 0 := Stand.of_body Bd
  have e0 : s₁.heap = h0 := by rw [← hh, Bd.state]; rfl
  have N0 := Fr.nil n0
  have pre0 : ∀ t, Steps p.tables e below (s₁.setTop (mkF m 0 #[.val (.int pi1)] [])) t → Steps p.tables e below (s₁.setTop (entryFrame m #[(.int pi1)] 1)) t := fun t k => castTop (ef_3 m pi1) k
  obtain ⟨fs, hr, hrun, hended, hW, hsame⟩ := X0.leave (v := none) (fun _ => rfl)
  refine ⟨_, _, pre0 _ ?_, hrun, hended, _, _, rfl, ?_, ⟨_, rfl⟩, hW, hsame.mono (by decide) (by decide)⟩
  · show Steps p.tables e below (s₁.setTop (mkF m 0 #[.val (.int pi1)] [])) _
    refine XS.iloadN X0.here hx rfl (hb hby d3_0) rfl ?_
    show Steps p.tables e below (s₁.setTop (mkF m 1 #[.val (.int pi1)] [(.int pi1)])) _
    refine XS.iconst X0.here hx rfl (hb hby d3_1) ?_
    show Steps p.tables e below (s₁.setTop (mkF m 2 #[.val (.int pi1)] [(.int (1 : Int32)), (.int pi1)])) _
    refine XS.icmpYes X0.here hx rfl (pc0 := 2) (pc' := 19) rfl (hb hby d3_2) rfl (flt hc2_0).2.1 (by decide) (by decide) ?_
    show Steps p.tables e below (s₁.setTop (mkF m 19 #[.val (.int pi1)] [])) _
    exact X0.returnOut hx Bd.returns (hb hby d3_19) hr
  · show Q3 Z pi1 h0 n0 _ s₁.heap _
    rw [e0]
    exact ⟨rfl, N0, rfl⟩
theorem d4_0 : decode prog_22_method_1_code 0 = .ok (.aload_n 0, 1) := by decide +kernel
theorem d4_1 : decode prog_22_method_1_code 1 = .ok (.invokespecial 1, 3) := by decide +kernel
theorem d4_4 : decode prog_22_method_1_code 4 = .ok (.aload_n 0, 1) := by decide +kernel
theorem d4_5 : decode prog_22_method_1_code 5 = .ok (.iload_n 1, 1) := by decide +kernel
theorem d4_6 : decode prog_22_method_1_code 6 = .ok (.putfield 7, 3) := by decide +kernel
theorem d4_9 : decode prog_22_method_1_code 9 = .ok (.aload_n 0, 1) := by decide +kernel
theorem d4_10 : decode prog_22_method_1_code 10 = .ok (.iload_n 2, 1) := by decide +kernel
theorem d4_11 : decode prog_22_method_1_code 11 = .ok (.putfield 13, 3) := by decide +kernel
theorem d4_14 : decode prog_22_method_1_code 14 = .ok (.aload_n 0, 1) := by decide +kernel
theorem d4_15 : decode prog_22_method_1_code 15 = .ok (.iload_n 3, 1) := by decide +kernel
theorem d4_16 : decode prog_22_method_1_code 16 = .ok (.putfield 16, 3) := by decide +kernel
theorem d4_19 : decode prog_22_method_1_code 19 = .ok (.aload_n 0, 1) := by decide +kernel
theorem d4_20 : decode prog_22_method_1_code 20 = .ok (.iload 4, 2) := by decide +kernel
theorem d4_22 : decode prog_22_method_1_code 22 = .ok (.putfield 19, 3) := by decide +kernel
theorem d4_25 : decode prog_22_method_1_code 25 = .ok (.aload_n 0, 1) := by decide +kernel
theorem d4_26 : decode prog_22_method_1_code 26 = .ok (.aload 5, 2) := by decide +kernel
theorem d4_28 : decode prog_22_method_1_code 28 = .ok (.putfield 23, 3) := by decide +kernel
theorem d4_31 : decode prog_22_method_1_code 31 = .ok (.return_, 1) := by decide +kernel
theorem pn_4 : plainName "com/example/leafcount/leafcount/PageRequest" = true := by first | (simp [plainName, overriddenIn]; done) | decide +kernel
theorem ef_4n5 (m : MethodId) (pr0 : Addr) (pi1 : Int32) (pi2 : Int32) (pi3 : Int32) (pi4 : Int32) : entryFrame m #[(.ref pr0), (.int pi1), (.int pi2), (.int pi3), (.int pi4), .null] 6 = mkF m 0 #[.val (.ref pr0), .val (.int pi1), .val (.int pi2), .val (.int pi3), .val (.int pi4), .val .null] [] := by first | (simp [entryFrame, mkF, argsToLocals, Value.category]; done) | rfl
def Q4 (Z : State) (pr0 : Addr) (pi1 : Int32) (pi2 : Int32) (pi3 : Int32) (pi4 : Int32) (u_page_pr0 : Value) (u_size_pr0 : Value) (u_navigationSize_pr0 : Value) (u_clamps_pr0 : Value) (u_sort_pr0 : Value) (h0 : Heap) (n0 : Nat) (v : Option Value) (h : Heap) (L : List Loc) : Prop := v = none ∧ Fr n0 L ∧ Keep h0 h [pr0] ∧ Exa Z h pr0 "com/example/leafcount/leafcount/PageRequest" ∧ Fld Z h pr0 "com/example/leafcount/leafcount/PageRequest" "page" "I" (.int pi1) ∧ Fld Z h pr0 "com/example/leafcount/leafcount/PageRequest" "size" "I" (.int pi2) ∧ Fld Z h pr0 "com/example/leafcount/leafcount/PageRequest" "navigationSize" "I" (.int pi3) ∧ Fld Z h pr0 "com/example/leafcount/leafcount/PageRequest" "clamps" "Z" (.int (nar .boolean pi4)) ∧ Fld Z h pr0 "com/example/leafcount/leafcount/PageRequest" "sort" "Lcom/example/leafcount/leafcount/Sort;" .null
set_option maxRecDepth 65536 in
set_option maxHeartbeats 40000000 in
theorem rm4 (l : Launch) (Z : State) (a0 : Array Value) (hw : ∀ d ∈ tables_1, d.before a0 Z = true) (ws : List Jvm.Cond) (pr0 : Addr) (pi1 : Int32) (pi2 : Int32) (pi3 : Int32) (pi4 : Int32) (u_page_pr0 : Value) (u_size_pr0 : Value) (u_navigationSize_pr0 : Value) (u_clamps_pr0 : Value) (u_sort_pr0 : Value) (h0 : Heap) (n0 : Nat) (Z0 : n0 ≤ h0.size) (O0 : Old Z n0 h0) (E_pr0 : Exa Z h0 pr0 "com/example/leafcount/leafcount/PageRequest") (F_page_pr0 : Fld Z h0 pr0 "com/example/leafcount/leafcount/PageRequest" "page" "I" u_page_pr0) (g_pr0 : n0 ≤ pr0) (F_size_pr0 : Fld Z h0 pr0 "com/example/leafcount/leafcount/PageRequest" "size" "I" u_size_pr0) (F_navigationSize_pr0 : Fld Z h0 pr0 "com/example/leafcount/leafcount/PageRequest" "navigationSize" "I" u_navigationSize_pr0) (F_clamps_pr0 : Fld Z h0 pr0 "com/example/leafcount/leafcount/PageRequest" "clamps" "Z" u_clamps_pr0) (F_sort_pr0 : Fld Z h0 pr0 "com/example/leafcount/leafcount/PageRequest" "sort" "Lcom/example/leafcount/leafcount/Sort;" u_sort_pr0) :
    MetFree l (⟨"com/example/leafcount/leafcount/PageRequest", "<init>", "(IIIZLcom/example/leafcount/leafcount/Sort;)V"⟩ : MethodName) (head1 (Jvm.Cond.code (⟨"com/example/leafcount/leafcount/PageRequest", "<init>", "(IIIZLcom/example/leafcount/leafcount/Sort;)V"⟩ : MethodName) prog_22_method_1_code 6 none :: ws) ({ frames := 1, cells := 0, slots := 0, locals := 12 } : Room)) (fun a U => a = #[(.ref pr0), (.int pi1), (.int pi2), (.int pi3), (.int pi4), .null] ∧ Z.Warmed39 U.vm ∧ U.heap = h0) (fun _ _ _ _ _ => True) (fun _ U o U' => ∃ v L, o = .returned v ∧ Q4 Z pr0 pi1 pi2 pi3 pi4 u_page_pr0 u_size_pr0 u_navigationSize_pr0 u_clamps_pr0 u_sort_pr0 h0 n0 v U'.heap L ∧ FrameEnd U o U' L ({ frames := 1, cells := 0, slots := 0, locals := 12 } : Room).cells ({ frames := 1, cells := 0, slots := 0, locals := 12 } : Room).slots) := by
  refine MetFree.of_bodySF (plainFor_of_name pn_4) hisR ?_
  intro p e s m args below meth c s₁ Bd hml0 hP hK
  obtain ⟨rfl, hZ, hh⟩ := hP
  have hx := Bd.exec
  have hby := Bd.bytes
  have hml : c.maxLocals = 6 := hml0
  have hown : s.vm.findClass "com/example/leafcount/leafcount/PageRequest" = some m.cls := findClass_of_methodNamed Bd.named
  have hnm := (name_of_methodNamed Bd.named Bd.method).1
  have X0 : Stand p l e ({ frames := 1, cells := 0, slots := 0, locals := 12 } : Room) s m #[(.ref pr0), (.int pi1), (.int pi2), (.int pi3), (.int pi4), .null] below meth c s₁ [] 0 0 := Stand.of_body Bd
  have e0 : s₁.heap = h0 := by rw [← hh, Bd.state]; rfl
  have N0 := Fr.nil n0
  have pre0 : ∀ t, Steps p.tables e below (s₁.setTop (mkF m 0 #[.val (.ref pr0), .val (.int pi1), .val (.int pi2), .val (.int pi3), .val (.int pi4), .val .null] [])) t → Steps p.tables e below (s₁.setTop (entryFrame m #[(.ref pr0), (.int pi1), (.int pi2), (.int pi3), (.int pi4), .null] 6)) t := fun t k => castTop (ef_4n5 m pr0 pi1 pi2 pi3 pi4) k
  obtain ⟨T1, X1, e1, st1⟩ := initO X0 hx hZ hown (hw _ (List.mem_of_getElem? (i := 18) rfl)) (hw _ (List.mem_of_getElem? (i := 19) rfl)) (hw _ (List.mem_of_getElem? (i := 20) rfl)) e0 (g := (mkF m 1 #[.val (.ref pr0), .val (.int pi1), .val (.int pi2), .val (.int pi3), .val (.int pi4), .val .null] [(.ref pr0)])) rfl (by rw [hml]; rfl) rfl (hb hby d4_1) (by decide) (W := 0) (by show 2 * 0 + _ ≤ _; exact Nat.le_of_eq rfl) (by decide)
  obtain ⟨T2, h2, X2, e2, W2, st2⟩ := putF X1 hx hZ hown (host := "") (Or.inl (hw _ (List.mem_of_getElem? (i := 21) rfl))) Via.refl e1 F_page_pr0 E_pr0 (Or.inr ⟨(hw _ (List.mem_of_getElem? (i := 22) rfl)), rfl, hnm⟩) (hw _ (List.mem_of_getElem? (i := 14) rfl)) (ty := .int) (by decide) rfl rfl (g := (mkF m 6 #[.val (.ref pr0), .val (.int pi1), .val (.int pi2), .val (.int pi3), .val (.int pi4), .val .null] [(.int pi1), (.ref pr0)])) rfl rfl (hb hby d4_6)
  have Fw2 := F_page_pr0.same W2
  have N2 := Fr.snoc X2 N0 g_pr0
  have f3 := F_size_pr0.other W2 (Or.inr (slot_ne (Or.inr (hw _ (List.mem_of_getElem? (i := 24) rfl))) (Or.inr (hw _ (List.mem_of_getElem? (i := 22) rfl))) (by decide) (t := .int) (t' := .int) (by decide) (by decide)))
  have f4 := E_pr0.wr W2
  obtain ⟨T5, h5, X5, e5, W5, st5⟩ := putF X2 hx hZ hown (host := "") (Or.inl (hw _ (List.mem_of_getElem? (i := 23) rfl))) Via.refl e2 f3 f4 (Or.inr ⟨(hw _ (List.mem_of_getElem? (i := 24) rfl)), rfl, hnm⟩) (hw _ (List.mem_of_getElem? (i := 14) rfl)) (ty := .int) (by decide) rfl rfl (g := (mkF m 11 #[.val (.ref pr0), .val (.int pi1), .val (.int pi2), .val (.int pi3), .val (.int pi4), .val .null] [(.int pi2), (.ref pr0)])) rfl rfl (hb hby d4_11)
  have Fw5 := f3.same W5
  have N5 := Fr.snoc X5 N2 g_pr0
  have f6 := F_navigationSize_pr0.other W2 (Or.inr (slot_ne (Or.inr (hw _ (List.mem_of_getElem? (i := 26) rfl))) (Or.inr (hw _ (List.mem_of_getElem? (i := 22) rfl))) (by decide) (t := .int) (t' := .int) (by decide) (by decide)))
  have f7 := f6.other W5 (Or.inr (slot_ne (Or.inr (hw _ (List.mem_of_getElem? (i := 26) rfl))) (Or.inr (hw _ (List.mem_of_getElem? (i := 24) rfl))) (by decide) (t := .int) (t' := .int) (by decide) (by decide)))
  have f8 := f4.wr W5
  obtain ⟨T9, h9, X9, e9, W9, st9⟩ := putF X5 hx hZ hown (host := "") (Or.inl (hw _ (List.mem_of_getElem? (i := 25) rfl))) Via.refl e5 f7 f8 (Or.inr ⟨(hw _ (List.mem_of_getElem? (i := 26) rfl)), rfl, hnm⟩) (hw _ (List.mem_of_getElem? (i := 14) rfl)) (ty := .int) (by decide) rfl rfl (g := (mkF m 16 #[.val (.ref pr0), .val (.int pi1), .val (.int pi2), .val (.int pi3), .val (.int pi4), .val .null] [(.int pi3), (.ref pr0)])) rfl rfl (hb hby d4_16)
  have Fw9 := f7.same W9
  have N9 := Fr.snoc X9 N5 g_pr0
  have f10 := F_clamps_pr0.other W2 (Or.inr (slot_ne (Or.inr (hw _ (List.mem_of_getElem? (i := 28) rfl))) (Or.inr (hw _ (List.mem_of_getElem? (i := 22) rfl))) (by decide) (t := .boolean) (t' := .int) (by decide) (by decide)))
  have f11 := f10.other W5 (Or.inr (slot_ne (Or.inr (hw _ (List.mem_of_getElem? (i := 28) rfl))) (Or.inr (hw _ (List.mem_of_getElem? (i := 24) rfl))) (by decide) (t := .boolean) (t' := .int) (by decide) (by decide)))
  have f12 := f11.other W9 (Or.inr (slot_ne (Or.inr (hw _ (List.mem_of_getElem? (i := 28) rfl))) (Or.inr (hw _ (List.mem_of_getElem? (i := 26) rfl))) (by decide) (t := .boolean) (t' := .int) (by decide) (by decide)))
  have f13 := f8.wr W9
  obtain ⟨T14, h14, X14, e14, W14, st14⟩ := putFN X9 hx hZ hown (hw _ (List.mem_of_getElem? (i := 27) rfl)) Via.refl e9 f12 f13 (Or.inr ⟨(hw _ (List.mem_of_getElem? (i := 28) rfl)), rfl, hnm⟩) (hw _ (List.mem_of_getElem? (i := 14) rfl)) (ty := .boolean) (v' := (.int (nar .boolean pi4))) (by decide) rfl (fits_nar_bool _) (g := (mkF m 22 #[.val (.ref pr0), .val (.int pi1), .val (.int pi2), .val (.int pi3), .val (.int pi4), .val .null] [(.int pi4), (.ref pr0)])) rfl rfl (hb hby d4_22)
  have Fw14 := f12.same W14
  have N14 := Fr.snoc X14 N9 g_pr0
  have f15 := F_sort_pr0.other W2 (Or.inr (slot_ne (Or.inr (hw _ (List.mem_of_getElem? (i := 30) rfl))) (Or.inr (hw _ (List.mem_of_getElem? (i := 22) rfl))) (by decide) (t := (.object "com/example/leafcount/leafcount/Sort")) (t' := .int) (by decide) (by decide)))
  have f16 := f15.other W5 (Or.inr (slot_ne (Or.inr (hw _ (List.mem_of_getElem? (i := 30) rfl))) (Or.inr (hw _ (List.mem_of_getElem? (i := 24) rfl))) (by decide) (t := (.object "com/example/leafcount/leafcount/Sort")) (t' := .int) (by decide) (by decide)))
  have f17 := f16.other W9 (Or.inr (slot_ne (Or.inr (hw _ (List.mem_of_getElem? (i := 30) rfl))) (Or.inr (hw _ (List.mem_of_getElem? (i := 26) rfl))) (by decide) (t := (.object "com/example/leafcount/leafcount/Sort")) (t' := .int) (by decide) (by decide)))
  have f18 := f17.other W14 (Or.inr (slot_ne (Or.inr (hw _ (List.mem_of_getElem? (i := 30) rfl))) (Or.inr (hw _ (List.mem_of_getElem? (i := 28) rfl))) (by decide) (t := (.object "com/example/leafcount/leafcount/Sort")) (t' := .boolean) (by decide) (by decide)))
  have f19 := f13.wr W14
  obtain ⟨T20, h20, X20, e20, W20, st20⟩ := putF X14 hx hZ hown (host := "") (Or.inl (hw _ (List.mem_of_getElem? (i := 29) rfl))) Via.refl e14 f18 f19 (Or.inr ⟨(hw _ (List.mem_of_getElem? (i := 30) rfl)), rfl, hnm⟩) (hw _ (List.mem_of_getElem? (i := 14) rfl)) (ty := (.object "com/example/leafcount/leafcount/Sort")) (by decide) rfl rfl (g := (mkF m 28 #[.val (.ref pr0), .val (.int pi1), .val (.int pi2), .val (.int pi3), .val (.int pi4), .val .null] [.null, (.ref pr0)])) rfl rfl (hb hby d4_28)
  have Fw20 := f18.same W20
  have N20 := Fr.snoc X20 N14 g_pr0
  have k21 : Keep h0 h2 [pr0] := (Keep.refl h0 [pr0]).wr W2 (Or.inl (List.mem_of_getElem? (i := 0) rfl))
  have k22 : Keep h0 h5 [pr0] := k21.wr W5 (Or.inl (List.mem_of_getElem? (i := 0) rfl))
  have k23 : Keep h0 h9 [pr0] := k22.wr W9 (Or.inl (List.mem_of_getElem? (i := 0) rfl))
  have k24 : Keep h0 h14 [pr0] := k23.wr W14 (Or.inl (List.mem_of_getElem? (i := 0) rfl))
  have k25 : Keep h0 h20 [pr0] := k24.wr W20 (Or.inl (List.mem_of_getElem? (i := 0) rfl))
  have f26 := f19.wr W20
  have f27 := Fw2.other W5 (Or.inr (slot_ne (Or.inr (hw _ (List.mem_of_getElem? (i := 22) rfl))) (Or.inr (hw _ (List.mem_of_getElem? (i := 24) rfl))) (by decide) (t := .int) (t' := .int) (by decide) (by decide)))
  have f28 := f27.other W9 (Or.inr (slot_ne (Or.inr (hw _ (List.mem_of_getElem? (i := 22) rfl))) (Or.inr (hw _ (List.mem_of_getElem? (i := 26) rfl))) (by decide) (t := .int) (t' := .int) (by decide) (by decide)))
  have f29 := f28.other W14 (Or.inr (slot_ne (Or.inr (hw _ (List.mem_of_getElem? (i := 22) rfl))) (Or.inr (hw _ (List.mem_of_getElem? (i := 28) rfl))) (by decide) (t := .int) (t' := .boolean) (by decide) (by decide)))
  have f30 := f29.other W20 (Or.inr (slot_ne (Or.inr (hw _ (List.mem_of_getElem? (i := 22) rfl))) (Or.inr (hw _ (List.mem_of_getElem? (i := 30) rfl))) (by decide) (t := .int) (t' := (.object "com/example/leafcount/leafcount/Sort")) (by decide) (by decide)))
  have f31 := Fw5.other W9 (Or.inr (slot_ne (Or.inr (hw _ (List.mem_of_getElem? (i := 24) rfl))) (Or.inr (hw _ (List.mem_of_getElem? (i := 26) rfl))) (by decide) (t := .int) (t' := .int) (by decide) (by decide)))
  have f32 := f31.other W14 (Or.inr (slot_ne (Or.inr (hw _ (List.mem_of_getElem? (i := 24) rfl))) (Or.inr (hw _ (List.mem_of_getElem? (i := 28) rfl))) (by decide) (t := .int) (t' := .boolean) (by decide) (by decide)))
  have f33 := f32.other W20 (Or.inr (slot_ne (Or.inr (hw _ (List.mem_of_getElem? (i := 24) rfl))) (Or.inr (hw _ (List.mem_of_getElem? (i := 30) rfl))) (by decide) (t := .int) (t' := (.object "com/example/leafcount/leafcount/Sort")) (by decide) (by decide)))
  have f34 := Fw9.other W14 (Or.inr (slot_ne (Or.inr (hw _ (List.mem_of_getElem? (i := 26) rfl))) (Or.inr (hw _ (List.mem_of_getElem? (i := 28) rfl))) (by decide) (t := .int) (t' := .boolean) (by decide) (by decide)))
  have f35 := f34.other W20 (Or.inr (slot_ne (Or.inr (hw _ (List.mem_of_getElem? (i := 26) rfl))) (Or.inr (hw _ (List.mem_of_getElem? (i := 30) rfl))) (by decide) (t := .int) (t' := (.object "com/example/leafcount/leafcount/Sort")) (by decide) (by decide)))
  have f36 := Fw14.other W20 (Or.inr (slot_ne (Or.inr (hw _ (List.mem_of_getElem? (i := 28) rfl))) (Or.inr (hw _ (List.mem_of_getElem? (i := 30) rfl))) (by decide) (t := .boolean) (t' := (.object "com/example/leafcount/leafcount/Sort")) (by decide) (by decide)))
  obtain ⟨fs, hr, hrun, hended, hW, hsame⟩ := X20.leave (v := none) (fun _ => rfl)
  refine ⟨_, _, pre0 _ ?_, hrun, hended, _, _, rfl, ?_, ⟨_, rfl⟩, hW, hsame.mono (by decide) (by decide)⟩
  · show Steps p.tables e below (s₁.setTop (mkF m 0 #[.val (.ref pr0), .val (.int pi1), .val (.int pi2), .val (.int pi3), .val (.int pi4), .val .null] [])) _
    refine XS.aloadN X0.here hx rfl (hb hby d4_0) rfl rfl ?_
    show Steps p.tables e below (s₁.setTop (mkF m 1 #[.val (.ref pr0), .val (.int pi1), .val (.int pi2), .val (.int pi3), .val (.int pi4), .val .null] [(.ref pr0)])) _
    refine st1 _ ?_
    show Steps p.tables e below (T1.setTop (mkF m 4 #[.val (.ref pr0), .val (.int pi1), .val (.int pi2), .val (.int pi3), .val (.int pi4), .val .null] [])) _
    refine XS.aloadN X1.here hx rfl (hb hby d4_4) rfl rfl ?_
    show Steps p.tables e below (T1.setTop (mkF m 5 #[.val (.ref pr0), .val (.int pi1), .val (.int pi2), .val (.int pi3), .val (.int pi4), .val .null] [(.ref pr0)])) _
    refine XS.iloadN X1.here hx rfl (hb hby d4_5) rfl ?_
    show Steps p.tables e below (T1.setTop (mkF m 6 #[.val (.ref pr0), .val (.int pi1), .val (.int pi2), .val (.int pi3), .val (.int pi4), .val .null] [(.int pi1), (.ref pr0)])) _
    refine st2 _ ?_
    show Steps p.tables e below (T2.setTop (mkF m 9 #[.val (.ref pr0), .val (.int pi1), .val (.int pi2), .val (.int pi3), .val (.int pi4), .val .null] [])) _
    refine XS.aloadN X2.here hx rfl (hb hby d4_9) rfl rfl ?_
    show Steps p.tables e below (T2.setTop (mkF m 10 #[.val (.ref pr0), .val (.int pi1), .val (.int pi2), .val (.int pi3), .val (.int pi4), .val .null] [(.ref pr0)])) _
    refine XS.iloadN X2.here hx rfl (hb hby d4_10) rfl ?_
    show Steps p.tables e below (T2.setTop (mkF m 11 #[.val (.ref pr0), .val (.int pi1), .val (.int pi2), .val (.int pi3), .val (.int pi4), .val .null] [(.int pi2), (.ref pr0)])) _
    refine st5 _ ?_
    show Steps p.tables e below (T5.setTop (mkF m 14 #[.val (.ref pr0), .val (.int pi1), .val (.int pi2), .val (.int pi3), .val (.int pi4), .val .null] [])) _
    refine XS.aloadN X5.here hx rfl (hb hby d4_14) rfl rfl ?_
    show Steps p.tables e below (T5.setTop (mkF m 15 #[.val (.ref pr0), .val (.int pi1), .val (.int pi2), .val (.int pi3), .val (.int pi4), .val .null] [(.ref pr0)])) _
    refine XS.iloadN X5.here hx rfl (hb hby d4_15) rfl ?_
    show Steps p.tables e below (T5.setTop (mkF m 16 #[.val (.ref pr0), .val (.int pi1), .val (.int pi2), .val (.int pi3), .val (.int pi4), .val .null] [(.int pi3), (.ref pr0)])) _
    refine st9 _ ?_
    show Steps p.tables e below (T9.setTop (mkF m 19 #[.val (.ref pr0), .val (.int pi1), .val (.int pi2), .val (.int pi3), .val (.int pi4), .val .null] [])) _
    refine XS.aloadN X9.here hx rfl (hb hby d4_19) rfl rfl ?_
    show Steps p.tables e below (T9.setTop (mkF m 20 #[.val (.ref pr0), .val (.int pi1), .val (.int pi2), .val (.int pi3), .val (.int pi4), .val .null] [(.ref pr0)])) _
    refine XS.iload X9.here hx rfl (hb hby d4_20) rfl ?_
    show Steps p.tables e below (T9.setTop (mkF m 22 #[.val (.ref pr0), .val (.int pi1), .val (.int pi2), .val (.int pi3), .val (.int pi4), .val .null] [(.int pi4), (.ref pr0)])) _
    refine st14 _ ?_
    show Steps p.tables e below (T14.setTop (mkF m 25 #[.val (.ref pr0), .val (.int pi1), .val (.int pi2), .val (.int pi3), .val (.int pi4), .val .null] [])) _
    refine XS.aloadN X14.here hx rfl (hb hby d4_25) rfl rfl ?_
    show Steps p.tables e below (T14.setTop (mkF m 26 #[.val (.ref pr0), .val (.int pi1), .val (.int pi2), .val (.int pi3), .val (.int pi4), .val .null] [(.ref pr0)])) _
    refine XS.aload X14.here hx rfl (hb hby d4_26) rfl rfl ?_
    show Steps p.tables e below (T14.setTop (mkF m 28 #[.val (.ref pr0), .val (.int pi1), .val (.int pi2), .val (.int pi3), .val (.int pi4), .val .null] [.null, (.ref pr0)])) _
    refine st20 _ ?_
    show Steps p.tables e below (T20.setTop (mkF m 31 #[.val (.ref pr0), .val (.int pi1), .val (.int pi2), .val (.int pi3), .val (.int pi4), .val .null] [])) _
    exact X20.returnOut hx Bd.returns (hb hby d4_31) hr
  · show Q4 Z pr0 pi1 pi2 pi3 pi4 u_page_pr0 u_size_pr0 u_navigationSize_pr0 u_clamps_pr0 u_sort_pr0 h0 n0 _ T20.heap _
    rw [e20]
    exact ⟨rfl, N20, k25, f26, f30, f33, f35, f36, Fw20⟩
theorem pd_2 : parseMethodDescriptor "(I)V" = some ⟨[.int], none⟩ := by decide +kernel
theorem pd_3 : parseMethodDescriptor "(IIIZLcom/example/leafcount/leafcount/Sort;)V" = some ⟨[.int, .int, .int, .boolean, (.object "com/example/leafcount/leafcount/Sort")], none⟩ := by decide +kernel
theorem d2_0 : decode prog_22_method_2_code 0 = .ok (.iload_n 0, 1) := by decide +kernel
theorem d2_1 : decode prog_22_method_2_code 1 = .ok (.iconst 1, 1) := by decide +kernel
theorem d2_2 : decode prog_22_method_2_code 2 = .ok (.if_icmp .ge 17, 3) := by decide +kernel
theorem d2_19 : decode prog_22_method_2_code 19 = .ok (.iload_n 1, 1) := by decide +kernel
theorem d2_20 : decode prog_22_method_2_code 20 = .ok (.invokestatic 36, 3) := by decide +kernel
theorem d2_23 : decode prog_22_method_2_code 23 = .ok (.new 8, 3) := by decide +kernel
theorem d2_26 : decode prog_22_method_2_code 26 = .ok (.dup, 1) := by decide +kernel
theorem d2_27 : decode prog_22_method_2_code 27 = .ok (.iload_n 0, 1) := by decide +kernel
theorem d2_28 : decode prog_22_method_2_code 28 = .ok (.iload_n 1, 1) := by decide +kernel
theorem d2_29 : decode prog_22_method_2_code 29 = .ok (.bipush 8, 2) := by decide +kernel
theorem d2_31 : decode prog_22_method_2_code 31 = .ok (.iconst 0, 1) := by decide +kernel
theorem d2_32 : decode prog_22_method_2_code 32 = .ok (.aconst_null, 1) := by decide +kernel
theorem d2_33 : decode prog_22_method_2_code 33 = .ok (.invokespecial 40, 3) := by decide +kernel
theorem d2_36 : decode prog_22_method_2_code 36 = .ok (.areturn, 1) := by decide +kernel
theorem pn_2 : plainName "com/example/leafcount/leafcount/PageRequest" = true := by first | (simp [plainName, overriddenIn]; done) | decide +kernel
theorem ef_2 (m : MethodId) (pi1 : Int32) (pi2 : Int32) : entryFrame m #[(.int pi1), (.int pi2)] 2 = mkF m 0 #[.val (.int pi1), .val (.int pi2)] [] := by first | (simp [entryFrame, mkF, argsToLocals, Value.category]; done) | rfl
def Q2 (Z : State) (pi1 : Int32) (pi2 : Int32) (h0 : Heap) (n0 : Nat) (v : Option Value) (h : Heap) (L : List Loc) : Prop := ∃ b2 : Addr, v = some (.ref b2) ∧ Fr n0 L ∧ Keep h0 h [] ∧ h0.size ≤ b2 ∧ Exa Z h b2 "com/example/leafcount/leafcount/PageRequest" ∧ Fld Z h b2 "com/example/leafcount/leafcount/PageRequest" "page" "I" (.int pi1) ∧ Fld Z h b2 "com/example/leafcount/leafcount/PageRequest" "size" "I" (.int pi2) ∧ Fld Z h b2 "com/example/leafcount/leafcount/PageRequest" "navigationSize" "I" (.int (8 : Int32)) ∧ Fld Z h b2 "com/example/leafcount/leafcount/PageRequest" "clamps" "Z" (.int (0 : Int32)) ∧ Fld Z h b2 "com/example/leafcount/leafcount/PageRequest" "sort" "Lcom/example/leafcount/leafcount/Sort;" .null
set_option maxRecDepth 65536 in
set_option maxHeartbeats 40000000 in
theorem rm2 (l : Launch) (Z : State) (a0 : Array Value) (hw : ∀ d ∈ tables_1, d.before a0 Z = true) (ws : List Jvm.Cond) (pi1 : Int32) (pi2 : Int32) (h0 : Heap) (n0 : Nat) (Z0 : n0 ≤ h0.size) (O0 : Old Z n0 h0) (hc2_0 : ¬ (pi1 < (1 : Int32))) (hq20_1 : ¬ (pi2 < (1 : Int32))) :
    MetFree l (⟨"com/example/leafcount/leafcount/PageRequest", "of", "(II)Lcom/example/leafcount/leafcount/PageRequest;"⟩ : MethodName) (head1 (Jvm.Cond.code (⟨"com/example/leafcount/leafcount/PageRequest", "of", "(II)Lcom/example/leafcount/leafcount/PageRequest;"⟩ : MethodName) prog_22_method_2_code 2 (some (.object "com/example/leafcount/leafcount/PageRequest")) :: ws) ({ frames := 2, cells := 1, slots := 5, locals := 30 } : Room)) (fun a U => a = #[(.int pi1), (.int pi2)] ∧ Z.Warmed39 U.vm ∧ U.heap = h0) (fun _ _ _ _ _ => True) (fun _ U o U' => ∃ v L, o = .returned v ∧ Q2 Z pi1 pi2 h0 n0 v U'.heap L ∧ FrameEnd U o U' L ({ frames := 2, cells := 1, slots := 5, locals := 30 } : Room).cells ({ frames := 2, cells := 1, slots := 5, locals := 30 } : Room).slots) := by
  refine MetFree.of_bodySF (plainFor_of_name pn_2) hisR ?_
  intro p e s m args below meth c s₁ Bd hml0 hP hK
  obtain ⟨rfl, hZ, hh⟩ := hP
  have hx := Bd.exec
  have hby := Bd.bytes
  have hml : c.maxLocals = 2 := hml0
  have hown : s.vm.findClass "com/example/leafcount/leafcount/PageRequest" = some m.cls := findClass_of_methodNamed Bd.named
  have hnm := (name_of_methodNamed Bd.named Bd.method).1
  have X0 : Stand p l e ({ frames := 2, cells := 1, slots := 5, locals := 30 } : Room) s m #[(.int pi1), (.int pi2)] below meth c s₁ [] 0 0 := Stand.of_body Bd
  have e0 : s₁.heap = h0 := by rw [← hh, Bd.state]; rfl
  have N0 := Fr.nil n0
  have pre0 : ∀ t, Steps p.tables e below (s₁.setTop (mkF m 0 #[.val (.int pi1), .val (.int pi2)] [])) t → Steps p.tables e below (s₁.setTop (entryFrame m #[(.int pi1), (.int pi2)] 2)) t := fun t k => castTop (ef_2 m pi1 pi2) k
  obtain ⟨_, _, ⟨T1, L1, k1, n1⟩, -, X1, ⟨Lc1, hQ1, l1, y1, z1⟩, st1⟩ := Jvm.LawKit.callS X0 hx (y := (⟨"com/example/leafcount/leafcount/PageRequest", "checkSize", "(I)V"⟩ : MethodName)) hown (mvT hZ (hw _ (List.mem_of_getElem? (i := 10) rfl))) (mvT hZ (hw _ (List.mem_of_getElem? (i := 11) rfl))) (mvT hZ (hw _ (List.mem_of_getElem? (i := 8) rfl))) (mvT hZ (hw _ (List.mem_of_getElem? (i := 12) rfl))) (by decide) (backOf (W := 0) (rm3 l Z a0 hw [] pi2 h0 n0 Z0 O0 hq20_1) hZ (hw _ (List.mem_of_getElem? (i := 12) rfl)) (hw _ (List.mem_of_getElem? (i := 8) rfl)) (by decide) (by decide)) (g := (mkF m 20 #[.val (.int pi1), .val (.int pi2)] [(.int pi2)])) rfl (by rw [hml]; rfl) (argsL := [(.int pi2)]) (rest := []) (lenOf pd_2 rfl) rfl (by show 2 * 0 + _ ≤ _; exact Nat.le_of_eq rfl) (hb hby d2_20) (fun _ _ => ⟨rfl, e0, (by decide : 0 + 0 ≤ _), (by decide : 0 + 0 ≤ _)⟩)
  dsimp only [Pt.U, Pt.locs, Pt.cells, Pt.slots] at X1 l1 y1 z1 st1 hQ1
  subst l1 y1 z1
  obtain ⟨rfl, N1q, eq1⟩ := hQ1
  have N1 := Fr.app N0 N1q
  obtain ⟨T2, h2, X2, e2, E2, A2, D2, -, st2⟩ := newO X1 hx hZ hown (hw _ (List.mem_of_getElem? (i := 13) rfl)) (hw _ (List.mem_of_getElem? (i := 14) rfl)) (hw _ (List.mem_of_getElem? (i := 8) rfl)) eq1 (g := (mkF m 23 #[.val (.int pi1), .val (.int pi2)] [])) rfl (hb hby d2_23) (by decide) (by decide)
  obtain ⟨b2, g2⟩ : ∃ z, z = h0.size := ⟨_, rfl⟩
  rw [← g2] at A2 D2 st2
  have F_page_b2 : Fld Z h2 b2 "com/example/leafcount/leafcount/PageRequest" "page" "I" (.int (0 : Int32)) := D2 (Or.inr (hw _ (List.mem_of_getElem? (i := 22) rfl))) (ty := .int) (by decide)
  have F_size_b2 : Fld Z h2 b2 "com/example/leafcount/leafcount/PageRequest" "size" "I" (.int (0 : Int32)) := D2 (Or.inr (hw _ (List.mem_of_getElem? (i := 24) rfl))) (ty := .int) (by decide)
  have F_navigationSize_b2 : Fld Z h2 b2 "com/example/leafcount/leafcount/PageRequest" "navigationSize" "I" (.int (0 : Int32)) := D2 (Or.inr (hw _ (List.mem_of_getElem? (i := 26) rfl))) (ty := .int) (by decide)
  have F_clamps_b2 : Fld Z h2 b2 "com/example/leafcount/leafcount/PageRequest" "clamps" "Z" (.int (0 : Int32)) := D2 (Or.inr (hw _ (List.mem_of_getElem? (i := 28) rfl))) (ty := .boolean) (by decide)
  have F_sort_b2 : Fld Z h2 b2 "com/example/leafcount/leafcount/PageRequest" "sort" "Lcom/example/leafcount/leafcount/Sort;" .null := D2 (Or.inr (hw _ (List.mem_of_getElem? (i := 30) rfl))) (ty := (.object "com/example/leafcount/leafcount/Sort")) (by decide)
  have g_b2 : n0 ≤ b2 := Nat.le_trans Z0 (Nat.le_of_eq g2.symm)
  have z4 := Nat.le_trans Z0 E2.1
  have o5 := O0.ext E2
  obtain ⟨_, _, ⟨T3, L3, k3, n3⟩, -, X3, ⟨Lc3, hQ3, l3, y3, z3⟩, st3⟩ := X2.specialBack hx (y := (⟨"com/example/leafcount/leafcount/PageRequest", "<init>", "(IIIZLcom/example/leafcount/leafcount/Sort;)V"⟩ : MethodName)) rfl hown (mvT hZ (hw _ (List.mem_of_getElem? (i := 15) rfl))) (mvT hZ (hw _ (List.mem_of_getElem? (i := 16) rfl))) (mvT hZ (hw _ (List.mem_of_getElem? (i := 17) rfl))) (by decide) (backOf (W := 1) (rm4 l Z a0 hw [] b2 pi1 pi2 (8 : Int32) (0 : Int32) (.int (0 : Int32)) (.int (0 : Int32)) (.int (0 : Int32)) (.int (0 : Int32)) .null h2 n0 z4 o5 A2 F_page_b2 g_b2 F_size_b2 F_navigationSize_b2 F_clamps_b2 F_sort_b2) hZ (hw _ (List.mem_of_getElem? (i := 17) rfl)) (hw _ (List.mem_of_getElem? (i := 8) rfl)) (by decide) (by decide)) (g := (mkF m 33 #[.val (.int pi1), .val (.int pi2)] [.null, (.int (0 : Int32)), (.int (8 : Int32)), (.int pi2), (.int pi1), (.ref b2), (.ref b2)])) rfl (by rw [hml]; rfl) (Steps.refl _) (a := b2) (argsL := [(.int pi1), (.int pi2), (.int (8 : Int32)), (.int (0 : Int32)), .null]) (rest := [(.ref b2)]) (lenOf pd_3 rfl) rfl (by show 2 * 0 + _ ≤ _; exact Nat.le_of_eq rfl) (hb hby d2_33) (fun _ _ => ⟨rfl, e2, (by decide : 1 + 0 ≤ _), (by decide : 5 + 0 ≤ _)⟩)
  dsimp only [Pt.U, Pt.locs, Pt.cells, Pt.slots] at X3 l3 y3 z3 st3 hQ3
  subst l3 y3 z3
  obtain ⟨rfl, N3q, K3, qf3_0, qf3_1, qf3_2, qf3_3, qf3_4, qf3_5⟩ := hQ3
  have N3 := Fr.app N1 N3q
  have k6 : Keep h0 h2 [] := (Keep.refl h0 []).ext E2
  have k7 : Keep h0 T3.heap [] := k6.trans K3 (allS (Or.inr (Nat.le_trans (Keep.refl h0 []).1 (Nat.le_of_eq g2.symm))) all0)
  obtain ⟨fs, hr, hrun, hended, hW, hsame⟩ := X3.leave (v := some (.ref b2)) (fun h => by rw [Bd.returns] at h; cases h)
  refine ⟨_, _, pre0 _ ?_, hrun, hended, _, _, rfl, ?_, ⟨_, rfl⟩, hW, hsame.mono (by decide) (by decide)⟩
  · show Steps p.tables e below (s₁.setTop (mkF m 0 #[.val (.int pi1), .val (.int pi2)] [])) _
    refine XS.iloadN X0.here hx rfl (hb hby d2_0) rfl ?_
    show Steps p.tables e below (s₁.setTop (mkF m 1 #[.val (.int pi1), .val (.int pi2)] [(.int pi1)])) _
    refine XS.iconst X0.here hx rfl (hb hby d2_1) ?_
    show Steps p.tables e below (s₁.setTop (mkF m 2 #[.val (.int pi1), .val (.int pi2)] [(.int (1 : Int32)), (.int pi1)])) _
    refine XS.icmpYes X0.here hx rfl (pc0 := 2) (pc' := 19) rfl (hb hby d2_2) rfl (flt hc2_0).2.1 (by decide) (by decide) ?_
    show Steps p.tables e below (s₁.setTop (mkF m 19 #[.val (.int pi1), .val (.int pi2)] [])) _
    refine XS.iloadN X0.here hx rfl (hb hby d2_19) rfl ?_
    show Steps p.tables e below (s₁.setTop (mkF m 20 #[.val (.int pi1), .val (.int pi2)] [(.int pi2)])) _
    refine st1 _ ?_
    show Steps p.tables e below (T1.setTop (mkF m 23 #[.val (.int pi1), .val (.int pi2)] [])) _
    refine st2 _ ?_
    show Steps p.tables e below (T2.setTop (mkF m 26 #[.val (.int pi1), .val (.int pi2)] [(.ref b2)])) _
    refine XS.dup X2.here hx rfl (hb hby d2_26) rfl rfl ?_
    show Steps p.tables e below (T2.setTop (mkF m 27 #[.val (.int pi1), .val (.int pi2)] [(.ref b2), (.ref b2)])) _
    refine XS.iloadN X2.here hx rfl (hb hby d2_27) rfl ?_
    show Steps p.tables e below (T2.setTop (mkF m 28 #[.val (.int pi1), .val (.int pi2)] [(.int pi1), (.ref b2), (.ref b2)])) _
    refine XS.iloadN X2.here hx rfl (hb hby d2_28) rfl ?_
    show Steps p.tables e below (T2.setTop (mkF m 29 #[.val (.int pi1), .val (.int pi2)] [(.int pi2), (.int pi1), (.ref b2), (.ref b2)])) _
    refine XS.bipush X2.here hx rfl (hb hby d2_29) ?_
    show Steps p.tables e below (T2.setTop (mkF m 31 #[.val (.int pi1), .val (.int pi2)] [(.int (8 : Int32)), (.int pi2), (.int pi1), (.ref b2), (.ref b2)])) _
    refine XS.iconst X2.here hx rfl (hb hby d2_31) ?_
    show Steps p.tables e below (T2.setTop (mkF m 32 #[.val (.int pi1), .val (.int pi2)] [(.int (0 : Int32)), (.int (8 : Int32)), (.int pi2), (.int pi1), (.ref b2), (.ref b2)])) _
    refine XS.aconstNull X2.here hx rfl (hb hby d2_32) ?_
    show Steps p.tables e below (T2.setTop (mkF m 33 #[.val (.int pi1), .val (.int pi2)] [.null, (.int (0 : Int32)), (.int (8 : Int32)), (.int pi2), (.int pi1), (.ref b2), (.ref b2)])) _
    refine st3.trans ?_
    show Steps p.tables e below (T3.setTop (mkF m 36 #[.val (.int pi1), .val (.int pi2)] [(.ref b2)])) _
    jvm_step X3.here [X3.here.top, hx, (hb hby d2_36), X3.method', Bd.returns, Value.isRef, FieldType.isReference]
    first | (intro acts; rw [hr _ acts rfl rfl rfl]) | rw [hr _ _ rfl rfl rfl]
    exact Steps.refl _
  · show Q2 Z pi1 pi2 h0 n0 _ T3.heap _
    exact ⟨b2, rfl, N3, k7, (Nat.le_trans (Keep.refl h0 []).1 (Nat.le_of_eq g2.symm)), qf3_0, qf3_1, qf3_2, qf3_3, qf3_4, qf3_5⟩
theorem d6_0 : decode prog_22_method_6_code 0 = .ok (.aload_n 0, 1) := by decide +kernel
theorem d6_1 : decode prog_22_method_6_code 1 = .ok (.getfield 7, 3) := by decide +kernel
theorem d6_4 : decode prog_22_method_6_code 4 = .ok (.ireturn, 1) := by decide +kernel
theorem pn_6 : plainName "com/example/leafcount/leafcount/PageRequest" = true := by first | (simp [plainName, overriddenIn]; done) | decide +kernel
theorem ef_6 (m : MethodId) (pr0 : Addr) : entryFrame m #[(.ref pr0)] 1 = mkF m 0 #[.val (.ref pr0)] [] := by first | (simp [entryFrame, mkF, argsToLocals, Value.category]; done) | rfl
def Q6 (Z : State) (pr0 : Addr) (w_page_pr0 : Int32) (h0 : Heap) (n0 : Nat) (v : Option Value) (h : Heap) (L : List Loc) : Prop := v = some (.int w_page_pr0) ∧ Fr n0 L ∧ h = h0
set_option maxRecDepth 65536 in
set_option maxHeartbeats 40000000 in
theorem rm6 (l : Launch) (Z : State) (a0 : Array Value) (hw : ∀ d ∈ tables_1, d.before a0 Z = true) (ws : List Jvm.Cond) (pr0 : Addr) (w_page_pr0 : Int32) (h0 : Heap) (n0 : Nat) (Z0 : n0 ≤ h0.size) (O0 : Old Z n0 h0) (F_page_pr0 : Fld Z h0 pr0 "com/example/leafcount/leafcount/PageRequest" "page" "I" (.int w_page_pr0)) :
    MetFree l (⟨"com/example/leafcount/leafcount/PageRequest", "page", "()I"⟩ : MethodName) (head1 (Jvm.Cond.code (⟨"com/example/leafcount/leafcount/PageRequest", "page", "()I"⟩ : MethodName) prog_22_method_6_code 1 (some .int) :: ws) ({ frames := 0, cells := 0, slots := 0, locals := 0 } : Room)) (fun a U => a = #[(.ref pr0)] ∧ Z.Warmed39 U.vm ∧ U.heap = h0) (fun _ _ _ _ _ => True) (fun _ U o U' => ∃ v L, o = .returned v ∧ Q6 Z pr0 w_page_pr0 h0 n0 v U'.heap L ∧ FrameEnd U o U' L ({ frames := 0, cells := 0, slots := 0, locals := 0 } : Room).cells ({ frames := 0, cells := 0, slots := 0, locals := 0 } : Room).slots) := by
  refine MetFree.of_bodySF (plainFor_of_name pn_6) hisR ?_
  intro p e s m args below meth c s₁ Bd hml0 hP hK
  obtain ⟨rfl, hZ, hh⟩ := hP
  have hx := Bd.exec
  have hby := Bd.bytes
  have hml : c.maxLocals = 1 := hml0
  have hown : s.vm.findClass "com/example/leafcount/leafcount/PageRequest" = some m.cls := findClass_of_methodNamed Bd.named
  have hnm := (name_of_methodNamed Bd.named Bd.method).1
  have X0 : Stand p l e ({ frames := 0, cells := 0, slots := 0, locals := 0 } : Room) s m #[(.ref pr0)] below meth c s₁ [] 0 0 := Stand.of_body Bd
  have e0 : s₁.heap = h0 := by rw [← hh, Bd.state]; rfl
  have N0 := Fr.nil n0
  have pre0 : ∀ t, Steps p.tables e below (s₁.setTop (mkF m 0 #[.val (.ref pr0)] [])) t → Steps p.tables e below (s₁.setTop (entryFrame m #[(.ref pr0)] 1)) t := fun t k => castTop (ef_6 m pr0) k
  obtain ⟨T1, X1, e1, st1⟩ := getF X0 hx hZ hown (host := "") (Or.inl (hw _ (List.mem_of_getElem? (i := 21) rfl))) Via.refl e0 F_page_pr0 (g := (mkF m 1 #[.val (.ref pr0)] [(.ref pr0)])) rfl rfl (hb hby d6_1)
  obtain ⟨fs, hr, hrun, hended, hW, hsame⟩ := X1.leave (v := some (.int w_page_pr0)) (fun h => by rw [Bd.returns] at h; cases h)
  refine ⟨_, _, pre0 _ ?_, hrun, hended, _, _, rfl, ?_, ⟨_, rfl⟩, hW, hsame.mono (by decide) (by decide)⟩
  · show Steps p.tables e below (s₁.setTop (mkF m 0 #[.val (.ref pr0)] [])) _
    refine XS.aloadN X0.here hx rfl (hb hby d6_0) rfl rfl ?_
    show Steps p.tables e below (s₁.setTop (mkF m 1 #[.val (.ref pr0)] [(.ref pr0)])) _
    refine st1 _ ?_
    show Steps p.tables e below (T1.setTop (mkF m 4 #[.val (.ref pr0)] [(.int w_page_pr0)])) _
    exact retI X1 hx Bd.returns (hb hby d6_4) hr
  · show Q6 Z pr0 w_page_pr0 h0 n0 _ T1.heap _
    rw [e1]
    exact ⟨rfl, N0, rfl⟩
theorem d7_0 : decode prog_22_method_7_code 0 = .ok (.aload_n 0, 1) := by decide +kernel
theorem d7_1 : decode prog_22_method_7_code 1 = .ok (.getfield 13, 3) := by decide +kernel
theorem d7_4 : decode prog_22_method_7_code 4 = .ok (.ireturn, 1) := by decide +kernel
theorem pn_7 : plainName "com/example/leafcount/leafcount/PageRequest" = true := by first | (simp [plainName, overriddenIn]; done) | decide +kernel
theorem ef_7 (m : MethodId) (pr0 : Addr) : entryFrame m #[(.ref pr0)] 1 = mkF m 0 #[.val (.ref pr0)] [] := by first | (simp [entryFrame, mkF, argsToLocals, Value.category]; done) | rfl
def Q7 (Z : State) (pr0 : Addr) (w_size_pr0 : Int32) (h0 : Heap) (n0 : Nat) (v : Option Value) (h : Heap) (L : List Loc) : Prop := v = some (.int w_size_pr0) ∧ Fr n0 L ∧ h = h0
set_option maxRecDepth 65536 in
set_option maxHeartbeats 40000000 in
theorem rm7 (l : Launch) (Z : State) (a0 : Array Value) (hw : ∀ d ∈ tables_1, d.before a0 Z = true) (ws : List Jvm.Cond) (pr0 : Addr) (w_size_pr0 : Int32) (h0 : Heap) (n0 : Nat) (Z0 : n0 ≤ h0.size) (O0 : Old Z n0 h0) (F_size_pr0 : Fld Z h0 pr0 "com/example/leafcount/leafcount/PageRequest" "size" "I" (.int w_size_pr0)) :
    MetFree l (⟨"com/example/leafcount/leafcount/PageRequest", "size", "()I"⟩ : MethodName) (head1 (Jvm.Cond.code (⟨"com/example/leafcount/leafcount/PageRequest", "size", "()I"⟩ : MethodName) prog_22_method_7_code 1 (some .int) :: ws) ({ frames := 0, cells := 0, slots := 0, locals := 0 } : Room)) (fun a U => a = #[(.ref pr0)] ∧ Z.Warmed39 U.vm ∧ U.heap = h0) (fun _ _ _ _ _ => True) (fun _ U o U' => ∃ v L, o = .returned v ∧ Q7 Z pr0 w_size_pr0 h0 n0 v U'.heap L ∧ FrameEnd U o U' L ({ frames := 0, cells := 0, slots := 0, locals := 0 } : Room).cells ({ frames := 0, cells := 0, slots := 0, locals := 0 } : Room).slots) := by
  refine MetFree.of_bodySF (plainFor_of_name pn_7) hisR ?_
  intro p e s m args below meth c s₁ Bd hml0 hP hK
  obtain ⟨rfl, hZ, hh⟩ := hP
  have hx := Bd.exec
  have hby := Bd.bytes
  have hml : c.maxLocals = 1 := hml0
  have hown : s.vm.findClass "com/example/leafcount/leafcount/PageRequest" = some m.cls := findClass_of_methodNamed Bd.named
  have hnm := (name_of_methodNamed Bd.named Bd.method).1
  have X0 : Stand p l e ({ frames := 0, cells := 0, slots := 0, locals := 0 } : Room) s m #[(.ref pr0)] below meth c s₁ [] 0 0 := Stand.of_body Bd
  have e0 : s₁.heap = h0 := by rw [← hh, Bd.state]; rfl
  have N0 := Fr.nil n0
  have pre0 : ∀ t, Steps p.tables e below (s₁.setTop (mkF m 0 #[.val (.ref pr0)] [])) t → Steps p.tables e below (s₁.setTop (entryFrame m #[(.ref pr0)] 1)) t := fun t k => castTop (ef_7 m pr0) k
  obtain ⟨T1, X1, e1, st1⟩ := getF X0 hx hZ hown (host := "") (Or.inl (hw _ (List.mem_of_getElem? (i := 23) rfl))) Via.refl e0 F_size_pr0 (g := (mkF m 1 #[.val (.ref pr0)] [(.ref pr0)])) rfl rfl (hb hby d7_1)
  obtain ⟨fs, hr, hrun, hended, hW, hsame⟩ := X1.leave (v := some (.int w_size_pr0)) (fun h => by rw [Bd.returns] at h; cases h)
  refine ⟨_, _, pre0 _ ?_, hrun, hended, _, _, rfl, ?_, ⟨_, rfl⟩, hW, hsame.mono (by decide) (by decide)⟩
  · show Steps p.tables e below (s₁.setTop (mkF m 0 #[.val (.ref pr0)] [])) _
    refine XS.aloadN X0.here hx rfl (hb hby d7_0) rfl rfl ?_
    show Steps p.tables e below (s₁.setTop (mkF m 1 #[.val (.ref pr0)] [(.ref pr0)])) _
    refine st1 _ ?_
    show Steps p.tables e below (T1.setTop (mkF m 4 #[.val (.ref pr0)] [(.int w_size_pr0)])) _
    exact retI X1 hx Bd.returns (hb hby d7_4) hr
  · show Q7 Z pr0 w_size_pr0 h0 n0 _ T1.heap _
    rw [e1]
    exact ⟨rfl, N0, rfl⟩
theorem d8_0 : decode prog_22_method_8_code 0 = .ok (.aload_n 0, 1) := by decide +kernel
theorem d8_1 : decode prog_22_method_8_code 1 = .ok (.getfield 16, 3) := by decide +kernel
theorem d8_4 : decode prog_22_method_8_code 4 = .ok (.ireturn, 1) := by decide +kernel
theorem pn_8 : plainName "com/example/leafcount/leafcount/PageRequest" = true := by first | (simp [plainName, overriddenIn]; done) | decide +kernel
theorem ef_8 (m : MethodId) (pr0 : Addr) : entryFrame m #[(.ref pr0)] 1 = mkF m 0 #[.val (.ref pr0)] [] := by first | (simp [entryFrame, mkF, argsToLocals, Value.category]; done) | rfl
def Q8 (Z : State) (pr0 : Addr) (w_navigationSize_pr0 : Int32) (h0 : Heap) (n0 : Nat) (v : Option Value) (h : Heap) (L : List Loc) : Prop := v = some (.int w_navigationSize_pr0) ∧ Fr n0 L ∧ h = h0
set_option maxRecDepth 65536 in
set_option maxHeartbeats 40000000 in
theorem rm8 (l : Launch) (Z : State) (a0 : Array Value) (hw : ∀ d ∈ tables_1, d.before a0 Z = true) (ws : List Jvm.Cond) (pr0 : Addr) (w_navigationSize_pr0 : Int32) (h0 : Heap) (n0 : Nat) (Z0 : n0 ≤ h0.size) (O0 : Old Z n0 h0) (F_navigationSize_pr0 : Fld Z h0 pr0 "com/example/leafcount/leafcount/PageRequest" "navigationSize" "I" (.int w_navigationSize_pr0)) :
    MetFree l (⟨"com/example/leafcount/leafcount/PageRequest", "navigationSize", "()I"⟩ : MethodName) (head1 (Jvm.Cond.code (⟨"com/example/leafcount/leafcount/PageRequest", "navigationSize", "()I"⟩ : MethodName) prog_22_method_8_code 1 (some .int) :: ws) ({ frames := 0, cells := 0, slots := 0, locals := 0 } : Room)) (fun a U => a = #[(.ref pr0)] ∧ Z.Warmed39 U.vm ∧ U.heap = h0) (fun _ _ _ _ _ => True) (fun _ U o U' => ∃ v L, o = .returned v ∧ Q8 Z pr0 w_navigationSize_pr0 h0 n0 v U'.heap L ∧ FrameEnd U o U' L ({ frames := 0, cells := 0, slots := 0, locals := 0 } : Room).cells ({ frames := 0, cells := 0, slots := 0, locals := 0 } : Room).slots) := by
  refine MetFree.of_bodySF (plainFor_of_name pn_8) hisR ?_
  intro p e s m args below meth c s₁ Bd hml0 hP hK
  obtain ⟨rfl, hZ, hh⟩ := hP
  have hx := Bd.exec
  have hby := Bd.bytes
  have hml : c.maxLocals = 1 := hml0
  have hown : s.vm.findClass "com/example/leafcount/leafcount/PageRequest" = some m.cls := findClass_of_methodNamed Bd.named
  have hnm := (name_of_methodNamed Bd.named Bd.method).1
  have X0 : Stand p l e ({ frames := 0, cells := 0, slots := 0, locals := 0 } : Room) s m #[(.ref pr0)] below meth c s₁ [] 0 0 := Stand.of_body Bd
  have e0 : s₁.heap = h0 := by rw [← hh, Bd.state]; rfl
  have N0 := Fr.nil n0
  have pre0 : ∀ t, Steps p.tables e below (s₁.setTop (mkF m 0 #[.val (.ref pr0)] [])) t → Steps p.tables e below (s₁.setTop (entryFrame m #[(.ref pr0)] 1)) t := fun t k => castTop (ef_8 m pr0) k
  obtain ⟨T1, X1, e1, st1⟩ := getF X0 hx hZ hown (host := "") (Or.inl (hw _ (List.mem_of_getElem? (i := 25) rfl))) Via.refl e0 F_navigationSize_pr0 (g := (mkF m 1 #[.val (.ref pr0)] [(.ref pr0)])) rfl rfl (hb hby d8_1)
  obtain ⟨fs, hr, hrun, hended, hW, hsame⟩ := X1.leave (v := some (.int w_navigationSize_pr0)) (fun h => by rw [Bd.returns] at h; cases h)
  refine ⟨_, _, pre0 _ ?_, hrun, hended, _, _, rfl, ?_, ⟨_, rfl⟩, hW, hsame.mono (by decide) (by decide)⟩
  · show Steps p.tables e below (s₁.setTop (mkF m 0 #[.val (.ref pr0)] [])) _
    refine XS.aloadN X0.here hx rfl (hb hby d8_0) rfl rfl ?_
    show Steps p.tables e below (s₁.setTop (mkF m 1 #[.val (.ref pr0)] [(.ref pr0)])) _
    refine st1 _ ?_
    show Steps p.tables e below (T1.setTop (mkF m 4 #[.val (.ref pr0)] [(.int w_navigationSize_pr0)])) _
    exact retI X1 hx Bd.returns (hb hby d8_4) hr
  · show Q8 Z pr0 w_navigationSize_pr0 h0 n0 _ T1.heap _
    rw [e1]
    exact ⟨rfl, N0, rfl⟩
theorem d9_0 : decode prog_22_method_9_code 0 = .ok (.aload_n 0, 1) := by decide +kernel
theorem d9_1 : decode prog_22_method_9_code 1 = .ok (.getfield 19, 3) := by decide +kernel
theorem d9_4 : decode prog_22_method_9_code 4 = .ok (.ireturn, 1) := by decide +kernel
theorem pn_9 : plainName "com/example/leafcount/leafcount/PageRequest" = true := by first | (simp [plainName, overriddenIn]; done) | decide +kernel
theorem ef_9 (m : MethodId) (pr0 : Addr) : entryFrame m #[(.ref pr0)] 1 = mkF m 0 #[.val (.ref pr0)] [] := by first | (simp [entryFrame, mkF, argsToLocals, Value.category]; done) | rfl
def Q9 (Z : State) (pr0 : Addr) (w_clamps_pr0 : Int32) (h0 : Heap) (n0 : Nat) (v : Option Value) (h : Heap) (L : List Loc) : Prop := v = some (.int (nar .boolean w_clamps_pr0)) ∧ Fr n0 L ∧ h = h0
set_option maxRecDepth 65536 in
set_option maxHeartbeats 40000000 in
theorem rm9 (l : Launch) (Z : State) (a0 : Array Value) (hw : ∀ d ∈ tables_1, d.before a0 Z = true) (ws : List Jvm.Cond) (pr0 : Addr) (w_clamps_pr0 : Int32) (h0 : Heap) (n0 : Nat) (Z0 : n0 ≤ h0.size) (O0 : Old Z n0 h0) (F_clamps_pr0 : Fld Z h0 pr0 "com/example/leafcount/leafcount/PageRequest" "clamps" "Z" (.int w_clamps_pr0)) :
    MetFree l (⟨"com/example/leafcount/leafcount/PageRequest", "clamps", "()Z"⟩ : MethodName) (head1 (Jvm.Cond.code (⟨"com/example/leafcount/leafcount/PageRequest", "clamps", "()Z"⟩ : MethodName) prog_22_method_9_code 1 (some .boolean) :: ws) ({ frames := 0, cells := 0, slots := 0, locals := 0 } : Room)) (fun a U => a = #[(.ref pr0)] ∧ Z.Warmed39 U.vm ∧ U.heap = h0) (fun _ _ _ _ _ => True) (fun _ U o U' => ∃ v L, o = .returned v ∧ Q9 Z pr0 w_clamps_pr0 h0 n0 v U'.heap L ∧ FrameEnd U o U' L ({ frames := 0, cells := 0, slots := 0, locals := 0 } : Room).cells ({ frames := 0, cells := 0, slots := 0, locals := 0 } : Room).slots) := by
  refine MetFree.of_bodySF (plainFor_of_name pn_9) hisR ?_
  intro p e s m args below meth c s₁ Bd hml0 hP hK
  obtain ⟨rfl, hZ, hh⟩ := hP
  have hx := Bd.exec
  have hby := Bd.bytes
  have hml : c.maxLocals = 1 := hml0
  have hown : s.vm.findClass "com/example/leafcount/leafcount/PageRequest" = some m.cls := findClass_of_methodNamed Bd.named
  have hnm := (name_of_methodNamed Bd.named Bd.method).1
  have X0 : Stand p l e ({ frames := 0, cells := 0, slots := 0, locals := 0 } : Room) s m #[(.ref pr0)] below meth c s₁ [] 0 0 := Stand.of_body Bd
  have e0 : s₁.heap = h0 := by rw [← hh, Bd.state]; rfl
  have N0 := Fr.nil n0
  have pre0 : ∀ t, Steps p.tables e below (s₁.setTop (mkF m 0 #[.val (.ref pr0)] [])) t → Steps p.tables e below (s₁.setTop (entryFrame m #[(.ref pr0)] 1)) t := fun t k => castTop (ef_9 m pr0) k
  obtain ⟨T1, X1, e1, st1⟩ := getF X0 hx hZ hown (host := "") (Or.inl (hw _ (List.mem_of_getElem? (i := 27) rfl))) Via.refl e0 F_clamps_pr0 (g := (mkF m 1 #[.val (.ref pr0)] [(.ref pr0)])) rfl rfl (hb hby d9_1)
  obtain ⟨fs, hr, hrun, hended, hW, hsame⟩ := X1.leave (v := some (.int (nar .boolean w_clamps_pr0))) (fun h => by rw [Bd.returns] at h; cases h)
  refine ⟨_, _, pre0 _ ?_, hrun, hended, _, _, rfl, ?_, ⟨_, rfl⟩, hW, hsame.mono (by decide) (by decide)⟩
  · show Steps p.tables e below (s₁.setTop (mkF m 0 #[.val (.ref pr0)] [])) _
    refine XS.aloadN X0.here hx rfl (hb hby d9_0) rfl rfl ?_
    show Steps p.tables e below (s₁.setTop (mkF m 1 #[.val (.ref pr0)] [(.ref pr0)])) _
    refine st1 _ ?_
    show Steps p.tables e below (T1.setTop (mkF m 4 #[.val (.ref pr0)] [(.int w_clamps_pr0)])) _
    exact retN X1 hx (t := .boolean) Bd.returns (by simp) (hb hby d9_4) hr
  · show Q9 Z pr0 w_clamps_pr0 h0 n0 _ T1.heap _
    rw [e1]
    exact ⟨rfl, N0, rfl⟩
theorem d11_0 : decode prog_22_method_11_code 0 = .ok (.aload_n 0, 1) := by decide +kernel
theorem d11_1 : decode prog_22_method_11_code 1 = .ok (.getfield 7, 3) := by decide +kernel
theorem d11_4 : decode prog_22_method_11_code 4 = .ok (.i2l, 1) := by decide +kernel
theorem d11_5 : decode prog_22_method_11_code 5 = .ok (.lconst 1, 1) := by decide +kernel
theorem d11_6 : decode prog_22_method_11_code 6 = .ok (.lsub, 1) := by decide +kernel
theorem d11_7 : decode prog_22_method_11_code 7 = .ok (.aload_n 0, 1) := by decide +kernel
theorem d11_8 : decode prog_22_method_11_code 8 = .ok (.getfield 13, 3) := by decide +kernel
theorem d11_11 : decode prog_22_method_11_code 11 = .ok (.i2l, 1) := by decide +kernel
theorem d11_12 : decode prog_22_method_11_code 12 = .ok (.lmul, 1) := by decide +kernel
theorem d11_13 : decode prog_22_method_11_code 13 = .ok (.lreturn, 1) := by decide +kernel
theorem pn_11 : plainName "com/example/leafcount/leafcount/PageRequest" = true := by first | (simp [plainName, overriddenIn]; done) | decide +kernel
theorem ef_11 (m : MethodId) (pr0 : Addr) : entryFrame m #[(.ref pr0)] 1 = mkF m 0 #[.val (.ref pr0)] [] := by first | (simp [entryFrame, mkF, argsToLocals, Value.category]; done) | rfl
def Q11 (Z : State) (pr0 : Addr) (w_page_pr0 : Int32) (w_size_pr0 : Int32) (h0 : Heap) (n0 : Nat) (v : Option Value) (h : Heap) (L : List Loc) : Prop := v = some (.long (((w_page_pr0.toInt64) - (1 : Int64)) * (w_size_pr0.toInt64))) ∧ Fr n0 L ∧ h = h0
set_option maxRecDepth 65536 in
set_option maxHeartbeats 40000000 in
theorem rm11 (l : Launch) (Z : State) (a0 : Array Value) (hw : ∀ d ∈ tables_1, d.before a0 Z = true) (ws : List Jvm.Cond) (pr0 : Addr) (w_page_pr0 : Int32) (w_size_pr0 : Int32) (h0 : Heap) (n0 : Nat) (Z0 : n0 ≤ h0.size) (O0 : Old Z n0 h0) (F_page_pr0 : Fld Z h0 pr0 "com/example/leafcount/leafcount/PageRequest" "page" "I" (.int w_page_pr0)) (F_size_pr0 : Fld Z h0 pr0 "com/example/leafcount/leafcount/PageRequest" "size" "I" (.int w_size_pr0)) :
    MetFree l (⟨"com/example/leafcount/leafcount/PageRequest", "offset", "()J"⟩ : MethodName) (head1 (Jvm.Cond.code (⟨"com/example/leafcount/leafcount/PageRequest", "offset", "()J"⟩ : MethodName) prog_22_method_11_code 1 (some .long) :: ws) ({ frames := 0, cells := 0, slots := 0, locals := 0 } : Room)) (fun a U => a = #[(.ref pr0)] ∧ Z.Warmed39 U.vm ∧ U.heap = h0) (fun _ _ _ _ _ => True) (fun _ U o U' => ∃ v L, o = .returned v ∧ Q11 Z pr0 w_page_pr0 w_size_pr0 h0 n0 v U'.heap L ∧ FrameEnd U o U' L ({ frames := 0, cells := 0, slots := 0, locals := 0 } : Room).cells ({ frames := 0, cells := 0, slots := 0, locals := 0 } : Room).slots) := by
  refine MetFree.of_bodySF (plainFor_of_name pn_11) hisR ?_
  intro p e s m args below meth c s₁ Bd hml0 hP hK
  obtain ⟨rfl, hZ, hh⟩ := hP
  have hx := Bd.exec
  have hby := Bd.bytes
  have hml : c.maxLocals = 1 := hml0
  have hown : s.vm.findClass "com/example/leafcount/leafcount/PageRequest" = some m.cls := findClass_of_methodNamed Bd.named
  have hnm := (name_of_methodNamed Bd.named Bd.method).1
  have X0 : Stand p l e ({ frames := 0, cells := 0, slots := 0, locals := 0 } : Room) s m #[(.ref pr0)] below meth c s₁ [] 0 0 := Stand.of_body Bd
  have e0 : s₁.heap = h0 := by rw [← hh, Bd.state]; rfl
  have N0 := Fr.nil n0
  have pre0 : ∀ t, Steps p.tables e below (s₁.setTop (mkF m 0 #[.val (.ref pr0)] [])) t → Steps p.tables e below (s₁.setTop (entryFrame m #[(.ref pr0)] 1)) t := fun t k => castTop (ef_11 m pr0) k
  obtain ⟨T1, X1, e1, st1⟩ := getF X0 hx hZ hown (host := "") (Or.inl (hw _ (List.mem_of_getElem? (i := 21) rfl))) Via.refl e0 F_page_pr0 (g := (mkF m 1 #[.val (.ref pr0)] [(.ref pr0)])) rfl rfl (hb hby d11_1)
  obtain ⟨T2, X2, e2, st2⟩ := getF X1 hx hZ hown (host := "") (Or.inl (hw _ (List.mem_of_getElem? (i := 23) rfl))) Via.refl e1 F_size_pr0 (g := (mkF m 8 #[.val (.ref pr0)] [(.ref pr0), (.long ((w_page_pr0.toInt64) - (1 : Int64)))])) rfl rfl (hb hby d11_8)
  obtain ⟨fs, hr, hrun, hended, hW, hsame⟩ := X2.leave (v := some (.long (((w_page_pr0.toInt64) - (1 : Int64)) * (w_size_pr0.toInt64)))) (fun h => by rw [Bd.returns] at h; cases h)
  refine ⟨_, _, pre0 _ ?_, hrun, hended, _, _, rfl, ?_, ⟨_, rfl⟩, hW, hsame.mono (by decide) (by decide)⟩
  · show Steps p.tables e below (s₁.setTop (mkF m 0 #[.val (.ref pr0)] [])) _
    refine XS.aloadN X0.here hx rfl (hb hby d11_0) rfl rfl ?_
    show Steps p.tables e below (s₁.setTop (mkF m 1 #[.val (.ref pr0)] [(.ref pr0)])) _
    refine st1 _ ?_
    show Steps p.tables e below (T1.setTop (mkF m 4 #[.val (.ref pr0)] [(.int w_page_pr0)])) _
    refine XS.i2l X1.here hx rfl (hb hby d11_4) rfl ?_
    show Steps p.tables e below (T1.setTop (mkF m 5 #[.val (.ref pr0)] [(.long (w_page_pr0.toInt64))])) _
    refine XS.lconst X1.here hx rfl (hb hby d11_5) ?_
    show Steps p.tables e below (T1.setTop (mkF m 6 #[.val (.ref pr0)] [(.long (1 : Int64)), (.long (w_page_pr0.toInt64))])) _
    refine XS.lsub X1.here hx rfl (hb hby d11_6) rfl ?_
    show Steps p.tables e below (T1.setTop (mkF m 7 #[.val (.ref pr0)] [(.long ((w_page_pr0.toInt64) - (1 : Int64)))])) _
    refine XS.aloadN X1.here hx rfl (hb hby d11_7) rfl rfl ?_
    show Steps p.tables e below (T1.setTop (mkF m 8 #[.val (.ref pr0)] [(.ref pr0), (.long ((w_page_pr0.toInt64) - (1 : Int64)))])) _
    refine st2 _ ?_
    show Steps p.tables e below (T2.setTop (mkF m 11 #[.val (.ref pr0)] [(.int w_size_pr0), (.long ((w_page_pr0.toInt64) - (1 : Int64)))])) _
    refine XS.i2l X2.here hx rfl (hb hby d11_11) rfl ?_
    show Steps p.tables e below (T2.setTop (mkF m 12 #[.val (.ref pr0)] [(.long (w_size_pr0.toInt64)), (.long ((w_page_pr0.toInt64) - (1 : Int64)))])) _
    refine XS.lmul X2.here hx rfl (hb hby d11_12) rfl ?_
    show Steps p.tables e below (T2.setTop (mkF m 13 #[.val (.ref pr0)] [(.long (((w_page_pr0.toInt64) - (1 : Int64)) * (w_size_pr0.toInt64)))])) _
    jvm_step X2.here [X2.here.top, hx, (hb hby d11_13), X2.method', Bd.returns, narrow]
    first | (intro acts; rw [hr _ acts rfl rfl rfl]) | rw [hr _ _ rfl rfl rfl]
    exact Steps.refl _
  · show Q11 Z pr0 w_page_pr0 w_size_pr0 h0 n0 _ T2.heap _
    rw [e2]
    exact ⟨rfl, N0, rfl⟩
theorem d10_0 : decode prog_22_method_10_code 0 = .ok (.aload_n 0, 1) := by decide +kernel
theorem d10_1 : decode prog_22_method_10_code 1 = .ok (.getfield 23, 3) := by decide +kernel
theorem d10_4 : decode prog_22_method_10_code 4 = .ok (.areturn, 1) := by decide +kernel
theorem pn_10 : plainName "com/example/leafcount/leafcount/PageRequest" = true := by first | (simp [plainName, overriddenIn]; done) | decide +kernel
theorem ef_10 (m : MethodId) (pr0 : Addr) : entryFrame m #[(.ref pr0)] 1 = mkF m 0 #[.val (.ref pr0)] [] := by first | (simp [entryFrame, mkF, argsToLocals, Value.category]; done) | rfl
def Q10 (Z : State) (pr0 : Addr) (h0 : Heap) (n0 : Nat) (v : Option Value) (h : Heap) (L : List Loc) : Prop := v = some .null ∧ Fr n0 L ∧ h = h0
set_option maxRecDepth 65536 in
set_option maxHeartbeats 40000000 in
theorem rm10 (l : Launch) (Z : State) (a0 : Array Value) (hw : ∀ d ∈ tables_1, d.before a0 Z = true) (ws : List Jvm.Cond) (pr0 : Addr) (h0 : Heap) (n0 : Nat) (Z0 : n0 ≤ h0.size) (O0 : Old Z n0 h0) (F_sort_pr0 : Fld Z h0 pr0 "com/example/leafcount/leafcount/PageRequest" "sort" "Lcom/example/leafcount/leafcount/Sort;" .null) :
    MetFree l (⟨"com/example/leafcount/leafcount/PageRequest", "sort", "()Lcom/example/leafcount/leafcount/Sort;"⟩ : MethodName) (head1 (Jvm.Cond.code (⟨"com/example/leafcount/leafcount/PageRequest", "sort", "()Lcom/example/leafcount/leafcount/Sort;"⟩ : MethodName) prog_22_method_10_code 1 (some (.object "com/example/leafcount/leafcount/Sort")) :: ws) ({ frames := 0, cells := 0, slots := 0, locals := 0 } : Room)) (fun a U => a = #[(.ref pr0)] ∧ Z.Warmed39 U.vm ∧ U.heap = h0) (fun _ _ _ _ _ => True) (fun _ U o U' => ∃ v L, o = .returned v ∧ Q10 Z pr0 h0 n0 v U'.heap L ∧ FrameEnd U o U' L ({ frames := 0, cells := 0, slots := 0, locals := 0 } : Room).cells ({ frames := 0, cells := 0, slots := 0, locals := 0 } : Room).slots) := by
  refine MetFree.of_bodySF (plainFor_of_name pn_10) hisR ?_
  intro p e s m args below meth c s₁ Bd hml0 hP hK
  obtain ⟨rfl, hZ, hh⟩ := hP
  have hx := Bd.exec
  have hby := Bd.bytes
  have hml : c.maxLocals = 1 := hml0
  have hown : s.vm.findClass "com/example/leafcount/leafcount/PageRequest" = some m.cls := findClass_of_methodNamed Bd.named
  have hnm := (name_of_methodNamed Bd.named Bd.method).1
  have X0 : Stand p l e ({ frames := 0, cells := 0, slots := 0, locals := 0 } : Room) s m #[(.ref pr0)] below meth c s₁ [] 0 0 := Stand.of_body Bd
  have e0 : s₁.heap = h0 := by rw [← hh, Bd.state]; rfl
  have N0 := Fr.nil n0
  have pre0 : ∀ t, Steps p.tables e below (s₁.setTop (mkF m 0 #[.val (.ref pr0)] [])) t → Steps p.tables e below (s₁.setTop (entryFrame m #[(.ref pr0)] 1)) t := fun t k => castTop (ef_10 m pr0) k
  obtain ⟨T1, X1, e1, st1⟩ := getF X0 hx hZ hown (host := "") (Or.inl (hw _ (List.mem_of_getElem? (i := 29) rfl))) Via.refl e0 F_sort_pr0 (g := (mkF m 1 #[.val (.ref pr0)] [(.ref pr0)])) rfl rfl (hb hby d10_1)
  obtain ⟨fs, hr, hrun, hended, hW, hsame⟩ := X1.leave (v := some .null) (fun h => by rw [Bd.returns] at h; cases h)
  refine ⟨_, _, pre0 _ ?_, hrun, hended, _, _, rfl, ?_, ⟨_, rfl⟩, hW, hsame.mono (by decide) (by decide)⟩
  · show Steps p.tables e below (s₁.setTop (mkF m 0 #[.val (.ref pr0)] [])) _
    refine XS.aloadN X0.here hx rfl (hb hby d10_0) rfl rfl ?_
    show Steps p.tables e below (s₁.setTop (mkF m 1 #[.val (.ref pr0)] [(.ref pr0)])) _
    refine st1 _ ?_
    show Steps p.tables e below (T1.setTop (mkF m 4 #[.val (.ref pr0)] [.null])) _
    jvm_step X1.here [X1.here.top, hx, (hb hby d10_4), X1.method', Bd.returns, Value.isRef, FieldType.isReference]
    first | (intro acts; rw [hr _ acts rfl rfl rfl]) | rw [hr _ _ rfl rfl rfl]
    exact Steps.refl _
  · show Q10 Z pr0 h0 n0 _ T1.heap _
    rw [e1]
    exact ⟨rfl, N0, rfl⟩
theorem d13_0 : decode prog_22_method_18_code 0 = .ok (.lload_n 0, 1) := by decide +kernel
theorem d13_1 : decode prog_22_method_18_code 1 = .ok (.lconst 0, 1) := by decide +kernel
theorem d13_2 : decode prog_22_method_18_code 2 = .ok (.lcmp, 1) := by decide +kernel
theorem d13_3 : decode prog_22_method_18_code 3 = .ok (.ifCond .ge 17, 3) := by decide +kernel
theorem d13_20 : decode prog_22_method_18_code 20 = .ok (.return_, 1) := by decide +kernel
theorem pn_13 : plainName "com/example/leafcount/leafcount/PageRequest" = true := by first | (simp [plainName, overriddenIn]; done) | decide +kernel
theorem ef_13 (m : MethodId) (pl1 : Int64) : entryFrame m #[(.long pl1)] 2 = mkF m 0 #[.val (.long pl1), .second] [] := by first | (simp [entryFrame, mkF, argsToLocals, Value.category]; done) | rfl
def Q13 (Z : State) (pl1 : Int64) (h0 : Heap) (n0 : Nat) (v : Option Value) (h : Heap) (L : List Loc) : Prop := v = none ∧ Fr n0 L ∧ h = h0
set_option maxRecDepth 65536 in
set_option maxHeartbeats 40000000 in
theorem rm13 (l : Launch) (Z : State) (a0 : Array Value) (hw : ∀ d ∈ tables_1, d.before a0 Z = true) (ws : List Jvm.Cond) (pl1 : Int64) (h0 : Heap) (n0 : Nat) (Z0 : n0 ≤ h0.size) (O0 : Old Z n0 h0) (hc3_0 : ¬ ((lcmpW pl1 (0 : Int64)) < (0 : Int32))) :
    MetFree l (⟨"com/example/leafcount/leafcount/PageRequest", "checkTotal", "(J)V"⟩ : MethodName) (head1 (Jvm.Cond.code (⟨"com/example/leafcount/leafcount/PageRequest", "checkTotal", "(J)V"⟩ : MethodName) prog_22_method_18_code 2 none :: ws) ({ frames := 0, cells := 0, slots := 0, locals := 0 } : Room)) (fun a U => a = #[(.long pl1)] ∧ Z.Warmed39 U.vm ∧ U.heap = h0) (fun _ _ _ _ _ => True) (fun _ U o U' => ∃ v L, o = .returned v ∧ Q13 Z pl1 h0 n0 v U'.heap L ∧ FrameEnd U o U' L ({ frames := 0, cells := 0, slots := 0, locals := 0 } : Room).cells ({ frames := 0, cells := 0, slots := 0, locals := 0 } : Room).slots) := by
  refine MetFree.of_bodySF (plainFor_of_name pn_13) hisR ?_
  intro p e s m args below meth c s₁ Bd hml0 hP hK
  obtain ⟨rfl, hZ, hh⟩ := hP
  have hx := Bd.exec
  have hby := Bd.bytes
  have hml : c.maxLocals = 2 := hml0
  have hown : s.vm.findClass "com/example/leafcount/leafcount/PageRequest" = some m.cls := findClass_of_methodNamed Bd.named
  have hnm := (name_of_methodNamed Bd.named Bd.method).1
  have X0 : Stand p l e ({ frames := 0, cells := 0, slots := 0, locals := 0 } : Room) s m #[(.long pl1)] below meth c s₁ [] 0 0 := Stand.of_body Bd
  have e0 : s₁.heap = h0 := by rw [← hh, Bd.state]; rfl
  have N0 := Fr.nil n0
  have pre0 : ∀ t, Steps p.tables e below (s₁.setTop (mkF m 0 #[.val (.long pl1), .second] [])) t → Steps p.tables e below (s₁.setTop (entryFrame m #[(.long pl1)] 2)) t := fun t k => castTop (ef_13 m pl1) k
  obtain ⟨fs, hr, hrun, hended, hW, hsame⟩ := X0.leave (v := none) (fun _ => rfl)
  refine ⟨_, _, pre0 _ ?_, hrun, hended, _, _, rfl, ?_, ⟨_, rfl⟩, hW, hsame.mono (by decide) (by decide)⟩
  · show Steps p.tables e below (s₁.setTop (mkF m 0 #[.val (.long pl1), .second] [])) _
    refine XS.lloadN X0.here hx rfl (hb hby d13_0) rfl ?_
    show Steps p.tables e below (s₁.setTop (mkF m 1 #[.val (.long pl1), .second] [(.long pl1)])) _
    refine XS.lconst X0.here hx rfl (hb hby d13_1) ?_
    show Steps p.tables e below (s₁.setTop (mkF m 2 #[.val (.long pl1), .second] [(.long (0 : Int64)), (.long pl1)])) _
    refine XS.lcmp X0.here hx rfl (hb hby d13_2) rfl ?_
    show Steps p.tables e below (s₁.setTop (mkF m 3 #[.val (.long pl1), .second] [(.int (lcmpW pl1 (0 : Int64)))])) _
    refine XS.ifYes X0.here hx rfl (pc0 := 3) (pc' := 20) rfl (hb hby d13_3) rfl ((if0 _ _).trans (flt hc3_0).2.1) (by decide) (by decide) ?_
    show Steps p.tables e below (s₁.setTop (mkF m 20 #[.val (.long pl1), .second] [])) _
    exact X0.returnOut hx Bd.returns (hb hby d13_20) hr
  · show Q13 Z pl1 h0 n0 _ s₁.heap _
    rw [e0]
    exact ⟨rfl, N0, rfl⟩
theorem d14_0 : decode prog_22_method_13_code 0 = .ok (.lload_n 1, 1) := by decide +kernel
theorem d14_1 : decode prog_22_method_13_code 1 = .ok (.aload_n 0, 1) := by decide +kernel
theorem d14_2 : decode prog_22_method_13_code 2 = .ok (.getfield 13, 3) := by decide +kernel
theorem d14_5 : decode prog_22_method_13_code 5 = .ok (.i2l, 1) := by decide +kernel
theorem d14_6 : decode prog_22_method_13_code 6 = .ok (.ldiv, 1) := by decide +kernel
theorem d14_7 : decode prog_22_method_13_code 7 = .ok (.lstore_n 3, 1) := by decide +kernel
theorem d14_8 : decode prog_22_method_13_code 8 = .ok (.lload_n 1, 1) := by decide +kernel
theorem d14_9 : decode prog_22_method_13_code 9 = .ok (.aload_n 0, 1) := by decide +kernel
theorem d14_10 : decode prog_22_method_13_code 10 = .ok (.getfield 13, 3) := by decide +kernel
theorem d14_13 : decode prog_22_method_13_code 13 = .ok (.i2l, 1) := by decide +kernel
theorem d14_14 : decode prog_22_method_13_code 14 = .ok (.lrem, 1) := by decide +kernel
theorem d14_15 : decode prog_22_method_13_code 15 = .ok (.lconst 0, 1) := by decide +kernel
theorem d14_16 : decode prog_22_method_13_code 16 = .ok (.lcmp, 1) := by decide +kernel
theorem d14_17 : decode prog_22_method_13_code 17 = .ok (.ifCond .ne 7, 3) := by decide +kernel
theorem d14_20 : decode prog_22_method_13_code 20 = .ok (.lload_n 3, 1) := by decide +kernel
theorem d14_21 : decode prog_22_method_13_code 21 = .ok (.goto 6, 3) := by decide +kernel
theorem d14_27 : decode prog_22_method_13_code 27 = .ok (.lreturn, 1) := by decide +kernel
theorem pn_14 : plainName "com/example/leafcount/leafcount/PageRequest" = true := by first | (simp [plainName, overriddenIn]; done) | decide +kernel
theorem ef_14 (m : MethodId) (pr0 : Addr) (pl1 : Int64) : entryFrame m #[(.ref pr0), (.long pl1)] 5 = mkF m 0 #[.val (.ref pr0), .val (.long pl1), .second, .unset, .unset] [] := by first | (simp [entryFrame, mkF, argsToLocals, Value.category]; done) | rfl
def Q14_t (Z : State) (pr0 : Addr) (pl1 : Int64) (w_size_pr0 : Int32) (h0 : Heap) (n0 : Nat) (v : Option Value) (h : Heap) (L : List Loc) : Prop := v = some (.long (pl1 / (w_size_pr0.toInt64))) ∧ Fr n0 L ∧ h = h0
set_option maxRecDepth 65536 in
set_option maxHeartbeats 40000000 in
theorem rm14_t (l : Launch) (Z : State) (a0 : Array Value) (hw : ∀ d ∈ tables_1, d.before a0 Z = true) (ws : List Jvm.Cond) (pr0 : Addr) (pl1 : Int64) (w_size_pr0 : Int32) (h0 : Heap) (n0 : Nat) (Z0 : n0 ≤ h0.size) (O0 : Old Z n0 h0) (F_size_pr0 : Fld Z h0 pr0 "com/example/leafcount/leafcount/PageRequest" "size" "I" (.int w_size_pr0)) (hq6_0 : ¬ ((w_size_pr0.toInt64) = (0 : Int64))) (hc17_1 : (lcmpW (pl1 - (pl1 / (w_size_pr0.toInt64)) * (w_size_pr0.toInt64)) (0 : Int64)) = (0 : Int32)) :
    MetFree l (⟨"com/example/leafcount/leafcount/PageRequest", "pages", "(J)J"⟩ : MethodName) (head1 (Jvm.Cond.code (⟨"com/example/leafcount/leafcount/PageRequest", "pages", "(J)J"⟩ : MethodName) prog_22_method_13_code 5 (some .long) :: ws) ({ frames := 0, cells := 0, slots := 0, locals := 0 } : Room)) (fun a U => a = #[(.ref pr0), (.long pl1)] ∧ Z.Warmed39 U.vm ∧ U.heap = h0) (fun _ _ _ _ _ => True) (fun _ U o U' => ∃ v L, o = .returned v ∧ Q14_t Z pr0 pl1 w_size_pr0 h0 n0 v U'.heap L ∧ FrameEnd U o U' L ({ frames := 0, cells := 0, slots := 0, locals := 0 } : Room).cells ({ frames := 0, cells := 0, slots := 0, locals := 0 } : Room).slots) := by
  refine MetFree.of_bodySF (plainFor_of_name pn_14) hisR ?_
  intro p e s m args below meth c s₁ Bd hml0 hP hK
  obtain ⟨rfl, hZ, hh⟩ := hP
  have hx := Bd.exec
  have hby := Bd.bytes
  have hml : c.maxLocals = 5 := hml0
  have hown : s.vm.findClass "com/example/leafcount/leafcount/PageRequest" = some m.cls := findClass_of_methodNamed Bd.named
  have hnm := (name_of_methodNamed Bd.named Bd.method).1
  have X0 : Stand p l e ({ frames := 0, cells := 0, slots := 0, locals := 0 } : Room) s m #[(.ref pr0), (.long pl1)] below meth c s₁ [] 0 0 := Stand.of_body Bd
  have e0 : s₁.heap = h0 := by rw [← hh, Bd.state]; rfl
  have N0 := Fr.nil n0
  have pre0 : ∀ t, Steps p.tables e below (s₁.setTop (mkF m 0 #[.val (.ref pr0), .val (.long pl1), .second, .unset, .unset] [])) t → Steps p.tables e below (s₁.setTop (entryFrame m #[(.ref pr0), (.long pl1)] 5)) t := fun t k => castTop (ef_14 m pr0 pl1) k
  obtain ⟨T1, X1, e1, st1⟩ := getF X0 hx hZ hown (host := "") (Or.inl (hw _ (List.mem_of_getElem? (i := 23) rfl))) Via.refl e0 F_size_pr0 (g := (mkF m 2 #[.val (.ref pr0), .val (.long pl1), .second, .unset, .unset] [(.ref pr0), (.long pl1)])) rfl rfl (hb hby d14_2)
  obtain ⟨T2, X2, e2, st2⟩ := getF X1 hx hZ hown (host := "") (Or.inl (hw _ (List.mem_of_getElem? (i := 23) rfl))) Via.refl e1 F_size_pr0 (g := (mkF m 10 #[.val (.ref pr0), .val (.long pl1), .second, .val (.long (pl1 / (w_size_pr0.toInt64))), .second] [(.ref pr0), (.long pl1)])) rfl rfl (hb hby d14_10)
  obtain ⟨fs, hr, hrun, hended, hW, hsame⟩ := X2.leave (v := some (.long (pl1 / (w_size_pr0.toInt64)))) (fun h => by rw [Bd.returns] at h; cases h)
  refine ⟨_, _, pre0 _ ?_, hrun, hended, _, _, rfl, ?_, ⟨_, rfl⟩, hW, hsame.mono (by decide) (by decide)⟩
  · show Steps p.tables e below (s₁.setTop (mkF m 0 #[.val (.ref pr0), .val (.long pl1), .second, .unset, .unset] [])) _
    refine XS.lloadN X0.here hx rfl (hb hby d14_0) rfl ?_
    show Steps p.tables e below (s₁.setTop (mkF m 1 #[.val (.ref pr0), .val (.long pl1), .second, .unset, .unset] [(.long pl1)])) _
    refine XS.aloadN X0.here hx rfl (hb hby d14_1) rfl rfl ?_
    show Steps p.tables e below (s₁.setTop (mkF m 2 #[.val (.ref pr0), .val (.long pl1), .second, .unset, .unset] [(.ref pr0), (.long pl1)])) _
    refine st1 _ ?_
    show Steps p.tables e below (T1.setTop (mkF m 5 #[.val (.ref pr0), .val (.long pl1), .second, .unset, .unset] [(.int w_size_pr0), (.long pl1)])) _
    refine XS.i2l X1.here hx rfl (hb hby d14_5) rfl ?_
    show Steps p.tables e below (T1.setTop (mkF m 6 #[.val (.ref pr0), .val (.long pl1), .second, .unset, .unset] [(.long (w_size_pr0.toInt64)), (.long pl1)])) _
    refine XS.ldiv X1.here hx rfl (hb hby d14_6) rfl hq6_0 ?_
    show Steps p.tables e below (T1.setTop (mkF m 7 #[.val (.ref pr0), .val (.long pl1), .second, .unset, .unset] [(.long (pl1 / (w_size_pr0.toInt64)))])) _
    refine XS.lstoreN X1.here hx rfl (hb hby d14_7) rfl (l' := #[.val (.ref pr0), .val (.long pl1), .second, .val (.long (pl1 / (w_size_pr0.toInt64))), .second]) rfl ?_
    show Steps p.tables e below (T1.setTop (mkF m 8 #[.val (.ref pr0), .val (.long pl1), .second, .val (.long (pl1 / (w_size_pr0.toInt64))), .second] [])) _
    refine XS.lloadN X1.here hx rfl (hb hby d14_8) rfl ?_
    show Steps p.tables e below (T1.setTop (mkF m 9 #[.val (.ref pr0), .val (.long pl1), .second, .val (.long (pl1 / (w_size_pr0.toInt64))), .second] [(.long pl1)])) _
    refine XS.aloadN X1.here hx rfl (hb hby d14_9) rfl rfl ?_
    show Steps p.tables e below (T1.setTop (mkF m 10 #[.val (.ref pr0), .val (.long pl1), .second, .val (.long (pl1 / (w_size_pr0.toInt64))), .second] [(.ref pr0), (.long pl1)])) _
    refine st2 _ ?_
    show Steps p.tables e below (T2.setTop (mkF m 13 #[.val (.ref pr0), .val (.long pl1), .second, .val (.long (pl1 / (w_size_pr0.toInt64))), .second] [(.int w_size_pr0), (.long pl1)])) _
    refine XS.i2l X2.here hx rfl (hb hby d14_13) rfl ?_
    show Steps p.tables e below (T2.setTop (mkF m 14 #[.val (.ref pr0), .val (.long pl1), .second, .val (.long (pl1 / (w_size_pr0.toInt64))), .second] [(.long (w_size_pr0.toInt64)), (.long pl1)])) _
    refine XS.lrem X2.here hx rfl (hb hby d14_14) rfl hq6_0 ?_
    show Steps p.tables e below (T2.setTop (mkF m 15 #[.val (.ref pr0), .val (.long pl1), .second, .val (.long (pl1 / (w_size_pr0.toInt64))), .second] [(.long (pl1 - (pl1 / (w_size_pr0.toInt64)) * (w_size_pr0.toInt64)))])) _
    refine XS.lconst X2.here hx rfl (hb hby d14_15) ?_
    show Steps p.tables e below (T2.setTop (mkF m 16 #[.val (.ref pr0), .val (.long pl1), .second, .val (.long (pl1 / (w_size_pr0.toInt64))), .second] [(.long (0 : Int64)), (.long (pl1 - (pl1 / (w_size_pr0.toInt64)) * (w_size_pr0.toInt64)))])) _
    refine XS.lcmp X2.here hx rfl (hb hby d14_16) rfl ?_
    show Steps p.tables e below (T2.setTop (mkF m 17 #[.val (.ref pr0), .val (.long pl1), .second, .val (.long (pl1 / (w_size_pr0.toInt64))), .second] [(.int (lcmpW (pl1 - (pl1 / (w_size_pr0.toInt64)) * (w_size_pr0.toInt64)) (0 : Int64)))])) _
    refine XS.ifNo X2.here hx rfl (hb hby d14_17) rfl ((if0 _ _).trans (teq hc17_1).2) ?_
    show Steps p.tables e below (T2.setTop (mkF m 20 #[.val (.ref pr0), .val (.long pl1), .second, .val (.long (pl1 / (w_size_pr0.toInt64))), .second] [])) _
    refine XS.lloadN X2.here hx rfl (hb hby d14_20) rfl ?_
    show Steps p.tables e below (T2.setTop (mkF m 21 #[.val (.ref pr0), .val (.long pl1), .second, .val (.long (pl1 / (w_size_pr0.toInt64))), .second] [(.long (pl1 / (w_size_pr0.toInt64)))])) _
    refine XS.goto X2.here hx rfl (pc0 := 21) (pc' := 27) rfl (hb hby d14_21) (by decide) (by decide) ?_
    show Steps p.tables e below (T2.setTop (mkF m 27 #[.val (.ref pr0), .val (.long pl1), .second, .val (.long (pl1 / (w_size_pr0.toInt64))), .second] [(.long (pl1 / (w_size_pr0.toInt64)))])) _
    jvm_step X2.here [X2.here.top, hx, (hb hby d14_27), X2.method', Bd.returns, narrow]
    first | (intro acts; rw [hr _ acts rfl rfl rfl]) | rw [hr _ _ rfl rfl rfl]
    exact Steps.refl _
  · show Q14_t Z pr0 pl1 w_size_pr0 h0 n0 _ T2.heap _
    rw [e2]
    exact ⟨rfl, N0, rfl⟩
theorem d14_24 : decode prog_22_method_13_code 24 = .ok (.lload_n 3, 1) := by decide +kernel
theorem d14_25 : decode prog_22_method_13_code 25 = .ok (.lconst 1, 1) := by decide +kernel
theorem d14_26 : decode prog_22_method_13_code 26 = .ok (.ladd, 1) := by decide +kernel
def Q14_f (Z : State) (pr0 : Addr) (pl1 : Int64) (w_size_pr0 : Int32) (h0 : Heap) (n0 : Nat) (v : Option Value) (h : Heap) (L : List Loc) : Prop := v = some (.long ((pl1 / (w_size_pr0.toInt64)) + (1 : Int64))) ∧ Fr n0 L ∧ h = h0
set_option maxRecDepth 65536 in
set_option maxHeartbeats 40000000 in
theorem rm14_f (l : Launch) (Z : State) (a0 : Array Value) (hw : ∀ d ∈ tables_1, d.before a0 Z = true) (ws : List Jvm.Cond) (pr0 : Addr) (pl1 : Int64) (w_size_pr0 : Int32) (h0 : Heap) (n0 : Nat) (Z0 : n0 ≤ h0.size) (O0 : Old Z n0 h0) (F_size_pr0 : Fld Z h0 pr0 "com/example/leafcount/leafcount/PageRequest" "size" "I" (.int w_size_pr0)) (hq6_0 : ¬ ((w_size_pr0.toInt64) = (0 : Int64))) (hc17_1 : ¬ ((lcmpW (pl1 - (pl1 / (w_size_pr0.toInt64)) * (w_size_pr0.toInt64)) (0 : Int64)) = (0 : Int32))) :
    MetFree l (⟨"com/example/leafcount/leafcount/PageRequest", "pages", "(J)J"⟩ : MethodName) (head1 (Jvm.Cond.code (⟨"com/example/leafcount/leafcount/PageRequest", "pages", "(J)J"⟩ : MethodName) prog_22_method_13_code 5 (some .long) :: ws) ({ frames := 0, cells := 0, slots := 0, locals := 0 } : Room)) (fun a U => a = #[(.ref pr0), (.long pl1)] ∧ Z.Warmed39 U.vm ∧ U.heap = h0) (fun _ _ _ _ _ => True) (fun _ U o U' => ∃ v L, o = .returned v ∧ Q14_f Z pr0 pl1 w_size_pr0 h0 n0 v U'.heap L ∧ FrameEnd U o U' L ({ frames := 0, cells := 0, slots := 0, locals := 0 } : Room).cells ({ frames := 0, cells := 0, slots := 0, locals := 0 } : Room).slots) := by
  refine MetFree.of_bodySF (plainFor_of_name pn_14) hisR ?_
  intro p e s m args below meth c s₁ Bd hml0 hP hK
  obtain ⟨rfl, hZ, hh⟩ := hP
  have hx := Bd.exec
  have hby := Bd.bytes
  have hml : c.maxLocals = 5 := hml0
  have hown : s.vm.findClass "com/example/leafcount/leafcount/PageRequest" = some m.cls := findClass_of_methodNamed Bd.named
  have hnm := (name_of_methodNamed Bd.named Bd.method).1
  have X0 : Stand p l e ({ frames := 0, cells := 0, slots := 0, locals := 0 } : Room) s m #[(.ref pr0), (.long pl1)] below meth c s₁ [] 0 0 := Stand.of_body Bd
  have e0 : s₁.heap = h0 := by rw [← hh, Bd.state]; rfl
  have N0 := Fr.nil n0
  have pre0 : ∀ t, Steps p.tables e below (s₁.setTop (mkF m 0 #[.val (.ref pr0), .val (.long pl1), .second, .unset, .unset] [])) t → Steps p.tables e below (s₁.setTop (entryFrame m #[(.ref pr0), (.long pl1)] 5)) t := fun t k => castTop (ef_14 m pr0 pl1) k
  obtain ⟨T1, X1, e1, st1⟩ := getF X0 hx hZ hown (host := "") (Or.inl (hw _ (List.mem_of_getElem? (i := 23) rfl))) Via.refl e0 F_size_pr0 (g := (mkF m 2 #[.val (.ref pr0), .val (.long pl1), .second, .unset, .unset] [(.ref pr0), (.long pl1)])) rfl rfl (hb hby d14_2)
  obtain ⟨T2, X2, e2, st2⟩ := getF X1 hx hZ hown (host := "") (Or.inl (hw _ (List.mem_of_getElem? (i := 23) rfl))) Via.refl e1 F_size_pr0 (g := (mkF m 10 #[.val (.ref pr0), .val (.long pl1), .second, .val (.long (pl1 / (w_size_pr0.toInt64))), .second] [(.ref pr0), (.long pl1)])) rfl rfl (hb hby d14_10)
  obtain ⟨fs, hr, hrun, hended, hW, hsame⟩ := X2.leave (v := some (.long ((pl1 / (w_size_pr0.toInt64)) + (1 : Int64)))) (fun h => by rw [Bd.returns] at h; cases h)
  refine ⟨_, _, pre0 _ ?_, hrun, hended, _, _, rfl, ?_, ⟨_, rfl⟩, hW, hsame.mono (by decide) (by decide)⟩
  · show Steps p.tables e below (s₁.setTop (mkF m 0 #[.val (.ref pr0), .val (.long pl1), .second, .unset, .unset] [])) _
    refine XS.lloadN X0.here hx rfl (hb hby d14_0) rfl ?_
    show Steps p.tables e below (s₁.setTop (mkF m 1 #[.val (.ref pr0), .val (.long pl1), .second, .unset, .unset] [(.long pl1)])) _
    refine XS.aloadN X0.here hx rfl (hb hby d14_1) rfl rfl ?_
    show Steps p.tables e below (s₁.setTop (mkF m 2 #[.val (.ref pr0), .val (.long pl1), .second, .unset, .unset] [(.ref pr0), (.long pl1)])) _
    refine st1 _ ?_
    show Steps p.tables e below (T1.setTop (mkF m 5 #[.val (.ref pr0), .val (.long pl1), .second, .unset, .unset] [(.int w_size_pr0), (.long pl1)])) _
    refine XS.i2l X1.here hx rfl (hb hby d14_5) rfl ?_
    show Steps p.tables e below (T1.setTop (mkF m 6 #[.val (.ref pr0), .val (.long pl1), .second, .unset, .unset] [(.long (w_size_pr0.toInt64)), (.long pl1)])) _
    refine XS.ldiv X1.here hx rfl (hb hby d14_6) rfl hq6_0 ?_
    show Steps p.tables e below (T1.setTop (mkF m 7 #[.val (.ref pr0), .val (.long pl1), .second, .unset, .unset] [(.long (pl1 / (w_size_pr0.toInt64)))])) _
    refine XS.lstoreN X1.here hx rfl (hb hby d14_7) rfl (l' := #[.val (.ref pr0), .val (.long pl1), .second, .val (.long (pl1 / (w_size_pr0.toInt64))), .second]) rfl ?_
    show Steps p.tables e below (T1.setTop (mkF m 8 #[.val (.ref pr0), .val (.long pl1), .second, .val (.long (pl1 / (w_size_pr0.toInt64))), .second] [])) _
    refine XS.lloadN X1.here hx rfl (hb hby d14_8) rfl ?_
    show Steps p.tables e below (T1.setTop (mkF m 9 #[.val (.ref pr0), .val (.long pl1), .second, .val (.long (pl1 / (w_size_pr0.toInt64))), .second] [(.long pl1)])) _
    refine XS.aloadN X1.here hx rfl (hb hby d14_9) rfl rfl ?_
    show Steps p.tables e below (T1.setTop (mkF m 10 #[.val (.ref pr0), .val (.long pl1), .second, .val (.long (pl1 / (w_size_pr0.toInt64))), .second] [(.ref pr0), (.long pl1)])) _
    refine st2 _ ?_
    show Steps p.tables e below (T2.setTop (mkF m 13 #[.val (.ref pr0), .val (.long pl1), .second, .val (.long (pl1 / (w_size_pr0.toInt64))), .second] [(.int w_size_pr0), (.long pl1)])) _
    refine XS.i2l X2.here hx rfl (hb hby d14_13) rfl ?_
    show Steps p.tables e below (T2.setTop (mkF m 14 #[.val (.ref pr0), .val (.long pl1), .second, .val (.long (pl1 / (w_size_pr0.toInt64))), .second] [(.long (w_size_pr0.toInt64)), (.long pl1)])) _
    refine XS.lrem X2.here hx rfl (hb hby d14_14) rfl hq6_0 ?_
    show Steps p.tables e below (T2.setTop (mkF m 15 #[.val (.ref pr0), .val (.long pl1), .second, .val (.long (pl1 / (w_size_pr0.toInt64))), .second] [(.long (pl1 - (pl1 / (w_size_pr0.toInt64)) * (w_size_pr0.toInt64)))])) _
    refine XS.lconst X2.here hx rfl (hb hby d14_15) ?_
    show Steps p.tables e below (T2.setTop (mkF m 16 #[.val (.ref pr0), .val (.long pl1), .second, .val (.long (pl1 / (w_size_pr0.toInt64))), .second] [(.long (0 : Int64)), (.long (pl1 - (pl1 / (w_size_pr0.toInt64)) * (w_size_pr0.toInt64)))])) _
    refine XS.lcmp X2.here hx rfl (hb hby d14_16) rfl ?_
    show Steps p.tables e below (T2.setTop (mkF m 17 #[.val (.ref pr0), .val (.long pl1), .second, .val (.long (pl1 / (w_size_pr0.toInt64))), .second] [(.int (lcmpW (pl1 - (pl1 / (w_size_pr0.toInt64)) * (w_size_pr0.toInt64)) (0 : Int64)))])) _
    refine XS.ifYes X2.here hx rfl (pc0 := 17) (pc' := 24) rfl (hb hby d14_17) rfl ((if0 _ _).trans (feq hc17_1).2) (by decide) (by decide) ?_
    show Steps p.tables e below (T2.setTop (mkF m 24 #[.val (.ref pr0), .val (.long pl1), .second, .val (.long (pl1 / (w_size_pr0.toInt64))), .second] [])) _
    refine XS.lloadN X2.here hx rfl (hb hby d14_24) rfl ?_
    show Steps p.tables e below (T2.setTop (mkF m 25 #[.val (.ref pr0), .val (.long pl1), .second, .val (.long (pl1 / (w_size_pr0.toInt64))), .second] [(.long (pl1 / (w_size_pr0.toInt64)))])) _
    refine XS.lconst X2.here hx rfl (hb hby d14_25) ?_
    show Steps p.tables e below (T2.setTop (mkF m 26 #[.val (.ref pr0), .val (.long pl1), .second, .val (.long (pl1 / (w_size_pr0.toInt64))), .second] [(.long (1 : Int64)), (.long (pl1 / (w_size_pr0.toInt64)))])) _
    refine XS.ladd X2.here hx rfl (hb hby d14_26) rfl ?_
    show Steps p.tables e below (T2.setTop (mkF m 27 #[.val (.ref pr0), .val (.long pl1), .second, .val (.long (pl1 / (w_size_pr0.toInt64))), .second] [(.long ((pl1 / (w_size_pr0.toInt64)) + (1 : Int64)))])) _
    jvm_step X2.here [X2.here.top, hx, (hb hby d14_27), X2.method', Bd.returns, narrow]
    first | (intro acts; rw [hr _ acts rfl rfl rfl]) | rw [hr _ _ rfl rfl rfl]
    exact Steps.refl _
  · show Q14_f Z pr0 pl1 w_size_pr0 h0 n0 _ T2.heap _
    rw [e2]
    exact ⟨rfl, N0, rfl⟩
def own_pages (pl1 : Int64) (w_size_pr0 : Int32) : Int64 := (if (lcmpW (pl1 - (pl1 / (w_size_pr0.toInt64)) * (w_size_pr0.toInt64)) (0 : Int64)) = (0 : Int32) then (pl1 / (w_size_pr0.toInt64)) else ((pl1 / (w_size_pr0.toInt64)) + (1 : Int64)))
def Q14m (Z : State) (pr0 : Addr) (pl1 : Int64) (w_size_pr0 : Int32) (h0 : Heap) (n0 : Nat) (v : Option Value) (h : Heap) (L : List Loc) : Prop := v = some (.long (own_pages pl1 w_size_pr0)) ∧ Fr n0 L ∧ h = h0
set_option maxRecDepth 65536 in
theorem rm14m (l : Launch) (Z : State) (a0 : Array Value) (hw : ∀ d ∈ tables_1, d.before a0 Z = true) (ws : List Jvm.Cond) (pr0 : Addr) (pl1 : Int64) (w_size_pr0 : Int32) (h0 : Heap) (n0 : Nat) (Z0 : n0 ≤ h0.size) (O0 : Old Z n0 h0) (F_size_pr0 : Fld Z h0 pr0 "com/example/leafcount/leafcount/PageRequest" "size" "I" (.int w_size_pr0)) (hq6_0 : ¬ ((w_size_pr0.toInt64) = (0 : Int64))) :
    MetFree l (⟨"com/example/leafcount/leafcount/PageRequest", "pages", "(J)J"⟩ : MethodName) (head1 (Jvm.Cond.code (⟨"com/example/leafcount/leafcount/PageRequest", "pages", "(J)J"⟩ : MethodName) prog_22_method_13_code 5 (some .long) :: ws) ({ frames := 0, cells := 0, slots := 0, locals := 0 } : Room)) (fun a U => a = #[(.ref pr0), (.long pl1)] ∧ Z.Warmed39 U.vm ∧ U.heap = h0) (fun _ _ _ _ _ => True) (fun _ U o U' => ∃ v L, o = .returned v ∧ Q14m Z pr0 pl1 w_size_pr0 h0 n0 v U'.heap L ∧ FrameEnd U o U' L ({ frames := 0, cells := 0, slots := 0, locals := 0 } : Room).cells ({ frames := 0, cells := 0, slots := 0, locals := 0 } : Room).slots) := by
  by_cases H1 : (lcmpW (pl1 - (pl1 / (w_size_pr0.toInt64)) * (w_size_pr0.toInt64)) (0 : Int64)) = (0 : Int32)
  · have e : (own_pages pl1 w_size_pr0) = (pl1 / (w_size_pr0.toInt64)) := by unfold own_pages; rw [if_pos H1]
    show MetFree l (⟨"com/example/leafcount/leafcount/PageRequest", "pages", "(J)J"⟩ : MethodName) (head1 (Jvm.Cond.code (⟨"com/example/leafcount/leafcount/PageRequest", "pages", "(J)J"⟩ : MethodName) prog_22_method_13_code 5 (some .long) :: ws) ({ frames := 0, cells := 0, slots := 0, locals := 0 } : Room)) (fun a U => a = #[(.ref pr0), (.long pl1)] ∧ Z.Warmed39 U.vm ∧ U.heap = h0) (fun _ _ _ _ _ => True) (fun _ U o U' => ∃ v L, o = .returned v ∧ (v = some (.long (own_pages pl1 w_size_pr0)) ∧ Fr n0 L ∧ U'.heap = h0) ∧ FrameEnd U o U' L ({ frames := 0, cells := 0, slots := 0, locals := 0 } : Room).cells ({ frames := 0, cells := 0, slots := 0, locals := 0 } : Room).slots)
    rw [e]
    exact rm14_t l Z a0 hw ws pr0 pl1 w_size_pr0 h0 n0 Z0 O0 F_size_pr0 hq6_0 H1
  · have e : (own_pages pl1 w_size_pr0) = ((pl1 / (w_size_pr0.toInt64)) + (1 : Int64)) := by unfold own_pages; rw [if_neg H1]
    show MetFree l (⟨"com/example/leafcount/leafcount/PageRequest", "pages", "(J)J"⟩ : MethodName) (head1 (Jvm.Cond.code (⟨"com/example/leafcount/leafcount/PageRequest", "pages", "(J)J"⟩ : MethodName) prog_22_method_13_code 5 (some .long) :: ws) ({ frames := 0, cells := 0, slots := 0, locals := 0 } : Room)) (fun a U => a = #[(.ref pr0), (.long pl1)] ∧ Z.Warmed39 U.vm ∧ U.heap = h0) (fun _ _ _ _ _ => True) (fun _ U o U' => ∃ v L, o = .returned v ∧ (v = some (.long (own_pages pl1 w_size_pr0)) ∧ Fr n0 L ∧ U'.heap = h0) ∧ FrameEnd U o U' L ({ frames := 0, cells := 0, slots := 0, locals := 0 } : Room).cells ({ frames := 0, cells := 0, slots := 0, locals := 0 } : Room).slots)
    rw [e]
    exact rm14_f l Z a0 hw ws pr0 pl1 w_size_pr0 h0 n0 Z0 O0 F_size_pr0 hq6_0 H1
theorem d15_0 : decode jdk_29_method_66_code 0 = .ok (.lload_n 0, 1) := by decide +kernel
theorem d15_1 : decode jdk_29_method_66_code 1 = .ok (.lload_n 2, 1) := by decide +kernel
theorem d15_2 : decode jdk_29_method_66_code 2 = .ok (.lcmp, 1) := by decide +kernel
theorem d15_3 : decode jdk_29_method_66_code 3 = .ok (.ifCond .lt 7, 3) := by decide +kernel
theorem d15_10 : decode jdk_29_method_66_code 10 = .ok (.lload_n 2, 1) := by decide +kernel
theorem d15_11 : decode jdk_29_method_66_code 11 = .ok (.lreturn, 1) := by decide +kernel
theorem ef_15 (m : MethodId) (pl1 : Int64) (pl2 : Int64) : entryFrame m #[(.long pl1), (.long pl2)] 4 = mkF m 0 #[.val (.long pl1), .second, .val (.long pl2), .second] [] := by first | (simp [entryFrame, mkF, argsToLocals, Value.category]; done) | rfl
def Q15_t (Z : State) (pl1 : Int64) (pl2 : Int64) (h0 : Heap) (n0 : Nat) (v : Option Value) (h : Heap) (L : List Loc) : Prop := v = some (.long pl2) ∧ Fr n0 L ∧ h = h0
set_option maxRecDepth 65536 in
set_option maxHeartbeats 40000000 in
theorem rm15_t (l : Launch) (Z : State) (a0 : Array Value) (hw : ∀ d ∈ tables_1, d.before a0 Z = true) (ws : List Jvm.Cond) (pl1 : Int64) (pl2 : Int64) (h0 : Heap) (n0 : Nat) (Z0 : n0 ≤ h0.size) (O0 : Old Z n0 h0) (hc3_0 : (lcmpW pl1 pl2) < (0 : Int32)) :
    MetFree l (⟨"java/lang/Math", "max", "(JJ)J"⟩ : MethodName) (head1 (Jvm.Cond.code (⟨"java/lang/Math", "max", "(JJ)J"⟩ : MethodName) jdk_29_method_66_code 4 (some .long) :: ws) ({ frames := 0, cells := 0, slots := 0, locals := 0 } : Room)) (fun a U => a = #[(.long pl1), (.long pl2)] ∧ Z.Warmed39 U.vm ∧ U.heap = h0) (fun _ _ _ _ _ => True) (fun _ U o U' => ∃ v L, o = .returned v ∧ Q15_t Z pl1 pl2 h0 n0 v U'.heap L ∧ FrameEnd U o U' L ({ frames := 0, cells := 0, slots := 0, locals := 0 } : Room).cells ({ frames := 0, cells := 0, slots := 0, locals := 0 } : Room).slots) := by
  refine MetFree.of_bodySF (Jvm.Free.JP.mathPlain rfl (by decide +kernel)) hisR ?_
  intro p e s m args below meth c s₁ Bd hml0 hP hK
  obtain ⟨rfl, hZ, hh⟩ := hP
  have hx := Bd.exec
  have hby := Bd.bytes
  have hml : c.maxLocals = 4 := hml0
  have hown : s.vm.findClass "java/lang/Math" = some m.cls := findClass_of_methodNamed Bd.named
  have hnm := (name_of_methodNamed Bd.named Bd.method).1
  have X0 : Stand p l e ({ frames := 0, cells := 0, slots := 0, locals := 0 } : Room) s m #[(.long pl1), (.long pl2)] below meth c s₁ [] 0 0 := Stand.of_body Bd
  have e0 : s₁.heap = h0 := by rw [← hh, Bd.state]; rfl
  have N0 := Fr.nil n0
  have pre0 : ∀ t, Steps p.tables e below (s₁.setTop (mkF m 0 #[.val (.long pl1), .second, .val (.long pl2), .second] [])) t → Steps p.tables e below (s₁.setTop (entryFrame m #[(.long pl1), (.long pl2)] 4)) t := fun t k => castTop (ef_15 m pl1 pl2) k
  obtain ⟨fs, hr, hrun, hended, hW, hsame⟩ := X0.leave (v := some (.long pl2)) (fun h => by rw [Bd.returns] at h; cases h)
  refine ⟨_, _, pre0 _ ?_, hrun, hended, _, _, rfl, ?_, ⟨_, rfl⟩, hW, hsame.mono (by decide) (by decide)⟩
  · show Steps p.tables e below (s₁.setTop (mkF m 0 #[.val (.long pl1), .second, .val (.long pl2), .second] [])) _
    refine XS.lloadN X0.here hx rfl (hb hby d15_0) rfl ?_
    show Steps p.tables e below (s₁.setTop (mkF m 1 #[.val (.long pl1), .second, .val (.long pl2), .second] [(.long pl1)])) _
    refine XS.lloadN X0.here hx rfl (hb hby d15_1) rfl ?_
    show Steps p.tables e below (s₁.setTop (mkF m 2 #[.val (.long pl1), .second, .val (.long pl2), .second] [(.long pl2), (.long pl1)])) _
    refine XS.lcmp X0.here hx rfl (hb hby d15_2) rfl ?_
    show Steps p.tables e below (s₁.setTop (mkF m 3 #[.val (.long pl1), .second, .val (.long pl2), .second] [(.int (lcmpW pl1 pl2))])) _
    refine XS.ifYes X0.here hx rfl (pc0 := 3) (pc' := 10) rfl (hb hby d15_3) rfl ((if0 _ _).trans (tlt hc3_0).1) (by decide) (by decide) ?_
    show Steps p.tables e below (s₁.setTop (mkF m 10 #[.val (.long pl1), .second, .val (.long pl2), .second] [])) _
    refine XS.lloadN X0.here hx rfl (hb hby d15_10) rfl ?_
    show Steps p.tables e below (s₁.setTop (mkF m 11 #[.val (.long pl1), .second, .val (.long pl2), .second] [(.long pl2)])) _
    jvm_step X0.here [X0.here.top, hx, (hb hby d15_11), X0.method', Bd.returns, narrow]
    first | (intro acts; rw [hr _ acts rfl rfl rfl]) | rw [hr _ _ rfl rfl rfl]
    exact Steps.refl _
  · show Q15_t Z pl1 pl2 h0 n0 _ s₁.heap _
    rw [e0]
    exact ⟨rfl, N0, rfl⟩
theorem d15_6 : decode jdk_29_method_66_code 6 = .ok (.lload_n 0, 1) := by decide +kernel
theorem d15_7 : decode jdk_29_method_66_code 7 = .ok (.goto 4, 3) := by decide +kernel
def Q15_f (Z : State) (pl1 : Int64) (pl2 : Int64) (h0 : Heap) (n0 : Nat) (v : Option Value) (h : Heap) (L : List Loc) : Prop := v = some (.long pl1) ∧ Fr n0 L ∧ h = h0
set_option maxRecDepth 65536 in
set_option maxHeartbeats 40000000 in
theorem rm15_f (l : Launch) (Z : State) (a0 : Array Value) (hw : ∀ d ∈ tables_1, d.before a0 Z = true) (ws : List Jvm.Cond) (pl1 : Int64) (pl2 : Int64) (h0 : Heap) (n0 : Nat) (Z0 : n0 ≤ h0.size) (O0 : Old Z n0 h0) (hc3_0 : ¬ ((lcmpW pl1 pl2) < (0 : Int32))) :
    MetFree l (⟨"java/lang/Math", "max", "(JJ)J"⟩ : MethodName) (head1 (Jvm.Cond.code (⟨"java/lang/Math", "max", "(JJ)J"⟩ : MethodName) jdk_29_method_66_code 4 (some .long) :: ws) ({ frames := 0, cells := 0, slots := 0, locals := 0 } : Room)) (fun a U => a = #[(.long pl1), (.long pl2)] ∧ Z.Warmed39 U.vm ∧ U.heap = h0) (fun _ _ _ _ _ => True) (fun _ U o U' => ∃ v L, o = .returned v ∧ Q15_f Z pl1 pl2 h0 n0 v U'.heap L ∧ FrameEnd U o U' L ({ frames := 0, cells := 0, slots := 0, locals := 0 } : Room).cells ({ frames := 0, cells := 0, slots := 0, locals := 0 } : Room).slots) := by
  refine MetFree.of_bodySF (Jvm.Free.JP.mathPlain rfl (by decide +kernel)) hisR ?_
  intro p e s m args below meth c s₁ Bd hml0 hP hK
  obtain ⟨rfl, hZ, hh⟩ := hP
  have hx := Bd.exec
  have hby := Bd.bytes
  have hml : c.maxLocals = 4 := hml0
  have hown : s.vm.findClass "java/lang/Math" = some m.cls := findClass_of_methodNamed Bd.named
  have hnm := (name_of_methodNamed Bd.named Bd.method).1
  have X0 : Stand p l e ({ frames := 0, cells := 0, slots := 0, locals := 0 } : Room) s m #[(.long pl1), (.long pl2)] below meth c s₁ [] 0 0 := Stand.of_body Bd
  have e0 : s₁.heap = h0 := by rw [← hh, Bd.state]; rfl
  have N0 := Fr.nil n0
  have pre0 : ∀ t, Steps p.tables e below (s₁.setTop (mkF m 0 #[.val (.long pl1), .second, .val (.long pl2), .second] [])) t → Steps p.tables e below (s₁.setTop (entryFrame m #[(.long pl1), (.long pl2)] 4)) t := fun t k => castTop (ef_15 m pl1 pl2) k
  obtain ⟨fs, hr, hrun, hended, hW, hsame⟩ := X0.leave (v := some (.long pl1)) (fun h => by rw [Bd.returns] at h; cases h)
  refine ⟨_, _, pre0 _ ?_, hrun, hended, _, _, rfl, ?_, ⟨_, rfl⟩, hW, hsame.mono (by decide) (by decide)⟩
  · show Steps p.tables e below (s₁.setTop (mkF m 0 #[.val (.long pl1), .second, .val (.long pl2), .second] [])) _
    refine XS.lloadN X0.here hx rfl (hb hby d15_0) rfl ?_
    show Steps p.tables e below (s₁.setTop (mkF m 1 #[.val (.long pl1), .second, .val (.long pl2), .second] [(.long pl1)])) _
    refine XS.lloadN X0.here hx rfl (hb hby d15_1) rfl ?_
    show Steps p.tables e below (s₁.setTop (mkF m 2 #[.val (.long pl1), .second, .val (.long pl2), .second] [(.long pl2), (.long pl1)])) _
    refine XS.lcmp X0.here hx rfl (hb hby d15_2) rfl ?_
    show Steps p.tables e below (s₁.setTop (mkF m 3 #[.val (.long pl1), .second, .val (.long pl2), .second] [(.int (lcmpW pl1 pl2))])) _
    refine XS.ifNo X0.here hx rfl (hb hby d15_3) rfl ((if0 _ _).trans (flt hc3_0).1) ?_
    show Steps p.tables e below (s₁.setTop (mkF m 6 #[.val (.long pl1), .second, .val (.long pl2), .second] [])) _
    refine XS.lloadN X0.here hx rfl (hb hby d15_6) rfl ?_
    show Steps p.tables e below (s₁.setTop (mkF m 7 #[.val (.long pl1), .second, .val (.long pl2), .second] [(.long pl1)])) _
    refine XS.goto X0.here hx rfl (pc0 := 7) (pc' := 11) rfl (hb hby d15_7) (by decide) (by decide) ?_
    show Steps p.tables e below (s₁.setTop (mkF m 11 #[.val (.long pl1), .second, .val (.long pl2), .second] [(.long pl1)])) _
    jvm_step X0.here [X0.here.top, hx, (hb hby d15_11), X0.method', Bd.returns, narrow]
    first | (intro acts; rw [hr _ acts rfl rfl rfl]) | rw [hr _ _ rfl rfl rfl]
    exact Steps.refl _
  · show Q15_f Z pl1 pl2 h0 n0 _ s₁.heap _
    rw [e0]
    exact ⟨rfl, N0, rfl⟩
def own_max (pl1 : Int64) (pl2 : Int64) : Int64 := (if (lcmpW pl1 pl2) < (0 : Int32) then pl2 else pl1)
def Q15m (Z : State) (pl1 : Int64) (pl2 : Int64) (h0 : Heap) (n0 : Nat) (v : Option Value) (h : Heap) (L : List Loc) : Prop := v = some (.long (own_max pl1 pl2)) ∧ Fr n0 L ∧ h = h0
set_option maxRecDepth 65536 in
theorem rm15m (l : Launch) (Z : State) (a0 : Array Value) (hw : ∀ d ∈ tables_1, d.before a0 Z = true) (ws : List Jvm.Cond) (pl1 : Int64) (pl2 : Int64) (h0 : Heap) (n0 : Nat) (Z0 : n0 ≤ h0.size) (O0 : Old Z n0 h0) :
    MetFree l (⟨"java/lang/Math", "max", "(JJ)J"⟩ : MethodName) (head1 (Jvm.Cond.code (⟨"java/lang/Math", "max", "(JJ)J"⟩ : MethodName) jdk_29_method_66_code 4 (some .long) :: ws) ({ frames := 0, cells := 0, slots := 0, locals := 0 } : Room)) (fun a U => a = #[(.long pl1), (.long pl2)] ∧ Z.Warmed39 U.vm ∧ U.heap = h0) (fun _ _ _ _ _ => True) (fun _ U o U' => ∃ v L, o = .returned v ∧ Q15m Z pl1 pl2 h0 n0 v U'.heap L ∧ FrameEnd U o U' L ({ frames := 0, cells := 0, slots := 0, locals := 0 } : Room).cells ({ frames := 0, cells := 0, slots := 0, locals := 0 } : Room).slots) := by
  by_cases H1 : (lcmpW pl1 pl2) < (0 : Int32)
  · have e : (own_max pl1 pl2) = pl2 := by unfold own_max; rw [if_pos H1]
    show MetFree l (⟨"java/lang/Math", "max", "(JJ)J"⟩ : MethodName) (head1 (Jvm.Cond.code (⟨"java/lang/Math", "max", "(JJ)J"⟩ : MethodName) jdk_29_method_66_code 4 (some .long) :: ws) ({ frames := 0, cells := 0, slots := 0, locals := 0 } : Room)) (fun a U => a = #[(.long pl1), (.long pl2)] ∧ Z.Warmed39 U.vm ∧ U.heap = h0) (fun _ _ _ _ _ => True) (fun _ U o U' => ∃ v L, o = .returned v ∧ (v = some (.long (own_max pl1 pl2)) ∧ Fr n0 L ∧ U'.heap = h0) ∧ FrameEnd U o U' L ({ frames := 0, cells := 0, slots := 0, locals := 0 } : Room).cells ({ frames := 0, cells := 0, slots := 0, locals := 0 } : Room).slots)
    rw [e]
    exact rm15_t l Z a0 hw ws pl1 pl2 h0 n0 Z0 O0  H1
  · have e : (own_max pl1 pl2) = pl1 := by unfold own_max; rw [if_neg H1]
    show MetFree l (⟨"java/lang/Math", "max", "(JJ)J"⟩ : MethodName) (head1 (Jvm.Cond.code (⟨"java/lang/Math", "max", "(JJ)J"⟩ : MethodName) jdk_29_method_66_code 4 (some .long) :: ws) ({ frames := 0, cells := 0, slots := 0, locals := 0 } : Room)) (fun a U => a = #[(.long pl1), (.long pl2)] ∧ Z.Warmed39 U.vm ∧ U.heap = h0) (fun _ _ _ _ _ => True) (fun _ U o U' => ∃ v L, o = .returned v ∧ (v = some (.long (own_max pl1 pl2)) ∧ Fr n0 L ∧ U'.heap = h0) ∧ FrameEnd U o U' L ({ frames := 0, cells := 0, slots := 0, locals := 0 } : Room).cells ({ frames := 0, cells := 0, slots := 0, locals := 0 } : Room).slots)
    rw [e]
    exact rm15_f l Z a0 hw ws pl1 pl2 h0 n0 Z0 O0  H1
theorem pd_10 : parseMethodDescriptor "(J)V" = some ⟨[.long], none⟩ := by decide +kernel
theorem pd_11 : parseMethodDescriptor "(J)J" = some ⟨[.long], some .long⟩ := by decide +kernel
theorem pd_12 : parseMethodDescriptor "(JJ)J" = some ⟨[.long, .long], some .long⟩ := by decide +kernel
theorem d12_0 : decode prog_22_method_12_code 0 = .ok (.lload_n 1, 1) := by decide +kernel
theorem d12_1 : decode prog_22_method_12_code 1 = .ok (.invokestatic 59, 3) := by decide +kernel
theorem d12_4 : decode prog_22_method_12_code 4 = .ok (.lconst 1, 1) := by decide +kernel
theorem d12_5 : decode prog_22_method_12_code 5 = .ok (.aload_n 0, 1) := by decide +kernel
theorem d12_6 : decode prog_22_method_12_code 6 = .ok (.lload_n 1, 1) := by decide +kernel
theorem d12_7 : decode prog_22_method_12_code 7 = .ok (.invokevirtual 63, 3) := by decide +kernel
theorem d12_10 : decode prog_22_method_12_code 10 = .ok (.invokestatic 67, 3) := by decide +kernel
theorem d12_13 : decode prog_22_method_12_code 13 = .ok (.lstore_n 3, 1) := by decide +kernel
theorem d12_14 : decode prog_22_method_12_code 14 = .ok (.aload_n 0, 1) := by decide +kernel
theorem d12_15 : decode prog_22_method_12_code 15 = .ok (.getfield 19, 3) := by decide +kernel
theorem d12_18 : decode prog_22_method_12_code 18 = .ok (.ifCond .eq 13, 3) := by decide +kernel
theorem d12_31 : decode prog_22_method_12_code 31 = .ok (.aload_n 0, 1) := by decide +kernel
theorem d12_32 : decode prog_22_method_12_code 32 = .ok (.areturn, 1) := by decide +kernel
theorem pn_12 : plainName "com/example/leafcount/leafcount/PageRequest" = true := by first | (simp [plainName, overriddenIn]; done) | decide +kernel
theorem ef_12 (m : MethodId) (pr0 : Addr) (pl1 : Int64) : entryFrame m #[(.ref pr0), (.long pl1)] 5 = mkF m 0 #[.val (.ref pr0), .val (.long pl1), .second, .unset, .unset] [] := by first | (simp [entryFrame, mkF, argsToLocals, Value.category]; done) | rfl
def Q12 (Z : State) (pr0 : Addr) (pl1 : Int64) (w_size_pr0 : Int32) (w_clamps_pr0 : Int32) (h0 : Heap) (n0 : Nat) (v : Option Value) (h : Heap) (L : List Loc) : Prop := v = some (.ref pr0) ∧ Fr n0 L ∧ h = h0
set_option maxRecDepth 65536 in
set_option maxHeartbeats 40000000 in
theorem rm12 (l : Launch) (Z : State) (a0 : Array Value) (hw : ∀ d ∈ tables_1, d.before a0 Z = true) (ws : List Jvm.Cond) (pr0 : Addr) (pl1 : Int64) (w_size_pr0 : Int32) (w_clamps_pr0 : Int32) (h0 : Heap) (n0 : Nat) (Z0 : n0 ≤ h0.size) (O0 : Old Z n0 h0) (F_size_pr0 : Fld Z h0 pr0 "com/example/leafcount/leafcount/PageRequest" "size" "I" (.int w_size_pr0)) (E_pr0 : Exa Z h0 pr0 "com/example/leafcount/leafcount/PageRequest") (F_clamps_pr0 : Fld Z h0 pr0 "com/example/leafcount/leafcount/PageRequest" "clamps" "Z" (.int w_clamps_pr0)) (hq1_0 : ¬ ((lcmpW pl1 (0 : Int64)) < (0 : Int32))) (hq7_1 : ¬ ((w_size_pr0.toInt64) = (0 : Int64))) (hc18_2 : w_clamps_pr0 = (0 : Int32)) :
    MetFree l (⟨"com/example/leafcount/leafcount/PageRequest", "within", "(J)Lcom/example/leafcount/leafcount/PageRequest;"⟩ : MethodName) (head1 (Jvm.Cond.code (⟨"com/example/leafcount/leafcount/PageRequest", "within", "(J)Lcom/example/leafcount/leafcount/PageRequest;"⟩ : MethodName) prog_22_method_12_code 5 (some (.object "com/example/leafcount/leafcount/PageRequest")) :: ws) ({ frames := 1, cells := 0, slots := 0, locals := 18 } : Room)) (fun a U => a = #[(.ref pr0), (.long pl1)] ∧ Z.Warmed39 U.vm ∧ U.heap = h0) (fun _ _ _ _ _ => True) (fun _ U o U' => ∃ v L, o = .returned v ∧ Q12 Z pr0 pl1 w_size_pr0 w_clamps_pr0 h0 n0 v U'.heap L ∧ FrameEnd U o U' L ({ frames := 1, cells := 0, slots := 0, locals := 18 } : Room).cells ({ frames := 1, cells := 0, slots := 0, locals := 18 } : Room).slots) := by
  refine MetFree.of_bodySF (plainFor_of_name pn_12) hisR ?_
  intro p e s m args below meth c s₁ Bd hml0 hP hK
  obtain ⟨rfl, hZ, hh⟩ := hP
  have hx := Bd.exec
  have hby := Bd.bytes
  have hml : c.maxLocals = 5 := hml0
  have hown : s.vm.findClass "com/example/leafcount/leafcount/PageRequest" = some m.cls := findClass_of_methodNamed Bd.named
  have hnm := (name_of_methodNamed Bd.named Bd.method).1
  have X0 : Stand p l e ({ frames := 1, cells := 0, slots := 0, locals := 18 } : Room) s m #[(.ref pr0), (.long pl1)] below meth c s₁ [] 0 0 := Stand.of_body Bd
  have e0 : s₁.heap = h0 := by rw [← hh, Bd.state]; rfl
  have N0 := Fr.nil n0
  have pre0 : ∀ t, Steps p.tables e below (s₁.setTop (mkF m 0 #[.val (.ref pr0), .val (.long pl1), .second, .unset, .unset] [])) t → Steps p.tables e below (s₁.setTop (entryFrame m #[(.ref pr0), (.long pl1)] 5)) t := fun t k => castTop (ef_12 m pr0 pl1) k
  obtain ⟨_, _, ⟨T1, L1, k1, n1⟩, -, X1, ⟨Lc1, hQ1, l1, y1, z1⟩, st1⟩ := Jvm.LawKit.callS X0 hx (y := (⟨"com/example/leafcount/leafcount/PageRequest", "checkTotal", "(J)V"⟩ : MethodName)) hown (mvT hZ (hw _ (List.mem_of_getElem? (i := 66) rfl))) (mvT hZ (hw _ (List.mem_of_getElem? (i := 67) rfl))) (mvT hZ (hw _ (List.mem_of_getElem? (i := 8) rfl))) (mvT hZ (hw _ (List.mem_of_getElem? (i := 68) rfl))) (by decide) (backOf (W := 0) (rm13 l Z a0 hw [] pl1 h0 n0 Z0 O0 hq1_0) hZ (hw _ (List.mem_of_getElem? (i := 68) rfl)) (hw _ (List.mem_of_getElem? (i := 8) rfl)) (by decide) (by decide)) (g := (mkF m 1 #[.val (.ref pr0), .val (.long pl1), .second, .unset, .unset] [(.long pl1)])) rfl (by rw [hml]; rfl) (argsL := [(.long pl1)]) (rest := []) (lenOf pd_10 rfl) rfl (by show 2 * 0 + _ ≤ _; exact Nat.le_of_eq rfl) (hb hby d12_1) (fun _ _ => ⟨rfl, e0, (by decide : 0 + 0 ≤ _), (by decide : 0 + 0 ≤ _)⟩)
  dsimp only [Pt.U, Pt.locs, Pt.cells, Pt.slots] at X1 l1 y1 z1 st1 hQ1
  subst l1 y1 z1
  obtain ⟨rfl, N1q, eq1⟩ := hQ1
  have N1 := Fr.app N0 N1q
  obtain ⟨cq2, kq2, q2a, q2b, q2c⟩ := isOf hZ eq1 E_pr0
  obtain ⟨_, _, ⟨T2, L2, k2, n2⟩, -, X2, ⟨Lc2, hQ2, l2, y2, z2⟩, st2⟩ := X1.virtualBack hx (y := (⟨"com/example/leafcount/leafcount/PageRequest", "pages", "(J)J"⟩ : MethodName)) (z := (⟨"com/example/leafcount/leafcount/PageRequest", "pages", "(J)J"⟩ : MethodName)) hown (mvT hZ (hw _ (List.mem_of_getElem? (i := 69) rfl))) (mvT hZ (hw _ (List.mem_of_getElem? (i := 70) rfl))) (notFace_of_selects (args := #[]) (mvT hZ (hw _ (List.mem_of_getElem? (i := 72) rfl)))) (mvT hZ (hw _ (List.mem_of_getElem? (i := 72) rfl))) (mvT hZ (hw _ (List.mem_of_getElem? (i := 71) rfl))) (by decide) (backOf (W := 2) (rm14m l Z a0 hw [] pr0 pl1 w_size_pr0 h0 n0 Z0 O0 F_size_pr0 hq7_1) hZ (hw _ (List.mem_of_getElem? (i := 73) rfl)) (hw _ (List.mem_of_getElem? (i := 8) rfl)) (by decide) (by decide)) q2a q2c (g := (mkF m 7 #[.val (.ref pr0), .val (.long pl1), .second, .unset, .unset] [(.long pl1), (.ref pr0), (.long (1 : Int64))])) rfl (by rw [hml]; rfl) (Steps.refl _) (argsL := [(.long pl1)]) (rest := [(.long (1 : Int64))]) (lenOf pd_11 rfl) rfl (by show 2 * 0 + _ ≤ _; exact Nat.le_of_eq rfl) (hb hby d12_7) (fun _ _ => ⟨rfl, eq1, (by decide : 0 + 0 ≤ _), (by decide : 0 + 0 ≤ _)⟩)
  dsimp only [Pt.U, Pt.locs, Pt.cells, Pt.slots] at X2 l2 y2 z2 st2 hQ2
  subst l2 y2 z2
  obtain ⟨rfl, N2q, eq2⟩ := hQ2
  have N2 := Fr.app N1 N2q
  obtain ⟨_, _, ⟨T3, L3, k3, n3⟩, -, X3, ⟨Lc3, hQ3, l3, y3, z3⟩, st3⟩ := Jvm.LawKit.callS X2 hx (y := (⟨"java/lang/Math", "max", "(JJ)J"⟩ : MethodName)) hown (mvT hZ (hw _ (List.mem_of_getElem? (i := 74) rfl))) (mvT hZ (hw _ (List.mem_of_getElem? (i := 75) rfl))) (mvT hZ (hw _ (List.mem_of_getElem? (i := 76) rfl))) (mvT hZ (hw _ (List.mem_of_getElem? (i := 77) rfl))) (by decide) (backOf (W := 0) (rm15m l Z a0 hw [] (1 : Int64) (own_pages pl1 w_size_pr0) h0 n0 Z0 O0 ) hZ (hw _ (List.mem_of_getElem? (i := 77) rfl)) (hw _ (List.mem_of_getElem? (i := 76) rfl)) (by decide) (by decide)) (g := (mkF m 10 #[.val (.ref pr0), .val (.long pl1), .second, .unset, .unset] [(.long (own_pages pl1 w_size_pr0)), (.long (1 : Int64))])) rfl (by rw [hml]; rfl) (argsL := [(.long (1 : Int64)), (.long (own_pages pl1 w_size_pr0))]) (rest := []) (lenOf pd_12 rfl) rfl (by show 2 * 0 + _ ≤ _; exact Nat.le_of_eq rfl) (hb hby d12_10) (fun _ _ => ⟨rfl, eq2, (by decide : 0 + 0 ≤ _), (by decide : 0 + 0 ≤ _)⟩)
  dsimp only [Pt.U, Pt.locs, Pt.cells, Pt.slots] at X3 l3 y3 z3 st3 hQ3
  subst l3 y3 z3
  obtain ⟨rfl, N3q, eq3⟩ := hQ3
  have N3 := Fr.app N2 N3q
  obtain ⟨T4, X4, e4, st4⟩ := getF X3 hx hZ hown (host := "") (Or.inl (hw _ (List.mem_of_getElem? (i := 27) rfl))) Via.refl eq3 F_clamps_pr0 (g := (mkF m 15 #[.val (.ref pr0), .val (.long pl1), .second, .val (.long (own_max (1 : Int64) (own_pages pl1 w_size_pr0))), .second] [(.ref pr0)])) rfl rfl (hb hby d12_15)
  obtain ⟨fs, hr, hrun, hended, hW, hsame⟩ := X4.leave (v := some (.ref pr0)) (fun h => by rw [Bd.returns] at h; cases h)
  refine ⟨_, _, pre0 _ ?_, hrun, hended, _, _, rfl, ?_, ⟨_, rfl⟩, hW, hsame.mono (by decide) (by decide)⟩
  · show Steps p.tables e below (s₁.setTop (mkF m 0 #[.val (.ref pr0), .val (.long pl1), .second, .unset, .unset] [])) _
    refine XS.lloadN X0.here hx rfl (hb hby d12_0) rfl ?_
    show Steps p.tables e below (s₁.setTop (mkF m 1 #[.val (.ref pr0), .val (.long pl1), .second, .unset, .unset] [(.long pl1)])) _
    refine st1 _ ?_
    show Steps p.tables e below (T1.setTop (mkF m 4 #[.val (.ref pr0), .val (.long pl1), .second, .unset, .unset] [])) _
    refine XS.lconst X1.here hx rfl (hb hby d12_4) ?_
    show Steps p.tables e below (T1.setTop (mkF m 5 #[.val (.ref pr0), .val (.long pl1), .second, .unset, .unset] [(.long (1 : Int64))])) _
    refine XS.aloadN X1.here hx rfl (hb hby d12_5) rfl rfl ?_
    show Steps p.tables e below (T1.setTop (mkF m 6 #[.val (.ref pr0), .val (.long pl1), .second, .unset, .unset] [(.ref pr0), (.long (1 : Int64))])) _
    refine XS.lloadN X1.here hx rfl (hb hby d12_6) rfl ?_
    show Steps p.tables e below (T1.setTop (mkF m 7 #[.val (.ref pr0), .val (.long pl1), .second, .unset, .unset] [(.long pl1), (.ref pr0), (.long (1 : Int64))])) _
    refine st2.trans ?_
    show Steps p.tables e below (T2.setTop (mkF m 10 #[.val (.ref pr0), .val (.long pl1), .second, .unset, .unset] [(.long (own_pages pl1 w_size_pr0)), (.long (1 : Int64))])) _
    refine st3 _ ?_
    show Steps p.tables e below (T3.setTop (mkF m 13 #[.val (.ref pr0), .val (.long pl1), .second, .unset, .unset] [(.long (own_max (1 : Int64) (own_pages pl1 w_size_pr0)))])) _
    refine XS.lstoreN X3.here hx rfl (hb hby d12_13) rfl (l' := #[.val (.ref pr0), .val (.long pl1), .second, .val (.long (own_max (1 : Int64) (own_pages pl1 w_size_pr0))), .second]) rfl ?_
    show Steps p.tables e below (T3.setTop (mkF m 14 #[.val (.ref pr0), .val (.long pl1), .second, .val (.long (own_max (1 : Int64) (own_pages pl1 w_size_pr0))), .second] [])) _
    refine XS.aloadN X3.here hx rfl (hb hby d12_14) rfl rfl ?_
    show Steps p.tables e below (T3.setTop (mkF m 15 #[.val (.ref pr0), .val (.long pl1), .second, .val (.long (own_max (1 : Int64) (own_pages pl1 w_size_pr0))), .second] [(.ref pr0)])) _
    refine st4 _ ?_
    show Steps p.tables e below (T4.setTop (mkF m 18 #[.val (.ref pr0), .val (.long pl1), .second, .val (.long (own_max (1 : Int64) (own_pages pl1 w_size_pr0))), .second] [(.int w_clamps_pr0)])) _
    refine XS.ifYes X4.here hx rfl (pc0 := 18) (pc' := 31) rfl (hb hby d12_18) rfl ((if0 _ _).trans (teq hc18_2).1) (by decide) (by decide) ?_
    show Steps p.tables e below (T4.setTop (mkF m 31 #[.val (.ref pr0), .val (.long pl1), .second, .val (.long (own_max (1 : Int64) (own_pages pl1 w_size_pr0))), .second] [])) _
    refine XS.aloadN X4.here hx rfl (hb hby d12_31) rfl rfl ?_
    show Steps p.tables e below (T4.setTop (mkF m 32 #[.val (.ref pr0), .val (.long pl1), .second, .val (.long (own_max (1 : Int64) (own_pages pl1 w_size_pr0))), .second] [(.ref pr0)])) _
    jvm_step X4.here [X4.here.top, hx, (hb hby d12_32), X4.method', Bd.returns, Value.isRef, FieldType.isReference]
    first | (intro acts; rw [hr _ acts rfl rfl rfl]) | rw [hr _ _ rfl rfl rfl]
    exact Steps.refl _
  · show Q12 Z pr0 pl1 w_size_pr0 w_clamps_pr0 h0 n0 _ T4.heap _
    rw [e4]
    exact ⟨rfl, N3, rfl⟩
theorem pd_0 : parseMethodDescriptor "(I)I" = some ⟨[.int], some .int⟩ := by decide +kernel
theorem pd_1 : parseMethodDescriptor "(II)Lcom/example/leafcount/leafcount/PageRequest;" = some ⟨[.int, .int], some (.object "com/example/leafcount/leafcount/PageRequest")⟩ := by decide +kernel
theorem pd_5 : parseMethodDescriptor "()I" = some ⟨[], some .int⟩ := by decide +kernel
theorem pd_6 : parseMethodDescriptor "()Z" = some ⟨[], some .boolean⟩ := by decide +kernel
theorem pd_7 : parseMethodDescriptor "()Lcom/example/leafcount/leafcount/Sort;" = some ⟨[], some (.object "com/example/leafcount/leafcount/Sort")⟩ := by decide +kernel
theorem pd_8 : parseMethodDescriptor "()J" = some ⟨[], some .long⟩ := by decide +kernel
theorem pd_9 : parseMethodDescriptor "(J)Lcom/example/leafcount/leafcount/PageRequest;" = some ⟨[.long], some (.object "com/example/leafcount/leafcount/PageRequest")⟩ := by decide +kernel
theorem pn_0 : plainName "com/example/leafcount/leafcount/PageRequestOfPinLaw" = true := by first | (simp [plainName, overriddenIn]; done) | decide +kernel
theorem ef_0 (m : MethodId) (pi1 : Int32) (pi2 : Int32) (pl3 : Int64) : entryFrame m #[(.int pi1), (.int pi2), (.long pl3)] maxLocals = mkF m 0 #[.val (.int pi1), .val (.int pi2), .val (.long pl3), .second, .unset, .unset, .unset, .unset, .unset, .unset, .unset, .unset, .unset, .unset] [] := by first | (simp [entryFrame, mkF, argsToLocals, Value.category, maxLocals]; done) | rfl
def Q0 (v : Option Value) (L : List Loc) (n0 : Nat) : Prop := v = some (.int (1 : Int32)) ∧ Fr n0 L
set_option maxRecDepth 65536 in
set_option maxHeartbeats 40000000 in
theorem rm0_o (l : Launch) (Z : State) (a0 : Array Value) (hw : ∀ d ∈ tables_1, d.before a0 Z = true) (ws : List Jvm.Cond) (pi1 : Int32) (pi2 : Int32) (pl3 : Int64) (h0 : Heap) (n0 : Nat) (Z0 : n0 ≤ h0.size) (O0 : Old Z n0 h0) :
    MetFree l x (head1 (Jvm.Cond.code x code maxLocals ret :: ws) room_1) (fun a U => a = #[(.int pi1), (.int pi2), (.long pl3)] ∧ Z.Warmed39 U.vm ∧ U.heap = h0) (fun _ _ _ _ _ => True) (fun _ U o U' => ∃ v L, o = .returned v ∧ Q0 v L n0 ∧ FrameEnd U o U' L room_1.cells room_1.slots) := by
  refine MetFree.of_bodySF (plainFor_of_name pn_0) hisR ?_
  intro p e s m args below meth c s₁ Bd hml0 hP hK
  obtain ⟨rfl, hZ, hh⟩ := hP
  have hx := Bd.exec
  have hby := Bd.bytes
  have hml : c.maxLocals = 14 := hml0
  have hown : s.vm.findClass "com/example/leafcount/leafcount/PageRequestOfPinLaw" = some m.cls := findClass_of_methodNamed Bd.named
  have hnm := (name_of_methodNamed Bd.named Bd.method).1
  have X0 : Stand p l e room_1 s m #[(.int pi1), (.int pi2), (.long pl3)] below meth c s₁ [] 0 0 := Stand.of_body Bd
  have e0 : s₁.heap = h0 := by rw [← hh, Bd.state]; rfl
  have N0 := Fr.nil n0
  have pre0 : ∀ t, Steps p.tables e below (s₁.setTop (mkF m 0 #[.val (.int pi1), .val (.int pi2), .val (.long pl3), .second, .unset, .unset, .unset, .unset, .unset, .unset, .unset, .unset, .unset, .unset] [])) t → Steps p.tables e below (s₁.setTop (entryFrame m #[(.int pi1), (.int pi2), (.long pl3)] maxLocals)) t := fun t k => castTop (ef_0 m pi1 pi2 pl3) k
  obtain ⟨_, _, ⟨T1, L1, k1, n1⟩, -, X1, ⟨Lc1, hQ1, l1, y1, z1⟩, st1⟩ := Jvm.LawKit.callS X0 hx (y := (⟨"com/example/leafcount/leafcount/PageRequestOfPinLaw", "positive", "(I)I"⟩ : MethodName)) hown (mvT hZ (hw _ (List.mem_of_getElem? (i := 0) rfl))) (mvT hZ (hw _ (List.mem_of_getElem? (i := 1) rfl))) (mvT hZ (hw _ (List.mem_of_getElem? (i := 2) rfl))) (mvT hZ (hw _ (List.mem_of_getElem? (i := 3) rfl))) (by decide) (backOf (W := 0) (rm1m l Z a0 hw [] pi1 h0 n0 Z0 O0 ) hZ (hw _ (List.mem_of_getElem? (i := 3) rfl)) (hw _ (List.mem_of_getElem? (i := 2) rfl)) (by decide) (by decide)) (g := (mkF m 1 #[.val (.int pi1), .val (.int pi2), .val (.long pl3), .second, .unset, .unset, .unset, .unset, .unset, .unset, .unset, .unset, .unset, .unset] [(.int pi1)])) rfl (by rw [hml]; rfl) (argsL := [(.int pi1)]) (rest := []) (lenOf pd_0 rfl) rfl (by show 2 * 0 + _ ≤ _; exact Nat.le_of_eq rfl) (hb hby at_1) (fun _ _ => ⟨rfl, e0, (by decide : 0 + 0 ≤ _), (by decide : 0 + 0 ≤ _)⟩)
  dsimp only [Pt.U, Pt.locs, Pt.cells, Pt.slots] at X1 l1 y1 z1 st1 hQ1
  subst l1 y1 z1
  obtain ⟨rfl, N1q, eq1⟩ := hQ1
  have N1 := Fr.app N0 N1q
  obtain ⟨_, _, ⟨T2, L2, k2, n2⟩, -, X2, ⟨Lc2, hQ2, l2, y2, z2⟩, st2⟩ := Jvm.LawKit.callS X1 hx (y := (⟨"com/example/leafcount/leafcount/PageRequestOfPinLaw", "positive", "(I)I"⟩ : MethodName)) hown (mvT hZ (hw _ (List.mem_of_getElem? (i := 0) rfl))) (mvT hZ (hw _ (List.mem_of_getElem? (i := 1) rfl))) (mvT hZ (hw _ (List.mem_of_getElem? (i := 2) rfl))) (mvT hZ (hw _ (List.mem_of_getElem? (i := 3) rfl))) (by decide) (backOf (W := 0) (rm1m l Z a0 hw [] pi2 h0 n0 Z0 O0 ) hZ (hw _ (List.mem_of_getElem? (i := 3) rfl)) (hw _ (List.mem_of_getElem? (i := 2) rfl)) (by decide) (by decide)) (g := (mkF m 7 #[.val (.int pi1), .val (.int pi2), .val (.long pl3), .second, .val (.int (own_pos pi1)), .unset, .unset, .unset, .unset, .unset, .unset, .unset, .unset, .unset] [(.int pi2)])) rfl (by rw [hml]; rfl) (argsL := [(.int pi2)]) (rest := []) (lenOf pd_0 rfl) rfl (by show 2 * 0 + _ ≤ _; exact Nat.le_of_eq rfl) (hb hby at_7) (fun _ _ => ⟨rfl, eq1, (by decide : 0 + 0 ≤ _), (by decide : 0 + 0 ≤ _)⟩)
  dsimp only [Pt.U, Pt.locs, Pt.cells, Pt.slots] at X2 l2 y2 z2 st2 hQ2
  subst l2 y2 z2
  obtain ⟨rfl, N2q, eq2⟩ := hQ2
  have N2 := Fr.app N1 N2q
  obtain ⟨_, _, ⟨T3, L3, k3, n3⟩, -, X3, ⟨Lc3, hQ3, l3, y3, z3⟩, st3⟩ := Jvm.LawKit.callS X2 hx (y := (⟨"com/example/leafcount/leafcount/PageRequest", "of", "(II)Lcom/example/leafcount/leafcount/PageRequest;"⟩ : MethodName)) hown (mvT hZ (hw _ (List.mem_of_getElem? (i := 6) rfl))) (mvT hZ (hw _ (List.mem_of_getElem? (i := 7) rfl))) (mvT hZ (hw _ (List.mem_of_getElem? (i := 8) rfl))) (mvT hZ (hw _ (List.mem_of_getElem? (i := 9) rfl))) (by decide) (backOf (W := 0) (rm2 l Z a0 hw [] (own_pos pi1) (own_pos pi2) h0 n0 Z0 O0 (own_pos_ge _) (own_pos_ge _)) hZ (hw _ (List.mem_of_getElem? (i := 9) rfl)) (hw _ (List.mem_of_getElem? (i := 8) rfl)) (by decide) (by decide)) (g := (mkF m 23 #[.val (.int pi1), .val (.int pi2), .val (.long pl3), .second, .val (.int (own_pos pi1)), .val (.int (own_pos pi2)), .val (.long (pl3 &&& (9223372036854775807 : Int64))), .second, .unset, .unset, .unset, .unset, .unset, .unset] [(.int (own_pos pi2)), (.int (own_pos pi1))])) rfl (by rw [hml]; rfl) (argsL := [(.int (own_pos pi1)), (.int (own_pos pi2))]) (rest := []) (lenOf pd_1 rfl) rfl (by show 2 * 0 + _ ≤ _; exact Nat.le_of_eq rfl) (hb hby at_23) (fun _ _ => ⟨rfl, eq2, (by decide : 0 + 1 ≤ _), (by decide : 0 + 5 ≤ _)⟩)
  dsimp only [Pt.U, Pt.locs, Pt.cells, Pt.slots] at X3 l3 y3 z3 st3 hQ3
  subst l3 y3 z3
  obtain ⟨b3, rfl, N3q, K3, qf3_0, qf3_1, qf3_2, qf3_3, qf3_4, qf3_5, qf3_6⟩ := hQ3
  have N3 := Fr.app N2 N3q
  have z5 := Nat.le_trans Z0 K3.1
  have o6 := O0.keep K3 all0
  obtain ⟨cq4, kq4, q4a, q4b, q4c⟩ := isOf hZ rfl qf3_1
  obtain ⟨_, _, ⟨T4, L4, k4, n4⟩, -, X4, ⟨Lc4, hQ4, l4, y4, z4⟩, st4⟩ := X3.virtualBack hx (y := (⟨"com/example/leafcount/leafcount/PageRequest", "page", "()I"⟩ : MethodName)) (z := (⟨"com/example/leafcount/leafcount/PageRequest", "page", "()I"⟩ : MethodName)) hown (mvT hZ (hw _ (List.mem_of_getElem? (i := 31) rfl))) (mvT hZ (hw _ (List.mem_of_getElem? (i := 32) rfl))) (notFace_of_selects (args := #[]) (mvT hZ (hw _ (List.mem_of_getElem? (i := 34) rfl)))) (mvT hZ (hw _ (List.mem_of_getElem? (i := 34) rfl))) (mvT hZ (hw _ (List.mem_of_getElem? (i := 33) rfl))) (by decide) (backOf (W := 0) (rm6 l Z a0 hw [] b3 (own_pos pi1) T3.heap n0 z5 o6 qf3_2) hZ (hw _ (List.mem_of_getElem? (i := 35) rfl)) (hw _ (List.mem_of_getElem? (i := 8) rfl)) (by decide) (by decide)) q4a q4c (g := (mkF m 30 #[.val (.int pi1), .val (.int pi2), .val (.long pl3), .second, .val (.int (own_pos pi1)), .val (.int (own_pos pi2)), .val (.long (pl3 &&& (9223372036854775807 : Int64))), .second, .val (.ref b3), .unset, .unset, .unset, .unset, .unset] [(.ref b3)])) rfl (by rw [hml]; rfl) (Steps.refl _) (argsL := []) (rest := []) (lenOf pd_5 rfl) rfl (by show 2 * 0 + _ ≤ _; exact Nat.le_of_eq rfl) (hb hby at_30) (fun _ _ => ⟨rfl, rfl, (by decide : 1 + 0 ≤ _), (by decide : 5 + 0 ≤ _)⟩)
  dsimp only [Pt.U, Pt.locs, Pt.cells, Pt.slots] at X4 l4 y4 z4 st4 hQ4
  subst l4 y4 z4
  obtain ⟨rfl, N4q, eq4⟩ := hQ4
  have N4 := Fr.app N3 N4q
  obtain ⟨cq7, kq7, q7a, q7b, q7c⟩ := isOf hZ eq4 qf3_1
  obtain ⟨_, _, ⟨T7, L7, k7, n7⟩, -, X7, ⟨Lc7, hQ7, l7, y7, z7⟩, st7⟩ := X4.virtualBack hx (y := (⟨"com/example/leafcount/leafcount/PageRequest", "size", "()I"⟩ : MethodName)) (z := (⟨"com/example/leafcount/leafcount/PageRequest", "size", "()I"⟩ : MethodName)) hown (mvT hZ (hw _ (List.mem_of_getElem? (i := 36) rfl))) (mvT hZ (hw _ (List.mem_of_getElem? (i := 37) rfl))) (notFace_of_selects (args := #[]) (mvT hZ (hw _ (List.mem_of_getElem? (i := 39) rfl)))) (mvT hZ (hw _ (List.mem_of_getElem? (i := 39) rfl))) (mvT hZ (hw _ (List.mem_of_getElem? (i := 38) rfl))) (by decide) (backOf (W := 0) (rm7 l Z a0 hw [] b3 (own_pos pi2) T3.heap n0 z5 o6 qf3_3) hZ (hw _ (List.mem_of_getElem? (i := 40) rfl)) (hw _ (List.mem_of_getElem? (i := 8) rfl)) (by decide) (by decide)) q7a q7c (g := (mkF m 40 #[.val (.int pi1), .val (.int pi2), .val (.long pl3), .second, .val (.int (own_pos pi1)), .val (.int (own_pos pi2)), .val (.long (pl3 &&& (9223372036854775807 : Int64))), .second, .val (.ref b3), .unset, .unset, .unset, .unset, .unset] [(.ref b3)])) rfl (by rw [hml]; rfl) (Steps.refl _) (argsL := []) (rest := []) (lenOf pd_5 rfl) rfl (by show 2 * 0 + _ ≤ _; exact Nat.le_of_eq rfl) (hb hby at_40) (fun _ _ => ⟨rfl, eq4, (by decide : 1 + 0 ≤ _), (by decide : 5 + 0 ≤ _)⟩)
  dsimp only [Pt.U, Pt.locs, Pt.cells, Pt.slots] at X7 l7 y7 z7 st7 hQ7
  subst l7 y7 z7
  obtain ⟨rfl, N7q, eq7⟩ := hQ7
  have N7 := Fr.app N4 N7q
  obtain ⟨cq8, kq8, q8a, q8b, q8c⟩ := isOf hZ eq7 qf3_1
  obtain ⟨_, _, ⟨T8, L8, k8, n8⟩, -, X8, ⟨Lc8, hQ8, l8, y8, z8⟩, st8⟩ := X7.virtualBack hx (y := (⟨"com/example/leafcount/leafcount/PageRequest", "navigationSize", "()I"⟩ : MethodName)) (z := (⟨"com/example/leafcount/leafcount/PageRequest", "navigationSize", "()I"⟩ : MethodName)) hown (mvT hZ (hw _ (List.mem_of_getElem? (i := 41) rfl))) (mvT hZ (hw _ (List.mem_of_getElem? (i := 42) rfl))) (notFace_of_selects (args := #[]) (mvT hZ (hw _ (List.mem_of_getElem? (i := 44) rfl)))) (mvT hZ (hw _ (List.mem_of_getElem? (i := 44) rfl))) (mvT hZ (hw _ (List.mem_of_getElem? (i := 43) rfl))) (by decide) (backOf (W := 0) (rm8 l Z a0 hw [] b3 (8 : Int32) T3.heap n0 z5 o6 qf3_4) hZ (hw _ (List.mem_of_getElem? (i := 45) rfl)) (hw _ (List.mem_of_getElem? (i := 8) rfl)) (by decide) (by decide)) q8a q8c (g := (mkF m 50 #[.val (.int pi1), .val (.int pi2), .val (.long pl3), .second, .val (.int (own_pos pi1)), .val (.int (own_pos pi2)), .val (.long (pl3 &&& (9223372036854775807 : Int64))), .second, .val (.ref b3), .unset, .unset, .unset, .unset, .unset] [(.ref b3)])) rfl (by rw [hml]; rfl) (Steps.refl _) (argsL := []) (rest := []) (lenOf pd_5 rfl) rfl (by show 2 * 0 + _ ≤ _; exact Nat.le_of_eq rfl) (hb hby at_50) (fun _ _ => ⟨rfl, eq7, (by decide : 1 + 0 ≤ _), (by decide : 5 + 0 ≤ _)⟩)
  dsimp only [Pt.U, Pt.locs, Pt.cells, Pt.slots] at X8 l8 y8 z8 st8 hQ8
  subst l8 y8 z8
  obtain ⟨rfl, N8q, eq8⟩ := hQ8
  have N8 := Fr.app N7 N8q
  obtain ⟨cq9, kq9, q9a, q9b, q9c⟩ := isOf hZ eq8 qf3_1
  obtain ⟨_, _, ⟨T9, L9, k9, n9⟩, -, X9, ⟨Lc9, hQ9, l9, y9, z9⟩, st9⟩ := X8.virtualBack hx (y := (⟨"com/example/leafcount/leafcount/PageRequest", "clamps", "()Z"⟩ : MethodName)) (z := (⟨"com/example/leafcount/leafcount/PageRequest", "clamps", "()Z"⟩ : MethodName)) hown (mvT hZ (hw _ (List.mem_of_getElem? (i := 46) rfl))) (mvT hZ (hw _ (List.mem_of_getElem? (i := 47) rfl))) (notFace_of_selects (args := #[]) (mvT hZ (hw _ (List.mem_of_getElem? (i := 49) rfl)))) (mvT hZ (hw _ (List.mem_of_getElem? (i := 49) rfl))) (mvT hZ (hw _ (List.mem_of_getElem? (i := 48) rfl))) (by decide) (backOf (W := 0) (rm9 l Z a0 hw [] b3 (0 : Int32) T3.heap n0 z5 o6 qf3_5) hZ (hw _ (List.mem_of_getElem? (i := 50) rfl)) (hw _ (List.mem_of_getElem? (i := 8) rfl)) (by decide) (by decide)) q9a q9c (g := (mkF m 60 #[.val (.int pi1), .val (.int pi2), .val (.long pl3), .second, .val (.int (own_pos pi1)), .val (.int (own_pos pi2)), .val (.long (pl3 &&& (9223372036854775807 : Int64))), .second, .val (.ref b3), .unset, .unset, .unset, .unset, .unset] [(.ref b3)])) rfl (by rw [hml]; rfl) (Steps.refl _) (argsL := []) (rest := []) (lenOf pd_6 rfl) rfl (by show 2 * 0 + _ ≤ _; exact Nat.le_of_eq rfl) (hb hby at_60) (fun _ _ => ⟨rfl, eq8, (by decide : 1 + 0 ≤ _), (by decide : 5 + 0 ≤ _)⟩)
  dsimp only [Pt.U, Pt.locs, Pt.cells, Pt.slots] at X9 l9 y9 z9 st9 hQ9
  subst l9 y9 z9
  obtain ⟨rfl, N9q, eq9⟩ := hQ9
  have N9 := Fr.app N8 N9q
  obtain ⟨cq10, kq10, q10a, q10b, q10c⟩ := isOf hZ eq9 qf3_1
  obtain ⟨_, _, ⟨T10, L10, k10, n10⟩, -, X10, ⟨Lc10, hQ10, l10, y10, z10⟩, st10⟩ := X9.virtualBack hx (y := (⟨"com/example/leafcount/leafcount/PageRequest", "sort", "()Lcom/example/leafcount/leafcount/Sort;"⟩ : MethodName)) (z := (⟨"com/example/leafcount/leafcount/PageRequest", "sort", "()Lcom/example/leafcount/leafcount/Sort;"⟩ : MethodName)) hown (mvT hZ (hw _ (List.mem_of_getElem? (i := 51) rfl))) (mvT hZ (hw _ (List.mem_of_getElem? (i := 52) rfl))) (notFace_of_selects (args := #[]) (mvT hZ (hw _ (List.mem_of_getElem? (i := 54) rfl)))) (mvT hZ (hw _ (List.mem_of_getElem? (i := 54) rfl))) (mvT hZ (hw _ (List.mem_of_getElem? (i := 53) rfl))) (by decide) (backOf (W := 0) (rm10 l Z a0 hw [] b3 T3.heap n0 z5 o6 qf3_6) hZ (hw _ (List.mem_of_getElem? (i := 55) rfl)) (hw _ (List.mem_of_getElem? (i := 8) rfl)) (by decide) (by decide)) q10a q10c (g := (mkF m 68 #[.val (.int pi1), .val (.int pi2), .val (.long pl3), .second, .val (.int (own_pos pi1)), .val (.int (own_pos pi2)), .val (.long (pl3 &&& (9223372036854775807 : Int64))), .second, .val (.ref b3), .unset, .unset, .unset, .unset, .unset] [(.ref b3)])) rfl (by rw [hml]; rfl) (Steps.refl _) (argsL := []) (rest := []) (lenOf pd_7 rfl) rfl (by show 2 * 0 + _ ≤ _; exact Nat.le_of_eq rfl) (hb hby at_68) (fun _ _ => ⟨rfl, eq9, (by decide : 1 + 0 ≤ _), (by decide : 5 + 0 ≤ _)⟩)
  dsimp only [Pt.U, Pt.locs, Pt.cells, Pt.slots] at X10 l10 y10 z10 st10 hQ10
  subst l10 y10 z10
  obtain ⟨rfl, N10q, eq10⟩ := hQ10
  have N10 := Fr.app N9 N10q
  obtain ⟨cq11, kq11, q11a, q11b, q11c⟩ := isOf hZ eq10 qf3_1
  obtain ⟨_, _, ⟨T11, L11, k11, n11⟩, -, X11, ⟨Lc11, hQ11, l11, y11, z11⟩, st11⟩ := X10.virtualBack hx (y := (⟨"com/example/leafcount/leafcount/PageRequest", "offset", "()J"⟩ : MethodName)) (z := (⟨"com/example/leafcount/leafcount/PageRequest", "offset", "()J"⟩ : MethodName)) hown (mvT hZ (hw _ (List.mem_of_getElem? (i := 56) rfl))) (mvT hZ (hw _ (List.mem_of_getElem? (i := 57) rfl))) (notFace_of_selects (args := #[]) (mvT hZ (hw _ (List.mem_of_getElem? (i := 59) rfl)))) (mvT hZ (hw _ (List.mem_of_getElem? (i := 59) rfl))) (mvT hZ (hw _ (List.mem_of_getElem? (i := 58) rfl))) (by decide) (backOf (W := 0) (rm11 l Z a0 hw [] b3 (own_pos pi1) (own_pos pi2) T3.heap n0 z5 o6 qf3_2 qf3_3) hZ (hw _ (List.mem_of_getElem? (i := 60) rfl)) (hw _ (List.mem_of_getElem? (i := 8) rfl)) (by decide) (by decide)) q11a q11c (g := (mkF m 96 #[.val (.int pi1), .val (.int pi2), .val (.long pl3), .second, .val (.int (own_pos pi1)), .val (.int (own_pos pi2)), .val (.long (pl3 &&& (9223372036854775807 : Int64))), .second, .val (.ref b3), .val (.int (1 : Int32)), .val (.long ((((own_pos pi1).toInt64) * ((own_pos pi2).toInt64)) - ((own_pos pi2).toInt64))), .second, .unset, .unset] [(.ref b3)])) rfl (by rw [hml]; rfl) (Steps.refl _) (argsL := []) (rest := []) (lenOf pd_8 rfl) rfl (by show 2 * 0 + _ ≤ _; exact Nat.le_of_eq rfl) (hb hby at_96) (fun _ _ => ⟨rfl, eq10, (by decide : 1 + 0 ≤ _), (by decide : 5 + 0 ≤ _)⟩)
  dsimp only [Pt.U, Pt.locs, Pt.cells, Pt.slots] at X11 l11 y11 z11 st11 hQ11
  subst l11 y11 z11
  obtain ⟨rfl, N11q, eq11⟩ := hQ11
  have N11 := Fr.app N10 N11q
  obtain ⟨cq12, kq12, q12a, q12b, q12c⟩ := isOf hZ eq11 qf3_1
  obtain ⟨_, _, ⟨T12, L12, k12, n12⟩, -, X12, ⟨Lc12, hQ12, l12, y12, z12⟩, st12⟩ := X11.virtualBack hx (y := (⟨"com/example/leafcount/leafcount/PageRequest", "within", "(J)Lcom/example/leafcount/leafcount/PageRequest;"⟩ : MethodName)) (z := (⟨"com/example/leafcount/leafcount/PageRequest", "within", "(J)Lcom/example/leafcount/leafcount/PageRequest;"⟩ : MethodName)) hown (mvT hZ (hw _ (List.mem_of_getElem? (i := 61) rfl))) (mvT hZ (hw _ (List.mem_of_getElem? (i := 62) rfl))) (notFace_of_selects (args := #[]) (mvT hZ (hw _ (List.mem_of_getElem? (i := 64) rfl)))) (mvT hZ (hw _ (List.mem_of_getElem? (i := 64) rfl))) (mvT hZ (hw _ (List.mem_of_getElem? (i := 63) rfl))) (by decide) (backOf (W := 0) (rm12 l Z a0 hw [] b3 (pl3 &&& (9223372036854775807 : Int64)) (own_pos pi2) (0 : Int32) T3.heap n0 z5 o6 qf3_3 qf3_1 qf3_5 (own_tot _) (own_pos_nz _) rfl) hZ (hw _ (List.mem_of_getElem? (i := 65) rfl)) (hw _ (List.mem_of_getElem? (i := 8) rfl)) (by decide) (by decide)) q12a q12c (g := (mkF m 116 #[.val (.int pi1), .val (.int pi2), .val (.long pl3), .second, .val (.int (own_pos pi1)), .val (.int (own_pos pi2)), .val (.long (pl3 &&& (9223372036854775807 : Int64))), .second, .val (.ref b3), .val (.int (1 : Int32)), .val (.long ((((own_pos pi1).toInt64) * ((own_pos pi2).toInt64)) - ((own_pos pi2).toInt64))), .second, .val (.int (1 : Int32)), .unset] [(.long (pl3 &&& (9223372036854775807 : Int64))), (.ref b3)])) rfl (by rw [hml]; rfl) (Steps.refl _) (argsL := [(.long (pl3 &&& (9223372036854775807 : Int64)))]) (rest := []) (lenOf pd_9 rfl) rfl (by show 2 * 0 + _ ≤ _; exact Nat.le_of_eq rfl) (hb hby at_116) (fun _ _ => ⟨rfl, eq11, (by decide : 1 + 0 ≤ _), (by decide : 5 + 0 ≤ _)⟩)
  dsimp only [Pt.U, Pt.locs, Pt.cells, Pt.slots] at X12 l12 y12 z12 st12 hQ12
  subst l12 y12 z12
  obtain ⟨rfl, N12q, eq12⟩ := hQ12
  have N12 := Fr.app N11 N12q
  obtain ⟨fs, hr, hrun, hended, hW, hsame⟩ := X12.leave (v := some (.int (1 : Int32))) (fun h => by rw [Bd.returns] at h; cases h)
  refine ⟨_, _, pre0 _ ?_, hrun, hended, _, _, rfl, ?_, ⟨_, rfl⟩, hW, hsame.mono (by decide) (by decide)⟩
  · show Steps p.tables e below (s₁.setTop (mkF m 0 #[.val (.int pi1), .val (.int pi2), .val (.long pl3), .second, .unset, .unset, .unset, .unset, .unset, .unset, .unset, .unset, .unset, .unset] [])) _
    refine XS.iloadN X0.here hx rfl (hb hby at_0) rfl ?_
    show Steps p.tables e below (s₁.setTop (mkF m 1 #[.val (.int pi1), .val (.int pi2), .val (.long pl3), .second, .unset, .unset, .unset, .unset, .unset, .unset, .unset, .unset, .unset, .unset] [(.int pi1)])) _
    refine st1 _ ?_
    show Steps p.tables e below (T1.setTop (mkF m 4 #[.val (.int pi1), .val (.int pi2), .val (.long pl3), .second, .unset, .unset, .unset, .unset, .unset, .unset, .unset, .unset, .unset, .unset] [(.int (own_pos pi1))])) _
    refine XS.istore X1.here hx rfl (hb hby at_4) rfl (l' := #[.val (.int pi1), .val (.int pi2), .val (.long pl3), .second, .val (.int (own_pos pi1)), .unset, .unset, .unset, .unset, .unset, .unset, .unset, .unset, .unset]) rfl ?_
    show Steps p.tables e below (T1.setTop (mkF m 6 #[.val (.int pi1), .val (.int pi2), .val (.long pl3), .second, .val (.int (own_pos pi1)), .unset, .unset, .unset, .unset, .unset, .unset, .unset, .unset, .unset] [])) _
    refine XS.iloadN X1.here hx rfl (hb hby at_6) rfl ?_
    show Steps p.tables e below (T1.setTop (mkF m 7 #[.val (.int pi1), .val (.int pi2), .val (.long pl3), .second, .val (.int (own_pos pi1)), .unset, .unset, .unset, .unset, .unset, .unset, .unset, .unset, .unset] [(.int pi2)])) _
    refine st2 _ ?_
    show Steps p.tables e below (T2.setTop (mkF m 10 #[.val (.int pi1), .val (.int pi2), .val (.long pl3), .second, .val (.int (own_pos pi1)), .unset, .unset, .unset, .unset, .unset, .unset, .unset, .unset, .unset] [(.int (own_pos pi2))])) _
    refine XS.istore X2.here hx rfl (hb hby at_10) rfl (l' := #[.val (.int pi1), .val (.int pi2), .val (.long pl3), .second, .val (.int (own_pos pi1)), .val (.int (own_pos pi2)), .unset, .unset, .unset, .unset, .unset, .unset, .unset, .unset]) rfl ?_
    show Steps p.tables e below (T2.setTop (mkF m 12 #[.val (.int pi1), .val (.int pi2), .val (.long pl3), .second, .val (.int (own_pos pi1)), .val (.int (own_pos pi2)), .unset, .unset, .unset, .unset, .unset, .unset, .unset, .unset] [])) _
    refine XS.lloadN X2.here hx rfl (hb hby at_12) rfl ?_
    show Steps p.tables e below (T2.setTop (mkF m 13 #[.val (.int pi1), .val (.int pi2), .val (.long pl3), .second, .val (.int (own_pos pi1)), .val (.int (own_pos pi2)), .unset, .unset, .unset, .unset, .unset, .unset, .unset, .unset] [(.long pl3)])) _
    refine X2.ldc2Long hx hown (mvT hZ (hw _ (List.mem_of_getElem? (i := 5) rfl))) (g := (mkF m 13 #[.val (.int pi1), .val (.int pi2), .val (.long pl3), .second, .val (.int (own_pos pi1)), .val (.int (own_pos pi2)), .unset, .unset, .unset, .unset, .unset, .unset, .unset, .unset] [(.long pl3)])) rfl (hb hby at_13) _ ?_
    show Steps p.tables e below (T2.setTop (mkF m 16 #[.val (.int pi1), .val (.int pi2), .val (.long pl3), .second, .val (.int (own_pos pi1)), .val (.int (own_pos pi2)), .unset, .unset, .unset, .unset, .unset, .unset, .unset, .unset] [(.long (9223372036854775807 : Int64)), (.long pl3)])) _
    refine XS.land X2.here hx rfl (hb hby at_16) rfl ?_
    show Steps p.tables e below (T2.setTop (mkF m 17 #[.val (.int pi1), .val (.int pi2), .val (.long pl3), .second, .val (.int (own_pos pi1)), .val (.int (own_pos pi2)), .unset, .unset, .unset, .unset, .unset, .unset, .unset, .unset] [(.long (pl3 &&& (9223372036854775807 : Int64)))])) _
    refine XS.lstore X2.here hx rfl (hb hby at_17) rfl (l' := #[.val (.int pi1), .val (.int pi2), .val (.long pl3), .second, .val (.int (own_pos pi1)), .val (.int (own_pos pi2)), .val (.long (pl3 &&& (9223372036854775807 : Int64))), .second, .unset, .unset, .unset, .unset, .unset, .unset]) rfl ?_
    show Steps p.tables e below (T2.setTop (mkF m 19 #[.val (.int pi1), .val (.int pi2), .val (.long pl3), .second, .val (.int (own_pos pi1)), .val (.int (own_pos pi2)), .val (.long (pl3 &&& (9223372036854775807 : Int64))), .second, .unset, .unset, .unset, .unset, .unset, .unset] [])) _
    refine XS.iload X2.here hx rfl (hb hby at_19) rfl ?_
    show Steps p.tables e below (T2.setTop (mkF m 21 #[.val (.int pi1), .val (.int pi2), .val (.long pl3), .second, .val (.int (own_pos pi1)), .val (.int (own_pos pi2)), .val (.long (pl3 &&& (9223372036854775807 : Int64))), .second, .unset, .unset, .unset, .unset, .unset, .unset] [(.int (own_pos pi1))])) _
    refine XS.iload X2.here hx rfl (hb hby at_21) rfl ?_
    show Steps p.tables e below (T2.setTop (mkF m 23 #[.val (.int pi1), .val (.int pi2), .val (.long pl3), .second, .val (.int (own_pos pi1)), .val (.int (own_pos pi2)), .val (.long (pl3 &&& (9223372036854775807 : Int64))), .second, .unset, .unset, .unset, .unset, .unset, .unset] [(.int (own_pos pi2)), (.int (own_pos pi1))])) _
    refine st3 _ ?_
    show Steps p.tables e below (T3.setTop (mkF m 26 #[.val (.int pi1), .val (.int pi2), .val (.long pl3), .second, .val (.int (own_pos pi1)), .val (.int (own_pos pi2)), .val (.long (pl3 &&& (9223372036854775807 : Int64))), .second, .unset, .unset, .unset, .unset, .unset, .unset] [(.ref b3)])) _
    refine XS.astore X3.here hx rfl (hb hby at_26) rfl rfl (l' := #[.val (.int pi1), .val (.int pi2), .val (.long pl3), .second, .val (.int (own_pos pi1)), .val (.int (own_pos pi2)), .val (.long (pl3 &&& (9223372036854775807 : Int64))), .second, .val (.ref b3), .unset, .unset, .unset, .unset, .unset]) rfl ?_
    show Steps p.tables e below (T3.setTop (mkF m 28 #[.val (.int pi1), .val (.int pi2), .val (.long pl3), .second, .val (.int (own_pos pi1)), .val (.int (own_pos pi2)), .val (.long (pl3 &&& (9223372036854775807 : Int64))), .second, .val (.ref b3), .unset, .unset, .unset, .unset, .unset] [])) _
    refine XS.aload X3.here hx rfl (hb hby at_28) rfl rfl ?_
    show Steps p.tables e below (T3.setTop (mkF m 30 #[.val (.int pi1), .val (.int pi2), .val (.long pl3), .second, .val (.int (own_pos pi1)), .val (.int (own_pos pi2)), .val (.long (pl3 &&& (9223372036854775807 : Int64))), .second, .val (.ref b3), .unset, .unset, .unset, .unset, .unset] [(.ref b3)])) _
    refine st4.trans ?_
    show Steps p.tables e below (T4.setTop (mkF m 33 #[.val (.int pi1), .val (.int pi2), .val (.long pl3), .second, .val (.int (own_pos pi1)), .val (.int (own_pos pi2)), .val (.long (pl3 &&& (9223372036854775807 : Int64))), .second, .val (.ref b3), .unset, .unset, .unset, .unset, .unset] [(.int (own_pos pi1))])) _
    refine XS.iload X4.here hx rfl (hb hby at_33) rfl ?_
    show Steps p.tables e below (T4.setTop (mkF m 35 #[.val (.int pi1), .val (.int pi2), .val (.long pl3), .second, .val (.int (own_pos pi1)), .val (.int (own_pos pi2)), .val (.long (pl3 &&& (9223372036854775807 : Int64))), .second, .val (.ref b3), .unset, .unset, .unset, .unset, .unset] [(.int (own_pos pi1)), (.int (own_pos pi1))])) _
    refine XS.icmpNo X4.here hx rfl (hb hby at_35) rfl (teq (rfl : (own_pos pi1) = (own_pos pi1))).2 ?_
    show Steps p.tables e below (T4.setTop (mkF m 38 #[.val (.int pi1), .val (.int pi2), .val (.long pl3), .second, .val (.int (own_pos pi1)), .val (.int (own_pos pi2)), .val (.long (pl3 &&& (9223372036854775807 : Int64))), .second, .val (.ref b3), .unset, .unset, .unset, .unset, .unset] [])) _
    refine XS.aload X4.here hx rfl (hb hby at_38) rfl rfl ?_
    show Steps p.tables e below (T4.setTop (mkF m 40 #[.val (.int pi1), .val (.int pi2), .val (.long pl3), .second, .val (.int (own_pos pi1)), .val (.int (own_pos pi2)), .val (.long (pl3 &&& (9223372036854775807 : Int64))), .second, .val (.ref b3), .unset, .unset, .unset, .unset, .unset] [(.ref b3)])) _
    refine st7.trans ?_
    show Steps p.tables e below (T7.setTop (mkF m 43 #[.val (.int pi1), .val (.int pi2), .val (.long pl3), .second, .val (.int (own_pos pi1)), .val (.int (own_pos pi2)), .val (.long (pl3 &&& (9223372036854775807 : Int64))), .second, .val (.ref b3), .unset, .unset, .unset, .unset, .unset] [(.int (own_pos pi2))])) _
    refine XS.iload X7.here hx rfl (hb hby at_43) rfl ?_
    show Steps p.tables e below (T7.setTop (mkF m 45 #[.val (.int pi1), .val (.int pi2), .val (.long pl3), .second, .val (.int (own_pos pi1)), .val (.int (own_pos pi2)), .val (.long (pl3 &&& (9223372036854775807 : Int64))), .second, .val (.ref b3), .unset, .unset, .unset, .unset, .unset] [(.int (own_pos pi2)), (.int (own_pos pi2))])) _
    refine XS.icmpNo X7.here hx rfl (hb hby at_45) rfl (teq (rfl : (own_pos pi2) = (own_pos pi2))).2 ?_
    show Steps p.tables e below (T7.setTop (mkF m 48 #[.val (.int pi1), .val (.int pi2), .val (.long pl3), .second, .val (.int (own_pos pi1)), .val (.int (own_pos pi2)), .val (.long (pl3 &&& (9223372036854775807 : Int64))), .second, .val (.ref b3), .unset, .unset, .unset, .unset, .unset] [])) _
    refine XS.aload X7.here hx rfl (hb hby at_48) rfl rfl ?_
    show Steps p.tables e below (T7.setTop (mkF m 50 #[.val (.int pi1), .val (.int pi2), .val (.long pl3), .second, .val (.int (own_pos pi1)), .val (.int (own_pos pi2)), .val (.long (pl3 &&& (9223372036854775807 : Int64))), .second, .val (.ref b3), .unset, .unset, .unset, .unset, .unset] [(.ref b3)])) _
    refine st8.trans ?_
    show Steps p.tables e below (T8.setTop (mkF m 53 #[.val (.int pi1), .val (.int pi2), .val (.long pl3), .second, .val (.int (own_pos pi1)), .val (.int (own_pos pi2)), .val (.long (pl3 &&& (9223372036854775807 : Int64))), .second, .val (.ref b3), .unset, .unset, .unset, .unset, .unset] [(.int (8 : Int32))])) _
    refine XS.bipush X8.here hx rfl (hb hby at_53) ?_
    show Steps p.tables e below (T8.setTop (mkF m 55 #[.val (.int pi1), .val (.int pi2), .val (.long pl3), .second, .val (.int (own_pos pi1)), .val (.int (own_pos pi2)), .val (.long (pl3 &&& (9223372036854775807 : Int64))), .second, .val (.ref b3), .unset, .unset, .unset, .unset, .unset] [(.int (8 : Int32)), (.int (8 : Int32))])) _
    refine XS.icmpNo X8.here hx rfl (hb hby at_55) rfl (teq (rfl : (8 : Int32) = (8 : Int32))).2 ?_
    show Steps p.tables e below (T8.setTop (mkF m 58 #[.val (.int pi1), .val (.int pi2), .val (.long pl3), .second, .val (.int (own_pos pi1)), .val (.int (own_pos pi2)), .val (.long (pl3 &&& (9223372036854775807 : Int64))), .second, .val (.ref b3), .unset, .unset, .unset, .unset, .unset] [])) _
    refine XS.aload X8.here hx rfl (hb hby at_58) rfl rfl ?_
    show Steps p.tables e below (T8.setTop (mkF m 60 #[.val (.int pi1), .val (.int pi2), .val (.long pl3), .second, .val (.int (own_pos pi1)), .val (.int (own_pos pi2)), .val (.long (pl3 &&& (9223372036854775807 : Int64))), .second, .val (.ref b3), .unset, .unset, .unset, .unset, .unset] [(.ref b3)])) _
    refine st9.trans ?_
    show Steps p.tables e below (T9.setTop (mkF m 63 #[.val (.int pi1), .val (.int pi2), .val (.long pl3), .second, .val (.int (own_pos pi1)), .val (.int (own_pos pi2)), .val (.long (pl3 &&& (9223372036854775807 : Int64))), .second, .val (.ref b3), .unset, .unset, .unset, .unset, .unset] [(.int (0 : Int32))])) _
    refine XS.ifNo X9.here hx rfl (hb hby at_63) rfl ((if0 _ _).trans (teq (rfl : (0 : Int32) = (0 : Int32))).2) ?_
    show Steps p.tables e below (T9.setTop (mkF m 66 #[.val (.int pi1), .val (.int pi2), .val (.long pl3), .second, .val (.int (own_pos pi1)), .val (.int (own_pos pi2)), .val (.long (pl3 &&& (9223372036854775807 : Int64))), .second, .val (.ref b3), .unset, .unset, .unset, .unset, .unset] [])) _
    refine XS.aload X9.here hx rfl (hb hby at_66) rfl rfl ?_
    show Steps p.tables e below (T9.setTop (mkF m 68 #[.val (.int pi1), .val (.int pi2), .val (.long pl3), .second, .val (.int (own_pos pi1)), .val (.int (own_pos pi2)), .val (.long (pl3 &&& (9223372036854775807 : Int64))), .second, .val (.ref b3), .unset, .unset, .unset, .unset, .unset] [(.ref b3)])) _
    refine st10.trans ?_
    show Steps p.tables e below (T10.setTop (mkF m 71 #[.val (.int pi1), .val (.int pi2), .val (.long pl3), .second, .val (.int (own_pos pi1)), .val (.int (own_pos pi2)), .val (.long (pl3 &&& (9223372036854775807 : Int64))), .second, .val (.ref b3), .unset, .unset, .unset, .unset, .unset] [.null])) _
    refine XS.ifnonnullNo X10.here hx rfl (hb hby at_71) rfl ?_
    show Steps p.tables e below (T10.setTop (mkF m 74 #[.val (.int pi1), .val (.int pi2), .val (.long pl3), .second, .val (.int (own_pos pi1)), .val (.int (own_pos pi2)), .val (.long (pl3 &&& (9223372036854775807 : Int64))), .second, .val (.ref b3), .unset, .unset, .unset, .unset, .unset] [])) _
    refine XS.iconst X10.here hx rfl (hb hby at_74) ?_
    show Steps p.tables e below (T10.setTop (mkF m 75 #[.val (.int pi1), .val (.int pi2), .val (.long pl3), .second, .val (.int (own_pos pi1)), .val (.int (own_pos pi2)), .val (.long (pl3 &&& (9223372036854775807 : Int64))), .second, .val (.ref b3), .unset, .unset, .unset, .unset, .unset] [(.int (1 : Int32))])) _
    refine XS.goto X10.here hx rfl (pc0 := 75) (pc' := 79) rfl (hb hby at_75) (by decide) (by decide) ?_
    show Steps p.tables e below (T10.setTop (mkF m 79 #[.val (.int pi1), .val (.int pi2), .val (.long pl3), .second, .val (.int (own_pos pi1)), .val (.int (own_pos pi2)), .val (.long (pl3 &&& (9223372036854775807 : Int64))), .second, .val (.ref b3), .unset, .unset, .unset, .unset, .unset] [(.int (1 : Int32))])) _
    refine XS.istore X10.here hx rfl (hb hby at_79) rfl (l' := #[.val (.int pi1), .val (.int pi2), .val (.long pl3), .second, .val (.int (own_pos pi1)), .val (.int (own_pos pi2)), .val (.long (pl3 &&& (9223372036854775807 : Int64))), .second, .val (.ref b3), .val (.int (1 : Int32)), .unset, .unset, .unset, .unset]) rfl ?_
    show Steps p.tables e below (T10.setTop (mkF m 81 #[.val (.int pi1), .val (.int pi2), .val (.long pl3), .second, .val (.int (own_pos pi1)), .val (.int (own_pos pi2)), .val (.long (pl3 &&& (9223372036854775807 : Int64))), .second, .val (.ref b3), .val (.int (1 : Int32)), .unset, .unset, .unset, .unset] [])) _
    refine XS.iload X10.here hx rfl (hb hby at_81) rfl ?_
    show Steps p.tables e below (T10.setTop (mkF m 83 #[.val (.int pi1), .val (.int pi2), .val (.long pl3), .second, .val (.int (own_pos pi1)), .val (.int (own_pos pi2)), .val (.long (pl3 &&& (9223372036854775807 : Int64))), .second, .val (.ref b3), .val (.int (1 : Int32)), .unset, .unset, .unset, .unset] [(.int (own_pos pi1))])) _
    refine XS.i2l X10.here hx rfl (hb hby at_83) rfl ?_
    show Steps p.tables e below (T10.setTop (mkF m 84 #[.val (.int pi1), .val (.int pi2), .val (.long pl3), .second, .val (.int (own_pos pi1)), .val (.int (own_pos pi2)), .val (.long (pl3 &&& (9223372036854775807 : Int64))), .second, .val (.ref b3), .val (.int (1 : Int32)), .unset, .unset, .unset, .unset] [(.long ((own_pos pi1).toInt64))])) _
    refine XS.iload X10.here hx rfl (hb hby at_84) rfl ?_
    show Steps p.tables e below (T10.setTop (mkF m 86 #[.val (.int pi1), .val (.int pi2), .val (.long pl3), .second, .val (.int (own_pos pi1)), .val (.int (own_pos pi2)), .val (.long (pl3 &&& (9223372036854775807 : Int64))), .second, .val (.ref b3), .val (.int (1 : Int32)), .unset, .unset, .unset, .unset] [(.int (own_pos pi2)), (.long ((own_pos pi1).toInt64))])) _
    refine XS.i2l X10.here hx rfl (hb hby at_86) rfl ?_
    show Steps p.tables e below (T10.setTop (mkF m 87 #[.val (.int pi1), .val (.int pi2), .val (.long pl3), .second, .val (.int (own_pos pi1)), .val (.int (own_pos pi2)), .val (.long (pl3 &&& (9223372036854775807 : Int64))), .second, .val (.ref b3), .val (.int (1 : Int32)), .unset, .unset, .unset, .unset] [(.long ((own_pos pi2).toInt64)), (.long ((own_pos pi1).toInt64))])) _
    refine XS.lmul X10.here hx rfl (hb hby at_87) rfl ?_
    show Steps p.tables e below (T10.setTop (mkF m 88 #[.val (.int pi1), .val (.int pi2), .val (.long pl3), .second, .val (.int (own_pos pi1)), .val (.int (own_pos pi2)), .val (.long (pl3 &&& (9223372036854775807 : Int64))), .second, .val (.ref b3), .val (.int (1 : Int32)), .unset, .unset, .unset, .unset] [(.long (((own_pos pi1).toInt64) * ((own_pos pi2).toInt64)))])) _
    refine XS.iload X10.here hx rfl (hb hby at_88) rfl ?_
    show Steps p.tables e below (T10.setTop (mkF m 90 #[.val (.int pi1), .val (.int pi2), .val (.long pl3), .second, .val (.int (own_pos pi1)), .val (.int (own_pos pi2)), .val (.long (pl3 &&& (9223372036854775807 : Int64))), .second, .val (.ref b3), .val (.int (1 : Int32)), .unset, .unset, .unset, .unset] [(.int (own_pos pi2)), (.long (((own_pos pi1).toInt64) * ((own_pos pi2).toInt64)))])) _
    refine XS.i2l X10.here hx rfl (hb hby at_90) rfl ?_
    show Steps p.tables e below (T10.setTop (mkF m 91 #[.val (.int pi1), .val (.int pi2), .val (.long pl3), .second, .val (.int (own_pos pi1)), .val (.int (own_pos pi2)), .val (.long (pl3 &&& (9223372036854775807 : Int64))), .second, .val (.ref b3), .val (.int (1 : Int32)), .unset, .unset, .unset, .unset] [(.long ((own_pos pi2).toInt64)), (.long (((own_pos pi1).toInt64) * ((own_pos pi2).toInt64)))])) _
    refine XS.lsub X10.here hx rfl (hb hby at_91) rfl ?_
    show Steps p.tables e below (T10.setTop (mkF m 92 #[.val (.int pi1), .val (.int pi2), .val (.long pl3), .second, .val (.int (own_pos pi1)), .val (.int (own_pos pi2)), .val (.long (pl3 &&& (9223372036854775807 : Int64))), .second, .val (.ref b3), .val (.int (1 : Int32)), .unset, .unset, .unset, .unset] [(.long ((((own_pos pi1).toInt64) * ((own_pos pi2).toInt64)) - ((own_pos pi2).toInt64)))])) _
    refine XS.lstore X10.here hx rfl (hb hby at_92) rfl (l' := #[.val (.int pi1), .val (.int pi2), .val (.long pl3), .second, .val (.int (own_pos pi1)), .val (.int (own_pos pi2)), .val (.long (pl3 &&& (9223372036854775807 : Int64))), .second, .val (.ref b3), .val (.int (1 : Int32)), .val (.long ((((own_pos pi1).toInt64) * ((own_pos pi2).toInt64)) - ((own_pos pi2).toInt64))), .second, .unset, .unset]) rfl ?_
    show Steps p.tables e below (T10.setTop (mkF m 94 #[.val (.int pi1), .val (.int pi2), .val (.long pl3), .second, .val (.int (own_pos pi1)), .val (.int (own_pos pi2)), .val (.long (pl3 &&& (9223372036854775807 : Int64))), .second, .val (.ref b3), .val (.int (1 : Int32)), .val (.long ((((own_pos pi1).toInt64) * ((own_pos pi2).toInt64)) - ((own_pos pi2).toInt64))), .second, .unset, .unset] [])) _
    refine XS.aload X10.here hx rfl (hb hby at_94) rfl rfl ?_
    show Steps p.tables e below (T10.setTop (mkF m 96 #[.val (.int pi1), .val (.int pi2), .val (.long pl3), .second, .val (.int (own_pos pi1)), .val (.int (own_pos pi2)), .val (.long (pl3 &&& (9223372036854775807 : Int64))), .second, .val (.ref b3), .val (.int (1 : Int32)), .val (.long ((((own_pos pi1).toInt64) * ((own_pos pi2).toInt64)) - ((own_pos pi2).toInt64))), .second, .unset, .unset] [(.ref b3)])) _
    refine st11.trans ?_
    show Steps p.tables e below (T11.setTop (mkF m 99 #[.val (.int pi1), .val (.int pi2), .val (.long pl3), .second, .val (.int (own_pos pi1)), .val (.int (own_pos pi2)), .val (.long (pl3 &&& (9223372036854775807 : Int64))), .second, .val (.ref b3), .val (.int (1 : Int32)), .val (.long ((((own_pos pi1).toInt64) * ((own_pos pi2).toInt64)) - ((own_pos pi2).toInt64))), .second, .unset, .unset] [(.long ((((own_pos pi1).toInt64) - (1 : Int64)) * ((own_pos pi2).toInt64)))])) _
    refine XS.lload X11.here hx rfl (hb hby at_99) rfl ?_
    show Steps p.tables e below (T11.setTop (mkF m 101 #[.val (.int pi1), .val (.int pi2), .val (.long pl3), .second, .val (.int (own_pos pi1)), .val (.int (own_pos pi2)), .val (.long (pl3 &&& (9223372036854775807 : Int64))), .second, .val (.ref b3), .val (.int (1 : Int32)), .val (.long ((((own_pos pi1).toInt64) * ((own_pos pi2).toInt64)) - ((own_pos pi2).toInt64))), .second, .unset, .unset] [(.long ((((own_pos pi1).toInt64) * ((own_pos pi2).toInt64)) - ((own_pos pi2).toInt64))), (.long ((((own_pos pi1).toInt64) - (1 : Int64)) * ((own_pos pi2).toInt64)))])) _
    refine XS.lcmp X11.here hx rfl (hb hby at_101) rfl ?_
    show Steps p.tables e below (T11.setTop (mkF m 102 #[.val (.int pi1), .val (.int pi2), .val (.long pl3), .second, .val (.int (own_pos pi1)), .val (.int (own_pos pi2)), .val (.long (pl3 &&& (9223372036854775807 : Int64))), .second, .val (.ref b3), .val (.int (1 : Int32)), .val (.long ((((own_pos pi1).toInt64) * ((own_pos pi2).toInt64)) - ((own_pos pi2).toInt64))), .second, .unset, .unset] [(.int (lcmpW ((((own_pos pi1).toInt64) - (1 : Int64)) * ((own_pos pi2).toInt64)) ((((own_pos pi1).toInt64) * ((own_pos pi2).toInt64)) - ((own_pos pi2).toInt64))))])) _
    refine XS.ifNo X11.here hx rfl (hb hby at_102) rfl ((if0 _ _).trans (teq (own_off _ _)).2) ?_
    show Steps p.tables e below (T11.setTop (mkF m 105 #[.val (.int pi1), .val (.int pi2), .val (.long pl3), .second, .val (.int (own_pos pi1)), .val (.int (own_pos pi2)), .val (.long (pl3 &&& (9223372036854775807 : Int64))), .second, .val (.ref b3), .val (.int (1 : Int32)), .val (.long ((((own_pos pi1).toInt64) * ((own_pos pi2).toInt64)) - ((own_pos pi2).toInt64))), .second, .unset, .unset] [])) _
    refine XS.iconst X11.here hx rfl (hb hby at_105) ?_
    show Steps p.tables e below (T11.setTop (mkF m 106 #[.val (.int pi1), .val (.int pi2), .val (.long pl3), .second, .val (.int (own_pos pi1)), .val (.int (own_pos pi2)), .val (.long (pl3 &&& (9223372036854775807 : Int64))), .second, .val (.ref b3), .val (.int (1 : Int32)), .val (.long ((((own_pos pi1).toInt64) * ((own_pos pi2).toInt64)) - ((own_pos pi2).toInt64))), .second, .unset, .unset] [(.int (1 : Int32))])) _
    refine XS.goto X11.here hx rfl (pc0 := 106) (pc' := 110) rfl (hb hby at_106) (by decide) (by decide) ?_
    show Steps p.tables e below (T11.setTop (mkF m 110 #[.val (.int pi1), .val (.int pi2), .val (.long pl3), .second, .val (.int (own_pos pi1)), .val (.int (own_pos pi2)), .val (.long (pl3 &&& (9223372036854775807 : Int64))), .second, .val (.ref b3), .val (.int (1 : Int32)), .val (.long ((((own_pos pi1).toInt64) * ((own_pos pi2).toInt64)) - ((own_pos pi2).toInt64))), .second, .unset, .unset] [(.int (1 : Int32))])) _
    refine XS.istore X11.here hx rfl (hb hby at_110) rfl (l' := #[.val (.int pi1), .val (.int pi2), .val (.long pl3), .second, .val (.int (own_pos pi1)), .val (.int (own_pos pi2)), .val (.long (pl3 &&& (9223372036854775807 : Int64))), .second, .val (.ref b3), .val (.int (1 : Int32)), .val (.long ((((own_pos pi1).toInt64) * ((own_pos pi2).toInt64)) - ((own_pos pi2).toInt64))), .second, .val (.int (1 : Int32)), .unset]) rfl ?_
    show Steps p.tables e below (T11.setTop (mkF m 112 #[.val (.int pi1), .val (.int pi2), .val (.long pl3), .second, .val (.int (own_pos pi1)), .val (.int (own_pos pi2)), .val (.long (pl3 &&& (9223372036854775807 : Int64))), .second, .val (.ref b3), .val (.int (1 : Int32)), .val (.long ((((own_pos pi1).toInt64) * ((own_pos pi2).toInt64)) - ((own_pos pi2).toInt64))), .second, .val (.int (1 : Int32)), .unset] [])) _
    refine XS.aload X11.here hx rfl (hb hby at_112) rfl rfl ?_
    show Steps p.tables e below (T11.setTop (mkF m 114 #[.val (.int pi1), .val (.int pi2), .val (.long pl3), .second, .val (.int (own_pos pi1)), .val (.int (own_pos pi2)), .val (.long (pl3 &&& (9223372036854775807 : Int64))), .second, .val (.ref b3), .val (.int (1 : Int32)), .val (.long ((((own_pos pi1).toInt64) * ((own_pos pi2).toInt64)) - ((own_pos pi2).toInt64))), .second, .val (.int (1 : Int32)), .unset] [(.ref b3)])) _
    refine XS.lload X11.here hx rfl (hb hby at_114) rfl ?_
    show Steps p.tables e below (T11.setTop (mkF m 116 #[.val (.int pi1), .val (.int pi2), .val (.long pl3), .second, .val (.int (own_pos pi1)), .val (.int (own_pos pi2)), .val (.long (pl3 &&& (9223372036854775807 : Int64))), .second, .val (.ref b3), .val (.int (1 : Int32)), .val (.long ((((own_pos pi1).toInt64) * ((own_pos pi2).toInt64)) - ((own_pos pi2).toInt64))), .second, .val (.int (1 : Int32)), .unset] [(.long (pl3 &&& (9223372036854775807 : Int64))), (.ref b3)])) _
    refine st12.trans ?_
    show Steps p.tables e below (T12.setTop (mkF m 119 #[.val (.int pi1), .val (.int pi2), .val (.long pl3), .second, .val (.int (own_pos pi1)), .val (.int (own_pos pi2)), .val (.long (pl3 &&& (9223372036854775807 : Int64))), .second, .val (.ref b3), .val (.int (1 : Int32)), .val (.long ((((own_pos pi1).toInt64) * ((own_pos pi2).toInt64)) - ((own_pos pi2).toInt64))), .second, .val (.int (1 : Int32)), .unset] [(.ref b3)])) _
    refine XS.aload X12.here hx rfl (hb hby at_119) rfl rfl ?_
    show Steps p.tables e below (T12.setTop (mkF m 121 #[.val (.int pi1), .val (.int pi2), .val (.long pl3), .second, .val (.int (own_pos pi1)), .val (.int (own_pos pi2)), .val (.long (pl3 &&& (9223372036854775807 : Int64))), .second, .val (.ref b3), .val (.int (1 : Int32)), .val (.long ((((own_pos pi1).toInt64) * ((own_pos pi2).toInt64)) - ((own_pos pi2).toInt64))), .second, .val (.int (1 : Int32)), .unset] [(.ref b3), (.ref b3)])) _
    refine Jvm.RoadKit.acmp (g := (mkF m 121 #[.val (.int pi1), .val (.int pi2), .val (.long pl3), .second, .val (.int (own_pos pi1)), .val (.int (own_pos pi2)), .val (.long (pl3 &&& (9223372036854775807 : Int64))), .second, .val (.ref b3), .val (.int (1 : Int32)), .val (.long ((((own_pos pi1).toInt64) * ((own_pos pi2).toInt64)) - ((own_pos pi2).toInt64))), .second, .val (.int (1 : Int32)), .unset] [(.ref b3), (.ref b3)])) X12 hx rfl rfl rfl (pc0 := 121) (pc' := 124) (same := true) rfl (hb hby at_121) rfl (decide_eq_true rfl) (by decide) (by decide) ?_
    show Steps p.tables e below (T12.setTop (mkF m 124 #[.val (.int pi1), .val (.int pi2), .val (.long pl3), .second, .val (.int (own_pos pi1)), .val (.int (own_pos pi2)), .val (.long (pl3 &&& (9223372036854775807 : Int64))), .second, .val (.ref b3), .val (.int (1 : Int32)), .val (.long ((((own_pos pi1).toInt64) * ((own_pos pi2).toInt64)) - ((own_pos pi2).toInt64))), .second, .val (.int (1 : Int32)), .unset] [])) _
    refine XS.iconst X12.here hx rfl (hb hby at_124) ?_
    show Steps p.tables e below (T12.setTop (mkF m 125 #[.val (.int pi1), .val (.int pi2), .val (.long pl3), .second, .val (.int (own_pos pi1)), .val (.int (own_pos pi2)), .val (.long (pl3 &&& (9223372036854775807 : Int64))), .second, .val (.ref b3), .val (.int (1 : Int32)), .val (.long ((((own_pos pi1).toInt64) * ((own_pos pi2).toInt64)) - ((own_pos pi2).toInt64))), .second, .val (.int (1 : Int32)), .unset] [(.int (1 : Int32))])) _
    refine XS.goto X12.here hx rfl (pc0 := 125) (pc' := 129) rfl (hb hby at_125) (by decide) (by decide) ?_
    show Steps p.tables e below (T12.setTop (mkF m 129 #[.val (.int pi1), .val (.int pi2), .val (.long pl3), .second, .val (.int (own_pos pi1)), .val (.int (own_pos pi2)), .val (.long (pl3 &&& (9223372036854775807 : Int64))), .second, .val (.ref b3), .val (.int (1 : Int32)), .val (.long ((((own_pos pi1).toInt64) * ((own_pos pi2).toInt64)) - ((own_pos pi2).toInt64))), .second, .val (.int (1 : Int32)), .unset] [(.int (1 : Int32))])) _
    refine XS.istore X12.here hx rfl (hb hby at_129) rfl (l' := #[.val (.int pi1), .val (.int pi2), .val (.long pl3), .second, .val (.int (own_pos pi1)), .val (.int (own_pos pi2)), .val (.long (pl3 &&& (9223372036854775807 : Int64))), .second, .val (.ref b3), .val (.int (1 : Int32)), .val (.long ((((own_pos pi1).toInt64) * ((own_pos pi2).toInt64)) - ((own_pos pi2).toInt64))), .second, .val (.int (1 : Int32)), .val (.int (1 : Int32))]) rfl ?_
    show Steps p.tables e below (T12.setTop (mkF m 131 #[.val (.int pi1), .val (.int pi2), .val (.long pl3), .second, .val (.int (own_pos pi1)), .val (.int (own_pos pi2)), .val (.long (pl3 &&& (9223372036854775807 : Int64))), .second, .val (.ref b3), .val (.int (1 : Int32)), .val (.long ((((own_pos pi1).toInt64) * ((own_pos pi2).toInt64)) - ((own_pos pi2).toInt64))), .second, .val (.int (1 : Int32)), .val (.int (1 : Int32))] [])) _
    refine XS.iload X12.here hx rfl (hb hby at_131) rfl ?_
    show Steps p.tables e below (T12.setTop (mkF m 133 #[.val (.int pi1), .val (.int pi2), .val (.long pl3), .second, .val (.int (own_pos pi1)), .val (.int (own_pos pi2)), .val (.long (pl3 &&& (9223372036854775807 : Int64))), .second, .val (.ref b3), .val (.int (1 : Int32)), .val (.long ((((own_pos pi1).toInt64) * ((own_pos pi2).toInt64)) - ((own_pos pi2).toInt64))), .second, .val (.int (1 : Int32)), .val (.int (1 : Int32))] [(.int (1 : Int32))])) _
    refine XS.ifNo X12.here hx rfl (hb hby at_133) rfl ((if0 _ _).trans (feq (by decide : ¬ ((1 : Int32) = (0 : Int32)))).1) ?_
    show Steps p.tables e below (T12.setTop (mkF m 136 #[.val (.int pi1), .val (.int pi2), .val (.long pl3), .second, .val (.int (own_pos pi1)), .val (.int (own_pos pi2)), .val (.long (pl3 &&& (9223372036854775807 : Int64))), .second, .val (.ref b3), .val (.int (1 : Int32)), .val (.long ((((own_pos pi1).toInt64) * ((own_pos pi2).toInt64)) - ((own_pos pi2).toInt64))), .second, .val (.int (1 : Int32)), .val (.int (1 : Int32))] [])) _
    refine XS.iload X12.here hx rfl (hb hby at_136) rfl ?_
    show Steps p.tables e below (T12.setTop (mkF m 138 #[.val (.int pi1), .val (.int pi2), .val (.long pl3), .second, .val (.int (own_pos pi1)), .val (.int (own_pos pi2)), .val (.long (pl3 &&& (9223372036854775807 : Int64))), .second, .val (.ref b3), .val (.int (1 : Int32)), .val (.long ((((own_pos pi1).toInt64) * ((own_pos pi2).toInt64)) - ((own_pos pi2).toInt64))), .second, .val (.int (1 : Int32)), .val (.int (1 : Int32))] [(.int (1 : Int32))])) _
    refine XS.ifNo X12.here hx rfl (hb hby at_138) rfl ((if0 _ _).trans (feq (by decide : ¬ ((1 : Int32) = (0 : Int32)))).1) ?_
    show Steps p.tables e below (T12.setTop (mkF m 141 #[.val (.int pi1), .val (.int pi2), .val (.long pl3), .second, .val (.int (own_pos pi1)), .val (.int (own_pos pi2)), .val (.long (pl3 &&& (9223372036854775807 : Int64))), .second, .val (.ref b3), .val (.int (1 : Int32)), .val (.long ((((own_pos pi1).toInt64) * ((own_pos pi2).toInt64)) - ((own_pos pi2).toInt64))), .second, .val (.int (1 : Int32)), .val (.int (1 : Int32))] [])) _
    refine XS.iload X12.here hx rfl (hb hby at_141) rfl ?_
    show Steps p.tables e below (T12.setTop (mkF m 143 #[.val (.int pi1), .val (.int pi2), .val (.long pl3), .second, .val (.int (own_pos pi1)), .val (.int (own_pos pi2)), .val (.long (pl3 &&& (9223372036854775807 : Int64))), .second, .val (.ref b3), .val (.int (1 : Int32)), .val (.long ((((own_pos pi1).toInt64) * ((own_pos pi2).toInt64)) - ((own_pos pi2).toInt64))), .second, .val (.int (1 : Int32)), .val (.int (1 : Int32))] [(.int (1 : Int32))])) _
    refine XS.ifNo X12.here hx rfl (hb hby at_143) rfl ((if0 _ _).trans (feq (by decide : ¬ ((1 : Int32) = (0 : Int32)))).1) ?_
    show Steps p.tables e below (T12.setTop (mkF m 146 #[.val (.int pi1), .val (.int pi2), .val (.long pl3), .second, .val (.int (own_pos pi1)), .val (.int (own_pos pi2)), .val (.long (pl3 &&& (9223372036854775807 : Int64))), .second, .val (.ref b3), .val (.int (1 : Int32)), .val (.long ((((own_pos pi1).toInt64) * ((own_pos pi2).toInt64)) - ((own_pos pi2).toInt64))), .second, .val (.int (1 : Int32)), .val (.int (1 : Int32))] [])) _
    refine XS.iconst X12.here hx rfl (hb hby at_146) ?_
    show Steps p.tables e below (T12.setTop (mkF m 147 #[.val (.int pi1), .val (.int pi2), .val (.long pl3), .second, .val (.int (own_pos pi1)), .val (.int (own_pos pi2)), .val (.long (pl3 &&& (9223372036854775807 : Int64))), .second, .val (.ref b3), .val (.int (1 : Int32)), .val (.long ((((own_pos pi1).toInt64) * ((own_pos pi2).toInt64)) - ((own_pos pi2).toInt64))), .second, .val (.int (1 : Int32)), .val (.int (1 : Int32))] [(.int (1 : Int32))])) _
    refine XS.goto X12.here hx rfl (pc0 := 147) (pc' := 151) rfl (hb hby at_147) (by decide) (by decide) ?_
    show Steps p.tables e below (T12.setTop (mkF m 151 #[.val (.int pi1), .val (.int pi2), .val (.long pl3), .second, .val (.int (own_pos pi1)), .val (.int (own_pos pi2)), .val (.long (pl3 &&& (9223372036854775807 : Int64))), .second, .val (.ref b3), .val (.int (1 : Int32)), .val (.long ((((own_pos pi1).toInt64) * ((own_pos pi2).toInt64)) - ((own_pos pi2).toInt64))), .second, .val (.int (1 : Int32)), .val (.int (1 : Int32))] [(.int (1 : Int32))])) _
    exact retN X12 hx (t := .boolean) Bd.returns (by simp) (hb hby at_151) hr
  · exact ⟨rfl, N12⟩
set_option maxRecDepth 65536 in
set_option maxHeartbeats 40000000 in
theorem rm0 (l : Launch) (Z : State) (a0 : Array Value) (hw : ∀ d ∈ tables_1, d.before a0 Z = true) (ws : List Jvm.Cond) (pi1 : Int32) (pi2 : Int32) (pl3 : Int64) (h0 : Heap) (n0 : Nat) (Z0 : n0 ≤ h0.size) (O0 : Old Z n0 h0) :
    MetFree l x (head1 (Jvm.Cond.code x code maxLocals ret :: ws) room_1) (fun a U => a = #[(.int pi1), (.int pi2), (.long pl3)] ∧ Z.Warmed39 U.vm ∧ U.heap = h0) (fun _ _ _ _ _ => True) (fun _ U o U' => ∃ v L, o = .returned v ∧ Q0 v L n0 ∧ FrameEnd U o U' L room_1.cells room_1.slots) := by
  exact rm0_o l Z a0 hw ws pi1 pi2 pl3 h0 n0 Z0 O0  
set_option maxRecDepth 65536 in
set_option maxHeartbeats 40000000 in
theorem comes_1 {Post : Tables → Env → Array Value → State → Outcome → State → Prop} (hpost : ∀ tb e args s v u, (limb_1_1.after args s (.returned v) u = true ∧ limb_1_2.after args s (.returned v) u = true ∧ True) → FrameEnd s (.returned v) u (Jvm.fieldLocs frame_1_writes args s ++ Jvm.arrayLocs frame_1_arrays args s ++ Jvm.staticLocs frame_1_statics s) 16 128 → Post tb e args s (.returned v) u) :
    ArmFor flags0 classFile x code maxLocals ret World_1 tables_1 room_1 Calls_1 rest_1 Pre_1 Post := by
  intro l hfl _ _ p e ha hc hk s m args below hf hA hF happ hP
  obtain ⟨hcalls, hrest, hpre⟩ := hP
  obtain ⟨-, -, -, hnamed, -, -, -, hat⟩ := (Spec.applies_iff hf).mp happ
  obtain ⟨hg, hn⟩ := and_e (Cond.before_iff.mp (show (Jvm.Cond.and given_1 narrow_1).before args s = true from hpre))
  obtain ⟨g1, g2⟩ := and_e hg
  obtain ⟨g3, g4⟩ := and_e g2
  obtain ⟨g5, g6⟩ := and_e g4
  obtain ⟨w0, w1, w2, rfl⟩ : ∃ w0 w1 w2 : Value, args = #[w0, w1, w2] := by
    have hs : args.size = 3 := by simpa [Cond.value, given_1] using g1
    obtain ⟨L⟩ := args
    match L, hs with
    | [w0, w1, w2], _ => exact ⟨w0, w1, w2, rfl⟩
  have hw := fun d (hd : d ∈ tables_1) => atoms_spec (ws := Jvm.Cond.code x code maxLocals ret :: tables_1) hat d (List.mem_cons_of_mem _ hd)
  have hfit : Fit s := fun {y c} hc i hi => by
    obtain ⟨ha, rfl⟩ := Array.getElem?_eq_some_iff.mp hc
    have q := List.all_eq_true.mp ((Array.all_eq_true_iff_forall_mem.mp hF) _ (Array.getElem_mem ha)) i (List.mem_range.mpr hi)
    simpa [Array.getElem?_eq_getElem hi] using q
  obtain ⟨i0, ei0⟩ := is_v g3
  obtain rfl : w0 = (.int i0) := Option.some.inj ei0
  obtain ⟨i1, ei1⟩ := is_v g5
  obtain rfl : w1 = (.int i1) := Option.some.inj ei1
  obtain ⟨i2, ei2⟩ := isL_v g6
  obtain rfl : w2 = (.long i2) := Option.some.inj ei2
  obtain ⟨n, o, h1, h2, h3, _, L, rfl, ⟨rfl, N⟩, hq⟩ := rm0 l s _ hw tables_1 i0 i1 i2  s.heap s.heap.size (Nat.le_refl _) (Old.start s)  p e ha hc hk s m _ below hf ((Spec.applies_iff_loose hf).mp happ).1 ⟨rfl, State.Warmed39.refl s, rfl⟩ trivial
  refine ⟨n, _, h1, h2, h3, hpost _ _ _ _ _ _ ⟨Cond.after_iff.mpr rfl, Cond.after_iff.mpr (eq_i res_at (Term.int_eval (1)) rfl), trivial⟩ ⟨hq.1, hq.2.1, (hq.2.2.sift fun y hy => Or.inr (N y hy)).mono (by decide) (by decide)⟩⟩
theorem main_1_1 : Claimed_1_1 := comes_1 fun _ _ _ _ _ _ h hF => ⟨h.1, hF⟩
theorem main_1_2 : Claimed_1_2 := comes_1 fun _ _ _ _ _ _ h hF => ⟨h.2.1, hF⟩
end Jvm.Pilot.@@N@@
namespace Jvm.Pilot.@@N@@
open Jvm Jvm.ClassFile Sem Op Lib Jvm.Free Jvm.Stand Jvm.Pilot.@@N@@.Jvm.D
/-! MADE BY PROGRAM (witnessworld.py) out of the Statement's table words and the real class files: 8 classes; the members and pool entries that the words name. The judged class is class 1, her method 2. -/
namespace start1
open Jvm.ClassFile
def u (s : String) : CpInfo := .utf8 (stringToUtf16 s)
/-- a pool by its gaps: so many unusable entries, then the entry; so many at the end -/
def gap : Nat → List CpInfo → List CpInfo
  | 0, r => r
  | n + 1, r => .unusable :: gap n r
def poolList (es : List (Nat × CpInfo)) (last : Nat) : List CpInfo := es.foldr (fun e r => gap e.1 (e.2 :: r)) (gap last [])
def pool (es : List (Nat × CpInfo)) (last : Nat) : Array CpInfo := ⟨poolList es last⟩
def fileOf (pool : Array CpInfo) (this : Nat) (attrs : Array Attribute := #[]) (ms : Array MethodInfo := #[]) (fl : Nat := 33) (sup : Nat := 0) (ifs : Array Nat := #[]) (fds : Array FieldInfo := #[]) : ClassFile where
  minorVersion := 0
  majorVersion := 65
  constantPool := pool
  accessFlags := fl
  thisClass := this
  superClass := sup
  interfaces := ifs
  fields := fds
  methods := ms
  attributes := attrs
def plain (name : String) (sup : Option ClassId) : Class where
  name := name
  kind := .ordinary
  loader := none
  accessFlags := 33
  super := sup
  interfaces := #[]
  cf := none
  fields := #[]
  methods := #[]
  instanceTypes := #[]
  staticTypes := #[]
  resolved := #[]
  callSites := []
  init := .initialized
  statics := none
  mirror := none

def pool0 : Array CpInfo := pool [(5, u "<init>"), (0, u "()V"), (1, .class_ 10), (1, u "java/lang/Object")] 113

def k0c0 : Code := { maxStack := 0, maxLocals := 1, code := object_method_1_code, exceptionTable := #[], attributes := #[] }
def k0m0 : Method := { name := "<init>", desc := "()V", sig := { parameters := [], returnType := none }, accessFlags := 1, code := some k0c0 }
/-- java/lang/Object -/
def k0 : Class := { plain "java/lang/Object" none with
  accessFlags := 33
  interfaces := #[]
  cf := some (fileOf pool0 8 #[] #[{ accessFlags := 1, nameIndex := 5, descriptorIndex := 6, attributes := #[] }] 33 0 #[] #[])
  fields := #[]
  methods := #[k0m0]
  instanceTypes := #[]
  staticTypes := #[]
  resolved := Array.replicate 124 none
  statics := none }

def pool1 : Array CpInfo := pool [(2, .class_ 4), (1, u "java/lang/Object"), (0, u "<init>"), (0, u "()V"), (0, .integer 2147483647), (0, .methodref 9 10), (0, .class_ 11), (0, .nameAndType 12 13), (0, u "com/example/leafcount/leafcount/PageRequestOfPinLaw"), (0, u "positive"), (0, u "(I)I"), (2, .long 9223372036854775807), (1, .methodref 19 20), (0, .class_ 21), (0, .nameAndType 22 23), (0, u "com/example/leafcount/leafcount/PageRequest"), (0, u "of"), (0, u "(II)Lcom/example/leafcount/leafcount/PageRequest;"), (0, .methodref 19 25), (0, .nameAndType 26 27), (0, u "page"), (0, u "()I"), (0, .methodref 19 29), (0, .nameAndType 30 27), (0, u "size"), (0, .methodref 19 32), (0, .nameAndType 33 27), (0, u "navigationSize"), (0, .methodref 19 35), (0, .nameAndType 36 37), (0, u "clamps"), (0, u "()Z"), (0, .methodref 19 39), (0, .nameAndType 40 41), (0, u "sort"), (0, u "()Lcom/example/leafcount/leafcount/Sort;"), (0, .methodref 19 43), (0, .nameAndType 44 45), (0, u "offset"), (0, u "()J"), (0, .methodref 19 47), (0, .nameAndType 48 49), (0, u "within"), (0, u "(J)Lcom/example/leafcount/leafcount/PageRequest;"), (3, u "law"), (0, u "(IIJ)Z")] 2

def k1m0 : Method := { name := "<init>", desc := "()V", sig := { parameters := [], returnType := none }, accessFlags := 2, code := none }
def k1c1 : Code := { maxStack := 2, maxLocals := 2, code := method_2_code, exceptionTable := #[], attributes := #[] }
def k1m1 : Method := { name := "positive", desc := "(I)I", sig := { parameters := [.int], returnType := some .int }, accessFlags := 10, code := some k1c1 }
def k1c2 : Code := { maxStack := 4, maxLocals := 14, code := code, exceptionTable := #[], attributes := #[] }
def k1m2 : Method := { name := "law", desc := "(IIJ)Z", sig := { parameters := [.int, .int, .long], returnType := some .boolean }, accessFlags := 9, code := some k1c2 }
/-- com/example/leafcount/leafcount/PageRequestOfPinLaw -/
def k1 : Class := { plain "com/example/leafcount/leafcount/PageRequestOfPinLaw" (some 0) with
  accessFlags := 49
  interfaces := #[]
  cf := some (fileOf pool1 9 #[] #[{ accessFlags := 2, nameIndex := 5, descriptorIndex := 6, attributes := #[] }, { accessFlags := 10, nameIndex := 12, descriptorIndex := 13, attributes := #[] }, { accessFlags := 9, nameIndex := 53, descriptorIndex := 54, attributes := #[] }] 49 2 #[] #[])
  fields := #[]
  methods := #[k1m0, k1m1, k1m2]
  instanceTypes := #[]
  staticTypes := #[]
  resolved := Array.replicate 57 none
  statics := none }

def pool2 : Array CpInfo := pool [(1, .methodref 2 3), (0, .class_ 4), (0, .nameAndType 5 6), (0, u "java/lang/Object"), (0, u "<init>"), (0, u "()V"), (0, .fieldref 8 9), (0, .class_ 10), (0, .nameAndType 11 12), (0, u "com/example/leafcount/leafcount/PageRequest"), (0, u "page"), (0, u "I"), (0, .fieldref 8 14), (0, .nameAndType 15 12), (0, u "size"), (0, .fieldref 8 17), (0, .nameAndType 18 12), (0, u "navigationSize"), (0, .fieldref 8 20), (0, .nameAndType 21 22), (0, u "clamps"), (0, u "Z"), (0, .fieldref 8 24), (0, .nameAndType 25 26), (0, u "sort"), (0, u "Lcom/example/leafcount/leafcount/Sort;"), (9, .methodref 8 37), (0, .nameAndType 38 39), (0, u "checkSize"), (0, u "(I)V"), (0, .methodref 8 41), (0, .nameAndType 5 42), (0, u "(IIIZLcom/example/leafcount/leafcount/Sort;)V"), (1, .class_ 46), (1, u "java/lang/Math"), (0, u "max"), (11, .methodref 8 60), (0, .nameAndType 61 62), (0, u "checkTotal"), (0, u "(J)V"), (0, .methodref 8 64), (0, .nameAndType 65 66), (0, u "pages"), (0, u "(J)J"), (0, .methodref 44 68), (0, .nameAndType 47 69), (0, u "(JJ)J"), (38, u "DEFAULT_NAVIGATION_SIZE"), (4, u "of"), (0, u "(II)Lcom/example/leafcount/leafcount/PageRequest;"), (6, u "()I"), (0, u "()Z"), (0, u "()Lcom/example/leafcount/leafcount/Sort;"), (0, u "offset"), (0, u "()J"), (0, u "within"), (0, u "(J)Lcom/example/leafcount/leafcount/PageRequest;")] 31

def k2c0 : Code := { maxStack := 2, maxLocals := 6, code := prog_22_method_1_code, exceptionTable := #[], attributes := #[] }
def k2m0 : Method := { name := "<init>", desc := "(IIIZLcom/example/leafcount/leafcount/Sort;)V", sig := { parameters := [.int, .int, .int, .boolean, (.object "com/example/leafcount/leafcount/Sort")], returnType := none }, accessFlags := 2, code := some k2c0 }
def k2c1 : Code := { maxStack := 7, maxLocals := 2, code := prog_22_method_2_code, exceptionTable := #[], attributes := #[] }
def k2m1 : Method := { name := "of", desc := "(II)Lcom/example/leafcount/leafcount/PageRequest;", sig := { parameters := [.int, .int], returnType := some (.object "com/example/leafcount/leafcount/PageRequest") }, accessFlags := 9, code := some k2c1 }
def k2c2 : Code := { maxStack := 1, maxLocals := 1, code := prog_22_method_6_code, exceptionTable := #[], attributes := #[] }
def k2m2 : Method := { name := "page", desc := "()I", sig := { parameters := [], returnType := some .int }, accessFlags := 1, code := some k2c2 }
def k2c3 : Code := { maxStack := 1, maxLocals := 1, code := prog_22_method_7_code, exceptionTable := #[], attributes := #[] }
def k2m3 : Method := { name := "size", desc := "()I", sig := { parameters := [], returnType := some .int }, accessFlags := 1, code := some k2c3 }
def k2c4 : Code := { maxStack := 1, maxLocals := 1, code := prog_22_method_8_code, exceptionTable := #[], attributes := #[] }
def k2m4 : Method := { name := "navigationSize", desc := "()I", sig := { parameters := [], returnType := some .int }, accessFlags := 1, code := some k2c4 }
def k2c5 : Code := { maxStack := 1, maxLocals := 1, code := prog_22_method_9_code, exceptionTable := #[], attributes := #[] }
def k2m5 : Method := { name := "clamps", desc := "()Z", sig := { parameters := [], returnType := some .boolean }, accessFlags := 1, code := some k2c5 }
def k2c6 : Code := { maxStack := 1, maxLocals := 1, code := prog_22_method_10_code, exceptionTable := #[], attributes := #[] }
def k2m6 : Method := { name := "sort", desc := "()Lcom/example/leafcount/leafcount/Sort;", sig := { parameters := [], returnType := some (.object "com/example/leafcount/leafcount/Sort") }, accessFlags := 0, code := some k2c6 }
def k2c7 : Code := { maxStack := 4, maxLocals := 1, code := prog_22_method_11_code, exceptionTable := #[], attributes := #[] }
def k2m7 : Method := { name := "offset", desc := "()J", sig := { parameters := [], returnType := some .long }, accessFlags := 1, code := some k2c7 }
def k2c8 : Code := { maxStack := 7, maxLocals := 5, code := prog_22_method_12_code, exceptionTable := #[], attributes := #[] }
def k2m8 : Method := { name := "within", desc := "(J)Lcom/example/leafcount/leafcount/PageRequest;", sig := { parameters := [.long], returnType := some (.object "com/example/leafcount/leafcount/PageRequest") }, accessFlags := 1, code := some k2c8 }
def k2c9 : Code := { maxStack := 4, maxLocals := 5, code := prog_22_method_13_code, exceptionTable := #[], attributes := #[] }
def k2m9 : Method := { name := "pages", desc := "(J)J", sig := { parameters := [.long], returnType := some .long }, accessFlags := 0, code := some k2c9 }
def k2c10 : Code := { maxStack := 3, maxLocals := 1, code := prog_22_method_17_code, exceptionTable := #[], attributes := #[] }
def k2m10 : Method := { name := "checkSize", desc := "(I)V", sig := { parameters := [.int], returnType := none }, accessFlags := 10, code := some k2c10 }
def k2c11 : Code := { maxStack := 4, maxLocals := 2, code := prog_22_method_18_code, exceptionTable := #[], attributes := #[] }
def k2m11 : Method := { name := "checkTotal", desc := "(J)V", sig := { parameters := [.long], returnType := none }, accessFlags := 8, code := some k2c11 }
/-- com/example/leafcount/leafcount/PageRequest -/
def k2 : Class := { plain "com/example/leafcount/leafcount/PageRequest" (some 0) with
  accessFlags := 49
  interfaces := #[]
  cf := some (fileOf pool2 8 #[] #[{ accessFlags := 2, nameIndex := 5, descriptorIndex := 42, attributes := #[] }, { accessFlags := 9, nameIndex := 113, descriptorIndex := 114, attributes := #[] }, { accessFlags := 1, nameIndex := 11, descriptorIndex := 121, attributes := #[] }, { accessFlags := 1, nameIndex := 15, descriptorIndex := 121, attributes := #[] }, { accessFlags := 1, nameIndex := 18, descriptorIndex := 121, attributes := #[] }, { accessFlags := 1, nameIndex := 21, descriptorIndex := 122, attributes := #[] }, { accessFlags := 0, nameIndex := 25, descriptorIndex := 123, attributes := #[] }, { accessFlags := 1, nameIndex := 124, descriptorIndex := 125, attributes := #[] }, { accessFlags := 1, nameIndex := 126, descriptorIndex := 127, attributes := #[] }, { accessFlags := 0, nameIndex := 65, descriptorIndex := 66, attributes := #[] }, { accessFlags := 10, nameIndex := 38, descriptorIndex := 39, attributes := #[] }, { accessFlags := 8, nameIndex := 61, descriptorIndex := 62, attributes := #[] }] 49 2 #[] #[{ accessFlags := 26, nameIndex := 108, descriptorIndex := 12, attributes := #[] }, { accessFlags := 18, nameIndex := 11, descriptorIndex := 12, attributes := #[] }, { accessFlags := 18, nameIndex := 15, descriptorIndex := 12, attributes := #[] }, { accessFlags := 18, nameIndex := 18, descriptorIndex := 12, attributes := #[] }, { accessFlags := 18, nameIndex := 21, descriptorIndex := 22, attributes := #[] }, { accessFlags := 18, nameIndex := 25, descriptorIndex := 26, attributes := #[] }])
  fields := #[{ name := "DEFAULT_NAVIGATION_SIZE", type := .int, accessFlags := 26, slot := 0, constantValue := 0 }, { name := "page", type := .int, accessFlags := 18, slot := 0, constantValue := 0 }, { name := "size", type := .int, accessFlags := 18, slot := 1, constantValue := 0 }, { name := "navigationSize", type := .int, accessFlags := 18, slot := 2, constantValue := 0 }, { name := "clamps", type := .boolean, accessFlags := 18, slot := 3, constantValue := 0 }, { name := "sort", type := (.object "com/example/leafcount/leafcount/Sort"), accessFlags := 18, slot := 4, constantValue := 0 }]
  methods := #[k2m0, k2m1, k2m2, k2m3, k2m4, k2m5, k2m6, k2m7, k2m8, k2m9, k2m10, k2m11]
  instanceTypes := #[.int, .int, .int, .boolean, (.object "com/example/leafcount/leafcount/Sort")]
  staticTypes := #[.int]
  resolved := Array.replicate 159 none
  statics := none }

def pool3 : Array CpInfo := pool [(1, .class_ 2), (0, u "java/lang/Math"), (1, .class_ 6), (1, u "java/lang/Object"), (0, u "<init>"), (0, u "()V"), (89, .class_ 100), (1, u "java/lang/Math$RandomNumberGeneratorHolder"), (20, u "(JJ)J"), (50, u "negativeZeroFloatBits"), (0, u "J"), (2, u "negativeZeroDoubleBits"), (21, u "max"), (46, u "$assertionsDisabled"), (0, u "Z"), (91, u "twoToTheDoubleScaleDown"), (0, u "D"), (4, u "twoToTheDoubleScaleUp"), (9, u "E"), (3, u "PI"), (2, u "TAU"), (2, u "DEGREES_TO_RADIANS"), (0, u "RADIANS_TO_DEGREES")] 94

def k3m0 : Method := { name := "<init>", desc := "()V", sig := { parameters := [], returnType := none }, accessFlags := 2, code := none }
def k3c1 : Code := { maxStack := 4, maxLocals := 4, code := jdk_29_method_66_code, exceptionTable := #[], attributes := #[] }
def k3m1 : Method := { name := "max", desc := "(JJ)J", sig := { parameters := [.long, .long], returnType := some .long }, accessFlags := 9, code := some k3c1 }
/-- java/lang/Math -/
def k3 : Class := { plain "java/lang/Math" (some 0) with
  accessFlags := 49
  interfaces := #[]
  cf := some (fileOf pool3 1 #[.nestMembers #[98]] #[{ accessFlags := 2, nameIndex := 7, descriptorIndex := 8, attributes := #[] }, { accessFlags := 9, nameIndex := 198, descriptorIndex := 121, attributes := #[] }] 49 4 #[] #[{ accessFlags := 25, nameIndex := 354, descriptorIndex := 339, attributes := #[] }, { accessFlags := 25, nameIndex := 358, descriptorIndex := 339, attributes := #[] }, { accessFlags := 25, nameIndex := 361, descriptorIndex := 339, attributes := #[] }, { accessFlags := 26, nameIndex := 364, descriptorIndex := 339, attributes := #[] }, { accessFlags := 26, nameIndex := 365, descriptorIndex := 339, attributes := #[] }, { accessFlags := 26, nameIndex := 172, descriptorIndex := 173, attributes := #[] }, { accessFlags := 26, nameIndex := 176, descriptorIndex := 173, attributes := #[] }, { accessFlags := 8, nameIndex := 344, descriptorIndex := 339, attributes := #[] }, { accessFlags := 8, nameIndex := 338, descriptorIndex := 339, attributes := #[] }, { accessFlags := 4120, nameIndex := 245, descriptorIndex := 246, attributes := #[] }])
  fields := #[{ name := "E", type := .double, accessFlags := 25, slot := 0, constantValue := 0 }, { name := "PI", type := .double, accessFlags := 25, slot := 1, constantValue := 0 }, { name := "TAU", type := .double, accessFlags := 25, slot := 2, constantValue := 0 }, { name := "DEGREES_TO_RADIANS", type := .double, accessFlags := 26, slot := 3, constantValue := 0 }, { name := "RADIANS_TO_DEGREES", type := .double, accessFlags := 26, slot := 4, constantValue := 0 }, { name := "negativeZeroFloatBits", type := .long, accessFlags := 26, slot := 5, constantValue := 0 }, { name := "negativeZeroDoubleBits", type := .long, accessFlags := 26, slot := 6, constantValue := 0 }, { name := "twoToTheDoubleScaleUp", type := .double, accessFlags := 8, slot := 7, constantValue := 0 }, { name := "twoToTheDoubleScaleDown", type := .double, accessFlags := 8, slot := 8, constantValue := 0 }, { name := "$assertionsDisabled", type := .boolean, accessFlags := 4120, slot := 9, constantValue := 0 }]
  methods := #[k3m0, k3m1]
  instanceTypes := #[]
  staticTypes := #[.double, .double, .double, .double, .double, .long, .long, .double, .double, .boolean]
  resolved := Array.replicate 460 none
  statics := none }

def pool4 : Array CpInfo := pool [(1, u "java/lang/Cloneable"), (0, .class_ 1), (0, u "java/lang/Object"), (0, .class_ 3)] 3

/-- java/lang/Cloneable -/
def k4 : Class := { plain "java/lang/Cloneable" (some 0) with
  accessFlags := 1537
  interfaces := #[]
  cf := some (fileOf pool4 2 #[] #[] 1537 4 #[] #[])
  fields := #[]
  methods := #[]
  instanceTypes := #[]
  staticTypes := #[]
  resolved := Array.replicate 8 none
  statics := none }

def pool5 : Array CpInfo := pool [(1, u "java/io/Serializable"), (0, .class_ 1), (0, u "java/lang/Object"), (0, .class_ 3)] 3

/-- java/io/Serializable -/
def k5 : Class := { plain "java/io/Serializable" (some 0) with
  accessFlags := 1537
  interfaces := #[]
  cf := some (fileOf pool5 2 #[] #[] 1537 4 #[] #[])
  fields := #[]
  methods := #[]
  instanceTypes := #[]
  staticTypes := #[]
  resolved := Array.replicate 8 none
  statics := none }

/-- the primitive byte -/
def k6 : Class := { plain "byte" none with kind := .primitive 'B', accessFlags := 0x411 }
/-- [B -/
def k7 : Class := { plain "[B" (some 0) with kind := .array 6 .byte, interfaces := #[4, 5], accessFlags := 1041 }

def heap : Heap := #[]
def classes : Array Class := #[k0, k1, k2, k3, k4, k5, k6, k7]
def interned : List (Array UInt16 × Addr) := []
def slotsUsed : Nat := 0
def theMethod : MethodId := ⟨1, 2⟩
def args0 : Array Value := #[.int 1, .int 2, .long 5]
def aboutOver (below : List Frame) : State where
  vm := { classes := classes, interned := interned.toArray }
  heap := heap
  slotsUsed := slotsUsed
  threads := #[{ frames := .invoking theMethod args0 :: below }]
def below0 : List Frame := [.native { method := ⟨0, 0⟩, args := #[] }]
def about1 : State := aboutOver below0
def p0 : Program := .bare "" "" ""
def e0 : Env := launch0.env 0 0 0
theorem w_frames : about1.frames = Frame.invoking theMethod args0 :: below0 := rfl
set_option maxRecDepth 65536 in
theorem w_args : argsFit about1.vm theMethod args0 = true := by decide +kernel
set_option maxRecDepth 65536 in
theorem w_heap : heapFits about1 = true := by decide +kernel
set_option maxRecDepth 65536 in
theorem w_runnable : about1.curStatus? = some .runnable := by decide +kernel
set_option maxRecDepth 65536 in
theorem w_alone : about1.alone = true := by decide +kernel
set_option maxRecDepth 65536 in
theorem w_named : about1.methodNamed? x = some theMethod := by decide +kernel
set_option maxRecDepth 65536 in
theorem w_hears : about1.hears theMethod below0 = true := by decide +kernel
set_option maxRecDepth 65536 in
theorem w_ripe : about1.ripe theMethod args0 below0 = true := by decide +kernel
theorem w_running : about1.status = .running := rfl
set_option maxRecDepth 65536 in
theorem w_room : about1.hasRoom e0.platform room_1 = true :=
  launch0.hasRoom_least _ room_1 (by decide +kernel) (by decide +kernel) (by decide +kernel) (by decide +kernel) (by decide +kernel) (by decide +kernel)
theorem allAtoms_all (ts : List Jvm.Cond) (a : Array Jvm.Value) (st : Jvm.State) : (allAtoms ts).before a st = ts.all (fun c => c.before a st) := by
  induction ts with
  | nil => rfl
  | cons c t ih =>
    show (Jvm.Cond.and c (allAtoms t)).before a st = _
    rw [Jvm.Cond.before_and, ih, List.all_cons]
def words1 : List Jvm.Cond := Jvm.Cond.code x code maxLocals ret :: tables_1
/-- a 'code' word, met by the world's own term for the bytes: nothing is compared byte by byte -/
theorem code_word {y : MethodName} {bytes : ByteArray} {mx : Nat} {rt : Option FieldType} {a : Array Value} {s : State} {m : MethodId} {meth : Method} {c : Code} (h1 : s.methodNamed? y = some m) (h2 : s.vm.method? m = some meth) (h3 : meth.code = some c) (h4 : c.code = bytes)
    (h5 : (c.maxLocals == mx && c.exceptionTable.isEmpty && decide (c.maxStack ≤ mostOperands) && decide (meth.sig.returnType = rt) && !meth.locks && decide (parseMethodDescriptor y.desc = some meth.sig)) = true) : (Jvm.Cond.code y bytes mx rt).before a s = true := by
  simp only [Bool.and_eq_true, beq_iff_eq, Bool.not_eq_true', decide_eq_true_eq] at h5
  obtain ⟨⟨⟨⟨⟨g1, g2⟩, g3⟩, g4⟩, g5⟩, g6⟩ := h5
  simp [Cond.before, Cond.holds, Cond.value, h1, h2, h3, h4, g1, g2, g3, g4, g5, g6]
def isCode : Jvm.Cond → Bool
  | .code _ _ _ _ => true
  | _ => false
theorem all_split {L : List Jvm.Cond} {P : Jvm.Cond → Bool} (h1 : L.all (fun c => isCode c || P c) = true) (h2 : ∀ c ∈ L.filter isCode, P c = true) : L.all P = true := by
  refine List.all_eq_true.mpr fun c hc => ?_
  have h := List.all_eq_true.mp h1 c hc
  rcases Bool.eq_false_or_eq_true (isCode c) with hi | hi
  · exact h2 c (List.mem_filter.mpr ⟨hc, hi⟩)
  · simpa [hi] using h
set_option maxRecDepth 65536 in
theorem w_c0 : (Jvm.Cond.code x code maxLocals ret).before args0 about1 = true := code_word (m := ⟨1, 2⟩) (meth := k1m2) (c := k1c2) (by decide +kernel) rfl rfl rfl (by decide +kernel)
set_option maxRecDepth 65536 in
theorem w_c1 : (Jvm.Cond.code ({ cls := "com/example/leafcount/leafcount/PageRequestOfPinLaw", name := "positive", desc := "(I)I" } : Jvm.MethodName) method_2_code (2 : Nat) (Option.some Jvm.ClassFile.FieldType.int)).before args0 about1 = true := code_word (m := ⟨1, 1⟩) (meth := k1m1) (c := k1c1) (by decide +kernel) rfl rfl rfl (by decide +kernel)
set_option maxRecDepth 65536 in
theorem w_c2 : (Jvm.Cond.code ({ cls := "com/example/leafcount/leafcount/PageRequest", name := "of", desc := "(II)Lcom/example/leafcount/leafcount/PageRequest;" } : Jvm.MethodName) prog_22_method_2_code (2 : Nat) (Option.some (Jvm.ClassFile.FieldType.object "com/example/leafcount/leafcount/PageRequest"))).before args0 about1 = true := code_word (m := ⟨2, 1⟩) (meth := k2m1) (c := k2c1) (by decide +kernel) rfl rfl rfl (by decide +kernel)
set_option maxRecDepth 65536 in
theorem w_c3 : (Jvm.Cond.code ({ cls := "com/example/leafcount/leafcount/PageRequest", name := "checkSize", desc := "(I)V" } : Jvm.MethodName) prog_22_method_17_code (1 : Nat) (Option.none : Option Jvm.ClassFile.FieldType)).before args0 about1 = true := code_word (m := ⟨2, 10⟩) (meth := k2m10) (c := k2c10) (by decide +kernel) rfl rfl rfl (by decide +kernel)
set_option maxRecDepth 65536 in
theorem w_c4 : (Jvm.Cond.code ({ cls := "com/example/leafcount/leafcount/PageRequest", name := "<init>", desc := "(IIIZLcom/example/leafcount/leafcount/Sort;)V" } : Jvm.MethodName) prog_22_method_1_code (6 : Nat) (Option.none : Option Jvm.ClassFile.FieldType)).before args0 about1 = true := code_word (m := ⟨2, 0⟩) (meth := k2m0) (c := k2c0) (by decide +kernel) rfl rfl rfl (by decide +kernel)
set_option maxRecDepth 65536 in
theorem w_c5 : (Jvm.Cond.code ({ cls := "java/lang/Object", name := "<init>", desc := "()V" } : Jvm.MethodName) object_method_1_code (1 : Nat) (Option.none : Option Jvm.ClassFile.FieldType)).before args0 about1 = true := code_word (m := ⟨0, 0⟩) (meth := k0m0) (c := k0c0) (by decide +kernel) rfl rfl rfl (by decide +kernel)
set_option maxRecDepth 65536 in
theorem w_c6 : (Jvm.Cond.code ({ cls := "com/example/leafcount/leafcount/PageRequest", name := "page", desc := "()I" } : Jvm.MethodName) prog_22_method_6_code (1 : Nat) (Option.some Jvm.ClassFile.FieldType.int)).before args0 about1 = true := code_word (m := ⟨2, 2⟩) (meth := k2m2) (c := k2c2) (by decide +kernel) rfl rfl rfl (by decide +kernel)
set_option maxRecDepth 65536 in
theorem w_c7 : (Jvm.Cond.code ({ cls := "com/example/leafcount/leafcount/PageRequest", name := "size", desc := "()I" } : Jvm.MethodName) prog_22_method_7_code (1 : Nat) (Option.some Jvm.ClassFile.FieldType.int)).before args0 about1 = true := code_word (m := ⟨2, 3⟩) (meth := k2m3) (c := k2c3) (by decide +kernel) rfl rfl rfl (by decide +kernel)
set_option maxRecDepth 65536 in
theorem w_c8 : (Jvm.Cond.code ({ cls := "com/example/leafcount/leafcount/PageRequest", name := "navigationSize", desc := "()I" } : Jvm.MethodName) prog_22_method_8_code (1 : Nat) (Option.some Jvm.ClassFile.FieldType.int)).before args0 about1 = true := code_word (m := ⟨2, 4⟩) (meth := k2m4) (c := k2c4) (by decide +kernel) rfl rfl rfl (by decide +kernel)
set_option maxRecDepth 65536 in
theorem w_c9 : (Jvm.Cond.code ({ cls := "com/example/leafcount/leafcount/PageRequest", name := "clamps", desc := "()Z" } : Jvm.MethodName) prog_22_method_9_code (1 : Nat) (Option.some Jvm.ClassFile.FieldType.boolean)).before args0 about1 = true := code_word (m := ⟨2, 5⟩) (meth := k2m5) (c := k2c5) (by decide +kernel) rfl rfl rfl (by decide +kernel)
set_option maxRecDepth 65536 in
theorem w_c10 : (Jvm.Cond.code ({ cls := "com/example/leafcount/leafcount/PageRequest", name := "sort", desc := "()Lcom/example/leafcount/leafcount/Sort;" } : Jvm.MethodName) prog_22_method_10_code (1 : Nat) (Option.some (Jvm.ClassFile.FieldType.object "com/example/leafcount/leafcount/Sort"))).before args0 about1 = true := code_word (m := ⟨2, 6⟩) (meth := k2m6) (c := k2c6) (by decide +kernel) rfl rfl rfl (by decide +kernel)
set_option maxRecDepth 65536 in
theorem w_c11 : (Jvm.Cond.code ({ cls := "com/example/leafcount/leafcount/PageRequest", name := "offset", desc := "()J" } : Jvm.MethodName) prog_22_method_11_code (1 : Nat) (Option.some Jvm.ClassFile.FieldType.long)).before args0 about1 = true := code_word (m := ⟨2, 7⟩) (meth := k2m7) (c := k2c7) (by decide +kernel) rfl rfl rfl (by decide +kernel)
set_option maxRecDepth 65536 in
theorem w_c12 : (Jvm.Cond.code ({ cls := "com/example/leafcount/leafcount/PageRequest", name := "within", desc := "(J)Lcom/example/leafcount/leafcount/PageRequest;" } : Jvm.MethodName) prog_22_method_12_code (5 : Nat) (Option.some (Jvm.ClassFile.FieldType.object "com/example/leafcount/leafcount/PageRequest"))).before args0 about1 = true := code_word (m := ⟨2, 8⟩) (meth := k2m8) (c := k2c8) (by decide +kernel) rfl rfl rfl (by decide +kernel)
set_option maxRecDepth 65536 in
theorem w_c13 : (Jvm.Cond.code ({ cls := "com/example/leafcount/leafcount/PageRequest", name := "checkTotal", desc := "(J)V" } : Jvm.MethodName) prog_22_method_18_code (2 : Nat) (Option.none : Option Jvm.ClassFile.FieldType)).before args0 about1 = true := code_word (m := ⟨2, 11⟩) (meth := k2m11) (c := k2c11) (by decide +kernel) rfl rfl rfl (by decide +kernel)
set_option maxRecDepth 65536 in
theorem w_c14 : (Jvm.Cond.code ({ cls := "com/example/leafcount/leafcount/PageRequest", name := "pages", desc := "(J)J" } : Jvm.MethodName) prog_22_method_13_code (5 : Nat) (Option.some Jvm.ClassFile.FieldType.long)).before args0 about1 = true := code_word (m := ⟨2, 9⟩) (meth := k2m9) (c := k2c9) (by decide +kernel) rfl rfl rfl (by decide +kernel)
set_option maxRecDepth 65536 in
theorem w_c15 : (Jvm.Cond.code ({ cls := "java/lang/Math", name := "max", desc := "(JJ)J" } : Jvm.MethodName) jdk_29_method_66_code (4 : Nat) (Option.some Jvm.ClassFile.FieldType.long)).before args0 about1 = true := code_word (m := ⟨3, 1⟩) (meth := k3m1) (c := k3c1) (by decide +kernel) rfl rfl rfl (by decide +kernel)
def codes1 : List Jvm.Cond := [Jvm.Cond.code x code maxLocals ret, Jvm.Cond.code ({ cls := "com/example/leafcount/leafcount/PageRequestOfPinLaw", name := "positive", desc := "(I)I" } : Jvm.MethodName) method_2_code (2 : Nat) (Option.some Jvm.ClassFile.FieldType.int), Jvm.Cond.code ({ cls := "com/example/leafcount/leafcount/PageRequest", name := "of", desc := "(II)Lcom/example/leafcount/leafcount/PageRequest;" } : Jvm.MethodName) prog_22_method_2_code (2 : Nat) (Option.some (Jvm.ClassFile.FieldType.object "com/example/leafcount/leafcount/PageRequest")), Jvm.Cond.code ({ cls := "com/example/leafcount/leafcount/PageRequest", name := "checkSize", desc := "(I)V" } : Jvm.MethodName) prog_22_method_17_code (1 : Nat) (Option.none : Option Jvm.ClassFile.FieldType), Jvm.Cond.code ({ cls := "com/example/leafcount/leafcount/PageRequest", name := "<init>", desc := "(IIIZLcom/example/leafcount/leafcount/Sort;)V" } : Jvm.MethodName) prog_22_method_1_code (6 : Nat) (Option.none : Option Jvm.ClassFile.FieldType), Jvm.Cond.code ({ cls := "java/lang/Object", name := "<init>", desc := "()V" } : Jvm.MethodName) object_method_1_code (1 : Nat) (Option.none : Option Jvm.ClassFile.FieldType), Jvm.Cond.code ({ cls := "com/example/leafcount/leafcount/PageRequest", name := "page", desc := "()I" } : Jvm.MethodName) prog_22_method_6_code (1 : Nat) (Option.some Jvm.ClassFile.FieldType.int), Jvm.Cond.code ({ cls := "com/example/leafcount/leafcount/PageRequest", name := "size", desc := "()I" } : Jvm.MethodName) prog_22_method_7_code (1 : Nat) (Option.some Jvm.ClassFile.FieldType.int), Jvm.Cond.code ({ cls := "com/example/leafcount/leafcount/PageRequest", name := "navigationSize", desc := "()I" } : Jvm.MethodName) prog_22_method_8_code (1 : Nat) (Option.some Jvm.ClassFile.FieldType.int), Jvm.Cond.code ({ cls := "com/example/leafcount/leafcount/PageRequest", name := "clamps", desc := "()Z" } : Jvm.MethodName) prog_22_method_9_code (1 : Nat) (Option.some Jvm.ClassFile.FieldType.boolean), Jvm.Cond.code ({ cls := "com/example/leafcount/leafcount/PageRequest", name := "sort", desc := "()Lcom/example/leafcount/leafcount/Sort;" } : Jvm.MethodName) prog_22_method_10_code (1 : Nat) (Option.some (Jvm.ClassFile.FieldType.object "com/example/leafcount/leafcount/Sort")), Jvm.Cond.code ({ cls := "com/example/leafcount/leafcount/PageRequest", name := "offset", desc := "()J" } : Jvm.MethodName) prog_22_method_11_code (1 : Nat) (Option.some Jvm.ClassFile.FieldType.long), Jvm.Cond.code ({ cls := "com/example/leafcount/leafcount/PageRequest", name := "within", desc := "(J)Lcom/example/leafcount/leafcount/PageRequest;" } : Jvm.MethodName) prog_22_method_12_code (5 : Nat) (Option.some (Jvm.ClassFile.FieldType.object "com/example/leafcount/leafcount/PageRequest")), Jvm.Cond.code ({ cls := "com/example/leafcount/leafcount/PageRequest", name := "checkTotal", desc := "(J)V" } : Jvm.MethodName) prog_22_method_18_code (2 : Nat) (Option.none : Option Jvm.ClassFile.FieldType), Jvm.Cond.code ({ cls := "com/example/leafcount/leafcount/PageRequest", name := "pages", desc := "(J)J" } : Jvm.MethodName) prog_22_method_13_code (5 : Nat) (Option.some Jvm.ClassFile.FieldType.long), Jvm.Cond.code ({ cls := "java/lang/Math", name := "max", desc := "(JJ)J" } : Jvm.MethodName) jdk_29_method_66_code (4 : Nat) (Option.some Jvm.ClassFile.FieldType.long)]
set_option maxRecDepth 65536 in
theorem codes_eq : words1.filter isCode = codes1 := rfl
theorem w_codes : ∀ c ∈ words1.filter isCode, c.before args0 about1 = true := by
  rw [codes_eq]
  intro c hc
  simp only [codes1, List.mem_cons, List.not_mem_nil, or_false] at hc
  rcases hc with rfl | rfl | rfl | rfl | rfl | rfl | rfl | rfl | rfl | rfl | rfl | rfl | rfl | rfl | rfl | rfl
  · exact w_c0
  · exact w_c1
  · exact w_c2
  · exact w_c3
  · exact w_c4
  · exact w_c5
  · exact w_c6
  · exact w_c7
  · exact w_c8
  · exact w_c9
  · exact w_c10
  · exact w_c11
  · exact w_c12
  · exact w_c13
  · exact w_c14
  · exact w_c15
set_option maxRecDepth 65536 in
theorem w_t1 : (words1.take 24).all (fun c => isCode c || c.before args0 about1) = true := by decide +kernel
set_option maxRecDepth 65536 in
theorem w_t2 : ((words1.drop 24).take 24).all (fun c => isCode c || c.before args0 about1) = true := by decide +kernel
set_option maxRecDepth 65536 in
theorem w_t3 : (((words1.drop 24).drop 24).take 24).all (fun c => isCode c || c.before args0 about1) = true := by decide +kernel
set_option maxRecDepth 65536 in
theorem w_t4 : (((words1.drop 24).drop 24).drop 24).all (fun c => isCode c || c.before args0 about1) = true := by decide +kernel
theorem w_tables : (allAtoms (Jvm.Cond.code x code maxLocals ret :: tables_1)).before args0 about1 = true := by
  rw [allAtoms_all]
  show words1.all (fun c => c.before args0 about1) = true
  refine all_split ?_ w_codes
  rw [← List.take_append_drop 24 words1, List.all_append, w_t1, ← List.take_append_drop 24 (words1.drop 24), List.all_append, w_t2, ← List.take_append_drop 24 ((words1.drop 24).drop 24), List.all_append, w_t3, w_t4]
  rfl
set_option maxRecDepth 65536 in
theorem w_case : (Jvm.Cond.and given_1 narrow_1).before args0 about1 = true := by decide +kernel
theorem w_applies : (headSpec (Jvm.Cond.code x code maxLocals ret :: tables_1) room_1).applies x e0.platform about1 = true :=
  (Spec.applies_iff w_frames).mpr ⟨w_running, w_runnable, w_alone, w_named, w_hears, w_ripe, w_room, w_tables⟩
theorem atStart : AtStart classFile x code maxLocals ret World_1 tables_1 room_1 Calls_1 rest_1 Pre_1 launch0 p0 e0 about1 theMethod args0 below0 :=
  ⟨lists_1, trivial, launch0.admits_env _ _ _, launch0.least_env, fairChoices_fair.cas, fairChoices_fair.clock, w_frames, w_args, w_heap, w_applies, trivial, trivial, w_case⟩
end start1
theorem witness_1 : WitnessClaimed_1 := ⟨start1.p0, start1.e0, start1.about1, start1.theMethod, start1.args0, start1.below0, start1.atStart⟩
end Jvm.Pilot.@@N@@
