import JvmDerived
import JvmDerived.Pilot.@@N@@Statement
import JvmDerived.Pilot.@@N@@Code
set_option linter.unusedVariables false
set_option linter.unusedSimpArgs false
namespace Jvm.RoadKit
open Sem ClassFile Op Lib Jvm.Stand Jvm.Free Jvm.LawKit
section New
variable {p : Program} {l : Launch} {e : Env} {R : Room} {s : State} {m : MethodId} {args : Array Value} {below : List Frame} {meth : Method} {c : Code} {T : State} {locs : List Loc} {cells slots : Nat}
theorem retI (X : Stand p l e R s m args below meth c T locs cells slots) (hx : p.tables.exec = Jvm.exec) {pc : Nat} {Ls : Array Slot} {z : Int32} {rest : List Value} (hret : meth.sig.returnType = some .int) (hd : decode c.code pc = .ok (.ireturn, 1)) {fs : List Frame}
    (hl : ∀ (f : JFrame) (acts : List Action), f.method = m → f.locked = none → f.entered = [] → (doReturn e (T.setTop f) acts (some (.int z))).1 = T.setFrames fs) : Steps p.tables e below (T.setTop (mkF m pc Ls (.int z :: rest))) (T.setFrames fs) := by
  have hm' : T.vm.method? m = some meth := X.method'
  have hn : narrow .int (.int z) = .int z := rfl
  show Steps p.tables e below (T.setTop { method := m, pc := pc, locals := Ls, stack := _ :: rest, locked := none }) _
  jvm_step X.here [X.here.top, hx, hd, hm', hret, hn]
  first | (intro acts; rw [hl _ acts rfl rfl rfl]) | rw [hl _ _ rfl rfl rfl]
  exact Steps.refl _
theorem own_dia {c : Prop} [Decidable c] {tb : Tables} {S tgt : State} {F : Int32 → State} {A B : Int32} (hy : c → ∀ t, Steps tb e below (F A) t → Steps tb e below S t) (hn : ¬ c → ∀ t, Steps tb e below (F B) t → Steps tb e below S t) (k : Steps tb e below (F (if c then A else B)) tgt) : Steps tb e below S tgt := by
  by_cases q : c
  · rw [if_pos q] at k; exact hy q _ k
  · rw [if_neg q] at k; exact hn q _ k
abbrev Stp (p : Program) (e : Env) (below : List Frame) (T : State) (m : MethodId) (pc : Nat) (Ls : Array Slot) (st : List Value) (t : State) : Prop := Steps p.tables e below (T.setTop (mkF m pc Ls st)) t
end New
end Jvm.RoadKit
namespace Jvm.Pilot.@@N@@
open Jvm Jvm.ClassFile Sem Op Lib Jvm.Free Jvm.Stand Jvm.LawKit Jvm.RoadKit Bundle Jvm.Pilot.@@N@@.Jvm.D
theorem own_W {a0 : Array Value} {Z : State} (hw : ∀ d ∈ tables_1, d.before a0 Z = true) (i : Nat) {d : Jvm.Cond} (h : tables_1[i]? = some d) : d.before a0 Z = true := hw _ (List.mem_of_getElem? h)
theorem own_bi (p : Int32) (i : Nat) (k : Int32) (hk : (k &&& 31).toUInt32.toBitVec = BitVec.ofNat 32 i) (hi : i < 32) : (((p.toUInt32 >>> (k &&& 31).toUInt32).toInt32) &&& (1 : Int32)) = if p.toBitVec.getLsbD i then (1 : Int32) else (0 : Int32) := by
  apply Int32.toBitVec_inj.mp
  show (p.toBitVec >>> ((k &&& 31).toUInt32.toBitVec % 32#32)) &&& BitVec.twoPow 32 0 = _
  rw [BitVec.and_twoPow, hk]
  have e : (BitVec.ofNat 32 i % 32#32).toNat = i := by
    rw [BitVec.toNat_umod, BitVec.toNat_ofNat]; show i % 2 ^ 32 % 32 = i; omega
  have e2 : (p.toBitVec >>> (BitVec.ofNat 32 i % 32#32)).getLsbD 0 = p.toBitVec.getLsbD i := by
    rw [BitVec.ushiftRight_eq', BitVec.getLsbD_ushiftRight, e, Nat.add_zero]
  rw [e2]
  by_cases q : p.toBitVec.getLsbD i = true
  · rw [if_pos q, if_pos q]; rfl
  · rw [if_neg q, if_neg q]; rfl
theorem own_tw (p : Int32) (i : Nat) (k : Int32) (hk : k.toBitVec = BitVec.twoPow 32 i) : p &&& k = if p.toBitVec.getLsbD i then k else (0 : Int32) := by
  apply Int32.toBitVec_inj.mp
  show p.toBitVec &&& k.toBitVec = _
  rw [hk, BitVec.and_twoPow]
  by_cases q : p.toBitVec.getLsbD i = true
  · rw [if_pos q, if_pos q, hk]
  · rw [if_neg q, if_neg q]; rfl
theorem own_and_or (p a b : Int32) : p &&& (a ||| b) = (p &&& a) ||| (p &&& b) := by
  apply Int32.toBitVec_inj.mp
  exact BitVec.and_or_distrib_left
theorem own_m8 (p : Int32) : p &&& (255 : Int32) = (((((((p &&& 1) ||| (p &&& 2)) ||| (p &&& 4)) ||| (p &&& 8)) ||| (p &&& 16)) ||| (p &&& 32)) ||| (p &&& 64)) ||| (p &&& 128) := by
  rw [← own_and_or, ← own_and_or, ← own_and_or, ← own_and_or, ← own_and_or, ← own_and_or, ← own_and_or]; rfl
theorem own_m4 (p : Int32) : p &&& (15 : Int32) = (((p &&& 1) ||| (p &&& 2)) ||| (p &&& 4)) ||| (p &&& 8) := by
  rw [← own_and_or, ← own_and_or, ← own_and_or]; rfl
theorem own_m2 (p : Int32) : p &&& (3 : Int32) = (p &&& 1) ||| (p &&& 2) := by
  rw [← own_and_or]; rfl
theorem own_n3 {p : Int32} (h0 : ¬ p &&& (3 : Int32) = (0 : Int32)) (h1 : ¬ p &&& (3 : Int32) = (1 : Int32)) (h2 : ¬ p &&& (3 : Int32) = (2 : Int32)) : p &&& (3 : Int32) = (3 : Int32) := by
  rw [own_m2, own_tw p 0 1 rfl, own_tw p 1 2 rfl] at *
  generalize p.toBitVec.getLsbD 0 = x at *
  generalize p.toBitVec.getLsbD 1 = y at *
  revert x y
  decide
def own_bt (pi1 pi2 : Int32) : Int32 := (nar .boolean (if ((((pi1.toUInt32 >>> (pi2 &&& 31).toUInt32).toInt32) &&& (1 : Int32)) = (0 : Int32)) then (0 : Int32) else (1 : Int32)))
theorem d2_0 : decode method_2_code 0 = .ok (.iload_n 0, 1) := by decide +kernel
theorem d2_1 : decode method_2_code 1 = .ok (.iload_n 1, 1) := by decide +kernel
theorem d2_2 : decode method_2_code 2 = .ok (.iushr, 1) := by decide +kernel
theorem d2_3 : decode method_2_code 3 = .ok (.iconst 1, 1) := by decide +kernel
theorem d2_4 : decode method_2_code 4 = .ok (.iand, 1) := by decide +kernel
theorem d2_5 : decode method_2_code 5 = .ok (.ifCond .eq 7, 3) := by decide +kernel
theorem d2_8 : decode method_2_code 8 = .ok (.iconst 1, 1) := by decide +kernel
theorem d2_9 : decode method_2_code 9 = .ok (.goto 4, 3) := by decide +kernel
theorem d2_12 : decode method_2_code 12 = .ok (.iconst 0, 1) := by decide +kernel
theorem d2_13 : decode method_2_code 13 = .ok (.ireturn, 1) := by decide +kernel
theorem pn_2 : plainName "com/example/gudl/gudl/GroundFactorIsConstantPinLaw" = true := by first | (simp [plainName, overriddenIn]; done) | decide +kernel
theorem ef_2 (m : MethodId) (pi1 : Int32) (pi2 : Int32) : entryFrame m #[(.int pi1), (.int pi2)] 2 = mkF m 0 #[.val (.int pi1), .val (.int pi2)] [] := by first | (simp [entryFrame, mkF, argsToLocals, Value.category]; done) | rfl
def Q2 (Z : State) (pi1 : Int32) (pi2 : Int32) (h0 : Heap) (n0 : Nat) (v : Option Value) (h : Heap) (L : List Loc) : Prop := v = some (.int (own_bt pi1 pi2)) ∧ Fr n0 L ∧ h = h0
set_option maxRecDepth 65536 in
set_option maxHeartbeats 40000000 in
theorem rm2 (l : Launch) (Z : State) (a0 : Array Value) (hw : ∀ d ∈ tables_1, d.before a0 Z = true) (ws : List Jvm.Cond) (pi1 : Int32) (pi2 : Int32) (h0 : Heap) (n0 : Nat) (Z0 : n0 ≤ h0.size) (O0 : Old Z n0 h0) :
    MetFree l (⟨"com/example/gudl/gudl/GroundFactorIsConstantPinLaw", "bit", "(II)Z"⟩ : MethodName) (head1 (Jvm.Cond.code (⟨"com/example/gudl/gudl/GroundFactorIsConstantPinLaw", "bit", "(II)Z"⟩ : MethodName) method_2_code 2 (some .boolean) :: ws) ({ frames := 0, cells := 0, slots := 0, locals := 0 } : Room)) (fun a U => a = #[(.int pi1), (.int pi2)] ∧ Z.Warmed39 U.vm ∧ U.heap = h0) (fun _ _ _ _ _ => True) (fun _ U o U' => ∃ v L, o = .returned v ∧ Q2 Z pi1 pi2 h0 n0 v U'.heap L ∧ FrameEnd U o U' L ({ frames := 0, cells := 0, slots := 0, locals := 0 } : Room).cells ({ frames := 0, cells := 0, slots := 0, locals := 0 } : Room).slots) := by
  refine MetFree.of_bodySF (plainFor_of_name pn_2) hisR ?_
  intro p e s m args below meth c s₁ Bd hml0 hP hK
  obtain ⟨rfl, hZ, hh⟩ := hP
  have hx := Bd.exec
  have hby := Bd.bytes
  have hml : c.maxLocals = 2 := hml0
  have hown : s.vm.findClass "com/example/gudl/gudl/GroundFactorIsConstantPinLaw" = some m.cls := findClass_of_methodNamed Bd.named
  have hnm := (name_of_methodNamed Bd.named Bd.method).1
  have X0 : Stand p l e ({ frames := 0, cells := 0, slots := 0, locals := 0 } : Room) s m #[(.int pi1), (.int pi2)] below meth c s₁ [] 0 0 := Stand.of_body Bd
  have e0 : s₁.heap = h0 := by rw [← hh, Bd.state]; rfl
  have N0 := Fr.nil n0
  have pre0 : ∀ t, Steps p.tables e below (s₁.setTop (mkF m 0 #[.val (.int pi1), .val (.int pi2)] [])) t → Steps p.tables e below (s₁.setTop (entryFrame m #[(.int pi1), (.int pi2)] 2)) t := fun t k => castTop (ef_2 m pi1 pi2) k
  obtain ⟨fs, hr, hrun, hended, hW, hsame⟩ := X0.leave (v := some (.int (nar .boolean (if ((((pi1.toUInt32 >>> (pi2 &&& 31).toUInt32).toInt32) &&& (1 : Int32)) = (0 : Int32)) then (0 : Int32) else (1 : Int32))))) (fun h => by rw [Bd.returns] at h; cases h)
  refine ⟨_, _, pre0 _ ?_, hrun, hended, _, _, rfl, ?_, ⟨_, rfl⟩, hW, hsame.mono (by decide) (by decide)⟩
  · show Stp p e below s₁ m 0 #[.val (.int pi1), .val (.int pi2)] [] _
    refine XS.iloadN X0.here hx rfl (hb hby d2_0) rfl ?_
    show Stp p e below s₁ m 1 #[.val (.int pi1), .val (.int pi2)] [(.int pi1)] _
    refine XS.iloadN X0.here hx rfl (hb hby d2_1) rfl ?_
    show Stp p e below s₁ m 2 #[.val (.int pi1), .val (.int pi2)] [(.int pi2), (.int pi1)] _
    refine XS.iushr X0.here hx rfl (hb hby d2_2) rfl ?_
    show Stp p e below s₁ m 3 #[.val (.int pi1), .val (.int pi2)] [(.int ((pi1.toUInt32 >>> (pi2 &&& 31).toUInt32).toInt32))] _
    refine XS.iconst X0.here hx rfl (hb hby d2_3) ?_
    show Stp p e below s₁ m 4 #[.val (.int pi1), .val (.int pi2)] [(.int (1 : Int32)), (.int ((pi1.toUInt32 >>> (pi2 &&& 31).toUInt32).toInt32))] _
    refine XS.iand X0.here hx rfl (hb hby d2_4) rfl ?_
    show Stp p e below s₁ m 5 #[.val (.int pi1), .val (.int pi2)] [(.int (((pi1.toUInt32 >>> (pi2 &&& 31).toUInt32).toInt32) &&& (1 : Int32)))] _
    refine own_dia (c := (((pi1.toUInt32 >>> (pi2 &&& 31).toUInt32).toInt32) &&& (1 : Int32)) = (0 : Int32)) (A := (0 : Int32)) (B := (1 : Int32)) (F := fun z => s₁.setTop (mkF m 13 #[.val (.int pi1), .val (.int pi2)] [(.int z)])) (fun hdia t kdia => by refine XS.ifYes X0.here hx rfl (pc0 := 5) (pc' := 12) rfl (hb hby d2_5) rfl ((if0 _ _).trans (teq hdia).1) (by decide) (by decide) ?_; show Steps p.tables e below (s₁.setTop (mkF m 12 #[.val (.int pi1), .val (.int pi2)] [])) _; refine XS.iconst X0.here hx rfl (hb hby d2_12) ?_; exact kdia) (fun hdia t kdia => by refine XS.ifNo X0.here hx rfl (hb hby d2_5) rfl ((if0 _ _).trans (feq hdia).1) ?_; show Steps p.tables e below (s₁.setTop (mkF m 8 #[.val (.int pi1), .val (.int pi2)] [])) _; refine XS.iconst X0.here hx rfl (hb hby d2_8) ?_; show Steps p.tables e below (s₁.setTop (mkF m 9 #[.val (.int pi1), .val (.int pi2)] [(.int (1 : Int32))])) _; refine XS.goto X0.here hx rfl (pc0 := 9) (pc' := 13) rfl (hb hby d2_9) (by decide) (by decide) ?_; exact kdia) ?_
    show Stp p e below s₁ m 13 #[.val (.int pi1), .val (.int pi2)] [(.int (if ((((pi1.toUInt32 >>> (pi2 &&& 31).toUInt32).toInt32) &&& (1 : Int32)) = (0 : Int32)) then (0 : Int32) else (1 : Int32)))] _
    exact retN X0 hx (t := .boolean) Bd.returns (by simp) (hb hby d2_13) hr
  · show Q2 Z pi1 pi2 h0 n0 _ s₁.heap _
    rw [e0]
    exact ⟨rfl, N0, rfl⟩
theorem pd_1 : parseMethodDescriptor "(II)Z" = some ⟨[.int, .int], some .boolean⟩ := by decide +kernel
theorem d1_0 : decode method_3_code 0 = .ok (.iload_n 0, 1) := by decide +kernel
theorem d1_1 : decode method_3_code 1 = .ok (.ifCond .ne 15, 3) := by decide +kernel
theorem d1_4 : decode method_3_code 4 = .ok (.iconst 1, 1) := by decide +kernel
theorem d1_5 : decode method_3_code 5 = .ok (.newarray .boolean, 2) := by decide +kernel
theorem d1_7 : decode method_3_code 7 = .ok (.dup, 1) := by decide +kernel
theorem d1_8 : decode method_3_code 8 = .ok (.iconst 0, 1) := by decide +kernel
theorem d1_9 : decode method_3_code 9 = .ok (.iload_n 1, 1) := by decide +kernel
theorem d1_10 : decode method_3_code 10 = .ok (.iconst 0, 1) := by decide +kernel
theorem d1_11 : decode method_3_code 11 = .ok (.invokestatic 7, 3) := by decide +kernel
theorem d1_14 : decode method_3_code 14 = .ok (.bastore, 1) := by decide +kernel
theorem d1_15 : decode method_3_code 15 = .ok (.areturn, 1) := by decide +kernel
theorem pn_1 : plainName "com/example/gudl/gudl/GroundFactorIsConstantPinLaw" = true := by first | (simp [plainName, overriddenIn]; done) | decide +kernel
theorem ef_1 (m : MethodId) (pi1 : Int32) (pi2 : Int32) : entryFrame m #[(.int pi1), (.int pi2)] 2 = mkF m 0 #[.val (.int pi1), .val (.int pi2)] [] := by first | (simp [entryFrame, mkF, argsToLocals, Value.category]; done) | rfl
def Q1_0 (Z : State) (pi1 : Int32) (pi2 : Int32) (h0 : Heap) (n0 : Nat) (v : Option Value) (h : Heap) (L : List Loc) : Prop := ∃ b1 : Addr, ∃ k1 : ClassId, v = some (.ref b1) ∧ Fr n0 L ∧ Keep h0 h [] ∧ h0.size ≤ b1 ∧ Arv Z h b1 k1 .boolean (1 : Int32) [(.int (nar .boolean (own_bt pi2 (0 : Int32))))] (.int (0 : Int32))
set_option maxRecDepth 65536 in
set_option maxHeartbeats 40000000 in
theorem rm1_0 (l : Launch) (Z : State) (a0 : Array Value) (hw : ∀ d ∈ tables_1, d.before a0 Z = true) (ws : List Jvm.Cond) (pi1 : Int32) (pi2 : Int32) (h0 : Heap) (n0 : Nat) (Z0 : n0 ≤ h0.size) (O0 : Old Z n0 h0) (hc1_0 : pi1 = (0 : Int32)) :
    MetFree l (⟨"com/example/gudl/gudl/GroundFactorIsConstantPinLaw", "truthArray", "(II)[Z"⟩ : MethodName) (head1 (Jvm.Cond.code (⟨"com/example/gudl/gudl/GroundFactorIsConstantPinLaw", "truthArray", "(II)[Z"⟩ : MethodName) method_3_code 2 (some (.array .boolean)) :: ws) ({ frames := 1, cells := 1, slots := 1, locals := 16 } : Room)) (fun a U => a = #[(.int pi1), (.int pi2)] ∧ Z.Warmed39 U.vm ∧ U.heap = h0) (fun _ _ _ _ _ => True) (fun _ U o U' => ∃ v L, o = .returned v ∧ Q1_0 Z pi1 pi2 h0 n0 v U'.heap L ∧ FrameEnd U o U' L ({ frames := 1, cells := 1, slots := 1, locals := 16 } : Room).cells ({ frames := 1, cells := 1, slots := 1, locals := 16 } : Room).slots) := by
  refine MetFree.of_bodySF (plainFor_of_name pn_1) hisR ?_
  intro p e s m args below meth c s₁ Bd hml0 hP hK
  obtain ⟨rfl, hZ, hh⟩ := hP
  have hx := Bd.exec
  have hby := Bd.bytes
  have hml : c.maxLocals = 2 := hml0
  have hown : s.vm.findClass "com/example/gudl/gudl/GroundFactorIsConstantPinLaw" = some m.cls := findClass_of_methodNamed Bd.named
  have hnm := (name_of_methodNamed Bd.named Bd.method).1
  have X0 : Stand p l e ({ frames := 1, cells := 1, slots := 1, locals := 16 } : Room) s m #[(.int pi1), (.int pi2)] below meth c s₁ [] 0 0 := Stand.of_body Bd
  have e0 : s₁.heap = h0 := by rw [← hh, Bd.state]; rfl
  have N0 := Fr.nil n0
  have pre0 : ∀ t, Steps p.tables e below (s₁.setTop (mkF m 0 #[.val (.int pi1), .val (.int pi2)] [])) t → Steps p.tables e below (s₁.setTop (entryFrame m #[(.int pi1), (.int pi2)] 2)) t := fun t k => castTop (ef_1 m pi1 pi2) k
  obtain ⟨T1, h1, k1, X1, e1, E1, A1, st1⟩ := newP X0 hx hZ (own_W hw 4 rfl) e0 (g := (mkF m 5 #[.val (.int pi1), .val (.int pi2)] [(.int (1 : Int32))])) rfl (hb hby d1_5) rfl (by decide) (cap := 1) (by decide) (by decide) (by decide) (by decide)
  obtain ⟨b1, g1⟩ : ∃ z, z = h0.size := ⟨_, rfl⟩
  rw [← g1] at A1 st1
  have V1 : Arv Z h1 b1 k1 .boolean (1 : Int32) [(.int (0 : Int32))] (.int (0 : Int32)) := (Arv.new A1 (by decide)).pad (pad_rep [] (.int (0 : Int32)) 1)
  have z3 := Nat.le_trans Z0 E1.1
  have o4 := O0.ext E1
  obtain ⟨_, _, ⟨T2, L2, k2, n2⟩, -, X2, ⟨Lc2, hQ2, l2, y2, z2⟩, st2⟩ := Jvm.LawKit.callS X1 hx (y := (⟨"com/example/gudl/gudl/GroundFactorIsConstantPinLaw", "bit", "(II)Z"⟩ : MethodName)) hown (mvT hZ (own_W hw 5 rfl)) (mvT hZ (own_W hw 6 rfl)) (mvT hZ (own_W hw 2 rfl)) (mvT hZ (own_W hw 7 rfl)) (by decide) (backOf (W := 3) (rm2 l Z a0 hw [] pi2 (0 : Int32) h1 n0 z3 o4 ) hZ (own_W hw 7 rfl) (own_W hw 2 rfl) (by decide) (by decide)) (g := (mkF m 11 #[.val (.int pi1), .val (.int pi2)] [(.int (0 : Int32)), (.int pi2), (.int (0 : Int32)), (.ref b1), (.ref b1)])) rfl (by rw [hml]; rfl) (argsL := [(.int pi2), (.int (0 : Int32))]) (rest := [(.int (0 : Int32)), (.ref b1), (.ref b1)]) (lenOf pd_1 rfl) rfl (by show 2 * 0 + _ ≤ _; exact Nat.le_of_eq rfl) (hb hby d1_11) (fun _ _ => ⟨rfl, e1, (by decide : 1 + 0 ≤ _), (by decide : 1 + 0 ≤ _)⟩)
  dsimp only [Pt.U, Pt.locs, Pt.cells, Pt.slots] at X2 l2 y2 z2 st2 hQ2
  subst l2 y2 z2
  obtain ⟨rfl, N2q, eq2⟩ := hQ2
  have N2 := Fr.app N0 N2q
  have g_b1 : n0 ≤ b1 := Nat.le_trans Z0 (Nat.le_of_eq g1.symm)
  have V_c5 := V1
  obtain ⟨c5, Arc5, qc5, Sc5, Nc5, Hc5, Gc5⟩ := V_c5
  have hin6 : ¬ ((0 : Int32) < 0 ∨ c5.slots.size ≤ ((0 : Int32)).toNatClampNeg) := inb_of Sc5 ⟨by decide, by decide⟩
  obtain ⟨T6, h6, X6, e6, W6, st6⟩ := stZ X2 hx hZ eq2 Arc5 (j := (0 : Int32)) hin6 (g := (mkF m 14 #[.val (.int pi1), .val (.int pi2)] [(.int (own_bt pi2 (0 : Int32))), (.int (0 : Int32)), (.ref b1), (.ref b1)])) rfl rfl (hb hby d1_14)
  have V6 : Arv Z h6 b1 k1 .boolean (1 : Int32) [(.int (nar .boolean (own_bt pi2 (0 : Int32))))] (.int (0 : Int32)) := Arv.set Arc5 qc5 Sc5 Nc5 Hc5 Gc5 (fits_nar_bool _) W6 0 rfl (Nat.le_of_ble_eq_true rfl)
  have N6 := Fr.snoc X6 N2 g_b1
  have k7 : Keep h0 h1 [] := (Keep.refl h0 []).ext E1
  have k8 : Keep h0 h6 [] := k7.wr W6 (Or.inr (Nat.le_trans (Keep.refl h0 []).1 (Nat.le_of_eq g1.symm)))
  obtain ⟨fs, hr, hrun, hended, hW, hsame⟩ := X6.leave (v := some (.ref b1)) (fun h => by rw [Bd.returns] at h; cases h)
  refine ⟨_, _, pre0 _ ?_, hrun, hended, _, _, rfl, ?_, ⟨_, rfl⟩, hW, hsame.mono (by decide) (by decide)⟩
  · show Stp p e below s₁ m 0 #[.val (.int pi1), .val (.int pi2)] [] _
    refine XS.iloadN X0.here hx rfl (hb hby d1_0) rfl ?_
    show Stp p e below s₁ m 1 #[.val (.int pi1), .val (.int pi2)] [(.int pi1)] _
    refine XS.ifNo X0.here hx rfl (hb hby d1_1) rfl ((if0 _ _).trans (teq hc1_0).2) ?_
    show Stp p e below s₁ m 4 #[.val (.int pi1), .val (.int pi2)] [] _
    refine XS.iconst X0.here hx rfl (hb hby d1_4) ?_
    show Stp p e below s₁ m 5 #[.val (.int pi1), .val (.int pi2)] [(.int (1 : Int32))] _
    refine st1 _ ?_
    show Stp p e below T1 m 7 #[.val (.int pi1), .val (.int pi2)] [(.ref b1)] _
    refine XS.dup X1.here hx rfl (hb hby d1_7) rfl rfl ?_
    show Stp p e below T1 m 8 #[.val (.int pi1), .val (.int pi2)] [(.ref b1), (.ref b1)] _
    refine XS.iconst X1.here hx rfl (hb hby d1_8) ?_
    show Stp p e below T1 m 9 #[.val (.int pi1), .val (.int pi2)] [(.int (0 : Int32)), (.ref b1), (.ref b1)] _
    refine XS.iloadN X1.here hx rfl (hb hby d1_9) rfl ?_
    show Stp p e below T1 m 10 #[.val (.int pi1), .val (.int pi2)] [(.int pi2), (.int (0 : Int32)), (.ref b1), (.ref b1)] _
    refine XS.iconst X1.here hx rfl (hb hby d1_10) ?_
    show Stp p e below T1 m 11 #[.val (.int pi1), .val (.int pi2)] [(.int (0 : Int32)), (.int pi2), (.int (0 : Int32)), (.ref b1), (.ref b1)] _
    refine st2 _ ?_
    show Stp p e below T2 m 14 #[.val (.int pi1), .val (.int pi2)] [(.int (own_bt pi2 (0 : Int32))), (.int (0 : Int32)), (.ref b1), (.ref b1)] _
    refine st6 _ ?_
    show Stp p e below T6 m 15 #[.val (.int pi1), .val (.int pi2)] [(.ref b1)] _
    jvm_step X6.here [X6.here.top, hx, (hb hby d1_15), X6.method', Bd.returns, Value.isRef, FieldType.isReference]
    first | (intro acts; rw [hr _ acts rfl rfl rfl]) | rw [hr _ _ rfl rfl rfl]
    exact Steps.refl _
  · show Q1_0 Z pi1 pi2 h0 n0 _ T6.heap _
    rw [e6]
    exact ⟨b1, k1, rfl, N6, k8, (Nat.le_trans (Keep.refl h0 []).1 (Nat.le_of_eq g1.symm)), V6⟩
theorem d1_16 : decode method_3_code 16 = .ok (.iload_n 0, 1) := by decide +kernel
theorem d1_17 : decode method_3_code 17 = .ok (.iconst 1, 1) := by decide +kernel
theorem d1_18 : decode method_3_code 18 = .ok (.if_icmp .ne 23, 3) := by decide +kernel
theorem d1_21 : decode method_3_code 21 = .ok (.iconst 2, 1) := by decide +kernel
theorem d1_22 : decode method_3_code 22 = .ok (.newarray .boolean, 2) := by decide +kernel
theorem d1_24 : decode method_3_code 24 = .ok (.dup, 1) := by decide +kernel
theorem d1_25 : decode method_3_code 25 = .ok (.iconst 0, 1) := by decide +kernel
theorem d1_26 : decode method_3_code 26 = .ok (.iload_n 1, 1) := by decide +kernel
theorem d1_27 : decode method_3_code 27 = .ok (.iconst 0, 1) := by decide +kernel
theorem d1_28 : decode method_3_code 28 = .ok (.invokestatic 7, 3) := by decide +kernel
theorem d1_31 : decode method_3_code 31 = .ok (.bastore, 1) := by decide +kernel
theorem d1_32 : decode method_3_code 32 = .ok (.dup, 1) := by decide +kernel
theorem d1_33 : decode method_3_code 33 = .ok (.iconst 1, 1) := by decide +kernel
theorem d1_34 : decode method_3_code 34 = .ok (.iload_n 1, 1) := by decide +kernel
theorem d1_35 : decode method_3_code 35 = .ok (.iconst 1, 1) := by decide +kernel
theorem d1_36 : decode method_3_code 36 = .ok (.invokestatic 7, 3) := by decide +kernel
theorem d1_39 : decode method_3_code 39 = .ok (.bastore, 1) := by decide +kernel
theorem d1_40 : decode method_3_code 40 = .ok (.areturn, 1) := by decide +kernel
def Q1_1 (Z : State) (pi1 : Int32) (pi2 : Int32) (h0 : Heap) (n0 : Nat) (v : Option Value) (h : Heap) (L : List Loc) : Prop := ∃ b1 : Addr, ∃ k1 : ClassId, v = some (.ref b1) ∧ Fr n0 L ∧ Keep h0 h [] ∧ h0.size ≤ b1 ∧ Arv Z h b1 k1 .boolean (2 : Int32) [(.int (nar .boolean (own_bt pi2 (0 : Int32)))), (.int (nar .boolean (own_bt pi2 (1 : Int32))))] (.int (0 : Int32))
set_option maxRecDepth 65536 in
set_option maxHeartbeats 40000000 in
theorem rm1_1 (l : Launch) (Z : State) (a0 : Array Value) (hw : ∀ d ∈ tables_1, d.before a0 Z = true) (ws : List Jvm.Cond) (pi1 : Int32) (pi2 : Int32) (h0 : Heap) (n0 : Nat) (Z0 : n0 ≤ h0.size) (O0 : Old Z n0 h0) (hc1_0 : ¬ (pi1 = (0 : Int32))) (hc18_1 : pi1 = (1 : Int32)) :
    MetFree l (⟨"com/example/gudl/gudl/GroundFactorIsConstantPinLaw", "truthArray", "(II)[Z"⟩ : MethodName) (head1 (Jvm.Cond.code (⟨"com/example/gudl/gudl/GroundFactorIsConstantPinLaw", "truthArray", "(II)[Z"⟩ : MethodName) method_3_code 2 (some (.array .boolean)) :: ws) ({ frames := 1, cells := 1, slots := 2, locals := 16 } : Room)) (fun a U => a = #[(.int pi1), (.int pi2)] ∧ Z.Warmed39 U.vm ∧ U.heap = h0) (fun _ _ _ _ _ => True) (fun _ U o U' => ∃ v L, o = .returned v ∧ Q1_1 Z pi1 pi2 h0 n0 v U'.heap L ∧ FrameEnd U o U' L ({ frames := 1, cells := 1, slots := 2, locals := 16 } : Room).cells ({ frames := 1, cells := 1, slots := 2, locals := 16 } : Room).slots) := by
  refine MetFree.of_bodySF (plainFor_of_name pn_1) hisR ?_
  intro p e s m args below meth c s₁ Bd hml0 hP hK
  obtain ⟨rfl, hZ, hh⟩ := hP
  have hx := Bd.exec
  have hby := Bd.bytes
  have hml : c.maxLocals = 2 := hml0
  have hown : s.vm.findClass "com/example/gudl/gudl/GroundFactorIsConstantPinLaw" = some m.cls := findClass_of_methodNamed Bd.named
  have hnm := (name_of_methodNamed Bd.named Bd.method).1
  have X0 : Stand p l e ({ frames := 1, cells := 1, slots := 2, locals := 16 } : Room) s m #[(.int pi1), (.int pi2)] below meth c s₁ [] 0 0 := Stand.of_body Bd
  have e0 : s₁.heap = h0 := by rw [← hh, Bd.state]; rfl
  have N0 := Fr.nil n0
  have pre0 : ∀ t, Steps p.tables e below (s₁.setTop (mkF m 0 #[.val (.int pi1), .val (.int pi2)] [])) t → Steps p.tables e below (s₁.setTop (entryFrame m #[(.int pi1), (.int pi2)] 2)) t := fun t k => castTop (ef_1 m pi1 pi2) k
  obtain ⟨T1, h1, k1, X1, e1, E1, A1, st1⟩ := newP X0 hx hZ (own_W hw 4 rfl) e0 (g := (mkF m 22 #[.val (.int pi1), .val (.int pi2)] [(.int (2 : Int32))])) rfl (hb hby d1_22) rfl (by decide) (cap := 2) (by decide) (by decide) (by decide) (by decide)
  obtain ⟨b1, g1⟩ : ∃ z, z = h0.size := ⟨_, rfl⟩
  rw [← g1] at A1 st1
  have V1 : Arv Z h1 b1 k1 .boolean (2 : Int32) [(.int (0 : Int32)), (.int (0 : Int32))] (.int (0 : Int32)) := (Arv.new A1 (by decide)).pad (pad_rep [] (.int (0 : Int32)) 2)
  have z3 := Nat.le_trans Z0 E1.1
  have o4 := O0.ext E1
  obtain ⟨_, _, ⟨T2, L2, k2, n2⟩, -, X2, ⟨Lc2, hQ2, l2, y2, z2⟩, st2⟩ := Jvm.LawKit.callS X1 hx (y := (⟨"com/example/gudl/gudl/GroundFactorIsConstantPinLaw", "bit", "(II)Z"⟩ : MethodName)) hown (mvT hZ (own_W hw 5 rfl)) (mvT hZ (own_W hw 6 rfl)) (mvT hZ (own_W hw 2 rfl)) (mvT hZ (own_W hw 7 rfl)) (by decide) (backOf (W := 3) (rm2 l Z a0 hw [] pi2 (0 : Int32) h1 n0 z3 o4 ) hZ (own_W hw 7 rfl) (own_W hw 2 rfl) (by decide) (by decide)) (g := (mkF m 28 #[.val (.int pi1), .val (.int pi2)] [(.int (0 : Int32)), (.int pi2), (.int (0 : Int32)), (.ref b1), (.ref b1)])) rfl (by rw [hml]; rfl) (argsL := [(.int pi2), (.int (0 : Int32))]) (rest := [(.int (0 : Int32)), (.ref b1), (.ref b1)]) (lenOf pd_1 rfl) rfl (by show 2 * 0 + _ ≤ _; exact Nat.le_of_eq rfl) (hb hby d1_28) (fun _ _ => ⟨rfl, e1, (by decide : 1 + 0 ≤ _), (by decide : 2 + 0 ≤ _)⟩)
  dsimp only [Pt.U, Pt.locs, Pt.cells, Pt.slots] at X2 l2 y2 z2 st2 hQ2
  subst l2 y2 z2
  obtain ⟨rfl, N2q, eq2⟩ := hQ2
  have N2 := Fr.app N0 N2q
  have g_b1 : n0 ≤ b1 := Nat.le_trans Z0 (Nat.le_of_eq g1.symm)
  have V_c5 := V1
  obtain ⟨c5, Arc5, qc5, Sc5, Nc5, Hc5, Gc5⟩ := V_c5
  have hin6 : ¬ ((0 : Int32) < 0 ∨ c5.slots.size ≤ ((0 : Int32)).toNatClampNeg) := inb_of Sc5 ⟨by decide, by decide⟩
  obtain ⟨T6, h6, X6, e6, W6, st6⟩ := stZ X2 hx hZ eq2 Arc5 (j := (0 : Int32)) hin6 (g := (mkF m 31 #[.val (.int pi1), .val (.int pi2)] [(.int (own_bt pi2 (0 : Int32))), (.int (0 : Int32)), (.ref b1), (.ref b1)])) rfl rfl (hb hby d1_31)
  have V6 : Arv Z h6 b1 k1 .boolean (2 : Int32) [(.int (nar .boolean (own_bt pi2 (0 : Int32)))), (.int (0 : Int32))] (.int (0 : Int32)) := Arv.set Arc5 qc5 Sc5 Nc5 Hc5 Gc5 (fits_nar_bool _) W6 0 rfl (Nat.le_of_ble_eq_true rfl)
  have N6 := Fr.snoc X6 N2 g_b1
  have z8 := Nat.le_trans z3 (Keep.of_wr W6).1
  have o9 := o4.wr W6 g_b1
  obtain ⟨_, _, ⟨T7, L7, k7, n7⟩, -, X7, ⟨Lc7, hQ7, l7, y7, z7⟩, st7⟩ := Jvm.LawKit.callS X6 hx (y := (⟨"com/example/gudl/gudl/GroundFactorIsConstantPinLaw", "bit", "(II)Z"⟩ : MethodName)) hown (mvT hZ (own_W hw 5 rfl)) (mvT hZ (own_W hw 6 rfl)) (mvT hZ (own_W hw 2 rfl)) (mvT hZ (own_W hw 7 rfl)) (by decide) (backOf (W := 3) (rm2 l Z a0 hw [] pi2 (1 : Int32) h6 n0 z8 o9 ) hZ (own_W hw 7 rfl) (own_W hw 2 rfl) (by decide) (by decide)) (g := (mkF m 36 #[.val (.int pi1), .val (.int pi2)] [(.int (1 : Int32)), (.int pi2), (.int (1 : Int32)), (.ref b1), (.ref b1)])) rfl (by rw [hml]; rfl) (argsL := [(.int pi2), (.int (1 : Int32))]) (rest := [(.int (1 : Int32)), (.ref b1), (.ref b1)]) (lenOf pd_1 rfl) rfl (by show 2 * 0 + _ ≤ _; exact Nat.le_of_eq rfl) (hb hby d1_36) (fun _ _ => ⟨rfl, e6, (by decide : 1 + 0 ≤ _), (by decide : 2 + 0 ≤ _)⟩)
  dsimp only [Pt.U, Pt.locs, Pt.cells, Pt.slots] at X7 l7 y7 z7 st7 hQ7
  subst l7 y7 z7
  obtain ⟨rfl, N7q, eq7⟩ := hQ7
  have N7 := Fr.app N6 N7q
  have V_c10 := V6
  obtain ⟨c10, Arc10, qc10, Sc10, Nc10, Hc10, Gc10⟩ := V_c10
  have hin11 : ¬ ((1 : Int32) < 0 ∨ c10.slots.size ≤ ((1 : Int32)).toNatClampNeg) := inb_of Sc10 ⟨by decide, by decide⟩
  obtain ⟨T11, h11, X11, e11, W11, st11⟩ := stZ X7 hx hZ eq7 Arc10 (j := (1 : Int32)) hin11 (g := (mkF m 39 #[.val (.int pi1), .val (.int pi2)] [(.int (own_bt pi2 (1 : Int32))), (.int (1 : Int32)), (.ref b1), (.ref b1)])) rfl rfl (hb hby d1_39)
  have V11 : Arv Z h11 b1 k1 .boolean (2 : Int32) [(.int (nar .boolean (own_bt pi2 (0 : Int32)))), (.int (nar .boolean (own_bt pi2 (1 : Int32))))] (.int (0 : Int32)) := Arv.set Arc10 qc10 Sc10 Nc10 Hc10 Gc10 (fits_nar_bool _) W11 1 rfl (Nat.le_of_ble_eq_true rfl)
  have N11 := Fr.snoc X11 N7 g_b1
  have k12 : Keep h0 h1 [] := (Keep.refl h0 []).ext E1
  have k13 : Keep h0 h6 [] := k12.wr W6 (Or.inr (Nat.le_trans (Keep.refl h0 []).1 (Nat.le_of_eq g1.symm)))
  have k14 : Keep h0 h11 [] := k13.wr W11 (Or.inr (Nat.le_trans (Keep.refl h0 []).1 (Nat.le_of_eq g1.symm)))
  obtain ⟨fs, hr, hrun, hended, hW, hsame⟩ := X11.leave (v := some (.ref b1)) (fun h => by rw [Bd.returns] at h; cases h)
  refine ⟨_, _, pre0 _ ?_, hrun, hended, _, _, rfl, ?_, ⟨_, rfl⟩, hW, hsame.mono (by decide) (by decide)⟩
  · show Stp p e below s₁ m 0 #[.val (.int pi1), .val (.int pi2)] [] _
    refine XS.iloadN X0.here hx rfl (hb hby d1_0) rfl ?_
    show Stp p e below s₁ m 1 #[.val (.int pi1), .val (.int pi2)] [(.int pi1)] _
    refine XS.ifYes X0.here hx rfl (pc0 := 1) (pc' := 16) rfl (hb hby d1_1) rfl ((if0 _ _).trans (feq hc1_0).2) (by decide) (by decide) ?_
    show Stp p e below s₁ m 16 #[.val (.int pi1), .val (.int pi2)] [] _
    refine XS.iloadN X0.here hx rfl (hb hby d1_16) rfl ?_
    show Stp p e below s₁ m 17 #[.val (.int pi1), .val (.int pi2)] [(.int pi1)] _
    refine XS.iconst X0.here hx rfl (hb hby d1_17) ?_
    show Stp p e below s₁ m 18 #[.val (.int pi1), .val (.int pi2)] [(.int (1 : Int32)), (.int pi1)] _
    refine XS.icmpNo X0.here hx rfl (hb hby d1_18) rfl (teq hc18_1).2 ?_
    show Stp p e below s₁ m 21 #[.val (.int pi1), .val (.int pi2)] [] _
    refine XS.iconst X0.here hx rfl (hb hby d1_21) ?_
    show Stp p e below s₁ m 22 #[.val (.int pi1), .val (.int pi2)] [(.int (2 : Int32))] _
    refine st1 _ ?_
    show Stp p e below T1 m 24 #[.val (.int pi1), .val (.int pi2)] [(.ref b1)] _
    refine XS.dup X1.here hx rfl (hb hby d1_24) rfl rfl ?_
    show Stp p e below T1 m 25 #[.val (.int pi1), .val (.int pi2)] [(.ref b1), (.ref b1)] _
    refine XS.iconst X1.here hx rfl (hb hby d1_25) ?_
    show Stp p e below T1 m 26 #[.val (.int pi1), .val (.int pi2)] [(.int (0 : Int32)), (.ref b1), (.ref b1)] _
    refine XS.iloadN X1.here hx rfl (hb hby d1_26) rfl ?_
    show Stp p e below T1 m 27 #[.val (.int pi1), .val (.int pi2)] [(.int pi2), (.int (0 : Int32)), (.ref b1), (.ref b1)] _
    refine XS.iconst X1.here hx rfl (hb hby d1_27) ?_
    show Stp p e below T1 m 28 #[.val (.int pi1), .val (.int pi2)] [(.int (0 : Int32)), (.int pi2), (.int (0 : Int32)), (.ref b1), (.ref b1)] _
    refine st2 _ ?_
    show Stp p e below T2 m 31 #[.val (.int pi1), .val (.int pi2)] [(.int (own_bt pi2 (0 : Int32))), (.int (0 : Int32)), (.ref b1), (.ref b1)] _
    refine st6 _ ?_
    show Stp p e below T6 m 32 #[.val (.int pi1), .val (.int pi2)] [(.ref b1)] _
    refine XS.dup X6.here hx rfl (hb hby d1_32) rfl rfl ?_
    show Stp p e below T6 m 33 #[.val (.int pi1), .val (.int pi2)] [(.ref b1), (.ref b1)] _
    refine XS.iconst X6.here hx rfl (hb hby d1_33) ?_
    show Stp p e below T6 m 34 #[.val (.int pi1), .val (.int pi2)] [(.int (1 : Int32)), (.ref b1), (.ref b1)] _
    refine XS.iloadN X6.here hx rfl (hb hby d1_34) rfl ?_
    show Stp p e below T6 m 35 #[.val (.int pi1), .val (.int pi2)] [(.int pi2), (.int (1 : Int32)), (.ref b1), (.ref b1)] _
    refine XS.iconst X6.here hx rfl (hb hby d1_35) ?_
    show Stp p e below T6 m 36 #[.val (.int pi1), .val (.int pi2)] [(.int (1 : Int32)), (.int pi2), (.int (1 : Int32)), (.ref b1), (.ref b1)] _
    refine st7 _ ?_
    show Stp p e below T7 m 39 #[.val (.int pi1), .val (.int pi2)] [(.int (own_bt pi2 (1 : Int32))), (.int (1 : Int32)), (.ref b1), (.ref b1)] _
    refine st11 _ ?_
    show Stp p e below T11 m 40 #[.val (.int pi1), .val (.int pi2)] [(.ref b1)] _
    jvm_step X11.here [X11.here.top, hx, (hb hby d1_40), X11.method', Bd.returns, Value.isRef, FieldType.isReference]
    first | (intro acts; rw [hr _ acts rfl rfl rfl]) | rw [hr _ _ rfl rfl rfl]
    exact Steps.refl _
  · show Q1_1 Z pi1 pi2 h0 n0 _ T11.heap _
    rw [e11]
    exact ⟨b1, k1, rfl, N11, k14, (Nat.le_trans (Keep.refl h0 []).1 (Nat.le_of_eq g1.symm)), V11⟩
theorem d1_41 : decode method_3_code 41 = .ok (.iload_n 0, 1) := by decide +kernel
theorem d1_42 : decode method_3_code 42 = .ok (.iconst 2, 1) := by decide +kernel
theorem d1_43 : decode method_3_code 43 = .ok (.if_icmp .ne 39, 3) := by decide +kernel
theorem d1_46 : decode method_3_code 46 = .ok (.iconst 4, 1) := by decide +kernel
theorem d1_47 : decode method_3_code 47 = .ok (.newarray .boolean, 2) := by decide +kernel
theorem d1_49 : decode method_3_code 49 = .ok (.dup, 1) := by decide +kernel
theorem d1_50 : decode method_3_code 50 = .ok (.iconst 0, 1) := by decide +kernel
theorem d1_51 : decode method_3_code 51 = .ok (.iload_n 1, 1) := by decide +kernel
theorem d1_52 : decode method_3_code 52 = .ok (.iconst 0, 1) := by decide +kernel
theorem d1_53 : decode method_3_code 53 = .ok (.invokestatic 7, 3) := by decide +kernel
theorem d1_56 : decode method_3_code 56 = .ok (.bastore, 1) := by decide +kernel
theorem d1_57 : decode method_3_code 57 = .ok (.dup, 1) := by decide +kernel
theorem d1_58 : decode method_3_code 58 = .ok (.iconst 1, 1) := by decide +kernel
theorem d1_59 : decode method_3_code 59 = .ok (.iload_n 1, 1) := by decide +kernel
theorem d1_60 : decode method_3_code 60 = .ok (.iconst 1, 1) := by decide +kernel
theorem d1_61 : decode method_3_code 61 = .ok (.invokestatic 7, 3) := by decide +kernel
theorem d1_64 : decode method_3_code 64 = .ok (.bastore, 1) := by decide +kernel
theorem d1_65 : decode method_3_code 65 = .ok (.dup, 1) := by decide +kernel
theorem d1_66 : decode method_3_code 66 = .ok (.iconst 2, 1) := by decide +kernel
theorem d1_67 : decode method_3_code 67 = .ok (.iload_n 1, 1) := by decide +kernel
theorem d1_68 : decode method_3_code 68 = .ok (.iconst 2, 1) := by decide +kernel
theorem d1_69 : decode method_3_code 69 = .ok (.invokestatic 7, 3) := by decide +kernel
theorem d1_72 : decode method_3_code 72 = .ok (.bastore, 1) := by decide +kernel
theorem d1_73 : decode method_3_code 73 = .ok (.dup, 1) := by decide +kernel
theorem d1_74 : decode method_3_code 74 = .ok (.iconst 3, 1) := by decide +kernel
theorem d1_75 : decode method_3_code 75 = .ok (.iload_n 1, 1) := by decide +kernel
theorem d1_76 : decode method_3_code 76 = .ok (.iconst 3, 1) := by decide +kernel
theorem d1_77 : decode method_3_code 77 = .ok (.invokestatic 7, 3) := by decide +kernel
theorem d1_80 : decode method_3_code 80 = .ok (.bastore, 1) := by decide +kernel
theorem d1_81 : decode method_3_code 81 = .ok (.areturn, 1) := by decide +kernel
def Q1_2 (Z : State) (pi1 : Int32) (pi2 : Int32) (h0 : Heap) (n0 : Nat) (v : Option Value) (h : Heap) (L : List Loc) : Prop := ∃ b1 : Addr, ∃ k1 : ClassId, v = some (.ref b1) ∧ Fr n0 L ∧ Keep h0 h [] ∧ h0.size ≤ b1 ∧ Arv Z h b1 k1 .boolean (4 : Int32) [(.int (nar .boolean (own_bt pi2 (0 : Int32)))), (.int (nar .boolean (own_bt pi2 (1 : Int32)))), (.int (nar .boolean (own_bt pi2 (2 : Int32)))), (.int (nar .boolean (own_bt pi2 (3 : Int32))))] (.int (0 : Int32))
set_option maxRecDepth 65536 in
set_option maxHeartbeats 40000000 in
theorem rm1_2 (l : Launch) (Z : State) (a0 : Array Value) (hw : ∀ d ∈ tables_1, d.before a0 Z = true) (ws : List Jvm.Cond) (pi1 : Int32) (pi2 : Int32) (h0 : Heap) (n0 : Nat) (Z0 : n0 ≤ h0.size) (O0 : Old Z n0 h0) (hc1_0 : ¬ (pi1 = (0 : Int32))) (hc18_1 : ¬ (pi1 = (1 : Int32))) (hc43_2 : pi1 = (2 : Int32)) :
    MetFree l (⟨"com/example/gudl/gudl/GroundFactorIsConstantPinLaw", "truthArray", "(II)[Z"⟩ : MethodName) (head1 (Jvm.Cond.code (⟨"com/example/gudl/gudl/GroundFactorIsConstantPinLaw", "truthArray", "(II)[Z"⟩ : MethodName) method_3_code 2 (some (.array .boolean)) :: ws) ({ frames := 1, cells := 1, slots := 4, locals := 16 } : Room)) (fun a U => a = #[(.int pi1), (.int pi2)] ∧ Z.Warmed39 U.vm ∧ U.heap = h0) (fun _ _ _ _ _ => True) (fun _ U o U' => ∃ v L, o = .returned v ∧ Q1_2 Z pi1 pi2 h0 n0 v U'.heap L ∧ FrameEnd U o U' L ({ frames := 1, cells := 1, slots := 4, locals := 16 } : Room).cells ({ frames := 1, cells := 1, slots := 4, locals := 16 } : Room).slots) := by
  refine MetFree.of_bodySF (plainFor_of_name pn_1) hisR ?_
  intro p e s m args below meth c s₁ Bd hml0 hP hK
  obtain ⟨rfl, hZ, hh⟩ := hP
  have hx := Bd.exec
  have hby := Bd.bytes
  have hml : c.maxLocals = 2 := hml0
  have hown : s.vm.findClass "com/example/gudl/gudl/GroundFactorIsConstantPinLaw" = some m.cls := findClass_of_methodNamed Bd.named
  have hnm := (name_of_methodNamed Bd.named Bd.method).1
  have X0 : Stand p l e ({ frames := 1, cells := 1, slots := 4, locals := 16 } : Room) s m #[(.int pi1), (.int pi2)] below meth c s₁ [] 0 0 := Stand.of_body Bd
  have e0 : s₁.heap = h0 := by rw [← hh, Bd.state]; rfl
  have N0 := Fr.nil n0
  have pre0 : ∀ t, Steps p.tables e below (s₁.setTop (mkF m 0 #[.val (.int pi1), .val (.int pi2)] [])) t → Steps p.tables e below (s₁.setTop (entryFrame m #[(.int pi1), (.int pi2)] 2)) t := fun t k => castTop (ef_1 m pi1 pi2) k
  obtain ⟨T1, h1, k1, X1, e1, E1, A1, st1⟩ := newP X0 hx hZ (own_W hw 4 rfl) e0 (g := (mkF m 47 #[.val (.int pi1), .val (.int pi2)] [(.int (4 : Int32))])) rfl (hb hby d1_47) rfl (by decide) (cap := 4) (by decide) (by decide) (by decide) (by decide)
  obtain ⟨b1, g1⟩ : ∃ z, z = h0.size := ⟨_, rfl⟩
  rw [← g1] at A1 st1
  have V1 : Arv Z h1 b1 k1 .boolean (4 : Int32) [(.int (0 : Int32)), (.int (0 : Int32)), (.int (0 : Int32)), (.int (0 : Int32))] (.int (0 : Int32)) := (Arv.new A1 (by decide)).pad (pad_rep [] (.int (0 : Int32)) 4)
  have z3 := Nat.le_trans Z0 E1.1
  have o4 := O0.ext E1
  obtain ⟨_, _, ⟨T2, L2, k2, n2⟩, -, X2, ⟨Lc2, hQ2, l2, y2, z2⟩, st2⟩ := Jvm.LawKit.callS X1 hx (y := (⟨"com/example/gudl/gudl/GroundFactorIsConstantPinLaw", "bit", "(II)Z"⟩ : MethodName)) hown (mvT hZ (own_W hw 5 rfl)) (mvT hZ (own_W hw 6 rfl)) (mvT hZ (own_W hw 2 rfl)) (mvT hZ (own_W hw 7 rfl)) (by decide) (backOf (W := 3) (rm2 l Z a0 hw [] pi2 (0 : Int32) h1 n0 z3 o4 ) hZ (own_W hw 7 rfl) (own_W hw 2 rfl) (by decide) (by decide)) (g := (mkF m 53 #[.val (.int pi1), .val (.int pi2)] [(.int (0 : Int32)), (.int pi2), (.int (0 : Int32)), (.ref b1), (.ref b1)])) rfl (by rw [hml]; rfl) (argsL := [(.int pi2), (.int (0 : Int32))]) (rest := [(.int (0 : Int32)), (.ref b1), (.ref b1)]) (lenOf pd_1 rfl) rfl (by show 2 * 0 + _ ≤ _; exact Nat.le_of_eq rfl) (hb hby d1_53) (fun _ _ => ⟨rfl, e1, (by decide : 1 + 0 ≤ _), (by decide : 4 + 0 ≤ _)⟩)
  dsimp only [Pt.U, Pt.locs, Pt.cells, Pt.slots] at X2 l2 y2 z2 st2 hQ2
  subst l2 y2 z2
  obtain ⟨rfl, N2q, eq2⟩ := hQ2
  have N2 := Fr.app N0 N2q
  have g_b1 : n0 ≤ b1 := Nat.le_trans Z0 (Nat.le_of_eq g1.symm)
  have V_c5 := V1
  obtain ⟨c5, Arc5, qc5, Sc5, Nc5, Hc5, Gc5⟩ := V_c5
  have hin6 : ¬ ((0 : Int32) < 0 ∨ c5.slots.size ≤ ((0 : Int32)).toNatClampNeg) := inb_of Sc5 ⟨by decide, by decide⟩
  obtain ⟨T6, h6, X6, e6, W6, st6⟩ := stZ X2 hx hZ eq2 Arc5 (j := (0 : Int32)) hin6 (g := (mkF m 56 #[.val (.int pi1), .val (.int pi2)] [(.int (own_bt pi2 (0 : Int32))), (.int (0 : Int32)), (.ref b1), (.ref b1)])) rfl rfl (hb hby d1_56)
  have V6 : Arv Z h6 b1 k1 .boolean (4 : Int32) [(.int (nar .boolean (own_bt pi2 (0 : Int32)))), (.int (0 : Int32)), (.int (0 : Int32)), (.int (0 : Int32))] (.int (0 : Int32)) := Arv.set Arc5 qc5 Sc5 Nc5 Hc5 Gc5 (fits_nar_bool _) W6 0 rfl (Nat.le_of_ble_eq_true rfl)
  have N6 := Fr.snoc X6 N2 g_b1
  have z8 := Nat.le_trans z3 (Keep.of_wr W6).1
  have o9 := o4.wr W6 g_b1
  obtain ⟨_, _, ⟨T7, L7, k7, n7⟩, -, X7, ⟨Lc7, hQ7, l7, y7, z7⟩, st7⟩ := Jvm.LawKit.callS X6 hx (y := (⟨"com/example/gudl/gudl/GroundFactorIsConstantPinLaw", "bit", "(II)Z"⟩ : MethodName)) hown (mvT hZ (own_W hw 5 rfl)) (mvT hZ (own_W hw 6 rfl)) (mvT hZ (own_W hw 2 rfl)) (mvT hZ (own_W hw 7 rfl)) (by decide) (backOf (W := 3) (rm2 l Z a0 hw [] pi2 (1 : Int32) h6 n0 z8 o9 ) hZ (own_W hw 7 rfl) (own_W hw 2 rfl) (by decide) (by decide)) (g := (mkF m 61 #[.val (.int pi1), .val (.int pi2)] [(.int (1 : Int32)), (.int pi2), (.int (1 : Int32)), (.ref b1), (.ref b1)])) rfl (by rw [hml]; rfl) (argsL := [(.int pi2), (.int (1 : Int32))]) (rest := [(.int (1 : Int32)), (.ref b1), (.ref b1)]) (lenOf pd_1 rfl) rfl (by show 2 * 0 + _ ≤ _; exact Nat.le_of_eq rfl) (hb hby d1_61) (fun _ _ => ⟨rfl, e6, (by decide : 1 + 0 ≤ _), (by decide : 4 + 0 ≤ _)⟩)
  dsimp only [Pt.U, Pt.locs, Pt.cells, Pt.slots] at X7 l7 y7 z7 st7 hQ7
  subst l7 y7 z7
  obtain ⟨rfl, N7q, eq7⟩ := hQ7
  have N7 := Fr.app N6 N7q
  have V_c10 := V6
  obtain ⟨c10, Arc10, qc10, Sc10, Nc10, Hc10, Gc10⟩ := V_c10
  have hin11 : ¬ ((1 : Int32) < 0 ∨ c10.slots.size ≤ ((1 : Int32)).toNatClampNeg) := inb_of Sc10 ⟨by decide, by decide⟩
  obtain ⟨T11, h11, X11, e11, W11, st11⟩ := stZ X7 hx hZ eq7 Arc10 (j := (1 : Int32)) hin11 (g := (mkF m 64 #[.val (.int pi1), .val (.int pi2)] [(.int (own_bt pi2 (1 : Int32))), (.int (1 : Int32)), (.ref b1), (.ref b1)])) rfl rfl (hb hby d1_64)
  have V11 : Arv Z h11 b1 k1 .boolean (4 : Int32) [(.int (nar .boolean (own_bt pi2 (0 : Int32)))), (.int (nar .boolean (own_bt pi2 (1 : Int32)))), (.int (0 : Int32)), (.int (0 : Int32))] (.int (0 : Int32)) := Arv.set Arc10 qc10 Sc10 Nc10 Hc10 Gc10 (fits_nar_bool _) W11 1 rfl (Nat.le_of_ble_eq_true rfl)
  have N11 := Fr.snoc X11 N7 g_b1
  have z13 := Nat.le_trans z8 (Keep.of_wr W11).1
  have o14 := o9.wr W11 g_b1
  obtain ⟨_, _, ⟨T12, L12, k12, n12⟩, -, X12, ⟨Lc12, hQ12, l12, y12, z12⟩, st12⟩ := Jvm.LawKit.callS X11 hx (y := (⟨"com/example/gudl/gudl/GroundFactorIsConstantPinLaw", "bit", "(II)Z"⟩ : MethodName)) hown (mvT hZ (own_W hw 5 rfl)) (mvT hZ (own_W hw 6 rfl)) (mvT hZ (own_W hw 2 rfl)) (mvT hZ (own_W hw 7 rfl)) (by decide) (backOf (W := 3) (rm2 l Z a0 hw [] pi2 (2 : Int32) h11 n0 z13 o14 ) hZ (own_W hw 7 rfl) (own_W hw 2 rfl) (by decide) (by decide)) (g := (mkF m 69 #[.val (.int pi1), .val (.int pi2)] [(.int (2 : Int32)), (.int pi2), (.int (2 : Int32)), (.ref b1), (.ref b1)])) rfl (by rw [hml]; rfl) (argsL := [(.int pi2), (.int (2 : Int32))]) (rest := [(.int (2 : Int32)), (.ref b1), (.ref b1)]) (lenOf pd_1 rfl) rfl (by show 2 * 0 + _ ≤ _; exact Nat.le_of_eq rfl) (hb hby d1_69) (fun _ _ => ⟨rfl, e11, (by decide : 1 + 0 ≤ _), (by decide : 4 + 0 ≤ _)⟩)
  dsimp only [Pt.U, Pt.locs, Pt.cells, Pt.slots] at X12 l12 y12 z12 st12 hQ12
  subst l12 y12 z12
  obtain ⟨rfl, N12q, eq12⟩ := hQ12
  have N12 := Fr.app N11 N12q
  have V_c15 := V11
  obtain ⟨c15, Arc15, qc15, Sc15, Nc15, Hc15, Gc15⟩ := V_c15
  have hin16 : ¬ ((2 : Int32) < 0 ∨ c15.slots.size ≤ ((2 : Int32)).toNatClampNeg) := inb_of Sc15 ⟨by decide, by decide⟩
  obtain ⟨T16, h16, X16, e16, W16, st16⟩ := stZ X12 hx hZ eq12 Arc15 (j := (2 : Int32)) hin16 (g := (mkF m 72 #[.val (.int pi1), .val (.int pi2)] [(.int (own_bt pi2 (2 : Int32))), (.int (2 : Int32)), (.ref b1), (.ref b1)])) rfl rfl (hb hby d1_72)
  have V16 : Arv Z h16 b1 k1 .boolean (4 : Int32) [(.int (nar .boolean (own_bt pi2 (0 : Int32)))), (.int (nar .boolean (own_bt pi2 (1 : Int32)))), (.int (nar .boolean (own_bt pi2 (2 : Int32)))), (.int (0 : Int32))] (.int (0 : Int32)) := Arv.set Arc15 qc15 Sc15 Nc15 Hc15 Gc15 (fits_nar_bool _) W16 2 rfl (Nat.le_of_ble_eq_true rfl)
  have N16 := Fr.snoc X16 N12 g_b1
  have z18 := Nat.le_trans z13 (Keep.of_wr W16).1
  have o19 := o14.wr W16 g_b1
  obtain ⟨_, _, ⟨T17, L17, k17, n17⟩, -, X17, ⟨Lc17, hQ17, l17, y17, z17⟩, st17⟩ := Jvm.LawKit.callS X16 hx (y := (⟨"com/example/gudl/gudl/GroundFactorIsConstantPinLaw", "bit", "(II)Z"⟩ : MethodName)) hown (mvT hZ (own_W hw 5 rfl)) (mvT hZ (own_W hw 6 rfl)) (mvT hZ (own_W hw 2 rfl)) (mvT hZ (own_W hw 7 rfl)) (by decide) (backOf (W := 3) (rm2 l Z a0 hw [] pi2 (3 : Int32) h16 n0 z18 o19 ) hZ (own_W hw 7 rfl) (own_W hw 2 rfl) (by decide) (by decide)) (g := (mkF m 77 #[.val (.int pi1), .val (.int pi2)] [(.int (3 : Int32)), (.int pi2), (.int (3 : Int32)), (.ref b1), (.ref b1)])) rfl (by rw [hml]; rfl) (argsL := [(.int pi2), (.int (3 : Int32))]) (rest := [(.int (3 : Int32)), (.ref b1), (.ref b1)]) (lenOf pd_1 rfl) rfl (by show 2 * 0 + _ ≤ _; exact Nat.le_of_eq rfl) (hb hby d1_77) (fun _ _ => ⟨rfl, e16, (by decide : 1 + 0 ≤ _), (by decide : 4 + 0 ≤ _)⟩)
  dsimp only [Pt.U, Pt.locs, Pt.cells, Pt.slots] at X17 l17 y17 z17 st17 hQ17
  subst l17 y17 z17
  obtain ⟨rfl, N17q, eq17⟩ := hQ17
  have N17 := Fr.app N16 N17q
  have V_c20 := V16
  obtain ⟨c20, Arc20, qc20, Sc20, Nc20, Hc20, Gc20⟩ := V_c20
  have hin21 : ¬ ((3 : Int32) < 0 ∨ c20.slots.size ≤ ((3 : Int32)).toNatClampNeg) := inb_of Sc20 ⟨by decide, by decide⟩
  obtain ⟨T21, h21, X21, e21, W21, st21⟩ := stZ X17 hx hZ eq17 Arc20 (j := (3 : Int32)) hin21 (g := (mkF m 80 #[.val (.int pi1), .val (.int pi2)] [(.int (own_bt pi2 (3 : Int32))), (.int (3 : Int32)), (.ref b1), (.ref b1)])) rfl rfl (hb hby d1_80)
  have V21 : Arv Z h21 b1 k1 .boolean (4 : Int32) [(.int (nar .boolean (own_bt pi2 (0 : Int32)))), (.int (nar .boolean (own_bt pi2 (1 : Int32)))), (.int (nar .boolean (own_bt pi2 (2 : Int32)))), (.int (nar .boolean (own_bt pi2 (3 : Int32))))] (.int (0 : Int32)) := Arv.set Arc20 qc20 Sc20 Nc20 Hc20 Gc20 (fits_nar_bool _) W21 3 rfl (Nat.le_of_ble_eq_true rfl)
  have N21 := Fr.snoc X21 N17 g_b1
  have k22 : Keep h0 h1 [] := (Keep.refl h0 []).ext E1
  have k23 : Keep h0 h6 [] := k22.wr W6 (Or.inr (Nat.le_trans (Keep.refl h0 []).1 (Nat.le_of_eq g1.symm)))
  have k24 : Keep h0 h11 [] := k23.wr W11 (Or.inr (Nat.le_trans (Keep.refl h0 []).1 (Nat.le_of_eq g1.symm)))
  have k25 : Keep h0 h16 [] := k24.wr W16 (Or.inr (Nat.le_trans (Keep.refl h0 []).1 (Nat.le_of_eq g1.symm)))
  have k26 : Keep h0 h21 [] := k25.wr W21 (Or.inr (Nat.le_trans (Keep.refl h0 []).1 (Nat.le_of_eq g1.symm)))
  obtain ⟨fs, hr, hrun, hended, hW, hsame⟩ := X21.leave (v := some (.ref b1)) (fun h => by rw [Bd.returns] at h; cases h)
  refine ⟨_, _, pre0 _ ?_, hrun, hended, _, _, rfl, ?_, ⟨_, rfl⟩, hW, hsame.mono (by decide) (by decide)⟩
  · show Stp p e below s₁ m 0 #[.val (.int pi1), .val (.int pi2)] [] _
    refine XS.iloadN X0.here hx rfl (hb hby d1_0) rfl ?_
    show Stp p e below s₁ m 1 #[.val (.int pi1), .val (.int pi2)] [(.int pi1)] _
    refine XS.ifYes X0.here hx rfl (pc0 := 1) (pc' := 16) rfl (hb hby d1_1) rfl ((if0 _ _).trans (feq hc1_0).2) (by decide) (by decide) ?_
    show Stp p e below s₁ m 16 #[.val (.int pi1), .val (.int pi2)] [] _
    refine XS.iloadN X0.here hx rfl (hb hby d1_16) rfl ?_
    show Stp p e below s₁ m 17 #[.val (.int pi1), .val (.int pi2)] [(.int pi1)] _
    refine XS.iconst X0.here hx rfl (hb hby d1_17) ?_
    show Stp p e below s₁ m 18 #[.val (.int pi1), .val (.int pi2)] [(.int (1 : Int32)), (.int pi1)] _
    refine XS.icmpYes X0.here hx rfl (pc0 := 18) (pc' := 41) rfl (hb hby d1_18) rfl (feq hc18_1).2 (by decide) (by decide) ?_
    show Stp p e below s₁ m 41 #[.val (.int pi1), .val (.int pi2)] [] _
    refine XS.iloadN X0.here hx rfl (hb hby d1_41) rfl ?_
    show Stp p e below s₁ m 42 #[.val (.int pi1), .val (.int pi2)] [(.int pi1)] _
    refine XS.iconst X0.here hx rfl (hb hby d1_42) ?_
    show Stp p e below s₁ m 43 #[.val (.int pi1), .val (.int pi2)] [(.int (2 : Int32)), (.int pi1)] _
    refine XS.icmpNo X0.here hx rfl (hb hby d1_43) rfl (teq hc43_2).2 ?_
    show Stp p e below s₁ m 46 #[.val (.int pi1), .val (.int pi2)] [] _
    refine XS.iconst X0.here hx rfl (hb hby d1_46) ?_
    show Stp p e below s₁ m 47 #[.val (.int pi1), .val (.int pi2)] [(.int (4 : Int32))] _
    refine st1 _ ?_
    show Stp p e below T1 m 49 #[.val (.int pi1), .val (.int pi2)] [(.ref b1)] _
    refine XS.dup X1.here hx rfl (hb hby d1_49) rfl rfl ?_
    show Stp p e below T1 m 50 #[.val (.int pi1), .val (.int pi2)] [(.ref b1), (.ref b1)] _
    refine XS.iconst X1.here hx rfl (hb hby d1_50) ?_
    show Stp p e below T1 m 51 #[.val (.int pi1), .val (.int pi2)] [(.int (0 : Int32)), (.ref b1), (.ref b1)] _
    refine XS.iloadN X1.here hx rfl (hb hby d1_51) rfl ?_
    show Stp p e below T1 m 52 #[.val (.int pi1), .val (.int pi2)] [(.int pi2), (.int (0 : Int32)), (.ref b1), (.ref b1)] _
    refine XS.iconst X1.here hx rfl (hb hby d1_52) ?_
    show Stp p e below T1 m 53 #[.val (.int pi1), .val (.int pi2)] [(.int (0 : Int32)), (.int pi2), (.int (0 : Int32)), (.ref b1), (.ref b1)] _
    refine st2 _ ?_
    show Stp p e below T2 m 56 #[.val (.int pi1), .val (.int pi2)] [(.int (own_bt pi2 (0 : Int32))), (.int (0 : Int32)), (.ref b1), (.ref b1)] _
    refine st6 _ ?_
    show Stp p e below T6 m 57 #[.val (.int pi1), .val (.int pi2)] [(.ref b1)] _
    refine XS.dup X6.here hx rfl (hb hby d1_57) rfl rfl ?_
    show Stp p e below T6 m 58 #[.val (.int pi1), .val (.int pi2)] [(.ref b1), (.ref b1)] _
    refine XS.iconst X6.here hx rfl (hb hby d1_58) ?_
    show Stp p e below T6 m 59 #[.val (.int pi1), .val (.int pi2)] [(.int (1 : Int32)), (.ref b1), (.ref b1)] _
    refine XS.iloadN X6.here hx rfl (hb hby d1_59) rfl ?_
    show Stp p e below T6 m 60 #[.val (.int pi1), .val (.int pi2)] [(.int pi2), (.int (1 : Int32)), (.ref b1), (.ref b1)] _
    refine XS.iconst X6.here hx rfl (hb hby d1_60) ?_
    show Stp p e below T6 m 61 #[.val (.int pi1), .val (.int pi2)] [(.int (1 : Int32)), (.int pi2), (.int (1 : Int32)), (.ref b1), (.ref b1)] _
    refine st7 _ ?_
    show Stp p e below T7 m 64 #[.val (.int pi1), .val (.int pi2)] [(.int (own_bt pi2 (1 : Int32))), (.int (1 : Int32)), (.ref b1), (.ref b1)] _
    refine st11 _ ?_
    show Stp p e below T11 m 65 #[.val (.int pi1), .val (.int pi2)] [(.ref b1)] _
    refine XS.dup X11.here hx rfl (hb hby d1_65) rfl rfl ?_
    show Stp p e below T11 m 66 #[.val (.int pi1), .val (.int pi2)] [(.ref b1), (.ref b1)] _
    refine XS.iconst X11.here hx rfl (hb hby d1_66) ?_
    show Stp p e below T11 m 67 #[.val (.int pi1), .val (.int pi2)] [(.int (2 : Int32)), (.ref b1), (.ref b1)] _
    refine XS.iloadN X11.here hx rfl (hb hby d1_67) rfl ?_
    show Stp p e below T11 m 68 #[.val (.int pi1), .val (.int pi2)] [(.int pi2), (.int (2 : Int32)), (.ref b1), (.ref b1)] _
    refine XS.iconst X11.here hx rfl (hb hby d1_68) ?_
    show Stp p e below T11 m 69 #[.val (.int pi1), .val (.int pi2)] [(.int (2 : Int32)), (.int pi2), (.int (2 : Int32)), (.ref b1), (.ref b1)] _
    refine st12 _ ?_
    show Stp p e below T12 m 72 #[.val (.int pi1), .val (.int pi2)] [(.int (own_bt pi2 (2 : Int32))), (.int (2 : Int32)), (.ref b1), (.ref b1)] _
    refine st16 _ ?_
    show Stp p e below T16 m 73 #[.val (.int pi1), .val (.int pi2)] [(.ref b1)] _
    refine XS.dup X16.here hx rfl (hb hby d1_73) rfl rfl ?_
    show Stp p e below T16 m 74 #[.val (.int pi1), .val (.int pi2)] [(.ref b1), (.ref b1)] _
    refine XS.iconst X16.here hx rfl (hb hby d1_74) ?_
    show Stp p e below T16 m 75 #[.val (.int pi1), .val (.int pi2)] [(.int (3 : Int32)), (.ref b1), (.ref b1)] _
    refine XS.iloadN X16.here hx rfl (hb hby d1_75) rfl ?_
    show Stp p e below T16 m 76 #[.val (.int pi1), .val (.int pi2)] [(.int pi2), (.int (3 : Int32)), (.ref b1), (.ref b1)] _
    refine XS.iconst X16.here hx rfl (hb hby d1_76) ?_
    show Stp p e below T16 m 77 #[.val (.int pi1), .val (.int pi2)] [(.int (3 : Int32)), (.int pi2), (.int (3 : Int32)), (.ref b1), (.ref b1)] _
    refine st17 _ ?_
    show Stp p e below T17 m 80 #[.val (.int pi1), .val (.int pi2)] [(.int (own_bt pi2 (3 : Int32))), (.int (3 : Int32)), (.ref b1), (.ref b1)] _
    refine st21 _ ?_
    show Stp p e below T21 m 81 #[.val (.int pi1), .val (.int pi2)] [(.ref b1)] _
    jvm_step X21.here [X21.here.top, hx, (hb hby d1_81), X21.method', Bd.returns, Value.isRef, FieldType.isReference]
    first | (intro acts; rw [hr _ acts rfl rfl rfl]) | rw [hr _ _ rfl rfl rfl]
    exact Steps.refl _
  · show Q1_2 Z pi1 pi2 h0 n0 _ T21.heap _
    rw [e21]
    exact ⟨b1, k1, rfl, N21, k26, (Nat.le_trans (Keep.refl h0 []).1 (Nat.le_of_eq g1.symm)), V21⟩
theorem d1_82 : decode method_3_code 82 = .ok (.bipush 8, 2) := by decide +kernel
theorem d1_84 : decode method_3_code 84 = .ok (.newarray .boolean, 2) := by decide +kernel
theorem d1_86 : decode method_3_code 86 = .ok (.dup, 1) := by decide +kernel
theorem d1_87 : decode method_3_code 87 = .ok (.iconst 0, 1) := by decide +kernel
theorem d1_88 : decode method_3_code 88 = .ok (.iload_n 1, 1) := by decide +kernel
theorem d1_89 : decode method_3_code 89 = .ok (.iconst 0, 1) := by decide +kernel
theorem d1_90 : decode method_3_code 90 = .ok (.invokestatic 7, 3) := by decide +kernel
theorem d1_93 : decode method_3_code 93 = .ok (.bastore, 1) := by decide +kernel
theorem d1_94 : decode method_3_code 94 = .ok (.dup, 1) := by decide +kernel
theorem d1_95 : decode method_3_code 95 = .ok (.iconst 1, 1) := by decide +kernel
theorem d1_96 : decode method_3_code 96 = .ok (.iload_n 1, 1) := by decide +kernel
theorem d1_97 : decode method_3_code 97 = .ok (.iconst 1, 1) := by decide +kernel
theorem d1_98 : decode method_3_code 98 = .ok (.invokestatic 7, 3) := by decide +kernel
theorem d1_101 : decode method_3_code 101 = .ok (.bastore, 1) := by decide +kernel
theorem d1_102 : decode method_3_code 102 = .ok (.dup, 1) := by decide +kernel
theorem d1_103 : decode method_3_code 103 = .ok (.iconst 2, 1) := by decide +kernel
theorem d1_104 : decode method_3_code 104 = .ok (.iload_n 1, 1) := by decide +kernel
theorem d1_105 : decode method_3_code 105 = .ok (.iconst 2, 1) := by decide +kernel
theorem d1_106 : decode method_3_code 106 = .ok (.invokestatic 7, 3) := by decide +kernel
theorem d1_109 : decode method_3_code 109 = .ok (.bastore, 1) := by decide +kernel
theorem d1_110 : decode method_3_code 110 = .ok (.dup, 1) := by decide +kernel
theorem d1_111 : decode method_3_code 111 = .ok (.iconst 3, 1) := by decide +kernel
theorem d1_112 : decode method_3_code 112 = .ok (.iload_n 1, 1) := by decide +kernel
theorem d1_113 : decode method_3_code 113 = .ok (.iconst 3, 1) := by decide +kernel
theorem d1_114 : decode method_3_code 114 = .ok (.invokestatic 7, 3) := by decide +kernel
theorem d1_117 : decode method_3_code 117 = .ok (.bastore, 1) := by decide +kernel
theorem d1_118 : decode method_3_code 118 = .ok (.dup, 1) := by decide +kernel
theorem d1_119 : decode method_3_code 119 = .ok (.iconst 4, 1) := by decide +kernel
theorem d1_120 : decode method_3_code 120 = .ok (.iload_n 1, 1) := by decide +kernel
theorem d1_121 : decode method_3_code 121 = .ok (.iconst 4, 1) := by decide +kernel
theorem d1_122 : decode method_3_code 122 = .ok (.invokestatic 7, 3) := by decide +kernel
theorem d1_125 : decode method_3_code 125 = .ok (.bastore, 1) := by decide +kernel
theorem d1_126 : decode method_3_code 126 = .ok (.dup, 1) := by decide +kernel
theorem d1_127 : decode method_3_code 127 = .ok (.iconst 5, 1) := by decide +kernel
theorem d1_128 : decode method_3_code 128 = .ok (.iload_n 1, 1) := by decide +kernel
theorem d1_129 : decode method_3_code 129 = .ok (.iconst 5, 1) := by decide +kernel
theorem d1_130 : decode method_3_code 130 = .ok (.invokestatic 7, 3) := by decide +kernel
theorem d1_133 : decode method_3_code 133 = .ok (.bastore, 1) := by decide +kernel
theorem d1_134 : decode method_3_code 134 = .ok (.dup, 1) := by decide +kernel
theorem d1_135 : decode method_3_code 135 = .ok (.bipush 6, 2) := by decide +kernel
theorem d1_137 : decode method_3_code 137 = .ok (.iload_n 1, 1) := by decide +kernel
theorem d1_138 : decode method_3_code 138 = .ok (.bipush 6, 2) := by decide +kernel
theorem d1_140 : decode method_3_code 140 = .ok (.invokestatic 7, 3) := by decide +kernel
theorem d1_143 : decode method_3_code 143 = .ok (.bastore, 1) := by decide +kernel
theorem d1_144 : decode method_3_code 144 = .ok (.dup, 1) := by decide +kernel
theorem d1_145 : decode method_3_code 145 = .ok (.bipush 7, 2) := by decide +kernel
theorem d1_147 : decode method_3_code 147 = .ok (.iload_n 1, 1) := by decide +kernel
theorem d1_148 : decode method_3_code 148 = .ok (.bipush 7, 2) := by decide +kernel
theorem d1_150 : decode method_3_code 150 = .ok (.invokestatic 7, 3) := by decide +kernel
theorem d1_153 : decode method_3_code 153 = .ok (.bastore, 1) := by decide +kernel
theorem d1_154 : decode method_3_code 154 = .ok (.areturn, 1) := by decide +kernel
def Q1_3 (Z : State) (pi1 : Int32) (pi2 : Int32) (h0 : Heap) (n0 : Nat) (v : Option Value) (h : Heap) (L : List Loc) : Prop := ∃ b1 : Addr, ∃ k1 : ClassId, v = some (.ref b1) ∧ Fr n0 L ∧ Keep h0 h [] ∧ h0.size ≤ b1 ∧ Arv Z h b1 k1 .boolean (8 : Int32) [(.int (nar .boolean (own_bt pi2 (0 : Int32)))), (.int (nar .boolean (own_bt pi2 (1 : Int32)))), (.int (nar .boolean (own_bt pi2 (2 : Int32)))), (.int (nar .boolean (own_bt pi2 (3 : Int32)))), (.int (nar .boolean (own_bt pi2 (4 : Int32)))), (.int (nar .boolean (own_bt pi2 (5 : Int32)))), (.int (nar .boolean (own_bt pi2 (6 : Int32)))), (.int (nar .boolean (own_bt pi2 (7 : Int32))))] (.int (0 : Int32))
set_option maxRecDepth 65536 in
set_option maxHeartbeats 40000000 in
theorem rm1_3 (l : Launch) (Z : State) (a0 : Array Value) (hw : ∀ d ∈ tables_1, d.before a0 Z = true) (ws : List Jvm.Cond) (pi1 : Int32) (pi2 : Int32) (h0 : Heap) (n0 : Nat) (Z0 : n0 ≤ h0.size) (O0 : Old Z n0 h0) (hc1_0 : ¬ (pi1 = (0 : Int32))) (hc18_1 : ¬ (pi1 = (1 : Int32))) (hc43_2 : ¬ (pi1 = (2 : Int32))) :
    MetFree l (⟨"com/example/gudl/gudl/GroundFactorIsConstantPinLaw", "truthArray", "(II)[Z"⟩ : MethodName) (head1 (Jvm.Cond.code (⟨"com/example/gudl/gudl/GroundFactorIsConstantPinLaw", "truthArray", "(II)[Z"⟩ : MethodName) method_3_code 2 (some (.array .boolean)) :: ws) ({ frames := 1, cells := 1, slots := 8, locals := 16 } : Room)) (fun a U => a = #[(.int pi1), (.int pi2)] ∧ Z.Warmed39 U.vm ∧ U.heap = h0) (fun _ _ _ _ _ => True) (fun _ U o U' => ∃ v L, o = .returned v ∧ Q1_3 Z pi1 pi2 h0 n0 v U'.heap L ∧ FrameEnd U o U' L ({ frames := 1, cells := 1, slots := 8, locals := 16 } : Room).cells ({ frames := 1, cells := 1, slots := 8, locals := 16 } : Room).slots) := by
  refine MetFree.of_bodySF (plainFor_of_name pn_1) hisR ?_
  intro p e s m args below meth c s₁ Bd hml0 hP hK
  obtain ⟨rfl, hZ, hh⟩ := hP
  have hx := Bd.exec
  have hby := Bd.bytes
  have hml : c.maxLocals = 2 := hml0
  have hown : s.vm.findClass "com/example/gudl/gudl/GroundFactorIsConstantPinLaw" = some m.cls := findClass_of_methodNamed Bd.named
  have hnm := (name_of_methodNamed Bd.named Bd.method).1
  have X0 : Stand p l e ({ frames := 1, cells := 1, slots := 8, locals := 16 } : Room) s m #[(.int pi1), (.int pi2)] below meth c s₁ [] 0 0 := Stand.of_body Bd
  have e0 : s₁.heap = h0 := by rw [← hh, Bd.state]; rfl
  have N0 := Fr.nil n0
  have pre0 : ∀ t, Steps p.tables e below (s₁.setTop (mkF m 0 #[.val (.int pi1), .val (.int pi2)] [])) t → Steps p.tables e below (s₁.setTop (entryFrame m #[(.int pi1), (.int pi2)] 2)) t := fun t k => castTop (ef_1 m pi1 pi2) k
  obtain ⟨T1, h1, k1, X1, e1, E1, A1, st1⟩ := newP X0 hx hZ (own_W hw 4 rfl) e0 (g := (mkF m 84 #[.val (.int pi1), .val (.int pi2)] [(.int (8 : Int32))])) rfl (hb hby d1_84) rfl (by decide) (cap := 8) (by decide) (by decide) (by decide) (by decide)
  obtain ⟨b1, g1⟩ : ∃ z, z = h0.size := ⟨_, rfl⟩
  rw [← g1] at A1 st1
  have V1 : Arv Z h1 b1 k1 .boolean (8 : Int32) [(.int (0 : Int32)), (.int (0 : Int32)), (.int (0 : Int32)), (.int (0 : Int32)), (.int (0 : Int32)), (.int (0 : Int32)), (.int (0 : Int32)), (.int (0 : Int32))] (.int (0 : Int32)) := (Arv.new A1 (by decide)).pad (pad_rep [] (.int (0 : Int32)) 8)
  have z3 := Nat.le_trans Z0 E1.1
  have o4 := O0.ext E1
  obtain ⟨_, _, ⟨T2, L2, k2, n2⟩, -, X2, ⟨Lc2, hQ2, l2, y2, z2⟩, st2⟩ := Jvm.LawKit.callS X1 hx (y := (⟨"com/example/gudl/gudl/GroundFactorIsConstantPinLaw", "bit", "(II)Z"⟩ : MethodName)) hown (mvT hZ (own_W hw 5 rfl)) (mvT hZ (own_W hw 6 rfl)) (mvT hZ (own_W hw 2 rfl)) (mvT hZ (own_W hw 7 rfl)) (by decide) (backOf (W := 3) (rm2 l Z a0 hw [] pi2 (0 : Int32) h1 n0 z3 o4 ) hZ (own_W hw 7 rfl) (own_W hw 2 rfl) (by decide) (by decide)) (g := (mkF m 90 #[.val (.int pi1), .val (.int pi2)] [(.int (0 : Int32)), (.int pi2), (.int (0 : Int32)), (.ref b1), (.ref b1)])) rfl (by rw [hml]; rfl) (argsL := [(.int pi2), (.int (0 : Int32))]) (rest := [(.int (0 : Int32)), (.ref b1), (.ref b1)]) (lenOf pd_1 rfl) rfl (by show 2 * 0 + _ ≤ _; exact Nat.le_of_eq rfl) (hb hby d1_90) (fun _ _ => ⟨rfl, e1, (by decide : 1 + 0 ≤ _), (by decide : 8 + 0 ≤ _)⟩)
  dsimp only [Pt.U, Pt.locs, Pt.cells, Pt.slots] at X2 l2 y2 z2 st2 hQ2
  subst l2 y2 z2
  obtain ⟨rfl, N2q, eq2⟩ := hQ2
  have N2 := Fr.app N0 N2q
  have g_b1 : n0 ≤ b1 := Nat.le_trans Z0 (Nat.le_of_eq g1.symm)
  have V_c5 := V1
  obtain ⟨c5, Arc5, qc5, Sc5, Nc5, Hc5, Gc5⟩ := V_c5
  have hin6 : ¬ ((0 : Int32) < 0 ∨ c5.slots.size ≤ ((0 : Int32)).toNatClampNeg) := inb_of Sc5 ⟨by decide, by decide⟩
  obtain ⟨T6, h6, X6, e6, W6, st6⟩ := stZ X2 hx hZ eq2 Arc5 (j := (0 : Int32)) hin6 (g := (mkF m 93 #[.val (.int pi1), .val (.int pi2)] [(.int (own_bt pi2 (0 : Int32))), (.int (0 : Int32)), (.ref b1), (.ref b1)])) rfl rfl (hb hby d1_93)
  have V6 : Arv Z h6 b1 k1 .boolean (8 : Int32) [(.int (nar .boolean (own_bt pi2 (0 : Int32)))), (.int (0 : Int32)), (.int (0 : Int32)), (.int (0 : Int32)), (.int (0 : Int32)), (.int (0 : Int32)), (.int (0 : Int32)), (.int (0 : Int32))] (.int (0 : Int32)) := Arv.set Arc5 qc5 Sc5 Nc5 Hc5 Gc5 (fits_nar_bool _) W6 0 rfl (Nat.le_of_ble_eq_true rfl)
  have N6 := Fr.snoc X6 N2 g_b1
  have z8 := Nat.le_trans z3 (Keep.of_wr W6).1
  have o9 := o4.wr W6 g_b1
  obtain ⟨_, _, ⟨T7, L7, k7, n7⟩, -, X7, ⟨Lc7, hQ7, l7, y7, z7⟩, st7⟩ := Jvm.LawKit.callS X6 hx (y := (⟨"com/example/gudl/gudl/GroundFactorIsConstantPinLaw", "bit", "(II)Z"⟩ : MethodName)) hown (mvT hZ (own_W hw 5 rfl)) (mvT hZ (own_W hw 6 rfl)) (mvT hZ (own_W hw 2 rfl)) (mvT hZ (own_W hw 7 rfl)) (by decide) (backOf (W := 3) (rm2 l Z a0 hw [] pi2 (1 : Int32) h6 n0 z8 o9 ) hZ (own_W hw 7 rfl) (own_W hw 2 rfl) (by decide) (by decide)) (g := (mkF m 98 #[.val (.int pi1), .val (.int pi2)] [(.int (1 : Int32)), (.int pi2), (.int (1 : Int32)), (.ref b1), (.ref b1)])) rfl (by rw [hml]; rfl) (argsL := [(.int pi2), (.int (1 : Int32))]) (rest := [(.int (1 : Int32)), (.ref b1), (.ref b1)]) (lenOf pd_1 rfl) rfl (by show 2 * 0 + _ ≤ _; exact Nat.le_of_eq rfl) (hb hby d1_98) (fun _ _ => ⟨rfl, e6, (by decide : 1 + 0 ≤ _), (by decide : 8 + 0 ≤ _)⟩)
  dsimp only [Pt.U, Pt.locs, Pt.cells, Pt.slots] at X7 l7 y7 z7 st7 hQ7
  subst l7 y7 z7
  obtain ⟨rfl, N7q, eq7⟩ := hQ7
  have N7 := Fr.app N6 N7q
  have V_c10 := V6
  obtain ⟨c10, Arc10, qc10, Sc10, Nc10, Hc10, Gc10⟩ := V_c10
  have hin11 : ¬ ((1 : Int32) < 0 ∨ c10.slots.size ≤ ((1 : Int32)).toNatClampNeg) := inb_of Sc10 ⟨by decide, by decide⟩
  obtain ⟨T11, h11, X11, e11, W11, st11⟩ := stZ X7 hx hZ eq7 Arc10 (j := (1 : Int32)) hin11 (g := (mkF m 101 #[.val (.int pi1), .val (.int pi2)] [(.int (own_bt pi2 (1 : Int32))), (.int (1 : Int32)), (.ref b1), (.ref b1)])) rfl rfl (hb hby d1_101)
  have V11 : Arv Z h11 b1 k1 .boolean (8 : Int32) [(.int (nar .boolean (own_bt pi2 (0 : Int32)))), (.int (nar .boolean (own_bt pi2 (1 : Int32)))), (.int (0 : Int32)), (.int (0 : Int32)), (.int (0 : Int32)), (.int (0 : Int32)), (.int (0 : Int32)), (.int (0 : Int32))] (.int (0 : Int32)) := Arv.set Arc10 qc10 Sc10 Nc10 Hc10 Gc10 (fits_nar_bool _) W11 1 rfl (Nat.le_of_ble_eq_true rfl)
  have N11 := Fr.snoc X11 N7 g_b1
  have z13 := Nat.le_trans z8 (Keep.of_wr W11).1
  have o14 := o9.wr W11 g_b1
  obtain ⟨_, _, ⟨T12, L12, k12, n12⟩, -, X12, ⟨Lc12, hQ12, l12, y12, z12⟩, st12⟩ := Jvm.LawKit.callS X11 hx (y := (⟨"com/example/gudl/gudl/GroundFactorIsConstantPinLaw", "bit", "(II)Z"⟩ : MethodName)) hown (mvT hZ (own_W hw 5 rfl)) (mvT hZ (own_W hw 6 rfl)) (mvT hZ (own_W hw 2 rfl)) (mvT hZ (own_W hw 7 rfl)) (by decide) (backOf (W := 3) (rm2 l Z a0 hw [] pi2 (2 : Int32) h11 n0 z13 o14 ) hZ (own_W hw 7 rfl) (own_W hw 2 rfl) (by decide) (by decide)) (g := (mkF m 106 #[.val (.int pi1), .val (.int pi2)] [(.int (2 : Int32)), (.int pi2), (.int (2 : Int32)), (.ref b1), (.ref b1)])) rfl (by rw [hml]; rfl) (argsL := [(.int pi2), (.int (2 : Int32))]) (rest := [(.int (2 : Int32)), (.ref b1), (.ref b1)]) (lenOf pd_1 rfl) rfl (by show 2 * 0 + _ ≤ _; exact Nat.le_of_eq rfl) (hb hby d1_106) (fun _ _ => ⟨rfl, e11, (by decide : 1 + 0 ≤ _), (by decide : 8 + 0 ≤ _)⟩)
  dsimp only [Pt.U, Pt.locs, Pt.cells, Pt.slots] at X12 l12 y12 z12 st12 hQ12
  subst l12 y12 z12
  obtain ⟨rfl, N12q, eq12⟩ := hQ12
  have N12 := Fr.app N11 N12q
  have V_c15 := V11
  obtain ⟨c15, Arc15, qc15, Sc15, Nc15, Hc15, Gc15⟩ := V_c15
  have hin16 : ¬ ((2 : Int32) < 0 ∨ c15.slots.size ≤ ((2 : Int32)).toNatClampNeg) := inb_of Sc15 ⟨by decide, by decide⟩
  obtain ⟨T16, h16, X16, e16, W16, st16⟩ := stZ X12 hx hZ eq12 Arc15 (j := (2 : Int32)) hin16 (g := (mkF m 109 #[.val (.int pi1), .val (.int pi2)] [(.int (own_bt pi2 (2 : Int32))), (.int (2 : Int32)), (.ref b1), (.ref b1)])) rfl rfl (hb hby d1_109)
  have V16 : Arv Z h16 b1 k1 .boolean (8 : Int32) [(.int (nar .boolean (own_bt pi2 (0 : Int32)))), (.int (nar .boolean (own_bt pi2 (1 : Int32)))), (.int (nar .boolean (own_bt pi2 (2 : Int32)))), (.int (0 : Int32)), (.int (0 : Int32)), (.int (0 : Int32)), (.int (0 : Int32)), (.int (0 : Int32))] (.int (0 : Int32)) := Arv.set Arc15 qc15 Sc15 Nc15 Hc15 Gc15 (fits_nar_bool _) W16 2 rfl (Nat.le_of_ble_eq_true rfl)
  have N16 := Fr.snoc X16 N12 g_b1
  have z18 := Nat.le_trans z13 (Keep.of_wr W16).1
  have o19 := o14.wr W16 g_b1
  obtain ⟨_, _, ⟨T17, L17, k17, n17⟩, -, X17, ⟨Lc17, hQ17, l17, y17, z17⟩, st17⟩ := Jvm.LawKit.callS X16 hx (y := (⟨"com/example/gudl/gudl/GroundFactorIsConstantPinLaw", "bit", "(II)Z"⟩ : MethodName)) hown (mvT hZ (own_W hw 5 rfl)) (mvT hZ (own_W hw 6 rfl)) (mvT hZ (own_W hw 2 rfl)) (mvT hZ (own_W hw 7 rfl)) (by decide) (backOf (W := 3) (rm2 l Z a0 hw [] pi2 (3 : Int32) h16 n0 z18 o19 ) hZ (own_W hw 7 rfl) (own_W hw 2 rfl) (by decide) (by decide)) (g := (mkF m 114 #[.val (.int pi1), .val (.int pi2)] [(.int (3 : Int32)), (.int pi2), (.int (3 : Int32)), (.ref b1), (.ref b1)])) rfl (by rw [hml]; rfl) (argsL := [(.int pi2), (.int (3 : Int32))]) (rest := [(.int (3 : Int32)), (.ref b1), (.ref b1)]) (lenOf pd_1 rfl) rfl (by show 2 * 0 + _ ≤ _; exact Nat.le_of_eq rfl) (hb hby d1_114) (fun _ _ => ⟨rfl, e16, (by decide : 1 + 0 ≤ _), (by decide : 8 + 0 ≤ _)⟩)
  dsimp only [Pt.U, Pt.locs, Pt.cells, Pt.slots] at X17 l17 y17 z17 st17 hQ17
  subst l17 y17 z17
  obtain ⟨rfl, N17q, eq17⟩ := hQ17
  have N17 := Fr.app N16 N17q
  have V_c20 := V16
  obtain ⟨c20, Arc20, qc20, Sc20, Nc20, Hc20, Gc20⟩ := V_c20
  have hin21 : ¬ ((3 : Int32) < 0 ∨ c20.slots.size ≤ ((3 : Int32)).toNatClampNeg) := inb_of Sc20 ⟨by decide, by decide⟩
  obtain ⟨T21, h21, X21, e21, W21, st21⟩ := stZ X17 hx hZ eq17 Arc20 (j := (3 : Int32)) hin21 (g := (mkF m 117 #[.val (.int pi1), .val (.int pi2)] [(.int (own_bt pi2 (3 : Int32))), (.int (3 : Int32)), (.ref b1), (.ref b1)])) rfl rfl (hb hby d1_117)
  have V21 : Arv Z h21 b1 k1 .boolean (8 : Int32) [(.int (nar .boolean (own_bt pi2 (0 : Int32)))), (.int (nar .boolean (own_bt pi2 (1 : Int32)))), (.int (nar .boolean (own_bt pi2 (2 : Int32)))), (.int (nar .boolean (own_bt pi2 (3 : Int32)))), (.int (0 : Int32)), (.int (0 : Int32)), (.int (0 : Int32)), (.int (0 : Int32))] (.int (0 : Int32)) := Arv.set Arc20 qc20 Sc20 Nc20 Hc20 Gc20 (fits_nar_bool _) W21 3 rfl (Nat.le_of_ble_eq_true rfl)
  have N21 := Fr.snoc X21 N17 g_b1
  have z23 := Nat.le_trans z18 (Keep.of_wr W21).1
  have o24 := o19.wr W21 g_b1
  obtain ⟨_, _, ⟨T22, L22, k22, n22⟩, -, X22, ⟨Lc22, hQ22, l22, y22, z22⟩, st22⟩ := Jvm.LawKit.callS X21 hx (y := (⟨"com/example/gudl/gudl/GroundFactorIsConstantPinLaw", "bit", "(II)Z"⟩ : MethodName)) hown (mvT hZ (own_W hw 5 rfl)) (mvT hZ (own_W hw 6 rfl)) (mvT hZ (own_W hw 2 rfl)) (mvT hZ (own_W hw 7 rfl)) (by decide) (backOf (W := 3) (rm2 l Z a0 hw [] pi2 (4 : Int32) h21 n0 z23 o24 ) hZ (own_W hw 7 rfl) (own_W hw 2 rfl) (by decide) (by decide)) (g := (mkF m 122 #[.val (.int pi1), .val (.int pi2)] [(.int (4 : Int32)), (.int pi2), (.int (4 : Int32)), (.ref b1), (.ref b1)])) rfl (by rw [hml]; rfl) (argsL := [(.int pi2), (.int (4 : Int32))]) (rest := [(.int (4 : Int32)), (.ref b1), (.ref b1)]) (lenOf pd_1 rfl) rfl (by show 2 * 0 + _ ≤ _; exact Nat.le_of_eq rfl) (hb hby d1_122) (fun _ _ => ⟨rfl, e21, (by decide : 1 + 0 ≤ _), (by decide : 8 + 0 ≤ _)⟩)
  dsimp only [Pt.U, Pt.locs, Pt.cells, Pt.slots] at X22 l22 y22 z22 st22 hQ22
  subst l22 y22 z22
  obtain ⟨rfl, N22q, eq22⟩ := hQ22
  have N22 := Fr.app N21 N22q
  have V_c25 := V21
  obtain ⟨c25, Arc25, qc25, Sc25, Nc25, Hc25, Gc25⟩ := V_c25
  have hin26 : ¬ ((4 : Int32) < 0 ∨ c25.slots.size ≤ ((4 : Int32)).toNatClampNeg) := inb_of Sc25 ⟨by decide, by decide⟩
  obtain ⟨T26, h26, X26, e26, W26, st26⟩ := stZ X22 hx hZ eq22 Arc25 (j := (4 : Int32)) hin26 (g := (mkF m 125 #[.val (.int pi1), .val (.int pi2)] [(.int (own_bt pi2 (4 : Int32))), (.int (4 : Int32)), (.ref b1), (.ref b1)])) rfl rfl (hb hby d1_125)
  have V26 : Arv Z h26 b1 k1 .boolean (8 : Int32) [(.int (nar .boolean (own_bt pi2 (0 : Int32)))), (.int (nar .boolean (own_bt pi2 (1 : Int32)))), (.int (nar .boolean (own_bt pi2 (2 : Int32)))), (.int (nar .boolean (own_bt pi2 (3 : Int32)))), (.int (nar .boolean (own_bt pi2 (4 : Int32)))), (.int (0 : Int32)), (.int (0 : Int32)), (.int (0 : Int32))] (.int (0 : Int32)) := Arv.set Arc25 qc25 Sc25 Nc25 Hc25 Gc25 (fits_nar_bool _) W26 4 rfl (Nat.le_of_ble_eq_true rfl)
  have N26 := Fr.snoc X26 N22 g_b1
  have z28 := Nat.le_trans z23 (Keep.of_wr W26).1
  have o29 := o24.wr W26 g_b1
  obtain ⟨_, _, ⟨T27, L27, k27, n27⟩, -, X27, ⟨Lc27, hQ27, l27, y27, z27⟩, st27⟩ := Jvm.LawKit.callS X26 hx (y := (⟨"com/example/gudl/gudl/GroundFactorIsConstantPinLaw", "bit", "(II)Z"⟩ : MethodName)) hown (mvT hZ (own_W hw 5 rfl)) (mvT hZ (own_W hw 6 rfl)) (mvT hZ (own_W hw 2 rfl)) (mvT hZ (own_W hw 7 rfl)) (by decide) (backOf (W := 3) (rm2 l Z a0 hw [] pi2 (5 : Int32) h26 n0 z28 o29 ) hZ (own_W hw 7 rfl) (own_W hw 2 rfl) (by decide) (by decide)) (g := (mkF m 130 #[.val (.int pi1), .val (.int pi2)] [(.int (5 : Int32)), (.int pi2), (.int (5 : Int32)), (.ref b1), (.ref b1)])) rfl (by rw [hml]; rfl) (argsL := [(.int pi2), (.int (5 : Int32))]) (rest := [(.int (5 : Int32)), (.ref b1), (.ref b1)]) (lenOf pd_1 rfl) rfl (by show 2 * 0 + _ ≤ _; exact Nat.le_of_eq rfl) (hb hby d1_130) (fun _ _ => ⟨rfl, e26, (by decide : 1 + 0 ≤ _), (by decide : 8 + 0 ≤ _)⟩)
  dsimp only [Pt.U, Pt.locs, Pt.cells, Pt.slots] at X27 l27 y27 z27 st27 hQ27
  subst l27 y27 z27
  obtain ⟨rfl, N27q, eq27⟩ := hQ27
  have N27 := Fr.app N26 N27q
  have V_c30 := V26
  obtain ⟨c30, Arc30, qc30, Sc30, Nc30, Hc30, Gc30⟩ := V_c30
  have hin31 : ¬ ((5 : Int32) < 0 ∨ c30.slots.size ≤ ((5 : Int32)).toNatClampNeg) := inb_of Sc30 ⟨by decide, by decide⟩
  obtain ⟨T31, h31, X31, e31, W31, st31⟩ := stZ X27 hx hZ eq27 Arc30 (j := (5 : Int32)) hin31 (g := (mkF m 133 #[.val (.int pi1), .val (.int pi2)] [(.int (own_bt pi2 (5 : Int32))), (.int (5 : Int32)), (.ref b1), (.ref b1)])) rfl rfl (hb hby d1_133)
  have V31 : Arv Z h31 b1 k1 .boolean (8 : Int32) [(.int (nar .boolean (own_bt pi2 (0 : Int32)))), (.int (nar .boolean (own_bt pi2 (1 : Int32)))), (.int (nar .boolean (own_bt pi2 (2 : Int32)))), (.int (nar .boolean (own_bt pi2 (3 : Int32)))), (.int (nar .boolean (own_bt pi2 (4 : Int32)))), (.int (nar .boolean (own_bt pi2 (5 : Int32)))), (.int (0 : Int32)), (.int (0 : Int32))] (.int (0 : Int32)) := Arv.set Arc30 qc30 Sc30 Nc30 Hc30 Gc30 (fits_nar_bool _) W31 5 rfl (Nat.le_of_ble_eq_true rfl)
  have N31 := Fr.snoc X31 N27 g_b1
  have z33 := Nat.le_trans z28 (Keep.of_wr W31).1
  have o34 := o29.wr W31 g_b1
  obtain ⟨_, _, ⟨T32, L32, k32, n32⟩, -, X32, ⟨Lc32, hQ32, l32, y32, z32⟩, st32⟩ := Jvm.LawKit.callS X31 hx (y := (⟨"com/example/gudl/gudl/GroundFactorIsConstantPinLaw", "bit", "(II)Z"⟩ : MethodName)) hown (mvT hZ (own_W hw 5 rfl)) (mvT hZ (own_W hw 6 rfl)) (mvT hZ (own_W hw 2 rfl)) (mvT hZ (own_W hw 7 rfl)) (by decide) (backOf (W := 3) (rm2 l Z a0 hw [] pi2 (6 : Int32) h31 n0 z33 o34 ) hZ (own_W hw 7 rfl) (own_W hw 2 rfl) (by decide) (by decide)) (g := (mkF m 140 #[.val (.int pi1), .val (.int pi2)] [(.int (6 : Int32)), (.int pi2), (.int (6 : Int32)), (.ref b1), (.ref b1)])) rfl (by rw [hml]; rfl) (argsL := [(.int pi2), (.int (6 : Int32))]) (rest := [(.int (6 : Int32)), (.ref b1), (.ref b1)]) (lenOf pd_1 rfl) rfl (by show 2 * 0 + _ ≤ _; exact Nat.le_of_eq rfl) (hb hby d1_140) (fun _ _ => ⟨rfl, e31, (by decide : 1 + 0 ≤ _), (by decide : 8 + 0 ≤ _)⟩)
  dsimp only [Pt.U, Pt.locs, Pt.cells, Pt.slots] at X32 l32 y32 z32 st32 hQ32
  subst l32 y32 z32
  obtain ⟨rfl, N32q, eq32⟩ := hQ32
  have N32 := Fr.app N31 N32q
  have V_c35 := V31
  obtain ⟨c35, Arc35, qc35, Sc35, Nc35, Hc35, Gc35⟩ := V_c35
  have hin36 : ¬ ((6 : Int32) < 0 ∨ c35.slots.size ≤ ((6 : Int32)).toNatClampNeg) := inb_of Sc35 ⟨by decide, by decide⟩
  obtain ⟨T36, h36, X36, e36, W36, st36⟩ := stZ X32 hx hZ eq32 Arc35 (j := (6 : Int32)) hin36 (g := (mkF m 143 #[.val (.int pi1), .val (.int pi2)] [(.int (own_bt pi2 (6 : Int32))), (.int (6 : Int32)), (.ref b1), (.ref b1)])) rfl rfl (hb hby d1_143)
  have V36 : Arv Z h36 b1 k1 .boolean (8 : Int32) [(.int (nar .boolean (own_bt pi2 (0 : Int32)))), (.int (nar .boolean (own_bt pi2 (1 : Int32)))), (.int (nar .boolean (own_bt pi2 (2 : Int32)))), (.int (nar .boolean (own_bt pi2 (3 : Int32)))), (.int (nar .boolean (own_bt pi2 (4 : Int32)))), (.int (nar .boolean (own_bt pi2 (5 : Int32)))), (.int (nar .boolean (own_bt pi2 (6 : Int32)))), (.int (0 : Int32))] (.int (0 : Int32)) := Arv.set Arc35 qc35 Sc35 Nc35 Hc35 Gc35 (fits_nar_bool _) W36 6 rfl (Nat.le_of_ble_eq_true rfl)
  have N36 := Fr.snoc X36 N32 g_b1
  have z38 := Nat.le_trans z33 (Keep.of_wr W36).1
  have o39 := o34.wr W36 g_b1
  obtain ⟨_, _, ⟨T37, L37, k37, n37⟩, -, X37, ⟨Lc37, hQ37, l37, y37, z37⟩, st37⟩ := Jvm.LawKit.callS X36 hx (y := (⟨"com/example/gudl/gudl/GroundFactorIsConstantPinLaw", "bit", "(II)Z"⟩ : MethodName)) hown (mvT hZ (own_W hw 5 rfl)) (mvT hZ (own_W hw 6 rfl)) (mvT hZ (own_W hw 2 rfl)) (mvT hZ (own_W hw 7 rfl)) (by decide) (backOf (W := 3) (rm2 l Z a0 hw [] pi2 (7 : Int32) h36 n0 z38 o39 ) hZ (own_W hw 7 rfl) (own_W hw 2 rfl) (by decide) (by decide)) (g := (mkF m 150 #[.val (.int pi1), .val (.int pi2)] [(.int (7 : Int32)), (.int pi2), (.int (7 : Int32)), (.ref b1), (.ref b1)])) rfl (by rw [hml]; rfl) (argsL := [(.int pi2), (.int (7 : Int32))]) (rest := [(.int (7 : Int32)), (.ref b1), (.ref b1)]) (lenOf pd_1 rfl) rfl (by show 2 * 0 + _ ≤ _; exact Nat.le_of_eq rfl) (hb hby d1_150) (fun _ _ => ⟨rfl, e36, (by decide : 1 + 0 ≤ _), (by decide : 8 + 0 ≤ _)⟩)
  dsimp only [Pt.U, Pt.locs, Pt.cells, Pt.slots] at X37 l37 y37 z37 st37 hQ37
  subst l37 y37 z37
  obtain ⟨rfl, N37q, eq37⟩ := hQ37
  have N37 := Fr.app N36 N37q
  have V_c40 := V36
  obtain ⟨c40, Arc40, qc40, Sc40, Nc40, Hc40, Gc40⟩ := V_c40
  have hin41 : ¬ ((7 : Int32) < 0 ∨ c40.slots.size ≤ ((7 : Int32)).toNatClampNeg) := inb_of Sc40 ⟨by decide, by decide⟩
  obtain ⟨T41, h41, X41, e41, W41, st41⟩ := stZ X37 hx hZ eq37 Arc40 (j := (7 : Int32)) hin41 (g := (mkF m 153 #[.val (.int pi1), .val (.int pi2)] [(.int (own_bt pi2 (7 : Int32))), (.int (7 : Int32)), (.ref b1), (.ref b1)])) rfl rfl (hb hby d1_153)
  have V41 : Arv Z h41 b1 k1 .boolean (8 : Int32) [(.int (nar .boolean (own_bt pi2 (0 : Int32)))), (.int (nar .boolean (own_bt pi2 (1 : Int32)))), (.int (nar .boolean (own_bt pi2 (2 : Int32)))), (.int (nar .boolean (own_bt pi2 (3 : Int32)))), (.int (nar .boolean (own_bt pi2 (4 : Int32)))), (.int (nar .boolean (own_bt pi2 (5 : Int32)))), (.int (nar .boolean (own_bt pi2 (6 : Int32)))), (.int (nar .boolean (own_bt pi2 (7 : Int32))))] (.int (0 : Int32)) := Arv.set Arc40 qc40 Sc40 Nc40 Hc40 Gc40 (fits_nar_bool _) W41 7 rfl (Nat.le_of_ble_eq_true rfl)
  have N41 := Fr.snoc X41 N37 g_b1
  have k42 : Keep h0 h1 [] := (Keep.refl h0 []).ext E1
  have k43 : Keep h0 h6 [] := k42.wr W6 (Or.inr (Nat.le_trans (Keep.refl h0 []).1 (Nat.le_of_eq g1.symm)))
  have k44 : Keep h0 h11 [] := k43.wr W11 (Or.inr (Nat.le_trans (Keep.refl h0 []).1 (Nat.le_of_eq g1.symm)))
  have k45 : Keep h0 h16 [] := k44.wr W16 (Or.inr (Nat.le_trans (Keep.refl h0 []).1 (Nat.le_of_eq g1.symm)))
  have k46 : Keep h0 h21 [] := k45.wr W21 (Or.inr (Nat.le_trans (Keep.refl h0 []).1 (Nat.le_of_eq g1.symm)))
  have k47 : Keep h0 h26 [] := k46.wr W26 (Or.inr (Nat.le_trans (Keep.refl h0 []).1 (Nat.le_of_eq g1.symm)))
  have k48 : Keep h0 h31 [] := k47.wr W31 (Or.inr (Nat.le_trans (Keep.refl h0 []).1 (Nat.le_of_eq g1.symm)))
  have k49 : Keep h0 h36 [] := k48.wr W36 (Or.inr (Nat.le_trans (Keep.refl h0 []).1 (Nat.le_of_eq g1.symm)))
  have k50 : Keep h0 h41 [] := k49.wr W41 (Or.inr (Nat.le_trans (Keep.refl h0 []).1 (Nat.le_of_eq g1.symm)))
  obtain ⟨fs, hr, hrun, hended, hW, hsame⟩ := X41.leave (v := some (.ref b1)) (fun h => by rw [Bd.returns] at h; cases h)
  refine ⟨_, _, pre0 _ ?_, hrun, hended, _, _, rfl, ?_, ⟨_, rfl⟩, hW, hsame.mono (by decide) (by decide)⟩
  · show Stp p e below s₁ m 0 #[.val (.int pi1), .val (.int pi2)] [] _
    refine XS.iloadN X0.here hx rfl (hb hby d1_0) rfl ?_
    show Stp p e below s₁ m 1 #[.val (.int pi1), .val (.int pi2)] [(.int pi1)] _
    refine XS.ifYes X0.here hx rfl (pc0 := 1) (pc' := 16) rfl (hb hby d1_1) rfl ((if0 _ _).trans (feq hc1_0).2) (by decide) (by decide) ?_
    show Stp p e below s₁ m 16 #[.val (.int pi1), .val (.int pi2)] [] _
    refine XS.iloadN X0.here hx rfl (hb hby d1_16) rfl ?_
    show Stp p e below s₁ m 17 #[.val (.int pi1), .val (.int pi2)] [(.int pi1)] _
    refine XS.iconst X0.here hx rfl (hb hby d1_17) ?_
    show Stp p e below s₁ m 18 #[.val (.int pi1), .val (.int pi2)] [(.int (1 : Int32)), (.int pi1)] _
    refine XS.icmpYes X0.here hx rfl (pc0 := 18) (pc' := 41) rfl (hb hby d1_18) rfl (feq hc18_1).2 (by decide) (by decide) ?_
    show Stp p e below s₁ m 41 #[.val (.int pi1), .val (.int pi2)] [] _
    refine XS.iloadN X0.here hx rfl (hb hby d1_41) rfl ?_
    show Stp p e below s₁ m 42 #[.val (.int pi1), .val (.int pi2)] [(.int pi1)] _
    refine XS.iconst X0.here hx rfl (hb hby d1_42) ?_
    show Stp p e below s₁ m 43 #[.val (.int pi1), .val (.int pi2)] [(.int (2 : Int32)), (.int pi1)] _
    refine XS.icmpYes X0.here hx rfl (pc0 := 43) (pc' := 82) rfl (hb hby d1_43) rfl (feq hc43_2).2 (by decide) (by decide) ?_
    show Stp p e below s₁ m 82 #[.val (.int pi1), .val (.int pi2)] [] _
    refine XS.bipush X0.here hx rfl (hb hby d1_82) ?_
    show Stp p e below s₁ m 84 #[.val (.int pi1), .val (.int pi2)] [(.int (8 : Int32))] _
    refine st1 _ ?_
    show Stp p e below T1 m 86 #[.val (.int pi1), .val (.int pi2)] [(.ref b1)] _
    refine XS.dup X1.here hx rfl (hb hby d1_86) rfl rfl ?_
    show Stp p e below T1 m 87 #[.val (.int pi1), .val (.int pi2)] [(.ref b1), (.ref b1)] _
    refine XS.iconst X1.here hx rfl (hb hby d1_87) ?_
    show Stp p e below T1 m 88 #[.val (.int pi1), .val (.int pi2)] [(.int (0 : Int32)), (.ref b1), (.ref b1)] _
    refine XS.iloadN X1.here hx rfl (hb hby d1_88) rfl ?_
    show Stp p e below T1 m 89 #[.val (.int pi1), .val (.int pi2)] [(.int pi2), (.int (0 : Int32)), (.ref b1), (.ref b1)] _
    refine XS.iconst X1.here hx rfl (hb hby d1_89) ?_
    show Stp p e below T1 m 90 #[.val (.int pi1), .val (.int pi2)] [(.int (0 : Int32)), (.int pi2), (.int (0 : Int32)), (.ref b1), (.ref b1)] _
    refine st2 _ ?_
    show Stp p e below T2 m 93 #[.val (.int pi1), .val (.int pi2)] [(.int (own_bt pi2 (0 : Int32))), (.int (0 : Int32)), (.ref b1), (.ref b1)] _
    refine st6 _ ?_
    show Stp p e below T6 m 94 #[.val (.int pi1), .val (.int pi2)] [(.ref b1)] _
    refine XS.dup X6.here hx rfl (hb hby d1_94) rfl rfl ?_
    show Stp p e below T6 m 95 #[.val (.int pi1), .val (.int pi2)] [(.ref b1), (.ref b1)] _
    refine XS.iconst X6.here hx rfl (hb hby d1_95) ?_
    show Stp p e below T6 m 96 #[.val (.int pi1), .val (.int pi2)] [(.int (1 : Int32)), (.ref b1), (.ref b1)] _
    refine XS.iloadN X6.here hx rfl (hb hby d1_96) rfl ?_
    show Stp p e below T6 m 97 #[.val (.int pi1), .val (.int pi2)] [(.int pi2), (.int (1 : Int32)), (.ref b1), (.ref b1)] _
    refine XS.iconst X6.here hx rfl (hb hby d1_97) ?_
    show Stp p e below T6 m 98 #[.val (.int pi1), .val (.int pi2)] [(.int (1 : Int32)), (.int pi2), (.int (1 : Int32)), (.ref b1), (.ref b1)] _
    refine st7 _ ?_
    show Stp p e below T7 m 101 #[.val (.int pi1), .val (.int pi2)] [(.int (own_bt pi2 (1 : Int32))), (.int (1 : Int32)), (.ref b1), (.ref b1)] _
    refine st11 _ ?_
    show Stp p e below T11 m 102 #[.val (.int pi1), .val (.int pi2)] [(.ref b1)] _
    refine XS.dup X11.here hx rfl (hb hby d1_102) rfl rfl ?_
    show Stp p e below T11 m 103 #[.val (.int pi1), .val (.int pi2)] [(.ref b1), (.ref b1)] _
    refine XS.iconst X11.here hx rfl (hb hby d1_103) ?_
    show Stp p e below T11 m 104 #[.val (.int pi1), .val (.int pi2)] [(.int (2 : Int32)), (.ref b1), (.ref b1)] _
    refine XS.iloadN X11.here hx rfl (hb hby d1_104) rfl ?_
    show Stp p e below T11 m 105 #[.val (.int pi1), .val (.int pi2)] [(.int pi2), (.int (2 : Int32)), (.ref b1), (.ref b1)] _
    refine XS.iconst X11.here hx rfl (hb hby d1_105) ?_
    show Stp p e below T11 m 106 #[.val (.int pi1), .val (.int pi2)] [(.int (2 : Int32)), (.int pi2), (.int (2 : Int32)), (.ref b1), (.ref b1)] _
    refine st12 _ ?_
    show Stp p e below T12 m 109 #[.val (.int pi1), .val (.int pi2)] [(.int (own_bt pi2 (2 : Int32))), (.int (2 : Int32)), (.ref b1), (.ref b1)] _
    refine st16 _ ?_
    show Stp p e below T16 m 110 #[.val (.int pi1), .val (.int pi2)] [(.ref b1)] _
    refine XS.dup X16.here hx rfl (hb hby d1_110) rfl rfl ?_
    show Stp p e below T16 m 111 #[.val (.int pi1), .val (.int pi2)] [(.ref b1), (.ref b1)] _
    refine XS.iconst X16.here hx rfl (hb hby d1_111) ?_
    show Stp p e below T16 m 112 #[.val (.int pi1), .val (.int pi2)] [(.int (3 : Int32)), (.ref b1), (.ref b1)] _
    refine XS.iloadN X16.here hx rfl (hb hby d1_112) rfl ?_
    show Stp p e below T16 m 113 #[.val (.int pi1), .val (.int pi2)] [(.int pi2), (.int (3 : Int32)), (.ref b1), (.ref b1)] _
    refine XS.iconst X16.here hx rfl (hb hby d1_113) ?_
    show Stp p e below T16 m 114 #[.val (.int pi1), .val (.int pi2)] [(.int (3 : Int32)), (.int pi2), (.int (3 : Int32)), (.ref b1), (.ref b1)] _
    refine st17 _ ?_
    show Stp p e below T17 m 117 #[.val (.int pi1), .val (.int pi2)] [(.int (own_bt pi2 (3 : Int32))), (.int (3 : Int32)), (.ref b1), (.ref b1)] _
    refine st21 _ ?_
    show Stp p e below T21 m 118 #[.val (.int pi1), .val (.int pi2)] [(.ref b1)] _
    refine XS.dup X21.here hx rfl (hb hby d1_118) rfl rfl ?_
    show Stp p e below T21 m 119 #[.val (.int pi1), .val (.int pi2)] [(.ref b1), (.ref b1)] _
    refine XS.iconst X21.here hx rfl (hb hby d1_119) ?_
    show Stp p e below T21 m 120 #[.val (.int pi1), .val (.int pi2)] [(.int (4 : Int32)), (.ref b1), (.ref b1)] _
    refine XS.iloadN X21.here hx rfl (hb hby d1_120) rfl ?_
    show Stp p e below T21 m 121 #[.val (.int pi1), .val (.int pi2)] [(.int pi2), (.int (4 : Int32)), (.ref b1), (.ref b1)] _
    refine XS.iconst X21.here hx rfl (hb hby d1_121) ?_
    show Stp p e below T21 m 122 #[.val (.int pi1), .val (.int pi2)] [(.int (4 : Int32)), (.int pi2), (.int (4 : Int32)), (.ref b1), (.ref b1)] _
    refine st22 _ ?_
    show Stp p e below T22 m 125 #[.val (.int pi1), .val (.int pi2)] [(.int (own_bt pi2 (4 : Int32))), (.int (4 : Int32)), (.ref b1), (.ref b1)] _
    refine st26 _ ?_
    show Stp p e below T26 m 126 #[.val (.int pi1), .val (.int pi2)] [(.ref b1)] _
    refine XS.dup X26.here hx rfl (hb hby d1_126) rfl rfl ?_
    show Stp p e below T26 m 127 #[.val (.int pi1), .val (.int pi2)] [(.ref b1), (.ref b1)] _
    refine XS.iconst X26.here hx rfl (hb hby d1_127) ?_
    show Stp p e below T26 m 128 #[.val (.int pi1), .val (.int pi2)] [(.int (5 : Int32)), (.ref b1), (.ref b1)] _
    refine XS.iloadN X26.here hx rfl (hb hby d1_128) rfl ?_
    show Stp p e below T26 m 129 #[.val (.int pi1), .val (.int pi2)] [(.int pi2), (.int (5 : Int32)), (.ref b1), (.ref b1)] _
    refine XS.iconst X26.here hx rfl (hb hby d1_129) ?_
    show Stp p e below T26 m 130 #[.val (.int pi1), .val (.int pi2)] [(.int (5 : Int32)), (.int pi2), (.int (5 : Int32)), (.ref b1), (.ref b1)] _
    refine st27 _ ?_
    show Stp p e below T27 m 133 #[.val (.int pi1), .val (.int pi2)] [(.int (own_bt pi2 (5 : Int32))), (.int (5 : Int32)), (.ref b1), (.ref b1)] _
    refine st31 _ ?_
    show Stp p e below T31 m 134 #[.val (.int pi1), .val (.int pi2)] [(.ref b1)] _
    refine XS.dup X31.here hx rfl (hb hby d1_134) rfl rfl ?_
    show Stp p e below T31 m 135 #[.val (.int pi1), .val (.int pi2)] [(.ref b1), (.ref b1)] _
    refine XS.bipush X31.here hx rfl (hb hby d1_135) ?_
    show Stp p e below T31 m 137 #[.val (.int pi1), .val (.int pi2)] [(.int (6 : Int32)), (.ref b1), (.ref b1)] _
    refine XS.iloadN X31.here hx rfl (hb hby d1_137) rfl ?_
    show Stp p e below T31 m 138 #[.val (.int pi1), .val (.int pi2)] [(.int pi2), (.int (6 : Int32)), (.ref b1), (.ref b1)] _
    refine XS.bipush X31.here hx rfl (hb hby d1_138) ?_
    show Stp p e below T31 m 140 #[.val (.int pi1), .val (.int pi2)] [(.int (6 : Int32)), (.int pi2), (.int (6 : Int32)), (.ref b1), (.ref b1)] _
    refine st32 _ ?_
    show Stp p e below T32 m 143 #[.val (.int pi1), .val (.int pi2)] [(.int (own_bt pi2 (6 : Int32))), (.int (6 : Int32)), (.ref b1), (.ref b1)] _
    refine st36 _ ?_
    show Stp p e below T36 m 144 #[.val (.int pi1), .val (.int pi2)] [(.ref b1)] _
    refine XS.dup X36.here hx rfl (hb hby d1_144) rfl rfl ?_
    show Stp p e below T36 m 145 #[.val (.int pi1), .val (.int pi2)] [(.ref b1), (.ref b1)] _
    refine XS.bipush X36.here hx rfl (hb hby d1_145) ?_
    show Stp p e below T36 m 147 #[.val (.int pi1), .val (.int pi2)] [(.int (7 : Int32)), (.ref b1), (.ref b1)] _
    refine XS.iloadN X36.here hx rfl (hb hby d1_147) rfl ?_
    show Stp p e below T36 m 148 #[.val (.int pi1), .val (.int pi2)] [(.int pi2), (.int (7 : Int32)), (.ref b1), (.ref b1)] _
    refine XS.bipush X36.here hx rfl (hb hby d1_148) ?_
    show Stp p e below T36 m 150 #[.val (.int pi1), .val (.int pi2)] [(.int (7 : Int32)), (.int pi2), (.int (7 : Int32)), (.ref b1), (.ref b1)] _
    refine st37 _ ?_
    show Stp p e below T37 m 153 #[.val (.int pi1), .val (.int pi2)] [(.int (own_bt pi2 (7 : Int32))), (.int (7 : Int32)), (.ref b1), (.ref b1)] _
    refine st41 _ ?_
    show Stp p e below T41 m 154 #[.val (.int pi1), .val (.int pi2)] [(.ref b1)] _
    jvm_step X41.here [X41.here.top, hx, (hb hby d1_154), X41.method', Bd.returns, Value.isRef, FieldType.isReference]
    first | (intro acts; rw [hr _ acts rfl rfl rfl]) | rw [hr _ _ rfl rfl rfl]
    exact Steps.refl _
  · show Q1_3 Z pi1 pi2 h0 n0 _ T41.heap _
    rw [e41]
    exact ⟨b1, k1, rfl, N41, k50, (Nat.le_trans (Keep.refl h0 []).1 (Nat.le_of_eq g1.symm)), V41⟩
theorem d3_0 : decode method_4_code 0 = .ok (.iload_n 0, 1) := by decide +kernel
theorem d3_1 : decode method_4_code 1 = .ok (.ifCond .ne 7, 3) := by decide +kernel
theorem d3_4 : decode method_4_code 4 = .ok (.iconst 0, 1) := by decide +kernel
theorem d3_5 : decode method_4_code 5 = .ok (.newarray .int, 2) := by decide +kernel
theorem d3_7 : decode method_4_code 7 = .ok (.areturn, 1) := by decide +kernel
theorem pn_3 : plainName "com/example/gudl/gudl/GroundFactorIsConstantPinLaw" = true := by first | (simp [plainName, overriddenIn]; done) | decide +kernel
theorem ef_3 (m : MethodId) (pi1 : Int32) (pi2 : Int32) : entryFrame m #[(.int pi1), (.int pi2)] 2 = mkF m 0 #[.val (.int pi1), .val (.int pi2)] [] := by first | (simp [entryFrame, mkF, argsToLocals, Value.category]; done) | rfl
def Q3_0 (Z : State) (pi1 : Int32) (pi2 : Int32) (h0 : Heap) (n0 : Nat) (v : Option Value) (h : Heap) (L : List Loc) : Prop := ∃ b1 : Addr, ∃ k1 : ClassId, v = some (.ref b1) ∧ Fr n0 L ∧ Keep h0 h [] ∧ h0.size ≤ b1 ∧ Arv Z h b1 k1 .int (0 : Int32) [] (.int (0 : Int32))
set_option maxRecDepth 65536 in
set_option maxHeartbeats 40000000 in
theorem rm3_0 (l : Launch) (Z : State) (a0 : Array Value) (hw : ∀ d ∈ tables_1, d.before a0 Z = true) (ws : List Jvm.Cond) (pi1 : Int32) (pi2 : Int32) (h0 : Heap) (n0 : Nat) (Z0 : n0 ≤ h0.size) (O0 : Old Z n0 h0) (hc1_0 : pi1 = (0 : Int32)) :
    MetFree l (⟨"com/example/gudl/gudl/GroundFactorIsConstantPinLaw", "atomArray", "(II)[I"⟩ : MethodName) (head1 (Jvm.Cond.code (⟨"com/example/gudl/gudl/GroundFactorIsConstantPinLaw", "atomArray", "(II)[I"⟩ : MethodName) method_4_code 2 (some (.array .int)) :: ws) ({ frames := 0, cells := 1, slots := 0, locals := 0 } : Room)) (fun a U => a = #[(.int pi1), (.int pi2)] ∧ Z.Warmed39 U.vm ∧ U.heap = h0) (fun _ _ _ _ _ => True) (fun _ U o U' => ∃ v L, o = .returned v ∧ Q3_0 Z pi1 pi2 h0 n0 v U'.heap L ∧ FrameEnd U o U' L ({ frames := 0, cells := 1, slots := 0, locals := 0 } : Room).cells ({ frames := 0, cells := 1, slots := 0, locals := 0 } : Room).slots) := by
  refine MetFree.of_bodySF (plainFor_of_name pn_3) hisR ?_
  intro p e s m args below meth c s₁ Bd hml0 hP hK
  obtain ⟨rfl, hZ, hh⟩ := hP
  have hx := Bd.exec
  have hby := Bd.bytes
  have hml : c.maxLocals = 2 := hml0
  have hown : s.vm.findClass "com/example/gudl/gudl/GroundFactorIsConstantPinLaw" = some m.cls := findClass_of_methodNamed Bd.named
  have hnm := (name_of_methodNamed Bd.named Bd.method).1
  have X0 : Stand p l e ({ frames := 0, cells := 1, slots := 0, locals := 0 } : Room) s m #[(.int pi1), (.int pi2)] below meth c s₁ [] 0 0 := Stand.of_body Bd
  have e0 : s₁.heap = h0 := by rw [← hh, Bd.state]; rfl
  have N0 := Fr.nil n0
  have pre0 : ∀ t, Steps p.tables e below (s₁.setTop (mkF m 0 #[.val (.int pi1), .val (.int pi2)] [])) t → Steps p.tables e below (s₁.setTop (entryFrame m #[(.int pi1), (.int pi2)] 2)) t := fun t k => castTop (ef_3 m pi1 pi2) k
  obtain ⟨T1, h1, k1, X1, e1, E1, A1, st1⟩ := newP X0 hx hZ (own_W hw 11 rfl) e0 (g := (mkF m 5 #[.val (.int pi1), .val (.int pi2)] [(.int (0 : Int32))])) rfl (hb hby d3_5) rfl (by decide) (cap := 0) (by decide) (by decide) (by decide) (by decide)
  obtain ⟨b1, g1⟩ : ∃ z, z = h0.size := ⟨_, rfl⟩
  rw [← g1] at A1 st1
  have V1 : Arv Z h1 b1 k1 .int (0 : Int32) [] (.int (0 : Int32)) := (Arv.new A1 (by decide)).pad (pad_rep [] (.int (0 : Int32)) 0)
  have k2 : Keep h0 h1 [] := (Keep.refl h0 []).ext E1
  obtain ⟨fs, hr, hrun, hended, hW, hsame⟩ := X1.leave (v := some (.ref b1)) (fun h => by rw [Bd.returns] at h; cases h)
  refine ⟨_, _, pre0 _ ?_, hrun, hended, _, _, rfl, ?_, ⟨_, rfl⟩, hW, hsame.mono (by decide) (by decide)⟩
  · show Stp p e below s₁ m 0 #[.val (.int pi1), .val (.int pi2)] [] _
    refine XS.iloadN X0.here hx rfl (hb hby d3_0) rfl ?_
    show Stp p e below s₁ m 1 #[.val (.int pi1), .val (.int pi2)] [(.int pi1)] _
    refine XS.ifNo X0.here hx rfl (hb hby d3_1) rfl ((if0 _ _).trans (teq hc1_0).2) ?_
    show Stp p e below s₁ m 4 #[.val (.int pi1), .val (.int pi2)] [] _
    refine XS.iconst X0.here hx rfl (hb hby d3_4) ?_
    show Stp p e below s₁ m 5 #[.val (.int pi1), .val (.int pi2)] [(.int (0 : Int32))] _
    refine st1 _ ?_
    show Stp p e below T1 m 7 #[.val (.int pi1), .val (.int pi2)] [(.ref b1)] _
    jvm_step X1.here [X1.here.top, hx, (hb hby d3_7), X1.method', Bd.returns, Value.isRef, FieldType.isReference]
    first | (intro acts; rw [hr _ acts rfl rfl rfl]) | rw [hr _ _ rfl rfl rfl]
    exact Steps.refl _
  · show Q3_0 Z pi1 pi2 h0 n0 _ T1.heap _
    rw [e1]
    exact ⟨b1, k1, rfl, N0, k2, (Nat.le_trans (Keep.refl h0 []).1 (Nat.le_of_eq g1.symm)), V1⟩
theorem d3_8 : decode method_4_code 8 = .ok (.iload_n 0, 1) := by decide +kernel
theorem d3_9 : decode method_4_code 9 = .ok (.iconst 1, 1) := by decide +kernel
theorem d3_10 : decode method_4_code 10 = .ok (.if_icmp .ne 11, 3) := by decide +kernel
theorem d3_13 : decode method_4_code 13 = .ok (.iconst 1, 1) := by decide +kernel
theorem d3_14 : decode method_4_code 14 = .ok (.newarray .int, 2) := by decide +kernel
theorem d3_16 : decode method_4_code 16 = .ok (.dup, 1) := by decide +kernel
theorem d3_17 : decode method_4_code 17 = .ok (.iconst 0, 1) := by decide +kernel
theorem d3_18 : decode method_4_code 18 = .ok (.iload_n 1, 1) := by decide +kernel
theorem d3_19 : decode method_4_code 19 = .ok (.iastore, 1) := by decide +kernel
theorem d3_20 : decode method_4_code 20 = .ok (.areturn, 1) := by decide +kernel
def Q3_1 (Z : State) (pi1 : Int32) (pi2 : Int32) (h0 : Heap) (n0 : Nat) (v : Option Value) (h : Heap) (L : List Loc) : Prop := ∃ b1 : Addr, ∃ k1 : ClassId, v = some (.ref b1) ∧ Fr n0 L ∧ Keep h0 h [] ∧ h0.size ≤ b1 ∧ Arv Z h b1 k1 .int (1 : Int32) [(.int pi2)] (.int (0 : Int32))
set_option maxRecDepth 65536 in
set_option maxHeartbeats 40000000 in
theorem rm3_1 (l : Launch) (Z : State) (a0 : Array Value) (hw : ∀ d ∈ tables_1, d.before a0 Z = true) (ws : List Jvm.Cond) (pi1 : Int32) (pi2 : Int32) (h0 : Heap) (n0 : Nat) (Z0 : n0 ≤ h0.size) (O0 : Old Z n0 h0) (hc1_0 : ¬ (pi1 = (0 : Int32))) (hc10_1 : pi1 = (1 : Int32)) :
    MetFree l (⟨"com/example/gudl/gudl/GroundFactorIsConstantPinLaw", "atomArray", "(II)[I"⟩ : MethodName) (head1 (Jvm.Cond.code (⟨"com/example/gudl/gudl/GroundFactorIsConstantPinLaw", "atomArray", "(II)[I"⟩ : MethodName) method_4_code 2 (some (.array .int)) :: ws) ({ frames := 0, cells := 1, slots := 1, locals := 0 } : Room)) (fun a U => a = #[(.int pi1), (.int pi2)] ∧ Z.Warmed39 U.vm ∧ U.heap = h0) (fun _ _ _ _ _ => True) (fun _ U o U' => ∃ v L, o = .returned v ∧ Q3_1 Z pi1 pi2 h0 n0 v U'.heap L ∧ FrameEnd U o U' L ({ frames := 0, cells := 1, slots := 1, locals := 0 } : Room).cells ({ frames := 0, cells := 1, slots := 1, locals := 0 } : Room).slots) := by
  refine MetFree.of_bodySF (plainFor_of_name pn_3) hisR ?_
  intro p e s m args below meth c s₁ Bd hml0 hP hK
  obtain ⟨rfl, hZ, hh⟩ := hP
  have hx := Bd.exec
  have hby := Bd.bytes
  have hml : c.maxLocals = 2 := hml0
  have hown : s.vm.findClass "com/example/gudl/gudl/GroundFactorIsConstantPinLaw" = some m.cls := findClass_of_methodNamed Bd.named
  have hnm := (name_of_methodNamed Bd.named Bd.method).1
  have X0 : Stand p l e ({ frames := 0, cells := 1, slots := 1, locals := 0 } : Room) s m #[(.int pi1), (.int pi2)] below meth c s₁ [] 0 0 := Stand.of_body Bd
  have e0 : s₁.heap = h0 := by rw [← hh, Bd.state]; rfl
  have N0 := Fr.nil n0
  have pre0 : ∀ t, Steps p.tables e below (s₁.setTop (mkF m 0 #[.val (.int pi1), .val (.int pi2)] [])) t → Steps p.tables e below (s₁.setTop (entryFrame m #[(.int pi1), (.int pi2)] 2)) t := fun t k => castTop (ef_3 m pi1 pi2) k
  obtain ⟨T1, h1, k1, X1, e1, E1, A1, st1⟩ := newP X0 hx hZ (own_W hw 11 rfl) e0 (g := (mkF m 14 #[.val (.int pi1), .val (.int pi2)] [(.int (1 : Int32))])) rfl (hb hby d3_14) rfl (by decide) (cap := 1) (by decide) (by decide) (by decide) (by decide)
  obtain ⟨b1, g1⟩ : ∃ z, z = h0.size := ⟨_, rfl⟩
  rw [← g1] at A1 st1
  have V1 : Arv Z h1 b1 k1 .int (1 : Int32) [(.int (0 : Int32))] (.int (0 : Int32)) := (Arv.new A1 (by decide)).pad (pad_rep [] (.int (0 : Int32)) 1)
  have g_b1 : n0 ≤ b1 := Nat.le_trans Z0 (Nat.le_of_eq g1.symm)
  have V_c2 := V1
  obtain ⟨c2, Arc2, qc2, Sc2, Nc2, Hc2, Gc2⟩ := V_c2
  have hin3 : ¬ ((0 : Int32) < 0 ∨ c2.slots.size ≤ ((0 : Int32)).toNatClampNeg) := inb_of Sc2 ⟨by decide, by decide⟩
  obtain ⟨T3, h3, X3, e3, W3, st3⟩ := stI X1 hx hZ e1 Arc2 (j := (0 : Int32)) hin3 (g := (mkF m 19 #[.val (.int pi1), .val (.int pi2)] [(.int pi2), (.int (0 : Int32)), (.ref b1), (.ref b1)])) rfl rfl (hb hby d3_19)
  have V3 : Arv Z h3 b1 k1 .int (1 : Int32) [(.int pi2)] (.int (0 : Int32)) := Arv.set Arc2 qc2 Sc2 Nc2 Hc2 Gc2 rfl W3 0 rfl (Nat.le_of_ble_eq_true rfl)
  have N3 := Fr.snoc X3 N0 g_b1
  have k4 : Keep h0 h1 [] := (Keep.refl h0 []).ext E1
  have k5 : Keep h0 h3 [] := k4.wr W3 (Or.inr (Nat.le_trans (Keep.refl h0 []).1 (Nat.le_of_eq g1.symm)))
  obtain ⟨fs, hr, hrun, hended, hW, hsame⟩ := X3.leave (v := some (.ref b1)) (fun h => by rw [Bd.returns] at h; cases h)
  refine ⟨_, _, pre0 _ ?_, hrun, hended, _, _, rfl, ?_, ⟨_, rfl⟩, hW, hsame.mono (by decide) (by decide)⟩
  · show Stp p e below s₁ m 0 #[.val (.int pi1), .val (.int pi2)] [] _
    refine XS.iloadN X0.here hx rfl (hb hby d3_0) rfl ?_
    show Stp p e below s₁ m 1 #[.val (.int pi1), .val (.int pi2)] [(.int pi1)] _
    refine XS.ifYes X0.here hx rfl (pc0 := 1) (pc' := 8) rfl (hb hby d3_1) rfl ((if0 _ _).trans (feq hc1_0).2) (by decide) (by decide) ?_
    show Stp p e below s₁ m 8 #[.val (.int pi1), .val (.int pi2)] [] _
    refine XS.iloadN X0.here hx rfl (hb hby d3_8) rfl ?_
    show Stp p e below s₁ m 9 #[.val (.int pi1), .val (.int pi2)] [(.int pi1)] _
    refine XS.iconst X0.here hx rfl (hb hby d3_9) ?_
    show Stp p e below s₁ m 10 #[.val (.int pi1), .val (.int pi2)] [(.int (1 : Int32)), (.int pi1)] _
    refine XS.icmpNo X0.here hx rfl (hb hby d3_10) rfl (teq hc10_1).2 ?_
    show Stp p e below s₁ m 13 #[.val (.int pi1), .val (.int pi2)] [] _
    refine XS.iconst X0.here hx rfl (hb hby d3_13) ?_
    show Stp p e below s₁ m 14 #[.val (.int pi1), .val (.int pi2)] [(.int (1 : Int32))] _
    refine st1 _ ?_
    show Stp p e below T1 m 16 #[.val (.int pi1), .val (.int pi2)] [(.ref b1)] _
    refine XS.dup X1.here hx rfl (hb hby d3_16) rfl rfl ?_
    show Stp p e below T1 m 17 #[.val (.int pi1), .val (.int pi2)] [(.ref b1), (.ref b1)] _
    refine XS.iconst X1.here hx rfl (hb hby d3_17) ?_
    show Stp p e below T1 m 18 #[.val (.int pi1), .val (.int pi2)] [(.int (0 : Int32)), (.ref b1), (.ref b1)] _
    refine XS.iloadN X1.here hx rfl (hb hby d3_18) rfl ?_
    show Stp p e below T1 m 19 #[.val (.int pi1), .val (.int pi2)] [(.int pi2), (.int (0 : Int32)), (.ref b1), (.ref b1)] _
    refine st3 _ ?_
    show Stp p e below T3 m 20 #[.val (.int pi1), .val (.int pi2)] [(.ref b1)] _
    jvm_step X3.here [X3.here.top, hx, (hb hby d3_20), X3.method', Bd.returns, Value.isRef, FieldType.isReference]
    first | (intro acts; rw [hr _ acts rfl rfl rfl]) | rw [hr _ _ rfl rfl rfl]
    exact Steps.refl _
  · show Q3_1 Z pi1 pi2 h0 n0 _ T3.heap _
    rw [e3]
    exact ⟨b1, k1, rfl, N3, k5, (Nat.le_trans (Keep.refl h0 []).1 (Nat.le_of_eq g1.symm)), V3⟩
theorem d3_21 : decode method_4_code 21 = .ok (.iload_n 0, 1) := by decide +kernel
theorem d3_22 : decode method_4_code 22 = .ok (.iconst 2, 1) := by decide +kernel
theorem d3_23 : decode method_4_code 23 = .ok (.if_icmp .ne 17, 3) := by decide +kernel
theorem d3_26 : decode method_4_code 26 = .ok (.iconst 2, 1) := by decide +kernel
theorem d3_27 : decode method_4_code 27 = .ok (.newarray .int, 2) := by decide +kernel
theorem d3_29 : decode method_4_code 29 = .ok (.dup, 1) := by decide +kernel
theorem d3_30 : decode method_4_code 30 = .ok (.iconst 0, 1) := by decide +kernel
theorem d3_31 : decode method_4_code 31 = .ok (.iload_n 1, 1) := by decide +kernel
theorem d3_32 : decode method_4_code 32 = .ok (.iastore, 1) := by decide +kernel
theorem d3_33 : decode method_4_code 33 = .ok (.dup, 1) := by decide +kernel
theorem d3_34 : decode method_4_code 34 = .ok (.iconst 1, 1) := by decide +kernel
theorem d3_35 : decode method_4_code 35 = .ok (.iload_n 1, 1) := by decide +kernel
theorem d3_36 : decode method_4_code 36 = .ok (.iconst 1, 1) := by decide +kernel
theorem d3_37 : decode method_4_code 37 = .ok (.iadd, 1) := by decide +kernel
theorem d3_38 : decode method_4_code 38 = .ok (.iastore, 1) := by decide +kernel
theorem d3_39 : decode method_4_code 39 = .ok (.areturn, 1) := by decide +kernel
def Q3_2 (Z : State) (pi1 : Int32) (pi2 : Int32) (h0 : Heap) (n0 : Nat) (v : Option Value) (h : Heap) (L : List Loc) : Prop := ∃ b1 : Addr, ∃ k1 : ClassId, v = some (.ref b1) ∧ Fr n0 L ∧ Keep h0 h [] ∧ h0.size ≤ b1 ∧ Arv Z h b1 k1 .int (2 : Int32) [(.int pi2), (.int (pi2 + (1 : Int32)))] (.int (0 : Int32))
set_option maxRecDepth 65536 in
set_option maxHeartbeats 40000000 in
theorem rm3_2 (l : Launch) (Z : State) (a0 : Array Value) (hw : ∀ d ∈ tables_1, d.before a0 Z = true) (ws : List Jvm.Cond) (pi1 : Int32) (pi2 : Int32) (h0 : Heap) (n0 : Nat) (Z0 : n0 ≤ h0.size) (O0 : Old Z n0 h0) (hc1_0 : ¬ (pi1 = (0 : Int32))) (hc10_1 : ¬ (pi1 = (1 : Int32))) (hc23_2 : pi1 = (2 : Int32)) :
    MetFree l (⟨"com/example/gudl/gudl/GroundFactorIsConstantPinLaw", "atomArray", "(II)[I"⟩ : MethodName) (head1 (Jvm.Cond.code (⟨"com/example/gudl/gudl/GroundFactorIsConstantPinLaw", "atomArray", "(II)[I"⟩ : MethodName) method_4_code 2 (some (.array .int)) :: ws) ({ frames := 0, cells := 1, slots := 2, locals := 0 } : Room)) (fun a U => a = #[(.int pi1), (.int pi2)] ∧ Z.Warmed39 U.vm ∧ U.heap = h0) (fun _ _ _ _ _ => True) (fun _ U o U' => ∃ v L, o = .returned v ∧ Q3_2 Z pi1 pi2 h0 n0 v U'.heap L ∧ FrameEnd U o U' L ({ frames := 0, cells := 1, slots := 2, locals := 0 } : Room).cells ({ frames := 0, cells := 1, slots := 2, locals := 0 } : Room).slots) := by
  refine MetFree.of_bodySF (plainFor_of_name pn_3) hisR ?_
  intro p e s m args below meth c s₁ Bd hml0 hP hK
  obtain ⟨rfl, hZ, hh⟩ := hP
  have hx := Bd.exec
  have hby := Bd.bytes
  have hml : c.maxLocals = 2 := hml0
  have hown : s.vm.findClass "com/example/gudl/gudl/GroundFactorIsConstantPinLaw" = some m.cls := findClass_of_methodNamed Bd.named
  have hnm := (name_of_methodNamed Bd.named Bd.method).1
  have X0 : Stand p l e ({ frames := 0, cells := 1, slots := 2, locals := 0 } : Room) s m #[(.int pi1), (.int pi2)] below meth c s₁ [] 0 0 := Stand.of_body Bd
  have e0 : s₁.heap = h0 := by rw [← hh, Bd.state]; rfl
  have N0 := Fr.nil n0
  have pre0 : ∀ t, Steps p.tables e below (s₁.setTop (mkF m 0 #[.val (.int pi1), .val (.int pi2)] [])) t → Steps p.tables e below (s₁.setTop (entryFrame m #[(.int pi1), (.int pi2)] 2)) t := fun t k => castTop (ef_3 m pi1 pi2) k
  obtain ⟨T1, h1, k1, X1, e1, E1, A1, st1⟩ := newP X0 hx hZ (own_W hw 11 rfl) e0 (g := (mkF m 27 #[.val (.int pi1), .val (.int pi2)] [(.int (2 : Int32))])) rfl (hb hby d3_27) rfl (by decide) (cap := 2) (by decide) (by decide) (by decide) (by decide)
  obtain ⟨b1, g1⟩ : ∃ z, z = h0.size := ⟨_, rfl⟩
  rw [← g1] at A1 st1
  have V1 : Arv Z h1 b1 k1 .int (2 : Int32) [(.int (0 : Int32)), (.int (0 : Int32))] (.int (0 : Int32)) := (Arv.new A1 (by decide)).pad (pad_rep [] (.int (0 : Int32)) 2)
  have g_b1 : n0 ≤ b1 := Nat.le_trans Z0 (Nat.le_of_eq g1.symm)
  have V_c2 := V1
  obtain ⟨c2, Arc2, qc2, Sc2, Nc2, Hc2, Gc2⟩ := V_c2
  have hin3 : ¬ ((0 : Int32) < 0 ∨ c2.slots.size ≤ ((0 : Int32)).toNatClampNeg) := inb_of Sc2 ⟨by decide, by decide⟩
  obtain ⟨T3, h3, X3, e3, W3, st3⟩ := stI X1 hx hZ e1 Arc2 (j := (0 : Int32)) hin3 (g := (mkF m 32 #[.val (.int pi1), .val (.int pi2)] [(.int pi2), (.int (0 : Int32)), (.ref b1), (.ref b1)])) rfl rfl (hb hby d3_32)
  have V3 : Arv Z h3 b1 k1 .int (2 : Int32) [(.int pi2), (.int (0 : Int32))] (.int (0 : Int32)) := Arv.set Arc2 qc2 Sc2 Nc2 Hc2 Gc2 rfl W3 0 rfl (Nat.le_of_ble_eq_true rfl)
  have N3 := Fr.snoc X3 N0 g_b1
  have V_c4 := V3
  obtain ⟨c4, Arc4, qc4, Sc4, Nc4, Hc4, Gc4⟩ := V_c4
  have hin5 : ¬ ((1 : Int32) < 0 ∨ c4.slots.size ≤ ((1 : Int32)).toNatClampNeg) := inb_of Sc4 ⟨by decide, by decide⟩
  obtain ⟨T5, h5, X5, e5, W5, st5⟩ := stI X3 hx hZ e3 Arc4 (j := (1 : Int32)) hin5 (g := (mkF m 38 #[.val (.int pi1), .val (.int pi2)] [(.int (pi2 + (1 : Int32))), (.int (1 : Int32)), (.ref b1), (.ref b1)])) rfl rfl (hb hby d3_38)
  have V5 : Arv Z h5 b1 k1 .int (2 : Int32) [(.int pi2), (.int (pi2 + (1 : Int32)))] (.int (0 : Int32)) := Arv.set Arc4 qc4 Sc4 Nc4 Hc4 Gc4 rfl W5 1 rfl (Nat.le_of_ble_eq_true rfl)
  have N5 := Fr.snoc X5 N3 g_b1
  have k6 : Keep h0 h1 [] := (Keep.refl h0 []).ext E1
  have k7 : Keep h0 h3 [] := k6.wr W3 (Or.inr (Nat.le_trans (Keep.refl h0 []).1 (Nat.le_of_eq g1.symm)))
  have k8 : Keep h0 h5 [] := k7.wr W5 (Or.inr (Nat.le_trans (Keep.refl h0 []).1 (Nat.le_of_eq g1.symm)))
  obtain ⟨fs, hr, hrun, hended, hW, hsame⟩ := X5.leave (v := some (.ref b1)) (fun h => by rw [Bd.returns] at h; cases h)
  refine ⟨_, _, pre0 _ ?_, hrun, hended, _, _, rfl, ?_, ⟨_, rfl⟩, hW, hsame.mono (by decide) (by decide)⟩
  · show Stp p e below s₁ m 0 #[.val (.int pi1), .val (.int pi2)] [] _
    refine XS.iloadN X0.here hx rfl (hb hby d3_0) rfl ?_
    show Stp p e below s₁ m 1 #[.val (.int pi1), .val (.int pi2)] [(.int pi1)] _
    refine XS.ifYes X0.here hx rfl (pc0 := 1) (pc' := 8) rfl (hb hby d3_1) rfl ((if0 _ _).trans (feq hc1_0).2) (by decide) (by decide) ?_
    show Stp p e below s₁ m 8 #[.val (.int pi1), .val (.int pi2)] [] _
    refine XS.iloadN X0.here hx rfl (hb hby d3_8) rfl ?_
    show Stp p e below s₁ m 9 #[.val (.int pi1), .val (.int pi2)] [(.int pi1)] _
    refine XS.iconst X0.here hx rfl (hb hby d3_9) ?_
    show Stp p e below s₁ m 10 #[.val (.int pi1), .val (.int pi2)] [(.int (1 : Int32)), (.int pi1)] _
    refine XS.icmpYes X0.here hx rfl (pc0 := 10) (pc' := 21) rfl (hb hby d3_10) rfl (feq hc10_1).2 (by decide) (by decide) ?_
    show Stp p e below s₁ m 21 #[.val (.int pi1), .val (.int pi2)] [] _
    refine XS.iloadN X0.here hx rfl (hb hby d3_21) rfl ?_
    show Stp p e below s₁ m 22 #[.val (.int pi1), .val (.int pi2)] [(.int pi1)] _
    refine XS.iconst X0.here hx rfl (hb hby d3_22) ?_
    show Stp p e below s₁ m 23 #[.val (.int pi1), .val (.int pi2)] [(.int (2 : Int32)), (.int pi1)] _
    refine XS.icmpNo X0.here hx rfl (hb hby d3_23) rfl (teq hc23_2).2 ?_
    show Stp p e below s₁ m 26 #[.val (.int pi1), .val (.int pi2)] [] _
    refine XS.iconst X0.here hx rfl (hb hby d3_26) ?_
    show Stp p e below s₁ m 27 #[.val (.int pi1), .val (.int pi2)] [(.int (2 : Int32))] _
    refine st1 _ ?_
    show Stp p e below T1 m 29 #[.val (.int pi1), .val (.int pi2)] [(.ref b1)] _
    refine XS.dup X1.here hx rfl (hb hby d3_29) rfl rfl ?_
    show Stp p e below T1 m 30 #[.val (.int pi1), .val (.int pi2)] [(.ref b1), (.ref b1)] _
    refine XS.iconst X1.here hx rfl (hb hby d3_30) ?_
    show Stp p e below T1 m 31 #[.val (.int pi1), .val (.int pi2)] [(.int (0 : Int32)), (.ref b1), (.ref b1)] _
    refine XS.iloadN X1.here hx rfl (hb hby d3_31) rfl ?_
    show Stp p e below T1 m 32 #[.val (.int pi1), .val (.int pi2)] [(.int pi2), (.int (0 : Int32)), (.ref b1), (.ref b1)] _
    refine st3 _ ?_
    show Stp p e below T3 m 33 #[.val (.int pi1), .val (.int pi2)] [(.ref b1)] _
    refine XS.dup X3.here hx rfl (hb hby d3_33) rfl rfl ?_
    show Stp p e below T3 m 34 #[.val (.int pi1), .val (.int pi2)] [(.ref b1), (.ref b1)] _
    refine XS.iconst X3.here hx rfl (hb hby d3_34) ?_
    show Stp p e below T3 m 35 #[.val (.int pi1), .val (.int pi2)] [(.int (1 : Int32)), (.ref b1), (.ref b1)] _
    refine XS.iloadN X3.here hx rfl (hb hby d3_35) rfl ?_
    show Stp p e below T3 m 36 #[.val (.int pi1), .val (.int pi2)] [(.int pi2), (.int (1 : Int32)), (.ref b1), (.ref b1)] _
    refine XS.iconst X3.here hx rfl (hb hby d3_36) ?_
    show Stp p e below T3 m 37 #[.val (.int pi1), .val (.int pi2)] [(.int (1 : Int32)), (.int pi2), (.int (1 : Int32)), (.ref b1), (.ref b1)] _
    refine XS.iadd X3.here hx rfl (hb hby d3_37) rfl ?_
    show Stp p e below T3 m 38 #[.val (.int pi1), .val (.int pi2)] [(.int (pi2 + (1 : Int32))), (.int (1 : Int32)), (.ref b1), (.ref b1)] _
    refine st5 _ ?_
    show Stp p e below T5 m 39 #[.val (.int pi1), .val (.int pi2)] [(.ref b1)] _
    jvm_step X5.here [X5.here.top, hx, (hb hby d3_39), X5.method', Bd.returns, Value.isRef, FieldType.isReference]
    first | (intro acts; rw [hr _ acts rfl rfl rfl]) | rw [hr _ _ rfl rfl rfl]
    exact Steps.refl _
  · show Q3_2 Z pi1 pi2 h0 n0 _ T5.heap _
    rw [e5]
    exact ⟨b1, k1, rfl, N5, k8, (Nat.le_trans (Keep.refl h0 []).1 (Nat.le_of_eq g1.symm)), V5⟩
theorem d3_40 : decode method_4_code 40 = .ok (.iconst 3, 1) := by decide +kernel
theorem d3_41 : decode method_4_code 41 = .ok (.newarray .int, 2) := by decide +kernel
theorem d3_43 : decode method_4_code 43 = .ok (.dup, 1) := by decide +kernel
theorem d3_44 : decode method_4_code 44 = .ok (.iconst 0, 1) := by decide +kernel
theorem d3_45 : decode method_4_code 45 = .ok (.iload_n 1, 1) := by decide +kernel
theorem d3_46 : decode method_4_code 46 = .ok (.iastore, 1) := by decide +kernel
theorem d3_47 : decode method_4_code 47 = .ok (.dup, 1) := by decide +kernel
theorem d3_48 : decode method_4_code 48 = .ok (.iconst 1, 1) := by decide +kernel
theorem d3_49 : decode method_4_code 49 = .ok (.iload_n 1, 1) := by decide +kernel
theorem d3_50 : decode method_4_code 50 = .ok (.iconst 1, 1) := by decide +kernel
theorem d3_51 : decode method_4_code 51 = .ok (.iadd, 1) := by decide +kernel
theorem d3_52 : decode method_4_code 52 = .ok (.iastore, 1) := by decide +kernel
theorem d3_53 : decode method_4_code 53 = .ok (.dup, 1) := by decide +kernel
theorem d3_54 : decode method_4_code 54 = .ok (.iconst 2, 1) := by decide +kernel
theorem d3_55 : decode method_4_code 55 = .ok (.iload_n 1, 1) := by decide +kernel
theorem d3_56 : decode method_4_code 56 = .ok (.iconst 2, 1) := by decide +kernel
theorem d3_57 : decode method_4_code 57 = .ok (.iadd, 1) := by decide +kernel
theorem d3_58 : decode method_4_code 58 = .ok (.iastore, 1) := by decide +kernel
theorem d3_59 : decode method_4_code 59 = .ok (.areturn, 1) := by decide +kernel
def Q3_3 (Z : State) (pi1 : Int32) (pi2 : Int32) (h0 : Heap) (n0 : Nat) (v : Option Value) (h : Heap) (L : List Loc) : Prop := ∃ b1 : Addr, ∃ k1 : ClassId, v = some (.ref b1) ∧ Fr n0 L ∧ Keep h0 h [] ∧ h0.size ≤ b1 ∧ Arv Z h b1 k1 .int (3 : Int32) [(.int pi2), (.int (pi2 + (1 : Int32))), (.int (pi2 + (2 : Int32)))] (.int (0 : Int32))
set_option maxRecDepth 65536 in
set_option maxHeartbeats 40000000 in
theorem rm3_3 (l : Launch) (Z : State) (a0 : Array Value) (hw : ∀ d ∈ tables_1, d.before a0 Z = true) (ws : List Jvm.Cond) (pi1 : Int32) (pi2 : Int32) (h0 : Heap) (n0 : Nat) (Z0 : n0 ≤ h0.size) (O0 : Old Z n0 h0) (hc1_0 : ¬ (pi1 = (0 : Int32))) (hc10_1 : ¬ (pi1 = (1 : Int32))) (hc23_2 : ¬ (pi1 = (2 : Int32))) :
    MetFree l (⟨"com/example/gudl/gudl/GroundFactorIsConstantPinLaw", "atomArray", "(II)[I"⟩ : MethodName) (head1 (Jvm.Cond.code (⟨"com/example/gudl/gudl/GroundFactorIsConstantPinLaw", "atomArray", "(II)[I"⟩ : MethodName) method_4_code 2 (some (.array .int)) :: ws) ({ frames := 0, cells := 1, slots := 3, locals := 0 } : Room)) (fun a U => a = #[(.int pi1), (.int pi2)] ∧ Z.Warmed39 U.vm ∧ U.heap = h0) (fun _ _ _ _ _ => True) (fun _ U o U' => ∃ v L, o = .returned v ∧ Q3_3 Z pi1 pi2 h0 n0 v U'.heap L ∧ FrameEnd U o U' L ({ frames := 0, cells := 1, slots := 3, locals := 0 } : Room).cells ({ frames := 0, cells := 1, slots := 3, locals := 0 } : Room).slots) := by
  refine MetFree.of_bodySF (plainFor_of_name pn_3) hisR ?_
  intro p e s m args below meth c s₁ Bd hml0 hP hK
  obtain ⟨rfl, hZ, hh⟩ := hP
  have hx := Bd.exec
  have hby := Bd.bytes
  have hml : c.maxLocals = 2 := hml0
  have hown : s.vm.findClass "com/example/gudl/gudl/GroundFactorIsConstantPinLaw" = some m.cls := findClass_of_methodNamed Bd.named
  have hnm := (name_of_methodNamed Bd.named Bd.method).1
  have X0 : Stand p l e ({ frames := 0, cells := 1, slots := 3, locals := 0 } : Room) s m #[(.int pi1), (.int pi2)] below meth c s₁ [] 0 0 := Stand.of_body Bd
  have e0 : s₁.heap = h0 := by rw [← hh, Bd.state]; rfl
  have N0 := Fr.nil n0
  have pre0 : ∀ t, Steps p.tables e below (s₁.setTop (mkF m 0 #[.val (.int pi1), .val (.int pi2)] [])) t → Steps p.tables e below (s₁.setTop (entryFrame m #[(.int pi1), (.int pi2)] 2)) t := fun t k => castTop (ef_3 m pi1 pi2) k
  obtain ⟨T1, h1, k1, X1, e1, E1, A1, st1⟩ := newP X0 hx hZ (own_W hw 11 rfl) e0 (g := (mkF m 41 #[.val (.int pi1), .val (.int pi2)] [(.int (3 : Int32))])) rfl (hb hby d3_41) rfl (by decide) (cap := 3) (by decide) (by decide) (by decide) (by decide)
  obtain ⟨b1, g1⟩ : ∃ z, z = h0.size := ⟨_, rfl⟩
  rw [← g1] at A1 st1
  have V1 : Arv Z h1 b1 k1 .int (3 : Int32) [(.int (0 : Int32)), (.int (0 : Int32)), (.int (0 : Int32))] (.int (0 : Int32)) := (Arv.new A1 (by decide)).pad (pad_rep [] (.int (0 : Int32)) 3)
  have g_b1 : n0 ≤ b1 := Nat.le_trans Z0 (Nat.le_of_eq g1.symm)
  have V_c2 := V1
  obtain ⟨c2, Arc2, qc2, Sc2, Nc2, Hc2, Gc2⟩ := V_c2
  have hin3 : ¬ ((0 : Int32) < 0 ∨ c2.slots.size ≤ ((0 : Int32)).toNatClampNeg) := inb_of Sc2 ⟨by decide, by decide⟩
  obtain ⟨T3, h3, X3, e3, W3, st3⟩ := stI X1 hx hZ e1 Arc2 (j := (0 : Int32)) hin3 (g := (mkF m 46 #[.val (.int pi1), .val (.int pi2)] [(.int pi2), (.int (0 : Int32)), (.ref b1), (.ref b1)])) rfl rfl (hb hby d3_46)
  have V3 : Arv Z h3 b1 k1 .int (3 : Int32) [(.int pi2), (.int (0 : Int32)), (.int (0 : Int32))] (.int (0 : Int32)) := Arv.set Arc2 qc2 Sc2 Nc2 Hc2 Gc2 rfl W3 0 rfl (Nat.le_of_ble_eq_true rfl)
  have N3 := Fr.snoc X3 N0 g_b1
  have V_c4 := V3
  obtain ⟨c4, Arc4, qc4, Sc4, Nc4, Hc4, Gc4⟩ := V_c4
  have hin5 : ¬ ((1 : Int32) < 0 ∨ c4.slots.size ≤ ((1 : Int32)).toNatClampNeg) := inb_of Sc4 ⟨by decide, by decide⟩
  obtain ⟨T5, h5, X5, e5, W5, st5⟩ := stI X3 hx hZ e3 Arc4 (j := (1 : Int32)) hin5 (g := (mkF m 52 #[.val (.int pi1), .val (.int pi2)] [(.int (pi2 + (1 : Int32))), (.int (1 : Int32)), (.ref b1), (.ref b1)])) rfl rfl (hb hby d3_52)
  have V5 : Arv Z h5 b1 k1 .int (3 : Int32) [(.int pi2), (.int (pi2 + (1 : Int32))), (.int (0 : Int32))] (.int (0 : Int32)) := Arv.set Arc4 qc4 Sc4 Nc4 Hc4 Gc4 rfl W5 1 rfl (Nat.le_of_ble_eq_true rfl)
  have N5 := Fr.snoc X5 N3 g_b1
  have V_c6 := V5
  obtain ⟨c6, Arc6, qc6, Sc6, Nc6, Hc6, Gc6⟩ := V_c6
  have hin7 : ¬ ((2 : Int32) < 0 ∨ c6.slots.size ≤ ((2 : Int32)).toNatClampNeg) := inb_of Sc6 ⟨by decide, by decide⟩
  obtain ⟨T7, h7, X7, e7, W7, st7⟩ := stI X5 hx hZ e5 Arc6 (j := (2 : Int32)) hin7 (g := (mkF m 58 #[.val (.int pi1), .val (.int pi2)] [(.int (pi2 + (2 : Int32))), (.int (2 : Int32)), (.ref b1), (.ref b1)])) rfl rfl (hb hby d3_58)
  have V7 : Arv Z h7 b1 k1 .int (3 : Int32) [(.int pi2), (.int (pi2 + (1 : Int32))), (.int (pi2 + (2 : Int32)))] (.int (0 : Int32)) := Arv.set Arc6 qc6 Sc6 Nc6 Hc6 Gc6 rfl W7 2 rfl (Nat.le_of_ble_eq_true rfl)
  have N7 := Fr.snoc X7 N5 g_b1
  have k8 : Keep h0 h1 [] := (Keep.refl h0 []).ext E1
  have k9 : Keep h0 h3 [] := k8.wr W3 (Or.inr (Nat.le_trans (Keep.refl h0 []).1 (Nat.le_of_eq g1.symm)))
  have k10 : Keep h0 h5 [] := k9.wr W5 (Or.inr (Nat.le_trans (Keep.refl h0 []).1 (Nat.le_of_eq g1.symm)))
  have k11 : Keep h0 h7 [] := k10.wr W7 (Or.inr (Nat.le_trans (Keep.refl h0 []).1 (Nat.le_of_eq g1.symm)))
  obtain ⟨fs, hr, hrun, hended, hW, hsame⟩ := X7.leave (v := some (.ref b1)) (fun h => by rw [Bd.returns] at h; cases h)
  refine ⟨_, _, pre0 _ ?_, hrun, hended, _, _, rfl, ?_, ⟨_, rfl⟩, hW, hsame.mono (by decide) (by decide)⟩
  · show Stp p e below s₁ m 0 #[.val (.int pi1), .val (.int pi2)] [] _
    refine XS.iloadN X0.here hx rfl (hb hby d3_0) rfl ?_
    show Stp p e below s₁ m 1 #[.val (.int pi1), .val (.int pi2)] [(.int pi1)] _
    refine XS.ifYes X0.here hx rfl (pc0 := 1) (pc' := 8) rfl (hb hby d3_1) rfl ((if0 _ _).trans (feq hc1_0).2) (by decide) (by decide) ?_
    show Stp p e below s₁ m 8 #[.val (.int pi1), .val (.int pi2)] [] _
    refine XS.iloadN X0.here hx rfl (hb hby d3_8) rfl ?_
    show Stp p e below s₁ m 9 #[.val (.int pi1), .val (.int pi2)] [(.int pi1)] _
    refine XS.iconst X0.here hx rfl (hb hby d3_9) ?_
    show Stp p e below s₁ m 10 #[.val (.int pi1), .val (.int pi2)] [(.int (1 : Int32)), (.int pi1)] _
    refine XS.icmpYes X0.here hx rfl (pc0 := 10) (pc' := 21) rfl (hb hby d3_10) rfl (feq hc10_1).2 (by decide) (by decide) ?_
    show Stp p e below s₁ m 21 #[.val (.int pi1), .val (.int pi2)] [] _
    refine XS.iloadN X0.here hx rfl (hb hby d3_21) rfl ?_
    show Stp p e below s₁ m 22 #[.val (.int pi1), .val (.int pi2)] [(.int pi1)] _
    refine XS.iconst X0.here hx rfl (hb hby d3_22) ?_
    show Stp p e below s₁ m 23 #[.val (.int pi1), .val (.int pi2)] [(.int (2 : Int32)), (.int pi1)] _
    refine XS.icmpYes X0.here hx rfl (pc0 := 23) (pc' := 40) rfl (hb hby d3_23) rfl (feq hc23_2).2 (by decide) (by decide) ?_
    show Stp p e below s₁ m 40 #[.val (.int pi1), .val (.int pi2)] [] _
    refine XS.iconst X0.here hx rfl (hb hby d3_40) ?_
    show Stp p e below s₁ m 41 #[.val (.int pi1), .val (.int pi2)] [(.int (3 : Int32))] _
    refine st1 _ ?_
    show Stp p e below T1 m 43 #[.val (.int pi1), .val (.int pi2)] [(.ref b1)] _
    refine XS.dup X1.here hx rfl (hb hby d3_43) rfl rfl ?_
    show Stp p e below T1 m 44 #[.val (.int pi1), .val (.int pi2)] [(.ref b1), (.ref b1)] _
    refine XS.iconst X1.here hx rfl (hb hby d3_44) ?_
    show Stp p e below T1 m 45 #[.val (.int pi1), .val (.int pi2)] [(.int (0 : Int32)), (.ref b1), (.ref b1)] _
    refine XS.iloadN X1.here hx rfl (hb hby d3_45) rfl ?_
    show Stp p e below T1 m 46 #[.val (.int pi1), .val (.int pi2)] [(.int pi2), (.int (0 : Int32)), (.ref b1), (.ref b1)] _
    refine st3 _ ?_
    show Stp p e below T3 m 47 #[.val (.int pi1), .val (.int pi2)] [(.ref b1)] _
    refine XS.dup X3.here hx rfl (hb hby d3_47) rfl rfl ?_
    show Stp p e below T3 m 48 #[.val (.int pi1), .val (.int pi2)] [(.ref b1), (.ref b1)] _
    refine XS.iconst X3.here hx rfl (hb hby d3_48) ?_
    show Stp p e below T3 m 49 #[.val (.int pi1), .val (.int pi2)] [(.int (1 : Int32)), (.ref b1), (.ref b1)] _
    refine XS.iloadN X3.here hx rfl (hb hby d3_49) rfl ?_
    show Stp p e below T3 m 50 #[.val (.int pi1), .val (.int pi2)] [(.int pi2), (.int (1 : Int32)), (.ref b1), (.ref b1)] _
    refine XS.iconst X3.here hx rfl (hb hby d3_50) ?_
    show Stp p e below T3 m 51 #[.val (.int pi1), .val (.int pi2)] [(.int (1 : Int32)), (.int pi2), (.int (1 : Int32)), (.ref b1), (.ref b1)] _
    refine XS.iadd X3.here hx rfl (hb hby d3_51) rfl ?_
    show Stp p e below T3 m 52 #[.val (.int pi1), .val (.int pi2)] [(.int (pi2 + (1 : Int32))), (.int (1 : Int32)), (.ref b1), (.ref b1)] _
    refine st5 _ ?_
    show Stp p e below T5 m 53 #[.val (.int pi1), .val (.int pi2)] [(.ref b1)] _
    refine XS.dup X5.here hx rfl (hb hby d3_53) rfl rfl ?_
    show Stp p e below T5 m 54 #[.val (.int pi1), .val (.int pi2)] [(.ref b1), (.ref b1)] _
    refine XS.iconst X5.here hx rfl (hb hby d3_54) ?_
    show Stp p e below T5 m 55 #[.val (.int pi1), .val (.int pi2)] [(.int (2 : Int32)), (.ref b1), (.ref b1)] _
    refine XS.iloadN X5.here hx rfl (hb hby d3_55) rfl ?_
    show Stp p e below T5 m 56 #[.val (.int pi1), .val (.int pi2)] [(.int pi2), (.int (2 : Int32)), (.ref b1), (.ref b1)] _
    refine XS.iconst X5.here hx rfl (hb hby d3_56) ?_
    show Stp p e below T5 m 57 #[.val (.int pi1), .val (.int pi2)] [(.int (2 : Int32)), (.int pi2), (.int (2 : Int32)), (.ref b1), (.ref b1)] _
    refine XS.iadd X5.here hx rfl (hb hby d3_57) rfl ?_
    show Stp p e below T5 m 58 #[.val (.int pi1), .val (.int pi2)] [(.int (pi2 + (2 : Int32))), (.int (2 : Int32)), (.ref b1), (.ref b1)] _
    refine st7 _ ?_
    show Stp p e below T7 m 59 #[.val (.int pi1), .val (.int pi2)] [(.ref b1)] _
    jvm_step X7.here [X7.here.top, hx, (hb hby d3_59), X7.method', Bd.returns, Value.isRef, FieldType.isReference]
    first | (intro acts; rw [hr _ acts rfl rfl rfl]) | rw [hr _ _ rfl rfl rfl]
    exact Steps.refl _
  · show Q3_3 Z pi1 pi2 h0 n0 _ T7.heap _
    rw [e7]
    exact ⟨b1, k1, rfl, N7, k11, (Nat.le_trans (Keep.refl h0 []).1 (Nat.le_of_eq g1.symm)), V7⟩
theorem d4_0 : decode prog_42_method_1_code 0 = .ok (.aload_n 0, 1) := by decide +kernel
theorem d4_1 : decode prog_42_method_1_code 1 = .ok (.invokespecial 1, 3) := by decide +kernel
theorem d4_4 : decode prog_42_method_1_code 4 = .ok (.aload 4, 2) := by decide +kernel
theorem d4_6 : decode prog_42_method_1_code 6 = .ok (.arraylength, 1) := by decide +kernel
theorem d4_7 : decode prog_42_method_1_code 7 = .ok (.iconst 1, 1) := by decide +kernel
theorem d4_8 : decode prog_42_method_1_code 8 = .ok (.aload_n 3, 1) := by decide +kernel
theorem d4_9 : decode prog_42_method_1_code 9 = .ok (.arraylength, 1) := by decide +kernel
theorem d4_10 : decode prog_42_method_1_code 10 = .ok (.ishl, 1) := by decide +kernel
theorem d4_11 : decode prog_42_method_1_code 11 = .ok (.if_icmp .eq 21, 3) := by decide +kernel
theorem d4_32 : decode prog_42_method_1_code 32 = .ok (.aload_n 0, 1) := by decide +kernel
theorem d4_33 : decode prog_42_method_1_code 33 = .ok (.dload_n 1, 1) := by decide +kernel
theorem d4_34 : decode prog_42_method_1_code 34 = .ok (.putfield 16, 3) := by decide +kernel
theorem d4_37 : decode prog_42_method_1_code 37 = .ok (.aload_n 0, 1) := by decide +kernel
theorem d4_38 : decode prog_42_method_1_code 38 = .ok (.aload_n 3, 1) := by decide +kernel
theorem d4_39 : decode prog_42_method_1_code 39 = .ok (.putfield 22, 3) := by decide +kernel
theorem d4_42 : decode prog_42_method_1_code 42 = .ok (.aload_n 0, 1) := by decide +kernel
theorem d4_43 : decode prog_42_method_1_code 43 = .ok (.aload 4, 2) := by decide +kernel
theorem d4_45 : decode prog_42_method_1_code 45 = .ok (.putfield 26, 3) := by decide +kernel
theorem d4_48 : decode prog_42_method_1_code 48 = .ok (.return_, 1) := by decide +kernel
theorem pn_4 : plainName "com/example/gudl/gudl/GroundFactor" = true := by first | (simp [plainName, overriddenIn]; done) | decide +kernel
theorem ef_4 (m : MethodId) (pr0 : Addr) (pf1 : UInt64) (pr2 : Addr) (pr3 : Addr) : entryFrame m #[(.ref pr0), (.double pf1), (.ref pr2), (.ref pr3)] 5 = mkF m 0 #[.val (.ref pr0), .val (.double pf1), .second, .val (.ref pr2), .val (.ref pr3)] [] := by first | (simp [entryFrame, mkF, argsToLocals, Value.category]; done) | rfl
def Q4_0 (Z : State) (pr0 : Addr) (pf1 : UInt64) (pr2 : Addr) (pr3 : Addr) (kk_pr2 : ClassId) (kk_pr3 : ClassId) (c0_pr3 : Int32) (u_value_pr0 : Value) (u_atoms_pr0 : Value) (u_truth_pr0 : Value) (h0 : Heap) (n0 : Nat) (v : Option Value) (h : Heap) (L : List Loc) : Prop := v = none ∧ Fr n0 L ∧ Keep h0 h [pr0] ∧ Exa Z h pr0 "com/example/gudl/gudl/GroundFactor" ∧ Fld Z h pr0 "com/example/gudl/gudl/GroundFactor" "value" "D" (.double pf1) ∧ Fld Z h pr0 "com/example/gudl/gudl/GroundFactor" "atoms" "[I" (.ref pr2) ∧ Fld Z h pr0 "com/example/gudl/gudl/GroundFactor" "truth" "[Z" (.ref pr3)
set_option maxRecDepth 65536 in
set_option maxHeartbeats 40000000 in
theorem rm4_0 (l : Launch) (Z : State) (a0 : Array Value) (hw : ∀ d ∈ tables_1, d.before a0 Z = true) (ws : List Jvm.Cond) (pr0 : Addr) (pf1 : UInt64) (pr2 : Addr) (pr3 : Addr) (kk_pr2 : ClassId) (kk_pr3 : ClassId) (c0_pr3 : Int32) (u_value_pr0 : Value) (u_atoms_pr0 : Value) (u_truth_pr0 : Value) (h0 : Heap) (n0 : Nat) (Z0 : n0 ≤ h0.size) (O0 : Old Z n0 h0) (V_pr2 : Arv Z h0 pr2 kk_pr2 .int (0 : Int32) [] (.int (0 : Int32))) (V_pr3 : Arv Z h0 pr3 kk_pr3 .boolean (1 : Int32) [(.int c0_pr3)] (.int (0 : Int32))) (E_pr0 : Exa Z h0 pr0 "com/example/gudl/gudl/GroundFactor") (F_value_pr0 : Fld Z h0 pr0 "com/example/gudl/gudl/GroundFactor" "value" "D" u_value_pr0) (g_pr0 : n0 ≤ pr0) (F_atoms_pr0 : Fld Z h0 pr0 "com/example/gudl/gudl/GroundFactor" "atoms" "[I" u_atoms_pr0) (F_truth_pr0 : Fld Z h0 pr0 "com/example/gudl/gudl/GroundFactor" "truth" "[Z" u_truth_pr0) :
    MetFree l (⟨"com/example/gudl/gudl/GroundFactor", "<init>", "(D[I[Z)V"⟩ : MethodName) (head1 (Jvm.Cond.code (⟨"com/example/gudl/gudl/GroundFactor", "<init>", "(D[I[Z)V"⟩ : MethodName) prog_42_method_1_code 5 none :: ws) ({ frames := 1, cells := 0, slots := 0, locals := 12 } : Room)) (fun a U => a = #[(.ref pr0), (.double pf1), (.ref pr2), (.ref pr3)] ∧ Z.Warmed39 U.vm ∧ U.heap = h0) (fun _ _ _ _ _ => True) (fun _ U o U' => ∃ v L, o = .returned v ∧ Q4_0 Z pr0 pf1 pr2 pr3 kk_pr2 kk_pr3 c0_pr3 u_value_pr0 u_atoms_pr0 u_truth_pr0 h0 n0 v U'.heap L ∧ FrameEnd U o U' L ({ frames := 1, cells := 0, slots := 0, locals := 12 } : Room).cells ({ frames := 1, cells := 0, slots := 0, locals := 12 } : Room).slots) := by
  refine MetFree.of_bodySF (plainFor_of_name pn_4) hisR ?_
  intro p e s m args below meth c s₁ Bd hml0 hP hK
  obtain ⟨rfl, hZ, hh⟩ := hP
  have hx := Bd.exec
  have hby := Bd.bytes
  have hml : c.maxLocals = 5 := hml0
  have hown : s.vm.findClass "com/example/gudl/gudl/GroundFactor" = some m.cls := findClass_of_methodNamed Bd.named
  have hnm := (name_of_methodNamed Bd.named Bd.method).1
  have X0 : Stand p l e ({ frames := 1, cells := 0, slots := 0, locals := 12 } : Room) s m #[(.ref pr0), (.double pf1), (.ref pr2), (.ref pr3)] below meth c s₁ [] 0 0 := Stand.of_body Bd
  have e0 : s₁.heap = h0 := by rw [← hh, Bd.state]; rfl
  have N0 := Fr.nil n0
  have pre0 : ∀ t, Steps p.tables e below (s₁.setTop (mkF m 0 #[.val (.ref pr0), .val (.double pf1), .second, .val (.ref pr2), .val (.ref pr3)] [])) t → Steps p.tables e below (s₁.setTop (entryFrame m #[(.ref pr0), (.double pf1), (.ref pr2), (.ref pr3)] 5)) t := fun t k => castTop (ef_4 m pr0 pf1 pr2 pr3) k
  obtain ⟨T1, X1, e1, st1⟩ := initO X0 hx hZ hown (own_W hw 18 rfl) (own_W hw 19 rfl) (own_W hw 20 rfl) e0 (g := (mkF m 1 #[.val (.ref pr0), .val (.double pf1), .second, .val (.ref pr2), .val (.ref pr3)] [(.ref pr0)])) rfl (by rw [hml]; rfl) rfl (hb hby d4_1) (by decide) (W := 0) (by show 2 * 0 + _ ≤ _; exact Nat.le_of_eq rfl) (by decide)
  have V_c2 := V_pr3
  obtain ⟨c2, Arc2, qc2, Sc2, Nc2, Hc2, Gc2⟩ := V_c2
  have V_c3 := V_pr2
  obtain ⟨c3, Arc3, qc3, Sc3, Nc3, Hc3, Gc3⟩ := V_c3
  obtain ⟨T4, h4, X4, e4, W4, st4⟩ := putF X1 hx hZ hown (host := "") (Or.inl (own_W hw 21 rfl)) Via.refl e1 F_value_pr0 E_pr0 (Or.inr ⟨(own_W hw 22 rfl), rfl, hnm⟩) (own_W hw 13 rfl) (ty := .double) (by decide) rfl rfl (g := (mkF m 34 #[.val (.ref pr0), .val (.double pf1), .second, .val (.ref pr2), .val (.ref pr3)] [(.double pf1), (.ref pr0)])) rfl rfl (hb hby d4_34)
  have Fw4 := F_value_pr0.same W4
  have N4 := Fr.snoc X4 N0 g_pr0
  have f5 := F_atoms_pr0.other W4 (Or.inr (slot_ne (Or.inr (own_W hw 24 rfl)) (Or.inr (own_W hw 22 rfl)) (by decide) (t := (.array .int)) (t' := .double) (by decide) (by decide)))
  have f6 := E_pr0.wr W4
  obtain ⟨T7, h7, X7, e7, W7, st7⟩ := putF X4 hx hZ hown (host := "") (Or.inl (own_W hw 23 rfl)) Via.refl e4 f5 f6 (Or.inr ⟨(own_W hw 24 rfl), rfl, hnm⟩) (own_W hw 13 rfl) (ty := (.array .int)) (by decide) rfl rfl (g := (mkF m 39 #[.val (.ref pr0), .val (.double pf1), .second, .val (.ref pr2), .val (.ref pr3)] [(.ref pr2), (.ref pr0)])) rfl rfl (hb hby d4_39)
  have Fw7 := f5.same W7
  have N7 := Fr.snoc X7 N4 g_pr0
  have f8 := F_truth_pr0.other W4 (Or.inr (slot_ne (Or.inr (own_W hw 26 rfl)) (Or.inr (own_W hw 22 rfl)) (by decide) (t := (.array .boolean)) (t' := .double) (by decide) (by decide)))
  have f9 := f8.other W7 (Or.inr (slot_ne (Or.inr (own_W hw 26 rfl)) (Or.inr (own_W hw 24 rfl)) (by decide) (t := (.array .boolean)) (t' := (.array .int)) (by decide) (by decide)))
  have f10 := f6.wr W7
  obtain ⟨T11, h11, X11, e11, W11, st11⟩ := putF X7 hx hZ hown (host := "") (Or.inl (own_W hw 25 rfl)) Via.refl e7 f9 f10 (Or.inr ⟨(own_W hw 26 rfl), rfl, hnm⟩) (own_W hw 13 rfl) (ty := (.array .boolean)) (by decide) rfl rfl (g := (mkF m 45 #[.val (.ref pr0), .val (.double pf1), .second, .val (.ref pr2), .val (.ref pr3)] [(.ref pr3), (.ref pr0)])) rfl rfl (hb hby d4_45)
  have Fw11 := f9.same W11
  have N11 := Fr.snoc X11 N7 g_pr0
  have k12 : Keep h0 h4 [pr0] := (Keep.refl h0 [pr0]).wr W4 (Or.inl (List.mem_of_getElem? (i := 0) rfl))
  have k13 : Keep h0 h7 [pr0] := k12.wr W7 (Or.inl (List.mem_of_getElem? (i := 0) rfl))
  have k14 : Keep h0 h11 [pr0] := k13.wr W11 (Or.inl (List.mem_of_getElem? (i := 0) rfl))
  have f15 := f10.wr W11
  have f16 := Fw4.other W7 (Or.inr (slot_ne (Or.inr (own_W hw 22 rfl)) (Or.inr (own_W hw 24 rfl)) (by decide) (t := .double) (t' := (.array .int)) (by decide) (by decide)))
  have f17 := f16.other W11 (Or.inr (slot_ne (Or.inr (own_W hw 22 rfl)) (Or.inr (own_W hw 26 rfl)) (by decide) (t := .double) (t' := (.array .boolean)) (by decide) (by decide)))
  have f18 := Fw7.other W11 (Or.inr (slot_ne (Or.inr (own_W hw 24 rfl)) (Or.inr (own_W hw 26 rfl)) (by decide) (t := (.array .int)) (t' := (.array .boolean)) (by decide) (by decide)))
  obtain ⟨fs, hr, hrun, hended, hW, hsame⟩ := X11.leave (v := none) (fun _ => rfl)
  refine ⟨_, _, pre0 _ ?_, hrun, hended, _, _, rfl, ?_, ⟨_, rfl⟩, hW, hsame.mono (by decide) (by decide)⟩
  · show Stp p e below s₁ m 0 #[.val (.ref pr0), .val (.double pf1), .second, .val (.ref pr2), .val (.ref pr3)] [] _
    refine XS.aloadN X0.here hx rfl (hb hby d4_0) rfl rfl ?_
    show Stp p e below s₁ m 1 #[.val (.ref pr0), .val (.double pf1), .second, .val (.ref pr2), .val (.ref pr3)] [(.ref pr0)] _
    refine st1 _ ?_
    show Stp p e below T1 m 4 #[.val (.ref pr0), .val (.double pf1), .second, .val (.ref pr2), .val (.ref pr3)] [] _
    refine XS.aload X1.here hx rfl (hb hby d4_4) rfl rfl ?_
    show Stp p e below T1 m 6 #[.val (.ref pr0), .val (.double pf1), .second, .val (.ref pr2), .val (.ref pr3)] [(.ref pr3)] _
    refine X1.arraylength hx (by rw [e1]; exact Arc2.1) (State.isArrayOf_alike hZ.alike Arc2.2.1) (g := (mkF m 6 #[.val (.ref pr0), .val (.double pf1), .second, .val (.ref pr2), .val (.ref pr3)] [(.ref pr3)])) rfl rfl (hb hby d4_6) _ ?_
    rw [len_of Sc2 Nc2]
    show Stp p e below T1 m 7 #[.val (.ref pr0), .val (.double pf1), .second, .val (.ref pr2), .val (.ref pr3)] [(.int (1 : Int32))] _
    refine XS.iconst X1.here hx rfl (hb hby d4_7) ?_
    show Stp p e below T1 m 8 #[.val (.ref pr0), .val (.double pf1), .second, .val (.ref pr2), .val (.ref pr3)] [(.int (1 : Int32)), (.int (1 : Int32))] _
    refine XS.aloadN X1.here hx rfl (hb hby d4_8) rfl rfl ?_
    show Stp p e below T1 m 9 #[.val (.ref pr0), .val (.double pf1), .second, .val (.ref pr2), .val (.ref pr3)] [(.ref pr2), (.int (1 : Int32)), (.int (1 : Int32))] _
    refine X1.arraylength hx (by rw [e1]; exact Arc3.1) (State.isArrayOf_alike hZ.alike Arc3.2.1) (g := (mkF m 9 #[.val (.ref pr0), .val (.double pf1), .second, .val (.ref pr2), .val (.ref pr3)] [(.ref pr2), (.int (1 : Int32)), (.int (1 : Int32))])) rfl rfl (hb hby d4_9) _ ?_
    rw [len_of Sc3 Nc3]
    show Stp p e below T1 m 10 #[.val (.ref pr0), .val (.double pf1), .second, .val (.ref pr2), .val (.ref pr3)] [(.int (0 : Int32)), (.int (1 : Int32)), (.int (1 : Int32))] _
    refine XS.ishl X1.here hx rfl (hb hby d4_10) rfl ?_
    show Stp p e below T1 m 11 #[.val (.ref pr0), .val (.double pf1), .second, .val (.ref pr2), .val (.ref pr3)] [(.int (1 : Int32)), (.int (1 : Int32))] _
    refine XS.icmpYes X1.here hx rfl (pc0 := 11) (pc' := 32) rfl (hb hby d4_11) rfl (teq (rfl : (1 : Int32) = (1 : Int32))).1 (by decide) (by decide) ?_
    show Stp p e below T1 m 32 #[.val (.ref pr0), .val (.double pf1), .second, .val (.ref pr2), .val (.ref pr3)] [] _
    refine XS.aloadN X1.here hx rfl (hb hby d4_32) rfl rfl ?_
    show Stp p e below T1 m 33 #[.val (.ref pr0), .val (.double pf1), .second, .val (.ref pr2), .val (.ref pr3)] [(.ref pr0)] _
    refine XS.dloadN X1.here hx rfl (hb hby d4_33) rfl ?_
    show Stp p e below T1 m 34 #[.val (.ref pr0), .val (.double pf1), .second, .val (.ref pr2), .val (.ref pr3)] [(.double pf1), (.ref pr0)] _
    refine st4 _ ?_
    show Stp p e below T4 m 37 #[.val (.ref pr0), .val (.double pf1), .second, .val (.ref pr2), .val (.ref pr3)] [] _
    refine XS.aloadN X4.here hx rfl (hb hby d4_37) rfl rfl ?_
    show Stp p e below T4 m 38 #[.val (.ref pr0), .val (.double pf1), .second, .val (.ref pr2), .val (.ref pr3)] [(.ref pr0)] _
    refine XS.aloadN X4.here hx rfl (hb hby d4_38) rfl rfl ?_
    show Stp p e below T4 m 39 #[.val (.ref pr0), .val (.double pf1), .second, .val (.ref pr2), .val (.ref pr3)] [(.ref pr2), (.ref pr0)] _
    refine st7 _ ?_
    show Stp p e below T7 m 42 #[.val (.ref pr0), .val (.double pf1), .second, .val (.ref pr2), .val (.ref pr3)] [] _
    refine XS.aloadN X7.here hx rfl (hb hby d4_42) rfl rfl ?_
    show Stp p e below T7 m 43 #[.val (.ref pr0), .val (.double pf1), .second, .val (.ref pr2), .val (.ref pr3)] [(.ref pr0)] _
    refine XS.aload X7.here hx rfl (hb hby d4_43) rfl rfl ?_
    show Stp p e below T7 m 45 #[.val (.ref pr0), .val (.double pf1), .second, .val (.ref pr2), .val (.ref pr3)] [(.ref pr3), (.ref pr0)] _
    refine st11 _ ?_
    show Stp p e below T11 m 48 #[.val (.ref pr0), .val (.double pf1), .second, .val (.ref pr2), .val (.ref pr3)] [] _
    exact X11.returnOut hx Bd.returns (hb hby d4_48) hr
  · show Q4_0 Z pr0 pf1 pr2 pr3 kk_pr2 kk_pr3 c0_pr3 u_value_pr0 u_atoms_pr0 u_truth_pr0 h0 n0 _ T11.heap _
    rw [e11]
    exact ⟨rfl, N11, k14, f15, f17, f18, Fw11⟩
def Q4_1 (Z : State) (pr0 : Addr) (pf1 : UInt64) (pr2 : Addr) (pr3 : Addr) (kk_pr2 : ClassId) (c0_pr2 : Int32) (kk_pr3 : ClassId) (c0_pr3 : Int32) (c1_pr3 : Int32) (u_value_pr0 : Value) (u_atoms_pr0 : Value) (u_truth_pr0 : Value) (h0 : Heap) (n0 : Nat) (v : Option Value) (h : Heap) (L : List Loc) : Prop := v = none ∧ Fr n0 L ∧ Keep h0 h [pr0] ∧ Exa Z h pr0 "com/example/gudl/gudl/GroundFactor" ∧ Fld Z h pr0 "com/example/gudl/gudl/GroundFactor" "value" "D" (.double pf1) ∧ Fld Z h pr0 "com/example/gudl/gudl/GroundFactor" "atoms" "[I" (.ref pr2) ∧ Fld Z h pr0 "com/example/gudl/gudl/GroundFactor" "truth" "[Z" (.ref pr3)
set_option maxRecDepth 65536 in
set_option maxHeartbeats 40000000 in
theorem rm4_1 (l : Launch) (Z : State) (a0 : Array Value) (hw : ∀ d ∈ tables_1, d.before a0 Z = true) (ws : List Jvm.Cond) (pr0 : Addr) (pf1 : UInt64) (pr2 : Addr) (pr3 : Addr) (kk_pr2 : ClassId) (c0_pr2 : Int32) (kk_pr3 : ClassId) (c0_pr3 : Int32) (c1_pr3 : Int32) (u_value_pr0 : Value) (u_atoms_pr0 : Value) (u_truth_pr0 : Value) (h0 : Heap) (n0 : Nat) (Z0 : n0 ≤ h0.size) (O0 : Old Z n0 h0) (V_pr2 : Arv Z h0 pr2 kk_pr2 .int (1 : Int32) [(.int c0_pr2)] (.int (0 : Int32))) (V_pr3 : Arv Z h0 pr3 kk_pr3 .boolean (2 : Int32) [(.int c0_pr3), (.int c1_pr3)] (.int (0 : Int32))) (E_pr0 : Exa Z h0 pr0 "com/example/gudl/gudl/GroundFactor") (F_value_pr0 : Fld Z h0 pr0 "com/example/gudl/gudl/GroundFactor" "value" "D" u_value_pr0) (g_pr0 : n0 ≤ pr0) (F_atoms_pr0 : Fld Z h0 pr0 "com/example/gudl/gudl/GroundFactor" "atoms" "[I" u_atoms_pr0) (F_truth_pr0 : Fld Z h0 pr0 "com/example/gudl/gudl/GroundFactor" "truth" "[Z" u_truth_pr0) :
    MetFree l (⟨"com/example/gudl/gudl/GroundFactor", "<init>", "(D[I[Z)V"⟩ : MethodName) (head1 (Jvm.Cond.code (⟨"com/example/gudl/gudl/GroundFactor", "<init>", "(D[I[Z)V"⟩ : MethodName) prog_42_method_1_code 5 none :: ws) ({ frames := 1, cells := 0, slots := 0, locals := 12 } : Room)) (fun a U => a = #[(.ref pr0), (.double pf1), (.ref pr2), (.ref pr3)] ∧ Z.Warmed39 U.vm ∧ U.heap = h0) (fun _ _ _ _ _ => True) (fun _ U o U' => ∃ v L, o = .returned v ∧ Q4_1 Z pr0 pf1 pr2 pr3 kk_pr2 c0_pr2 kk_pr3 c0_pr3 c1_pr3 u_value_pr0 u_atoms_pr0 u_truth_pr0 h0 n0 v U'.heap L ∧ FrameEnd U o U' L ({ frames := 1, cells := 0, slots := 0, locals := 12 } : Room).cells ({ frames := 1, cells := 0, slots := 0, locals := 12 } : Room).slots) := by
  refine MetFree.of_bodySF (plainFor_of_name pn_4) hisR ?_
  intro p e s m args below meth c s₁ Bd hml0 hP hK
  obtain ⟨rfl, hZ, hh⟩ := hP
  have hx := Bd.exec
  have hby := Bd.bytes
  have hml : c.maxLocals = 5 := hml0
  have hown : s.vm.findClass "com/example/gudl/gudl/GroundFactor" = some m.cls := findClass_of_methodNamed Bd.named
  have hnm := (name_of_methodNamed Bd.named Bd.method).1
  have X0 : Stand p l e ({ frames := 1, cells := 0, slots := 0, locals := 12 } : Room) s m #[(.ref pr0), (.double pf1), (.ref pr2), (.ref pr3)] below meth c s₁ [] 0 0 := Stand.of_body Bd
  have e0 : s₁.heap = h0 := by rw [← hh, Bd.state]; rfl
  have N0 := Fr.nil n0
  have pre0 : ∀ t, Steps p.tables e below (s₁.setTop (mkF m 0 #[.val (.ref pr0), .val (.double pf1), .second, .val (.ref pr2), .val (.ref pr3)] [])) t → Steps p.tables e below (s₁.setTop (entryFrame m #[(.ref pr0), (.double pf1), (.ref pr2), (.ref pr3)] 5)) t := fun t k => castTop (ef_4 m pr0 pf1 pr2 pr3) k
  obtain ⟨T1, X1, e1, st1⟩ := initO X0 hx hZ hown (own_W hw 18 rfl) (own_W hw 19 rfl) (own_W hw 20 rfl) e0 (g := (mkF m 1 #[.val (.ref pr0), .val (.double pf1), .second, .val (.ref pr2), .val (.ref pr3)] [(.ref pr0)])) rfl (by rw [hml]; rfl) rfl (hb hby d4_1) (by decide) (W := 0) (by show 2 * 0 + _ ≤ _; exact Nat.le_of_eq rfl) (by decide)
  have V_c2 := V_pr3
  obtain ⟨c2, Arc2, qc2, Sc2, Nc2, Hc2, Gc2⟩ := V_c2
  have V_c3 := V_pr2
  obtain ⟨c3, Arc3, qc3, Sc3, Nc3, Hc3, Gc3⟩ := V_c3
  obtain ⟨T4, h4, X4, e4, W4, st4⟩ := putF X1 hx hZ hown (host := "") (Or.inl (own_W hw 21 rfl)) Via.refl e1 F_value_pr0 E_pr0 (Or.inr ⟨(own_W hw 22 rfl), rfl, hnm⟩) (own_W hw 13 rfl) (ty := .double) (by decide) rfl rfl (g := (mkF m 34 #[.val (.ref pr0), .val (.double pf1), .second, .val (.ref pr2), .val (.ref pr3)] [(.double pf1), (.ref pr0)])) rfl rfl (hb hby d4_34)
  have Fw4 := F_value_pr0.same W4
  have N4 := Fr.snoc X4 N0 g_pr0
  have f5 := F_atoms_pr0.other W4 (Or.inr (slot_ne (Or.inr (own_W hw 24 rfl)) (Or.inr (own_W hw 22 rfl)) (by decide) (t := (.array .int)) (t' := .double) (by decide) (by decide)))
  have f6 := E_pr0.wr W4
  obtain ⟨T7, h7, X7, e7, W7, st7⟩ := putF X4 hx hZ hown (host := "") (Or.inl (own_W hw 23 rfl)) Via.refl e4 f5 f6 (Or.inr ⟨(own_W hw 24 rfl), rfl, hnm⟩) (own_W hw 13 rfl) (ty := (.array .int)) (by decide) rfl rfl (g := (mkF m 39 #[.val (.ref pr0), .val (.double pf1), .second, .val (.ref pr2), .val (.ref pr3)] [(.ref pr2), (.ref pr0)])) rfl rfl (hb hby d4_39)
  have Fw7 := f5.same W7
  have N7 := Fr.snoc X7 N4 g_pr0
  have f8 := F_truth_pr0.other W4 (Or.inr (slot_ne (Or.inr (own_W hw 26 rfl)) (Or.inr (own_W hw 22 rfl)) (by decide) (t := (.array .boolean)) (t' := .double) (by decide) (by decide)))
  have f9 := f8.other W7 (Or.inr (slot_ne (Or.inr (own_W hw 26 rfl)) (Or.inr (own_W hw 24 rfl)) (by decide) (t := (.array .boolean)) (t' := (.array .int)) (by decide) (by decide)))
  have f10 := f6.wr W7
  obtain ⟨T11, h11, X11, e11, W11, st11⟩ := putF X7 hx hZ hown (host := "") (Or.inl (own_W hw 25 rfl)) Via.refl e7 f9 f10 (Or.inr ⟨(own_W hw 26 rfl), rfl, hnm⟩) (own_W hw 13 rfl) (ty := (.array .boolean)) (by decide) rfl rfl (g := (mkF m 45 #[.val (.ref pr0), .val (.double pf1), .second, .val (.ref pr2), .val (.ref pr3)] [(.ref pr3), (.ref pr0)])) rfl rfl (hb hby d4_45)
  have Fw11 := f9.same W11
  have N11 := Fr.snoc X11 N7 g_pr0
  have k12 : Keep h0 h4 [pr0] := (Keep.refl h0 [pr0]).wr W4 (Or.inl (List.mem_of_getElem? (i := 0) rfl))
  have k13 : Keep h0 h7 [pr0] := k12.wr W7 (Or.inl (List.mem_of_getElem? (i := 0) rfl))
  have k14 : Keep h0 h11 [pr0] := k13.wr W11 (Or.inl (List.mem_of_getElem? (i := 0) rfl))
  have f15 := f10.wr W11
  have f16 := Fw4.other W7 (Or.inr (slot_ne (Or.inr (own_W hw 22 rfl)) (Or.inr (own_W hw 24 rfl)) (by decide) (t := .double) (t' := (.array .int)) (by decide) (by decide)))
  have f17 := f16.other W11 (Or.inr (slot_ne (Or.inr (own_W hw 22 rfl)) (Or.inr (own_W hw 26 rfl)) (by decide) (t := .double) (t' := (.array .boolean)) (by decide) (by decide)))
  have f18 := Fw7.other W11 (Or.inr (slot_ne (Or.inr (own_W hw 24 rfl)) (Or.inr (own_W hw 26 rfl)) (by decide) (t := (.array .int)) (t' := (.array .boolean)) (by decide) (by decide)))
  obtain ⟨fs, hr, hrun, hended, hW, hsame⟩ := X11.leave (v := none) (fun _ => rfl)
  refine ⟨_, _, pre0 _ ?_, hrun, hended, _, _, rfl, ?_, ⟨_, rfl⟩, hW, hsame.mono (by decide) (by decide)⟩
  · show Stp p e below s₁ m 0 #[.val (.ref pr0), .val (.double pf1), .second, .val (.ref pr2), .val (.ref pr3)] [] _
    refine XS.aloadN X0.here hx rfl (hb hby d4_0) rfl rfl ?_
    show Stp p e below s₁ m 1 #[.val (.ref pr0), .val (.double pf1), .second, .val (.ref pr2), .val (.ref pr3)] [(.ref pr0)] _
    refine st1 _ ?_
    show Stp p e below T1 m 4 #[.val (.ref pr0), .val (.double pf1), .second, .val (.ref pr2), .val (.ref pr3)] [] _
    refine XS.aload X1.here hx rfl (hb hby d4_4) rfl rfl ?_
    show Stp p e below T1 m 6 #[.val (.ref pr0), .val (.double pf1), .second, .val (.ref pr2), .val (.ref pr3)] [(.ref pr3)] _
    refine X1.arraylength hx (by rw [e1]; exact Arc2.1) (State.isArrayOf_alike hZ.alike Arc2.2.1) (g := (mkF m 6 #[.val (.ref pr0), .val (.double pf1), .second, .val (.ref pr2), .val (.ref pr3)] [(.ref pr3)])) rfl rfl (hb hby d4_6) _ ?_
    rw [len_of Sc2 Nc2]
    show Stp p e below T1 m 7 #[.val (.ref pr0), .val (.double pf1), .second, .val (.ref pr2), .val (.ref pr3)] [(.int (2 : Int32))] _
    refine XS.iconst X1.here hx rfl (hb hby d4_7) ?_
    show Stp p e below T1 m 8 #[.val (.ref pr0), .val (.double pf1), .second, .val (.ref pr2), .val (.ref pr3)] [(.int (1 : Int32)), (.int (2 : Int32))] _
    refine XS.aloadN X1.here hx rfl (hb hby d4_8) rfl rfl ?_
    show Stp p e below T1 m 9 #[.val (.ref pr0), .val (.double pf1), .second, .val (.ref pr2), .val (.ref pr3)] [(.ref pr2), (.int (1 : Int32)), (.int (2 : Int32))] _
    refine X1.arraylength hx (by rw [e1]; exact Arc3.1) (State.isArrayOf_alike hZ.alike Arc3.2.1) (g := (mkF m 9 #[.val (.ref pr0), .val (.double pf1), .second, .val (.ref pr2), .val (.ref pr3)] [(.ref pr2), (.int (1 : Int32)), (.int (2 : Int32))])) rfl rfl (hb hby d4_9) _ ?_
    rw [len_of Sc3 Nc3]
    show Stp p e below T1 m 10 #[.val (.ref pr0), .val (.double pf1), .second, .val (.ref pr2), .val (.ref pr3)] [(.int (1 : Int32)), (.int (1 : Int32)), (.int (2 : Int32))] _
    refine XS.ishl X1.here hx rfl (hb hby d4_10) rfl ?_
    show Stp p e below T1 m 11 #[.val (.ref pr0), .val (.double pf1), .second, .val (.ref pr2), .val (.ref pr3)] [(.int (2 : Int32)), (.int (2 : Int32))] _
    refine XS.icmpYes X1.here hx rfl (pc0 := 11) (pc' := 32) rfl (hb hby d4_11) rfl (teq (rfl : (2 : Int32) = (2 : Int32))).1 (by decide) (by decide) ?_
    show Stp p e below T1 m 32 #[.val (.ref pr0), .val (.double pf1), .second, .val (.ref pr2), .val (.ref pr3)] [] _
    refine XS.aloadN X1.here hx rfl (hb hby d4_32) rfl rfl ?_
    show Stp p e below T1 m 33 #[.val (.ref pr0), .val (.double pf1), .second, .val (.ref pr2), .val (.ref pr3)] [(.ref pr0)] _
    refine XS.dloadN X1.here hx rfl (hb hby d4_33) rfl ?_
    show Stp p e below T1 m 34 #[.val (.ref pr0), .val (.double pf1), .second, .val (.ref pr2), .val (.ref pr3)] [(.double pf1), (.ref pr0)] _
    refine st4 _ ?_
    show Stp p e below T4 m 37 #[.val (.ref pr0), .val (.double pf1), .second, .val (.ref pr2), .val (.ref pr3)] [] _
    refine XS.aloadN X4.here hx rfl (hb hby d4_37) rfl rfl ?_
    show Stp p e below T4 m 38 #[.val (.ref pr0), .val (.double pf1), .second, .val (.ref pr2), .val (.ref pr3)] [(.ref pr0)] _
    refine XS.aloadN X4.here hx rfl (hb hby d4_38) rfl rfl ?_
    show Stp p e below T4 m 39 #[.val (.ref pr0), .val (.double pf1), .second, .val (.ref pr2), .val (.ref pr3)] [(.ref pr2), (.ref pr0)] _
    refine st7 _ ?_
    show Stp p e below T7 m 42 #[.val (.ref pr0), .val (.double pf1), .second, .val (.ref pr2), .val (.ref pr3)] [] _
    refine XS.aloadN X7.here hx rfl (hb hby d4_42) rfl rfl ?_
    show Stp p e below T7 m 43 #[.val (.ref pr0), .val (.double pf1), .second, .val (.ref pr2), .val (.ref pr3)] [(.ref pr0)] _
    refine XS.aload X7.here hx rfl (hb hby d4_43) rfl rfl ?_
    show Stp p e below T7 m 45 #[.val (.ref pr0), .val (.double pf1), .second, .val (.ref pr2), .val (.ref pr3)] [(.ref pr3), (.ref pr0)] _
    refine st11 _ ?_
    show Stp p e below T11 m 48 #[.val (.ref pr0), .val (.double pf1), .second, .val (.ref pr2), .val (.ref pr3)] [] _
    exact X11.returnOut hx Bd.returns (hb hby d4_48) hr
  · show Q4_1 Z pr0 pf1 pr2 pr3 kk_pr2 c0_pr2 kk_pr3 c0_pr3 c1_pr3 u_value_pr0 u_atoms_pr0 u_truth_pr0 h0 n0 _ T11.heap _
    rw [e11]
    exact ⟨rfl, N11, k14, f15, f17, f18, Fw11⟩
def Q4_2 (Z : State) (pr0 : Addr) (pf1 : UInt64) (pr2 : Addr) (pr3 : Addr) (kk_pr2 : ClassId) (c0_pr2 : Int32) (c1_pr2 : Int32) (kk_pr3 : ClassId) (c0_pr3 : Int32) (c1_pr3 : Int32) (c2_pr3 : Int32) (c3_pr3 : Int32) (u_value_pr0 : Value) (u_atoms_pr0 : Value) (u_truth_pr0 : Value) (h0 : Heap) (n0 : Nat) (v : Option Value) (h : Heap) (L : List Loc) : Prop := v = none ∧ Fr n0 L ∧ Keep h0 h [pr0] ∧ Exa Z h pr0 "com/example/gudl/gudl/GroundFactor" ∧ Fld Z h pr0 "com/example/gudl/gudl/GroundFactor" "value" "D" (.double pf1) ∧ Fld Z h pr0 "com/example/gudl/gudl/GroundFactor" "atoms" "[I" (.ref pr2) ∧ Fld Z h pr0 "com/example/gudl/gudl/GroundFactor" "truth" "[Z" (.ref pr3)
set_option maxRecDepth 65536 in
set_option maxHeartbeats 40000000 in
theorem rm4_2 (l : Launch) (Z : State) (a0 : Array Value) (hw : ∀ d ∈ tables_1, d.before a0 Z = true) (ws : List Jvm.Cond) (pr0 : Addr) (pf1 : UInt64) (pr2 : Addr) (pr3 : Addr) (kk_pr2 : ClassId) (c0_pr2 : Int32) (c1_pr2 : Int32) (kk_pr3 : ClassId) (c0_pr3 : Int32) (c1_pr3 : Int32) (c2_pr3 : Int32) (c3_pr3 : Int32) (u_value_pr0 : Value) (u_atoms_pr0 : Value) (u_truth_pr0 : Value) (h0 : Heap) (n0 : Nat) (Z0 : n0 ≤ h0.size) (O0 : Old Z n0 h0) (V_pr2 : Arv Z h0 pr2 kk_pr2 .int (2 : Int32) [(.int c0_pr2), (.int c1_pr2)] (.int (0 : Int32))) (V_pr3 : Arv Z h0 pr3 kk_pr3 .boolean (4 : Int32) [(.int c0_pr3), (.int c1_pr3), (.int c2_pr3), (.int c3_pr3)] (.int (0 : Int32))) (E_pr0 : Exa Z h0 pr0 "com/example/gudl/gudl/GroundFactor") (F_value_pr0 : Fld Z h0 pr0 "com/example/gudl/gudl/GroundFactor" "value" "D" u_value_pr0) (g_pr0 : n0 ≤ pr0) (F_atoms_pr0 : Fld Z h0 pr0 "com/example/gudl/gudl/GroundFactor" "atoms" "[I" u_atoms_pr0) (F_truth_pr0 : Fld Z h0 pr0 "com/example/gudl/gudl/GroundFactor" "truth" "[Z" u_truth_pr0) :
    MetFree l (⟨"com/example/gudl/gudl/GroundFactor", "<init>", "(D[I[Z)V"⟩ : MethodName) (head1 (Jvm.Cond.code (⟨"com/example/gudl/gudl/GroundFactor", "<init>", "(D[I[Z)V"⟩ : MethodName) prog_42_method_1_code 5 none :: ws) ({ frames := 1, cells := 0, slots := 0, locals := 12 } : Room)) (fun a U => a = #[(.ref pr0), (.double pf1), (.ref pr2), (.ref pr3)] ∧ Z.Warmed39 U.vm ∧ U.heap = h0) (fun _ _ _ _ _ => True) (fun _ U o U' => ∃ v L, o = .returned v ∧ Q4_2 Z pr0 pf1 pr2 pr3 kk_pr2 c0_pr2 c1_pr2 kk_pr3 c0_pr3 c1_pr3 c2_pr3 c3_pr3 u_value_pr0 u_atoms_pr0 u_truth_pr0 h0 n0 v U'.heap L ∧ FrameEnd U o U' L ({ frames := 1, cells := 0, slots := 0, locals := 12 } : Room).cells ({ frames := 1, cells := 0, slots := 0, locals := 12 } : Room).slots) := by
  refine MetFree.of_bodySF (plainFor_of_name pn_4) hisR ?_
  intro p e s m args below meth c s₁ Bd hml0 hP hK
  obtain ⟨rfl, hZ, hh⟩ := hP
  have hx := Bd.exec
  have hby := Bd.bytes
  have hml : c.maxLocals = 5 := hml0
  have hown : s.vm.findClass "com/example/gudl/gudl/GroundFactor" = some m.cls := findClass_of_methodNamed Bd.named
  have hnm := (name_of_methodNamed Bd.named Bd.method).1
  have X0 : Stand p l e ({ frames := 1, cells := 0, slots := 0, locals := 12 } : Room) s m #[(.ref pr0), (.double pf1), (.ref pr2), (.ref pr3)] below meth c s₁ [] 0 0 := Stand.of_body Bd
  have e0 : s₁.heap = h0 := by rw [← hh, Bd.state]; rfl
  have N0 := Fr.nil n0
  have pre0 : ∀ t, Steps p.tables e below (s₁.setTop (mkF m 0 #[.val (.ref pr0), .val (.double pf1), .second, .val (.ref pr2), .val (.ref pr3)] [])) t → Steps p.tables e below (s₁.setTop (entryFrame m #[(.ref pr0), (.double pf1), (.ref pr2), (.ref pr3)] 5)) t := fun t k => castTop (ef_4 m pr0 pf1 pr2 pr3) k
  obtain ⟨T1, X1, e1, st1⟩ := initO X0 hx hZ hown (own_W hw 18 rfl) (own_W hw 19 rfl) (own_W hw 20 rfl) e0 (g := (mkF m 1 #[.val (.ref pr0), .val (.double pf1), .second, .val (.ref pr2), .val (.ref pr3)] [(.ref pr0)])) rfl (by rw [hml]; rfl) rfl (hb hby d4_1) (by decide) (W := 0) (by show 2 * 0 + _ ≤ _; exact Nat.le_of_eq rfl) (by decide)
  have V_c2 := V_pr3
  obtain ⟨c2, Arc2, qc2, Sc2, Nc2, Hc2, Gc2⟩ := V_c2
  have V_c3 := V_pr2
  obtain ⟨c3, Arc3, qc3, Sc3, Nc3, Hc3, Gc3⟩ := V_c3
  obtain ⟨T4, h4, X4, e4, W4, st4⟩ := putF X1 hx hZ hown (host := "") (Or.inl (own_W hw 21 rfl)) Via.refl e1 F_value_pr0 E_pr0 (Or.inr ⟨(own_W hw 22 rfl), rfl, hnm⟩) (own_W hw 13 rfl) (ty := .double) (by decide) rfl rfl (g := (mkF m 34 #[.val (.ref pr0), .val (.double pf1), .second, .val (.ref pr2), .val (.ref pr3)] [(.double pf1), (.ref pr0)])) rfl rfl (hb hby d4_34)
  have Fw4 := F_value_pr0.same W4
  have N4 := Fr.snoc X4 N0 g_pr0
  have f5 := F_atoms_pr0.other W4 (Or.inr (slot_ne (Or.inr (own_W hw 24 rfl)) (Or.inr (own_W hw 22 rfl)) (by decide) (t := (.array .int)) (t' := .double) (by decide) (by decide)))
  have f6 := E_pr0.wr W4
  obtain ⟨T7, h7, X7, e7, W7, st7⟩ := putF X4 hx hZ hown (host := "") (Or.inl (own_W hw 23 rfl)) Via.refl e4 f5 f6 (Or.inr ⟨(own_W hw 24 rfl), rfl, hnm⟩) (own_W hw 13 rfl) (ty := (.array .int)) (by decide) rfl rfl (g := (mkF m 39 #[.val (.ref pr0), .val (.double pf1), .second, .val (.ref pr2), .val (.ref pr3)] [(.ref pr2), (.ref pr0)])) rfl rfl (hb hby d4_39)
  have Fw7 := f5.same W7
  have N7 := Fr.snoc X7 N4 g_pr0
  have f8 := F_truth_pr0.other W4 (Or.inr (slot_ne (Or.inr (own_W hw 26 rfl)) (Or.inr (own_W hw 22 rfl)) (by decide) (t := (.array .boolean)) (t' := .double) (by decide) (by decide)))
  have f9 := f8.other W7 (Or.inr (slot_ne (Or.inr (own_W hw 26 rfl)) (Or.inr (own_W hw 24 rfl)) (by decide) (t := (.array .boolean)) (t' := (.array .int)) (by decide) (by decide)))
  have f10 := f6.wr W7
  obtain ⟨T11, h11, X11, e11, W11, st11⟩ := putF X7 hx hZ hown (host := "") (Or.inl (own_W hw 25 rfl)) Via.refl e7 f9 f10 (Or.inr ⟨(own_W hw 26 rfl), rfl, hnm⟩) (own_W hw 13 rfl) (ty := (.array .boolean)) (by decide) rfl rfl (g := (mkF m 45 #[.val (.ref pr0), .val (.double pf1), .second, .val (.ref pr2), .val (.ref pr3)] [(.ref pr3), (.ref pr0)])) rfl rfl (hb hby d4_45)
  have Fw11 := f9.same W11
  have N11 := Fr.snoc X11 N7 g_pr0
  have k12 : Keep h0 h4 [pr0] := (Keep.refl h0 [pr0]).wr W4 (Or.inl (List.mem_of_getElem? (i := 0) rfl))
  have k13 : Keep h0 h7 [pr0] := k12.wr W7 (Or.inl (List.mem_of_getElem? (i := 0) rfl))
  have k14 : Keep h0 h11 [pr0] := k13.wr W11 (Or.inl (List.mem_of_getElem? (i := 0) rfl))
  have f15 := f10.wr W11
  have f16 := Fw4.other W7 (Or.inr (slot_ne (Or.inr (own_W hw 22 rfl)) (Or.inr (own_W hw 24 rfl)) (by decide) (t := .double) (t' := (.array .int)) (by decide) (by decide)))
  have f17 := f16.other W11 (Or.inr (slot_ne (Or.inr (own_W hw 22 rfl)) (Or.inr (own_W hw 26 rfl)) (by decide) (t := .double) (t' := (.array .boolean)) (by decide) (by decide)))
  have f18 := Fw7.other W11 (Or.inr (slot_ne (Or.inr (own_W hw 24 rfl)) (Or.inr (own_W hw 26 rfl)) (by decide) (t := (.array .int)) (t' := (.array .boolean)) (by decide) (by decide)))
  obtain ⟨fs, hr, hrun, hended, hW, hsame⟩ := X11.leave (v := none) (fun _ => rfl)
  refine ⟨_, _, pre0 _ ?_, hrun, hended, _, _, rfl, ?_, ⟨_, rfl⟩, hW, hsame.mono (by decide) (by decide)⟩
  · show Stp p e below s₁ m 0 #[.val (.ref pr0), .val (.double pf1), .second, .val (.ref pr2), .val (.ref pr3)] [] _
    refine XS.aloadN X0.here hx rfl (hb hby d4_0) rfl rfl ?_
    show Stp p e below s₁ m 1 #[.val (.ref pr0), .val (.double pf1), .second, .val (.ref pr2), .val (.ref pr3)] [(.ref pr0)] _
    refine st1 _ ?_
    show Stp p e below T1 m 4 #[.val (.ref pr0), .val (.double pf1), .second, .val (.ref pr2), .val (.ref pr3)] [] _
    refine XS.aload X1.here hx rfl (hb hby d4_4) rfl rfl ?_
    show Stp p e below T1 m 6 #[.val (.ref pr0), .val (.double pf1), .second, .val (.ref pr2), .val (.ref pr3)] [(.ref pr3)] _
    refine X1.arraylength hx (by rw [e1]; exact Arc2.1) (State.isArrayOf_alike hZ.alike Arc2.2.1) (g := (mkF m 6 #[.val (.ref pr0), .val (.double pf1), .second, .val (.ref pr2), .val (.ref pr3)] [(.ref pr3)])) rfl rfl (hb hby d4_6) _ ?_
    rw [len_of Sc2 Nc2]
    show Stp p e below T1 m 7 #[.val (.ref pr0), .val (.double pf1), .second, .val (.ref pr2), .val (.ref pr3)] [(.int (4 : Int32))] _
    refine XS.iconst X1.here hx rfl (hb hby d4_7) ?_
    show Stp p e below T1 m 8 #[.val (.ref pr0), .val (.double pf1), .second, .val (.ref pr2), .val (.ref pr3)] [(.int (1 : Int32)), (.int (4 : Int32))] _
    refine XS.aloadN X1.here hx rfl (hb hby d4_8) rfl rfl ?_
    show Stp p e below T1 m 9 #[.val (.ref pr0), .val (.double pf1), .second, .val (.ref pr2), .val (.ref pr3)] [(.ref pr2), (.int (1 : Int32)), (.int (4 : Int32))] _
    refine X1.arraylength hx (by rw [e1]; exact Arc3.1) (State.isArrayOf_alike hZ.alike Arc3.2.1) (g := (mkF m 9 #[.val (.ref pr0), .val (.double pf1), .second, .val (.ref pr2), .val (.ref pr3)] [(.ref pr2), (.int (1 : Int32)), (.int (4 : Int32))])) rfl rfl (hb hby d4_9) _ ?_
    rw [len_of Sc3 Nc3]
    show Stp p e below T1 m 10 #[.val (.ref pr0), .val (.double pf1), .second, .val (.ref pr2), .val (.ref pr3)] [(.int (2 : Int32)), (.int (1 : Int32)), (.int (4 : Int32))] _
    refine XS.ishl X1.here hx rfl (hb hby d4_10) rfl ?_
    show Stp p e below T1 m 11 #[.val (.ref pr0), .val (.double pf1), .second, .val (.ref pr2), .val (.ref pr3)] [(.int (4 : Int32)), (.int (4 : Int32))] _
    refine XS.icmpYes X1.here hx rfl (pc0 := 11) (pc' := 32) rfl (hb hby d4_11) rfl (teq (rfl : (4 : Int32) = (4 : Int32))).1 (by decide) (by decide) ?_
    show Stp p e below T1 m 32 #[.val (.ref pr0), .val (.double pf1), .second, .val (.ref pr2), .val (.ref pr3)] [] _
    refine XS.aloadN X1.here hx rfl (hb hby d4_32) rfl rfl ?_
    show Stp p e below T1 m 33 #[.val (.ref pr0), .val (.double pf1), .second, .val (.ref pr2), .val (.ref pr3)] [(.ref pr0)] _
    refine XS.dloadN X1.here hx rfl (hb hby d4_33) rfl ?_
    show Stp p e below T1 m 34 #[.val (.ref pr0), .val (.double pf1), .second, .val (.ref pr2), .val (.ref pr3)] [(.double pf1), (.ref pr0)] _
    refine st4 _ ?_
    show Stp p e below T4 m 37 #[.val (.ref pr0), .val (.double pf1), .second, .val (.ref pr2), .val (.ref pr3)] [] _
    refine XS.aloadN X4.here hx rfl (hb hby d4_37) rfl rfl ?_
    show Stp p e below T4 m 38 #[.val (.ref pr0), .val (.double pf1), .second, .val (.ref pr2), .val (.ref pr3)] [(.ref pr0)] _
    refine XS.aloadN X4.here hx rfl (hb hby d4_38) rfl rfl ?_
    show Stp p e below T4 m 39 #[.val (.ref pr0), .val (.double pf1), .second, .val (.ref pr2), .val (.ref pr3)] [(.ref pr2), (.ref pr0)] _
    refine st7 _ ?_
    show Stp p e below T7 m 42 #[.val (.ref pr0), .val (.double pf1), .second, .val (.ref pr2), .val (.ref pr3)] [] _
    refine XS.aloadN X7.here hx rfl (hb hby d4_42) rfl rfl ?_
    show Stp p e below T7 m 43 #[.val (.ref pr0), .val (.double pf1), .second, .val (.ref pr2), .val (.ref pr3)] [(.ref pr0)] _
    refine XS.aload X7.here hx rfl (hb hby d4_43) rfl rfl ?_
    show Stp p e below T7 m 45 #[.val (.ref pr0), .val (.double pf1), .second, .val (.ref pr2), .val (.ref pr3)] [(.ref pr3), (.ref pr0)] _
    refine st11 _ ?_
    show Stp p e below T11 m 48 #[.val (.ref pr0), .val (.double pf1), .second, .val (.ref pr2), .val (.ref pr3)] [] _
    exact X11.returnOut hx Bd.returns (hb hby d4_48) hr
  · show Q4_2 Z pr0 pf1 pr2 pr3 kk_pr2 c0_pr2 c1_pr2 kk_pr3 c0_pr3 c1_pr3 c2_pr3 c3_pr3 u_value_pr0 u_atoms_pr0 u_truth_pr0 h0 n0 _ T11.heap _
    rw [e11]
    exact ⟨rfl, N11, k14, f15, f17, f18, Fw11⟩
def Q4_3 (Z : State) (pr0 : Addr) (pf1 : UInt64) (pr2 : Addr) (pr3 : Addr) (kk_pr2 : ClassId) (c0_pr2 : Int32) (c1_pr2 : Int32) (c2_pr2 : Int32) (kk_pr3 : ClassId) (c0_pr3 : Int32) (c1_pr3 : Int32) (c2_pr3 : Int32) (c3_pr3 : Int32) (c4_pr3 : Int32) (c5_pr3 : Int32) (c6_pr3 : Int32) (c7_pr3 : Int32) (u_value_pr0 : Value) (u_atoms_pr0 : Value) (u_truth_pr0 : Value) (h0 : Heap) (n0 : Nat) (v : Option Value) (h : Heap) (L : List Loc) : Prop := v = none ∧ Fr n0 L ∧ Keep h0 h [pr0] ∧ Exa Z h pr0 "com/example/gudl/gudl/GroundFactor" ∧ Fld Z h pr0 "com/example/gudl/gudl/GroundFactor" "value" "D" (.double pf1) ∧ Fld Z h pr0 "com/example/gudl/gudl/GroundFactor" "atoms" "[I" (.ref pr2) ∧ Fld Z h pr0 "com/example/gudl/gudl/GroundFactor" "truth" "[Z" (.ref pr3)
set_option maxRecDepth 65536 in
set_option maxHeartbeats 40000000 in
theorem rm4_3 (l : Launch) (Z : State) (a0 : Array Value) (hw : ∀ d ∈ tables_1, d.before a0 Z = true) (ws : List Jvm.Cond) (pr0 : Addr) (pf1 : UInt64) (pr2 : Addr) (pr3 : Addr) (kk_pr2 : ClassId) (c0_pr2 : Int32) (c1_pr2 : Int32) (c2_pr2 : Int32) (kk_pr3 : ClassId) (c0_pr3 : Int32) (c1_pr3 : Int32) (c2_pr3 : Int32) (c3_pr3 : Int32) (c4_pr3 : Int32) (c5_pr3 : Int32) (c6_pr3 : Int32) (c7_pr3 : Int32) (u_value_pr0 : Value) (u_atoms_pr0 : Value) (u_truth_pr0 : Value) (h0 : Heap) (n0 : Nat) (Z0 : n0 ≤ h0.size) (O0 : Old Z n0 h0) (V_pr2 : Arv Z h0 pr2 kk_pr2 .int (3 : Int32) [(.int c0_pr2), (.int c1_pr2), (.int c2_pr2)] (.int (0 : Int32))) (V_pr3 : Arv Z h0 pr3 kk_pr3 .boolean (8 : Int32) [(.int c0_pr3), (.int c1_pr3), (.int c2_pr3), (.int c3_pr3), (.int c4_pr3), (.int c5_pr3), (.int c6_pr3), (.int c7_pr3)] (.int (0 : Int32))) (E_pr0 : Exa Z h0 pr0 "com/example/gudl/gudl/GroundFactor") (F_value_pr0 : Fld Z h0 pr0 "com/example/gudl/gudl/GroundFactor" "value" "D" u_value_pr0) (g_pr0 : n0 ≤ pr0) (F_atoms_pr0 : Fld Z h0 pr0 "com/example/gudl/gudl/GroundFactor" "atoms" "[I" u_atoms_pr0) (F_truth_pr0 : Fld Z h0 pr0 "com/example/gudl/gudl/GroundFactor" "truth" "[Z" u_truth_pr0) :
    MetFree l (⟨"com/example/gudl/gudl/GroundFactor", "<init>", "(D[I[Z)V"⟩ : MethodName) (head1 (Jvm.Cond.code (⟨"com/example/gudl/gudl/GroundFactor", "<init>", "(D[I[Z)V"⟩ : MethodName) prog_42_method_1_code 5 none :: ws) ({ frames := 1, cells := 0, slots := 0, locals := 12 } : Room)) (fun a U => a = #[(.ref pr0), (.double pf1), (.ref pr2), (.ref pr3)] ∧ Z.Warmed39 U.vm ∧ U.heap = h0) (fun _ _ _ _ _ => True) (fun _ U o U' => ∃ v L, o = .returned v ∧ Q4_3 Z pr0 pf1 pr2 pr3 kk_pr2 c0_pr2 c1_pr2 c2_pr2 kk_pr3 c0_pr3 c1_pr3 c2_pr3 c3_pr3 c4_pr3 c5_pr3 c6_pr3 c7_pr3 u_value_pr0 u_atoms_pr0 u_truth_pr0 h0 n0 v U'.heap L ∧ FrameEnd U o U' L ({ frames := 1, cells := 0, slots := 0, locals := 12 } : Room).cells ({ frames := 1, cells := 0, slots := 0, locals := 12 } : Room).slots) := by
  refine MetFree.of_bodySF (plainFor_of_name pn_4) hisR ?_
  intro p e s m args below meth c s₁ Bd hml0 hP hK
  obtain ⟨rfl, hZ, hh⟩ := hP
  have hx := Bd.exec
  have hby := Bd.bytes
  have hml : c.maxLocals = 5 := hml0
  have hown : s.vm.findClass "com/example/gudl/gudl/GroundFactor" = some m.cls := findClass_of_methodNamed Bd.named
  have hnm := (name_of_methodNamed Bd.named Bd.method).1
  have X0 : Stand p l e ({ frames := 1, cells := 0, slots := 0, locals := 12 } : Room) s m #[(.ref pr0), (.double pf1), (.ref pr2), (.ref pr3)] below meth c s₁ [] 0 0 := Stand.of_body Bd
  have e0 : s₁.heap = h0 := by rw [← hh, Bd.state]; rfl
  have N0 := Fr.nil n0
  have pre0 : ∀ t, Steps p.tables e below (s₁.setTop (mkF m 0 #[.val (.ref pr0), .val (.double pf1), .second, .val (.ref pr2), .val (.ref pr3)] [])) t → Steps p.tables e below (s₁.setTop (entryFrame m #[(.ref pr0), (.double pf1), (.ref pr2), (.ref pr3)] 5)) t := fun t k => castTop (ef_4 m pr0 pf1 pr2 pr3) k
  obtain ⟨T1, X1, e1, st1⟩ := initO X0 hx hZ hown (own_W hw 18 rfl) (own_W hw 19 rfl) (own_W hw 20 rfl) e0 (g := (mkF m 1 #[.val (.ref pr0), .val (.double pf1), .second, .val (.ref pr2), .val (.ref pr3)] [(.ref pr0)])) rfl (by rw [hml]; rfl) rfl (hb hby d4_1) (by decide) (W := 0) (by show 2 * 0 + _ ≤ _; exact Nat.le_of_eq rfl) (by decide)
  have V_c2 := V_pr3
  obtain ⟨c2, Arc2, qc2, Sc2, Nc2, Hc2, Gc2⟩ := V_c2
  have V_c3 := V_pr2
  obtain ⟨c3, Arc3, qc3, Sc3, Nc3, Hc3, Gc3⟩ := V_c3
  obtain ⟨T4, h4, X4, e4, W4, st4⟩ := putF X1 hx hZ hown (host := "") (Or.inl (own_W hw 21 rfl)) Via.refl e1 F_value_pr0 E_pr0 (Or.inr ⟨(own_W hw 22 rfl), rfl, hnm⟩) (own_W hw 13 rfl) (ty := .double) (by decide) rfl rfl (g := (mkF m 34 #[.val (.ref pr0), .val (.double pf1), .second, .val (.ref pr2), .val (.ref pr3)] [(.double pf1), (.ref pr0)])) rfl rfl (hb hby d4_34)
  have Fw4 := F_value_pr0.same W4
  have N4 := Fr.snoc X4 N0 g_pr0
  have f5 := F_atoms_pr0.other W4 (Or.inr (slot_ne (Or.inr (own_W hw 24 rfl)) (Or.inr (own_W hw 22 rfl)) (by decide) (t := (.array .int)) (t' := .double) (by decide) (by decide)))
  have f6 := E_pr0.wr W4
  obtain ⟨T7, h7, X7, e7, W7, st7⟩ := putF X4 hx hZ hown (host := "") (Or.inl (own_W hw 23 rfl)) Via.refl e4 f5 f6 (Or.inr ⟨(own_W hw 24 rfl), rfl, hnm⟩) (own_W hw 13 rfl) (ty := (.array .int)) (by decide) rfl rfl (g := (mkF m 39 #[.val (.ref pr0), .val (.double pf1), .second, .val (.ref pr2), .val (.ref pr3)] [(.ref pr2), (.ref pr0)])) rfl rfl (hb hby d4_39)
  have Fw7 := f5.same W7
  have N7 := Fr.snoc X7 N4 g_pr0
  have f8 := F_truth_pr0.other W4 (Or.inr (slot_ne (Or.inr (own_W hw 26 rfl)) (Or.inr (own_W hw 22 rfl)) (by decide) (t := (.array .boolean)) (t' := .double) (by decide) (by decide)))
  have f9 := f8.other W7 (Or.inr (slot_ne (Or.inr (own_W hw 26 rfl)) (Or.inr (own_W hw 24 rfl)) (by decide) (t := (.array .boolean)) (t' := (.array .int)) (by decide) (by decide)))
  have f10 := f6.wr W7
  obtain ⟨T11, h11, X11, e11, W11, st11⟩ := putF X7 hx hZ hown (host := "") (Or.inl (own_W hw 25 rfl)) Via.refl e7 f9 f10 (Or.inr ⟨(own_W hw 26 rfl), rfl, hnm⟩) (own_W hw 13 rfl) (ty := (.array .boolean)) (by decide) rfl rfl (g := (mkF m 45 #[.val (.ref pr0), .val (.double pf1), .second, .val (.ref pr2), .val (.ref pr3)] [(.ref pr3), (.ref pr0)])) rfl rfl (hb hby d4_45)
  have Fw11 := f9.same W11
  have N11 := Fr.snoc X11 N7 g_pr0
  have k12 : Keep h0 h4 [pr0] := (Keep.refl h0 [pr0]).wr W4 (Or.inl (List.mem_of_getElem? (i := 0) rfl))
  have k13 : Keep h0 h7 [pr0] := k12.wr W7 (Or.inl (List.mem_of_getElem? (i := 0) rfl))
  have k14 : Keep h0 h11 [pr0] := k13.wr W11 (Or.inl (List.mem_of_getElem? (i := 0) rfl))
  have f15 := f10.wr W11
  have f16 := Fw4.other W7 (Or.inr (slot_ne (Or.inr (own_W hw 22 rfl)) (Or.inr (own_W hw 24 rfl)) (by decide) (t := .double) (t' := (.array .int)) (by decide) (by decide)))
  have f17 := f16.other W11 (Or.inr (slot_ne (Or.inr (own_W hw 22 rfl)) (Or.inr (own_W hw 26 rfl)) (by decide) (t := .double) (t' := (.array .boolean)) (by decide) (by decide)))
  have f18 := Fw7.other W11 (Or.inr (slot_ne (Or.inr (own_W hw 24 rfl)) (Or.inr (own_W hw 26 rfl)) (by decide) (t := (.array .int)) (t' := (.array .boolean)) (by decide) (by decide)))
  obtain ⟨fs, hr, hrun, hended, hW, hsame⟩ := X11.leave (v := none) (fun _ => rfl)
  refine ⟨_, _, pre0 _ ?_, hrun, hended, _, _, rfl, ?_, ⟨_, rfl⟩, hW, hsame.mono (by decide) (by decide)⟩
  · show Stp p e below s₁ m 0 #[.val (.ref pr0), .val (.double pf1), .second, .val (.ref pr2), .val (.ref pr3)] [] _
    refine XS.aloadN X0.here hx rfl (hb hby d4_0) rfl rfl ?_
    show Stp p e below s₁ m 1 #[.val (.ref pr0), .val (.double pf1), .second, .val (.ref pr2), .val (.ref pr3)] [(.ref pr0)] _
    refine st1 _ ?_
    show Stp p e below T1 m 4 #[.val (.ref pr0), .val (.double pf1), .second, .val (.ref pr2), .val (.ref pr3)] [] _
    refine XS.aload X1.here hx rfl (hb hby d4_4) rfl rfl ?_
    show Stp p e below T1 m 6 #[.val (.ref pr0), .val (.double pf1), .second, .val (.ref pr2), .val (.ref pr3)] [(.ref pr3)] _
    refine X1.arraylength hx (by rw [e1]; exact Arc2.1) (State.isArrayOf_alike hZ.alike Arc2.2.1) (g := (mkF m 6 #[.val (.ref pr0), .val (.double pf1), .second, .val (.ref pr2), .val (.ref pr3)] [(.ref pr3)])) rfl rfl (hb hby d4_6) _ ?_
    rw [len_of Sc2 Nc2]
    show Stp p e below T1 m 7 #[.val (.ref pr0), .val (.double pf1), .second, .val (.ref pr2), .val (.ref pr3)] [(.int (8 : Int32))] _
    refine XS.iconst X1.here hx rfl (hb hby d4_7) ?_
    show Stp p e below T1 m 8 #[.val (.ref pr0), .val (.double pf1), .second, .val (.ref pr2), .val (.ref pr3)] [(.int (1 : Int32)), (.int (8 : Int32))] _
    refine XS.aloadN X1.here hx rfl (hb hby d4_8) rfl rfl ?_
    show Stp p e below T1 m 9 #[.val (.ref pr0), .val (.double pf1), .second, .val (.ref pr2), .val (.ref pr3)] [(.ref pr2), (.int (1 : Int32)), (.int (8 : Int32))] _
    refine X1.arraylength hx (by rw [e1]; exact Arc3.1) (State.isArrayOf_alike hZ.alike Arc3.2.1) (g := (mkF m 9 #[.val (.ref pr0), .val (.double pf1), .second, .val (.ref pr2), .val (.ref pr3)] [(.ref pr2), (.int (1 : Int32)), (.int (8 : Int32))])) rfl rfl (hb hby d4_9) _ ?_
    rw [len_of Sc3 Nc3]
    show Stp p e below T1 m 10 #[.val (.ref pr0), .val (.double pf1), .second, .val (.ref pr2), .val (.ref pr3)] [(.int (3 : Int32)), (.int (1 : Int32)), (.int (8 : Int32))] _
    refine XS.ishl X1.here hx rfl (hb hby d4_10) rfl ?_
    show Stp p e below T1 m 11 #[.val (.ref pr0), .val (.double pf1), .second, .val (.ref pr2), .val (.ref pr3)] [(.int (8 : Int32)), (.int (8 : Int32))] _
    refine XS.icmpYes X1.here hx rfl (pc0 := 11) (pc' := 32) rfl (hb hby d4_11) rfl (teq (rfl : (8 : Int32) = (8 : Int32))).1 (by decide) (by decide) ?_
    show Stp p e below T1 m 32 #[.val (.ref pr0), .val (.double pf1), .second, .val (.ref pr2), .val (.ref pr3)] [] _
    refine XS.aloadN X1.here hx rfl (hb hby d4_32) rfl rfl ?_
    show Stp p e below T1 m 33 #[.val (.ref pr0), .val (.double pf1), .second, .val (.ref pr2), .val (.ref pr3)] [(.ref pr0)] _
    refine XS.dloadN X1.here hx rfl (hb hby d4_33) rfl ?_
    show Stp p e below T1 m 34 #[.val (.ref pr0), .val (.double pf1), .second, .val (.ref pr2), .val (.ref pr3)] [(.double pf1), (.ref pr0)] _
    refine st4 _ ?_
    show Stp p e below T4 m 37 #[.val (.ref pr0), .val (.double pf1), .second, .val (.ref pr2), .val (.ref pr3)] [] _
    refine XS.aloadN X4.here hx rfl (hb hby d4_37) rfl rfl ?_
    show Stp p e below T4 m 38 #[.val (.ref pr0), .val (.double pf1), .second, .val (.ref pr2), .val (.ref pr3)] [(.ref pr0)] _
    refine XS.aloadN X4.here hx rfl (hb hby d4_38) rfl rfl ?_
    show Stp p e below T4 m 39 #[.val (.ref pr0), .val (.double pf1), .second, .val (.ref pr2), .val (.ref pr3)] [(.ref pr2), (.ref pr0)] _
    refine st7 _ ?_
    show Stp p e below T7 m 42 #[.val (.ref pr0), .val (.double pf1), .second, .val (.ref pr2), .val (.ref pr3)] [] _
    refine XS.aloadN X7.here hx rfl (hb hby d4_42) rfl rfl ?_
    show Stp p e below T7 m 43 #[.val (.ref pr0), .val (.double pf1), .second, .val (.ref pr2), .val (.ref pr3)] [(.ref pr0)] _
    refine XS.aload X7.here hx rfl (hb hby d4_43) rfl rfl ?_
    show Stp p e below T7 m 45 #[.val (.ref pr0), .val (.double pf1), .second, .val (.ref pr2), .val (.ref pr3)] [(.ref pr3), (.ref pr0)] _
    refine st11 _ ?_
    show Stp p e below T11 m 48 #[.val (.ref pr0), .val (.double pf1), .second, .val (.ref pr2), .val (.ref pr3)] [] _
    exact X11.returnOut hx Bd.returns (hb hby d4_48) hr
  · show Q4_3 Z pr0 pf1 pr2 pr3 kk_pr2 c0_pr2 c1_pr2 c2_pr2 kk_pr3 c0_pr3 c1_pr3 c2_pr3 c3_pr3 c4_pr3 c5_pr3 c6_pr3 c7_pr3 u_value_pr0 u_atoms_pr0 u_truth_pr0 h0 n0 _ T11.heap _
    rw [e11]
    exact ⟨rfl, N11, k14, f15, f17, f18, Fw11⟩
theorem d6_0 : decode prog_42_method_8_code 0 = .ok (.aload_n 0, 1) := by decide +kernel
theorem d6_1 : decode prog_42_method_8_code 1 = .ok (.getfield 26, 3) := by decide +kernel
theorem d6_4 : decode prog_42_method_8_code 4 = .ok (.astore_n 1, 1) := by decide +kernel
theorem d6_5 : decode prog_42_method_8_code 5 = .ok (.aload_n 1, 1) := by decide +kernel
theorem d6_6 : decode prog_42_method_8_code 6 = .ok (.arraylength, 1) := by decide +kernel
theorem d6_7 : decode prog_42_method_8_code 7 = .ok (.istore_n 2, 1) := by decide +kernel
theorem d6_8 : decode prog_42_method_8_code 8 = .ok (.iconst 0, 1) := by decide +kernel
theorem d6_9 : decode prog_42_method_8_code 9 = .ok (.istore_n 3, 1) := by decide +kernel
theorem d6_10 : decode prog_42_method_8_code 10 = .ok (.iload_n 3, 1) := by decide +kernel
theorem d6_11 : decode prog_42_method_8_code 11 = .ok (.iload_n 2, 1) := by decide +kernel
theorem d6_12 : decode prog_42_method_8_code 12 = .ok (.if_icmp .ge 27, 3) := by decide +kernel
theorem d6_15 : decode prog_42_method_8_code 15 = .ok (.aload_n 1, 1) := by decide +kernel
theorem d6_16 : decode prog_42_method_8_code 16 = .ok (.iload_n 3, 1) := by decide +kernel
theorem d6_17 : decode prog_42_method_8_code 17 = .ok (.baload, 1) := by decide +kernel
theorem d6_18 : decode prog_42_method_8_code 18 = .ok (.istore 4, 2) := by decide +kernel
theorem d6_20 : decode prog_42_method_8_code 20 = .ok (.iload 4, 2) := by decide +kernel
theorem d6_22 : decode prog_42_method_8_code 22 = .ok (.aload_n 0, 1) := by decide +kernel
theorem d6_23 : decode prog_42_method_8_code 23 = .ok (.getfield 26, 3) := by decide +kernel
theorem d6_26 : decode prog_42_method_8_code 26 = .ok (.iconst 0, 1) := by decide +kernel
theorem d6_27 : decode prog_42_method_8_code 27 = .ok (.baload, 1) := by decide +kernel
theorem d6_28 : decode prog_42_method_8_code 28 = .ok (.if_icmp .eq 5, 3) := by decide +kernel
theorem d6_33 : decode prog_42_method_8_code 33 = .ok (.iinc 3 1, 3) := by decide +kernel
theorem d6_36 : decode prog_42_method_8_code 36 = .ok (.goto (-26), 3) := by decide +kernel
theorem d6_39 : decode prog_42_method_8_code 39 = .ok (.iconst 1, 1) := by decide +kernel
theorem d6_40 : decode prog_42_method_8_code 40 = .ok (.ireturn, 1) := by decide +kernel
theorem pn_6 : plainName "com/example/gudl/gudl/GroundFactor" = true := by first | (simp [plainName, overriddenIn]; done) | decide +kernel
theorem ef_6 (m : MethodId) (pr0 : Addr) : entryFrame m #[(.ref pr0)] 5 = mkF m 0 #[.val (.ref pr0), .unset, .unset, .unset, .unset] [] := by first | (simp [entryFrame, mkF, argsToLocals, Value.category]; done) | rfl
def Q6_k0o (Z : State) (pr0 : Addr) (w_truth_pr0 : Addr) (kk_w_truth_pr0 : ClassId) (c0_w_truth_pr0 : Int32) (h0 : Heap) (n0 : Nat) (v : Option Value) (h : Heap) (L : List Loc) : Prop := v = some (.int (1 : Int32)) ∧ Fr n0 L ∧ h = h0
set_option maxRecDepth 65536 in
set_option maxHeartbeats 40000000 in
theorem rm6_k0o (l : Launch) (Z : State) (a0 : Array Value) (hw : ∀ d ∈ tables_1, d.before a0 Z = true) (ws : List Jvm.Cond) (pr0 : Addr) (w_truth_pr0 : Addr) (kk_w_truth_pr0 : ClassId) (c0_w_truth_pr0 : Int32) (h0 : Heap) (n0 : Nat) (Z0 : n0 ≤ h0.size) (O0 : Old Z n0 h0) (F_truth_pr0 : Fld Z h0 pr0 "com/example/gudl/gudl/GroundFactor" "truth" "[Z" (.ref w_truth_pr0)) (V_w_truth_pr0 : Arv Z h0 w_truth_pr0 kk_w_truth_pr0 .boolean (1 : Int32) [(.int c0_w_truth_pr0)] (.int (0 : Int32))) :
    MetFree l (⟨"com/example/gudl/gudl/GroundFactor", "isConstant", "()Z"⟩ : MethodName) (head1 (Jvm.Cond.code (⟨"com/example/gudl/gudl/GroundFactor", "isConstant", "()Z"⟩ : MethodName) prog_42_method_8_code 5 (some .boolean) :: ws) ({ frames := 0, cells := 0, slots := 0, locals := 0 } : Room)) (fun a U => a = #[(.ref pr0)] ∧ Z.Warmed39 U.vm ∧ U.heap = h0) (fun _ _ _ _ _ => True) (fun _ U o U' => ∃ v L, o = .returned v ∧ Q6_k0o Z pr0 w_truth_pr0 kk_w_truth_pr0 c0_w_truth_pr0 h0 n0 v U'.heap L ∧ FrameEnd U o U' L ({ frames := 0, cells := 0, slots := 0, locals := 0 } : Room).cells ({ frames := 0, cells := 0, slots := 0, locals := 0 } : Room).slots) := by
  refine MetFree.of_bodySF (plainFor_of_name pn_6) hisR ?_
  intro p e s m args below meth c s₁ Bd hml0 hP hK
  obtain ⟨rfl, hZ, hh⟩ := hP
  have hx := Bd.exec
  have hby := Bd.bytes
  have hml : c.maxLocals = 5 := hml0
  have hown : s.vm.findClass "com/example/gudl/gudl/GroundFactor" = some m.cls := findClass_of_methodNamed Bd.named
  have hnm := (name_of_methodNamed Bd.named Bd.method).1
  have X0 : Stand p l e ({ frames := 0, cells := 0, slots := 0, locals := 0 } : Room) s m #[(.ref pr0)] below meth c s₁ [] 0 0 := Stand.of_body Bd
  have e0 : s₁.heap = h0 := by rw [← hh, Bd.state]; rfl
  have N0 := Fr.nil n0
  have pre0 : ∀ t, Steps p.tables e below (s₁.setTop (mkF m 0 #[.val (.ref pr0), .unset, .unset, .unset, .unset] [])) t → Steps p.tables e below (s₁.setTop (entryFrame m #[(.ref pr0)] 5)) t := fun t k => castTop (ef_6 m pr0) k
  obtain ⟨T1, X1, e1, st1⟩ := getF X0 hx hZ hown (host := "") (Or.inl (own_W hw 25 rfl)) Via.refl e0 F_truth_pr0 (g := (mkF m 1 #[.val (.ref pr0), .unset, .unset, .unset, .unset] [(.ref pr0)])) rfl rfl (hb hby d6_1)
  have V_c2 := V_w_truth_pr0
  obtain ⟨c2, Arc2, qc2, Sc2, Nc2, Hc2, Gc2⟩ := V_c2
  have V_c3 := V_w_truth_pr0
  obtain ⟨c3, Arc3, qc3, Sc3, Nc3, Hc3, Gc3⟩ := V_c3
  have hin4 : ¬ ((0 : Int32) < 0 ∨ c3.slots.size ≤ ((0 : Int32)).toNatClampNeg) := inb_of Sc3 ⟨by decide, by decide⟩
  obtain ⟨T5, X5, e5, st5⟩ := getF X1 hx hZ hown (host := "") (Or.inl (own_W hw 25 rfl)) Via.refl e1 F_truth_pr0 (g := (mkF m 23 #[.val (.ref pr0), .val (.ref w_truth_pr0), .val (.int (1 : Int32)), .val (.int (0 : Int32)), .val (.int c0_w_truth_pr0)] [(.ref pr0), (.int c0_w_truth_pr0)])) rfl rfl (hb hby d6_23)
  have V_c6 := V_w_truth_pr0
  obtain ⟨c6, Arc6, qc6, Sc6, Nc6, Hc6, Gc6⟩ := V_c6
  have hin7 : ¬ ((0 : Int32) < 0 ∨ c6.slots.size ≤ ((0 : Int32)).toNatClampNeg) := inb_of Sc6 ⟨by decide, by decide⟩
  obtain ⟨fs, hr, hrun, hended, hW, hsame⟩ := X5.leave (v := some (.int (1 : Int32))) (fun h => by rw [Bd.returns] at h; cases h)
  refine ⟨_, _, pre0 _ ?_, hrun, hended, _, _, rfl, ?_, ⟨_, rfl⟩, hW, hsame.mono (by decide) (by decide)⟩
  · show Stp p e below s₁ m 0 #[.val (.ref pr0), .unset, .unset, .unset, .unset] [] _
    refine XS.aloadN X0.here hx rfl (hb hby d6_0) rfl rfl ?_
    show Stp p e below s₁ m 1 #[.val (.ref pr0), .unset, .unset, .unset, .unset] [(.ref pr0)] _
    refine st1 _ ?_
    show Stp p e below T1 m 4 #[.val (.ref pr0), .unset, .unset, .unset, .unset] [(.ref w_truth_pr0)] _
    refine XS.astoreN X1.here hx rfl (hb hby d6_4) rfl rfl (l' := #[.val (.ref pr0), .val (.ref w_truth_pr0), .unset, .unset, .unset]) rfl ?_
    show Stp p e below T1 m 5 #[.val (.ref pr0), .val (.ref w_truth_pr0), .unset, .unset, .unset] [] _
    refine XS.aloadN X1.here hx rfl (hb hby d6_5) rfl rfl ?_
    show Stp p e below T1 m 6 #[.val (.ref pr0), .val (.ref w_truth_pr0), .unset, .unset, .unset] [(.ref w_truth_pr0)] _
    refine X1.arraylength hx (by rw [e1]; exact Arc2.1) (State.isArrayOf_alike hZ.alike Arc2.2.1) (g := (mkF m 6 #[.val (.ref pr0), .val (.ref w_truth_pr0), .unset, .unset, .unset] [(.ref w_truth_pr0)])) rfl rfl (hb hby d6_6) _ ?_
    rw [len_of Sc2 Nc2]
    show Stp p e below T1 m 7 #[.val (.ref pr0), .val (.ref w_truth_pr0), .unset, .unset, .unset] [(.int (1 : Int32))] _
    refine XS.istoreN X1.here hx rfl (hb hby d6_7) rfl (l' := #[.val (.ref pr0), .val (.ref w_truth_pr0), .val (.int (1 : Int32)), .unset, .unset]) rfl ?_
    show Stp p e below T1 m 8 #[.val (.ref pr0), .val (.ref w_truth_pr0), .val (.int (1 : Int32)), .unset, .unset] [] _
    refine XS.iconst X1.here hx rfl (hb hby d6_8) ?_
    show Stp p e below T1 m 9 #[.val (.ref pr0), .val (.ref w_truth_pr0), .val (.int (1 : Int32)), .unset, .unset] [(.int (0 : Int32))] _
    refine XS.istoreN X1.here hx rfl (hb hby d6_9) rfl (l' := #[.val (.ref pr0), .val (.ref w_truth_pr0), .val (.int (1 : Int32)), .val (.int (0 : Int32)), .unset]) rfl ?_
    show Stp p e below T1 m 10 #[.val (.ref pr0), .val (.ref w_truth_pr0), .val (.int (1 : Int32)), .val (.int (0 : Int32)), .unset] [] _
    refine XS.iloadN X1.here hx rfl (hb hby d6_10) rfl ?_
    show Stp p e below T1 m 11 #[.val (.ref pr0), .val (.ref w_truth_pr0), .val (.int (1 : Int32)), .val (.int (0 : Int32)), .unset] [(.int (0 : Int32))] _
    refine XS.iloadN X1.here hx rfl (hb hby d6_11) rfl ?_
    show Stp p e below T1 m 12 #[.val (.ref pr0), .val (.ref w_truth_pr0), .val (.int (1 : Int32)), .val (.int (0 : Int32)), .unset] [(.int (1 : Int32)), (.int (0 : Int32))] _
    refine XS.icmpNo X1.here hx rfl (hb hby d6_12) rfl (tlt (by decide : (0 : Int32) < (1 : Int32))).2.1 ?_
    show Stp p e below T1 m 15 #[.val (.ref pr0), .val (.ref w_truth_pr0), .val (.int (1 : Int32)), .val (.int (0 : Int32)), .unset] [] _
    refine XS.aloadN X1.here hx rfl (hb hby d6_15) rfl rfl ?_
    show Stp p e below T1 m 16 #[.val (.ref pr0), .val (.ref w_truth_pr0), .val (.int (1 : Int32)), .val (.int (0 : Int32)), .unset] [(.ref w_truth_pr0)] _
    refine XS.iloadN X1.here hx rfl (hb hby d6_16) rfl ?_
    show Stp p e below T1 m 17 #[.val (.ref pr0), .val (.ref w_truth_pr0), .val (.int (1 : Int32)), .val (.int (0 : Int32)), .unset] [(.int (0 : Int32)), (.ref w_truth_pr0)] _
    refine X1.baloadBooleans hx (j := (0 : Int32)) (v := (.int c0_w_truth_pr0)) (by rw [e1]; exact Arc3.1) (State.isArrayOf_alike hZ.alike Arc3.2.1) Arc3.2.2 hin4 (Has.at Hc3 hin4 rfl) (g := (mkF m 17 #[.val (.ref pr0), .val (.ref w_truth_pr0), .val (.int (1 : Int32)), .val (.int (0 : Int32)), .unset] [(.int (0 : Int32)), (.ref w_truth_pr0)])) rfl rfl (hb hby d6_17) _ ?_
    show Stp p e below T1 m 18 #[.val (.ref pr0), .val (.ref w_truth_pr0), .val (.int (1 : Int32)), .val (.int (0 : Int32)), .unset] [(.int c0_w_truth_pr0)] _
    refine XS.istore X1.here hx rfl (hb hby d6_18) rfl (l' := #[.val (.ref pr0), .val (.ref w_truth_pr0), .val (.int (1 : Int32)), .val (.int (0 : Int32)), .val (.int c0_w_truth_pr0)]) rfl ?_
    show Stp p e below T1 m 20 #[.val (.ref pr0), .val (.ref w_truth_pr0), .val (.int (1 : Int32)), .val (.int (0 : Int32)), .val (.int c0_w_truth_pr0)] [] _
    refine XS.iload X1.here hx rfl (hb hby d6_20) rfl ?_
    show Stp p e below T1 m 22 #[.val (.ref pr0), .val (.ref w_truth_pr0), .val (.int (1 : Int32)), .val (.int (0 : Int32)), .val (.int c0_w_truth_pr0)] [(.int c0_w_truth_pr0)] _
    refine XS.aloadN X1.here hx rfl (hb hby d6_22) rfl rfl ?_
    show Stp p e below T1 m 23 #[.val (.ref pr0), .val (.ref w_truth_pr0), .val (.int (1 : Int32)), .val (.int (0 : Int32)), .val (.int c0_w_truth_pr0)] [(.ref pr0), (.int c0_w_truth_pr0)] _
    refine st5 _ ?_
    show Stp p e below T5 m 26 #[.val (.ref pr0), .val (.ref w_truth_pr0), .val (.int (1 : Int32)), .val (.int (0 : Int32)), .val (.int c0_w_truth_pr0)] [(.ref w_truth_pr0), (.int c0_w_truth_pr0)] _
    refine XS.iconst X5.here hx rfl (hb hby d6_26) ?_
    show Stp p e below T5 m 27 #[.val (.ref pr0), .val (.ref w_truth_pr0), .val (.int (1 : Int32)), .val (.int (0 : Int32)), .val (.int c0_w_truth_pr0)] [(.int (0 : Int32)), (.ref w_truth_pr0), (.int c0_w_truth_pr0)] _
    refine X5.baloadBooleans hx (j := (0 : Int32)) (v := (.int c0_w_truth_pr0)) (by rw [e5]; exact Arc6.1) (State.isArrayOf_alike hZ.alike Arc6.2.1) Arc6.2.2 hin7 (Has.at Hc6 hin7 rfl) (g := (mkF m 27 #[.val (.ref pr0), .val (.ref w_truth_pr0), .val (.int (1 : Int32)), .val (.int (0 : Int32)), .val (.int c0_w_truth_pr0)] [(.int (0 : Int32)), (.ref w_truth_pr0), (.int c0_w_truth_pr0)])) rfl rfl (hb hby d6_27) _ ?_
    show Stp p e below T5 m 28 #[.val (.ref pr0), .val (.ref w_truth_pr0), .val (.int (1 : Int32)), .val (.int (0 : Int32)), .val (.int c0_w_truth_pr0)] [(.int c0_w_truth_pr0), (.int c0_w_truth_pr0)] _
    refine XS.icmpYes X5.here hx rfl (pc0 := 28) (pc' := 33) rfl (hb hby d6_28) rfl (teq (rfl : c0_w_truth_pr0 = c0_w_truth_pr0)).1 (by decide) (by decide) ?_
    show Stp p e below T5 m 33 #[.val (.ref pr0), .val (.ref w_truth_pr0), .val (.int (1 : Int32)), .val (.int (0 : Int32)), .val (.int c0_w_truth_pr0)] [] _
    refine XS.iinc X5.here hx rfl (hb hby d6_33) rfl (l' := #[.val (.ref pr0), .val (.ref w_truth_pr0), .val (.int (1 : Int32)), .val (.int (1 : Int32)), .val (.int c0_w_truth_pr0)]) rfl ?_
    show Stp p e below T5 m 36 #[.val (.ref pr0), .val (.ref w_truth_pr0), .val (.int (1 : Int32)), .val (.int (1 : Int32)), .val (.int c0_w_truth_pr0)] [] _
    refine XS.goto X5.here hx rfl (pc0 := 36) (pc' := 10) rfl (hb hby d6_36) (by decide) (by decide) ?_
    show Stp p e below T5 m 10 #[.val (.ref pr0), .val (.ref w_truth_pr0), .val (.int (1 : Int32)), .val (.int (1 : Int32)), .val (.int c0_w_truth_pr0)] [] _
    refine XS.iloadN X5.here hx rfl (hb hby d6_10) rfl ?_
    show Stp p e below T5 m 11 #[.val (.ref pr0), .val (.ref w_truth_pr0), .val (.int (1 : Int32)), .val (.int (1 : Int32)), .val (.int c0_w_truth_pr0)] [(.int (1 : Int32))] _
    refine XS.iloadN X5.here hx rfl (hb hby d6_11) rfl ?_
    show Stp p e below T5 m 12 #[.val (.ref pr0), .val (.ref w_truth_pr0), .val (.int (1 : Int32)), .val (.int (1 : Int32)), .val (.int c0_w_truth_pr0)] [(.int (1 : Int32)), (.int (1 : Int32))] _
    refine XS.icmpYes X5.here hx rfl (pc0 := 12) (pc' := 39) rfl (hb hby d6_12) rfl (flt (by simp : ¬ ((1 : Int32) < (1 : Int32)))).2.1 (by decide) (by decide) ?_
    show Stp p e below T5 m 39 #[.val (.ref pr0), .val (.ref w_truth_pr0), .val (.int (1 : Int32)), .val (.int (1 : Int32)), .val (.int c0_w_truth_pr0)] [] _
    refine XS.iconst X5.here hx rfl (hb hby d6_39) ?_
    show Stp p e below T5 m 40 #[.val (.ref pr0), .val (.ref w_truth_pr0), .val (.int (1 : Int32)), .val (.int (1 : Int32)), .val (.int c0_w_truth_pr0)] [(.int (1 : Int32))] _
    exact retN X5 hx (t := .boolean) Bd.returns (by simp) (hb hby d6_40) hr
  · show Q6_k0o Z pr0 w_truth_pr0 kk_w_truth_pr0 c0_w_truth_pr0 h0 n0 _ T5.heap _
    rw [e5]
    exact ⟨rfl, N0, rfl⟩
def own_ic0  : Int32 := (1 : Int32)
def Q6k0 (Z : State) (pr0 : Addr) (w_truth_pr0 : Addr) (kk_w_truth_pr0 : ClassId) (c0_w_truth_pr0 : Int32) (h0 : Heap) (n0 : Nat) (v : Option Value) (h : Heap) (L : List Loc) : Prop := v = some (.int own_ic0) ∧ Fr n0 L ∧ h = h0
set_option maxRecDepth 65536 in
theorem rm6k0 (l : Launch) (Z : State) (a0 : Array Value) (hw : ∀ d ∈ tables_1, d.before a0 Z = true) (ws : List Jvm.Cond) (pr0 : Addr) (w_truth_pr0 : Addr) (kk_w_truth_pr0 : ClassId) (c0_w_truth_pr0 : Int32) (h0 : Heap) (n0 : Nat) (Z0 : n0 ≤ h0.size) (O0 : Old Z n0 h0) (F_truth_pr0 : Fld Z h0 pr0 "com/example/gudl/gudl/GroundFactor" "truth" "[Z" (.ref w_truth_pr0)) (V_w_truth_pr0 : Arv Z h0 w_truth_pr0 kk_w_truth_pr0 .boolean (1 : Int32) [(.int c0_w_truth_pr0)] (.int (0 : Int32))) :
    MetFree l (⟨"com/example/gudl/gudl/GroundFactor", "isConstant", "()Z"⟩ : MethodName) (head1 (Jvm.Cond.code (⟨"com/example/gudl/gudl/GroundFactor", "isConstant", "()Z"⟩ : MethodName) prog_42_method_8_code 5 (some .boolean) :: ws) ({ frames := 0, cells := 0, slots := 0, locals := 0 } : Room)) (fun a U => a = #[(.ref pr0)] ∧ Z.Warmed39 U.vm ∧ U.heap = h0) (fun _ _ _ _ _ => True) (fun _ U o U' => ∃ v L, o = .returned v ∧ Q6k0 Z pr0 w_truth_pr0 kk_w_truth_pr0 c0_w_truth_pr0 h0 n0 v U'.heap L ∧ FrameEnd U o U' L ({ frames := 0, cells := 0, slots := 0, locals := 0 } : Room).cells ({ frames := 0, cells := 0, slots := 0, locals := 0 } : Room).slots) := by
  have e : own_ic0 = (1 : Int32) := by unfold own_ic0; rfl
  show MetFree l (⟨"com/example/gudl/gudl/GroundFactor", "isConstant", "()Z"⟩ : MethodName) (head1 (Jvm.Cond.code (⟨"com/example/gudl/gudl/GroundFactor", "isConstant", "()Z"⟩ : MethodName) prog_42_method_8_code 5 (some .boolean) :: ws) ({ frames := 0, cells := 0, slots := 0, locals := 0 } : Room)) (fun a U => a = #[(.ref pr0)] ∧ Z.Warmed39 U.vm ∧ U.heap = h0) (fun _ _ _ _ _ => True) (fun _ U o U' => ∃ v L, o = .returned v ∧ (v = some (.int own_ic0) ∧ Fr n0 L ∧ U'.heap = h0) ∧ FrameEnd U o U' L ({ frames := 0, cells := 0, slots := 0, locals := 0 } : Room).cells ({ frames := 0, cells := 0, slots := 0, locals := 0 } : Room).slots)
  rw [e]
  exact rm6_k0o l Z a0 hw ws pr0 w_truth_pr0 kk_w_truth_pr0 c0_w_truth_pr0 h0 n0 Z0 O0 F_truth_pr0 V_w_truth_pr0 
def Q6_k1t (Z : State) (pr0 : Addr) (w_truth_pr0 : Addr) (kk_w_truth_pr0 : ClassId) (c0_w_truth_pr0 : Int32) (c1_w_truth_pr0 : Int32) (h0 : Heap) (n0 : Nat) (v : Option Value) (h : Heap) (L : List Loc) : Prop := v = some (.int (1 : Int32)) ∧ Fr n0 L ∧ h = h0
set_option maxRecDepth 65536 in
set_option maxHeartbeats 40000000 in
theorem rm6_k1t (l : Launch) (Z : State) (a0 : Array Value) (hw : ∀ d ∈ tables_1, d.before a0 Z = true) (ws : List Jvm.Cond) (pr0 : Addr) (w_truth_pr0 : Addr) (kk_w_truth_pr0 : ClassId) (c0_w_truth_pr0 : Int32) (c1_w_truth_pr0 : Int32) (h0 : Heap) (n0 : Nat) (Z0 : n0 ≤ h0.size) (O0 : Old Z n0 h0) (F_truth_pr0 : Fld Z h0 pr0 "com/example/gudl/gudl/GroundFactor" "truth" "[Z" (.ref w_truth_pr0)) (V_w_truth_pr0 : Arv Z h0 w_truth_pr0 kk_w_truth_pr0 .boolean (2 : Int32) [(.int c0_w_truth_pr0), (.int c1_w_truth_pr0)] (.int (0 : Int32))) (hc28_0 : c1_w_truth_pr0 = c0_w_truth_pr0) :
    MetFree l (⟨"com/example/gudl/gudl/GroundFactor", "isConstant", "()Z"⟩ : MethodName) (head1 (Jvm.Cond.code (⟨"com/example/gudl/gudl/GroundFactor", "isConstant", "()Z"⟩ : MethodName) prog_42_method_8_code 5 (some .boolean) :: ws) ({ frames := 0, cells := 0, slots := 0, locals := 0 } : Room)) (fun a U => a = #[(.ref pr0)] ∧ Z.Warmed39 U.vm ∧ U.heap = h0) (fun _ _ _ _ _ => True) (fun _ U o U' => ∃ v L, o = .returned v ∧ Q6_k1t Z pr0 w_truth_pr0 kk_w_truth_pr0 c0_w_truth_pr0 c1_w_truth_pr0 h0 n0 v U'.heap L ∧ FrameEnd U o U' L ({ frames := 0, cells := 0, slots := 0, locals := 0 } : Room).cells ({ frames := 0, cells := 0, slots := 0, locals := 0 } : Room).slots) := by
  refine MetFree.of_bodySF (plainFor_of_name pn_6) hisR ?_
  intro p e s m args below meth c s₁ Bd hml0 hP hK
  obtain ⟨rfl, hZ, hh⟩ := hP
  have hx := Bd.exec
  have hby := Bd.bytes
  have hml : c.maxLocals = 5 := hml0
  have hown : s.vm.findClass "com/example/gudl/gudl/GroundFactor" = some m.cls := findClass_of_methodNamed Bd.named
  have hnm := (name_of_methodNamed Bd.named Bd.method).1
  have X0 : Stand p l e ({ frames := 0, cells := 0, slots := 0, locals := 0 } : Room) s m #[(.ref pr0)] below meth c s₁ [] 0 0 := Stand.of_body Bd
  have e0 : s₁.heap = h0 := by rw [← hh, Bd.state]; rfl
  have N0 := Fr.nil n0
  have pre0 : ∀ t, Steps p.tables e below (s₁.setTop (mkF m 0 #[.val (.ref pr0), .unset, .unset, .unset, .unset] [])) t → Steps p.tables e below (s₁.setTop (entryFrame m #[(.ref pr0)] 5)) t := fun t k => castTop (ef_6 m pr0) k
  obtain ⟨T1, X1, e1, st1⟩ := getF X0 hx hZ hown (host := "") (Or.inl (own_W hw 25 rfl)) Via.refl e0 F_truth_pr0 (g := (mkF m 1 #[.val (.ref pr0), .unset, .unset, .unset, .unset] [(.ref pr0)])) rfl rfl (hb hby d6_1)
  have V_c2 := V_w_truth_pr0
  obtain ⟨c2, Arc2, qc2, Sc2, Nc2, Hc2, Gc2⟩ := V_c2
  have V_c3 := V_w_truth_pr0
  obtain ⟨c3, Arc3, qc3, Sc3, Nc3, Hc3, Gc3⟩ := V_c3
  have hin4 : ¬ ((0 : Int32) < 0 ∨ c3.slots.size ≤ ((0 : Int32)).toNatClampNeg) := inb_of Sc3 ⟨by decide, by decide⟩
  obtain ⟨T5, X5, e5, st5⟩ := getF X1 hx hZ hown (host := "") (Or.inl (own_W hw 25 rfl)) Via.refl e1 F_truth_pr0 (g := (mkF m 23 #[.val (.ref pr0), .val (.ref w_truth_pr0), .val (.int (2 : Int32)), .val (.int (0 : Int32)), .val (.int c0_w_truth_pr0)] [(.ref pr0), (.int c0_w_truth_pr0)])) rfl rfl (hb hby d6_23)
  have V_c6 := V_w_truth_pr0
  obtain ⟨c6, Arc6, qc6, Sc6, Nc6, Hc6, Gc6⟩ := V_c6
  have hin7 : ¬ ((0 : Int32) < 0 ∨ c6.slots.size ≤ ((0 : Int32)).toNatClampNeg) := inb_of Sc6 ⟨by decide, by decide⟩
  have V_c8 := V_w_truth_pr0
  obtain ⟨c8, Arc8, qc8, Sc8, Nc8, Hc8, Gc8⟩ := V_c8
  have hin9 : ¬ ((1 : Int32) < 0 ∨ c8.slots.size ≤ ((1 : Int32)).toNatClampNeg) := inb_of Sc8 ⟨by decide, by decide⟩
  obtain ⟨T10, X10, e10, st10⟩ := getF X5 hx hZ hown (host := "") (Or.inl (own_W hw 25 rfl)) Via.refl e5 F_truth_pr0 (g := (mkF m 23 #[.val (.ref pr0), .val (.ref w_truth_pr0), .val (.int (2 : Int32)), .val (.int (1 : Int32)), .val (.int c1_w_truth_pr0)] [(.ref pr0), (.int c1_w_truth_pr0)])) rfl rfl (hb hby d6_23)
  have V_c11 := V_w_truth_pr0
  obtain ⟨c11, Arc11, qc11, Sc11, Nc11, Hc11, Gc11⟩ := V_c11
  have hin12 : ¬ ((0 : Int32) < 0 ∨ c11.slots.size ≤ ((0 : Int32)).toNatClampNeg) := inb_of Sc11 ⟨by decide, by decide⟩
  obtain ⟨fs, hr, hrun, hended, hW, hsame⟩ := X10.leave (v := some (.int (1 : Int32))) (fun h => by rw [Bd.returns] at h; cases h)
  refine ⟨_, _, pre0 _ ?_, hrun, hended, _, _, rfl, ?_, ⟨_, rfl⟩, hW, hsame.mono (by decide) (by decide)⟩
  · show Stp p e below s₁ m 0 #[.val (.ref pr0), .unset, .unset, .unset, .unset] [] _
    refine XS.aloadN X0.here hx rfl (hb hby d6_0) rfl rfl ?_
    show Stp p e below s₁ m 1 #[.val (.ref pr0), .unset, .unset, .unset, .unset] [(.ref pr0)] _
    refine st1 _ ?_
    show Stp p e below T1 m 4 #[.val (.ref pr0), .unset, .unset, .unset, .unset] [(.ref w_truth_pr0)] _
    refine XS.astoreN X1.here hx rfl (hb hby d6_4) rfl rfl (l' := #[.val (.ref pr0), .val (.ref w_truth_pr0), .unset, .unset, .unset]) rfl ?_
    show Stp p e below T1 m 5 #[.val (.ref pr0), .val (.ref w_truth_pr0), .unset, .unset, .unset] [] _
    refine XS.aloadN X1.here hx rfl (hb hby d6_5) rfl rfl ?_
    show Stp p e below T1 m 6 #[.val (.ref pr0), .val (.ref w_truth_pr0), .unset, .unset, .unset] [(.ref w_truth_pr0)] _
    refine X1.arraylength hx (by rw [e1]; exact Arc2.1) (State.isArrayOf_alike hZ.alike Arc2.2.1) (g := (mkF m 6 #[.val (.ref pr0), .val (.ref w_truth_pr0), .unset, .unset, .unset] [(.ref w_truth_pr0)])) rfl rfl (hb hby d6_6) _ ?_
    rw [len_of Sc2 Nc2]
    show Stp p e below T1 m 7 #[.val (.ref pr0), .val (.ref w_truth_pr0), .unset, .unset, .unset] [(.int (2 : Int32))] _
    refine XS.istoreN X1.here hx rfl (hb hby d6_7) rfl (l' := #[.val (.ref pr0), .val (.ref w_truth_pr0), .val (.int (2 : Int32)), .unset, .unset]) rfl ?_
    show Stp p e below T1 m 8 #[.val (.ref pr0), .val (.ref w_truth_pr0), .val (.int (2 : Int32)), .unset, .unset] [] _
    refine XS.iconst X1.here hx rfl (hb hby d6_8) ?_
    show Stp p e below T1 m 9 #[.val (.ref pr0), .val (.ref w_truth_pr0), .val (.int (2 : Int32)), .unset, .unset] [(.int (0 : Int32))] _
    refine XS.istoreN X1.here hx rfl (hb hby d6_9) rfl (l' := #[.val (.ref pr0), .val (.ref w_truth_pr0), .val (.int (2 : Int32)), .val (.int (0 : Int32)), .unset]) rfl ?_
    show Stp p e below T1 m 10 #[.val (.ref pr0), .val (.ref w_truth_pr0), .val (.int (2 : Int32)), .val (.int (0 : Int32)), .unset] [] _
    refine XS.iloadN X1.here hx rfl (hb hby d6_10) rfl ?_
    show Stp p e below T1 m 11 #[.val (.ref pr0), .val (.ref w_truth_pr0), .val (.int (2 : Int32)), .val (.int (0 : Int32)), .unset] [(.int (0 : Int32))] _
    refine XS.iloadN X1.here hx rfl (hb hby d6_11) rfl ?_
    show Stp p e below T1 m 12 #[.val (.ref pr0), .val (.ref w_truth_pr0), .val (.int (2 : Int32)), .val (.int (0 : Int32)), .unset] [(.int (2 : Int32)), (.int (0 : Int32))] _
    refine XS.icmpNo X1.here hx rfl (hb hby d6_12) rfl (tlt (by decide : (0 : Int32) < (2 : Int32))).2.1 ?_
    show Stp p e below T1 m 15 #[.val (.ref pr0), .val (.ref w_truth_pr0), .val (.int (2 : Int32)), .val (.int (0 : Int32)), .unset] [] _
    refine XS.aloadN X1.here hx rfl (hb hby d6_15) rfl rfl ?_
    show Stp p e below T1 m 16 #[.val (.ref pr0), .val (.ref w_truth_pr0), .val (.int (2 : Int32)), .val (.int (0 : Int32)), .unset] [(.ref w_truth_pr0)] _
    refine XS.iloadN X1.here hx rfl (hb hby d6_16) rfl ?_
    show Stp p e below T1 m 17 #[.val (.ref pr0), .val (.ref w_truth_pr0), .val (.int (2 : Int32)), .val (.int (0 : Int32)), .unset] [(.int (0 : Int32)), (.ref w_truth_pr0)] _
    refine X1.baloadBooleans hx (j := (0 : Int32)) (v := (.int c0_w_truth_pr0)) (by rw [e1]; exact Arc3.1) (State.isArrayOf_alike hZ.alike Arc3.2.1) Arc3.2.2 hin4 (Has.at Hc3 hin4 rfl) (g := (mkF m 17 #[.val (.ref pr0), .val (.ref w_truth_pr0), .val (.int (2 : Int32)), .val (.int (0 : Int32)), .unset] [(.int (0 : Int32)), (.ref w_truth_pr0)])) rfl rfl (hb hby d6_17) _ ?_
    show Stp p e below T1 m 18 #[.val (.ref pr0), .val (.ref w_truth_pr0), .val (.int (2 : Int32)), .val (.int (0 : Int32)), .unset] [(.int c0_w_truth_pr0)] _
    refine XS.istore X1.here hx rfl (hb hby d6_18) rfl (l' := #[.val (.ref pr0), .val (.ref w_truth_pr0), .val (.int (2 : Int32)), .val (.int (0 : Int32)), .val (.int c0_w_truth_pr0)]) rfl ?_
    show Stp p e below T1 m 20 #[.val (.ref pr0), .val (.ref w_truth_pr0), .val (.int (2 : Int32)), .val (.int (0 : Int32)), .val (.int c0_w_truth_pr0)] [] _
    refine XS.iload X1.here hx rfl (hb hby d6_20) rfl ?_
    show Stp p e below T1 m 22 #[.val (.ref pr0), .val (.ref w_truth_pr0), .val (.int (2 : Int32)), .val (.int (0 : Int32)), .val (.int c0_w_truth_pr0)] [(.int c0_w_truth_pr0)] _
    refine XS.aloadN X1.here hx rfl (hb hby d6_22) rfl rfl ?_
    show Stp p e below T1 m 23 #[.val (.ref pr0), .val (.ref w_truth_pr0), .val (.int (2 : Int32)), .val (.int (0 : Int32)), .val (.int c0_w_truth_pr0)] [(.ref pr0), (.int c0_w_truth_pr0)] _
    refine st5 _ ?_
    show Stp p e below T5 m 26 #[.val (.ref pr0), .val (.ref w_truth_pr0), .val (.int (2 : Int32)), .val (.int (0 : Int32)), .val (.int c0_w_truth_pr0)] [(.ref w_truth_pr0), (.int c0_w_truth_pr0)] _
    refine XS.iconst X5.here hx rfl (hb hby d6_26) ?_
    show Stp p e below T5 m 27 #[.val (.ref pr0), .val (.ref w_truth_pr0), .val (.int (2 : Int32)), .val (.int (0 : Int32)), .val (.int c0_w_truth_pr0)] [(.int (0 : Int32)), (.ref w_truth_pr0), (.int c0_w_truth_pr0)] _
    refine X5.baloadBooleans hx (j := (0 : Int32)) (v := (.int c0_w_truth_pr0)) (by rw [e5]; exact Arc6.1) (State.isArrayOf_alike hZ.alike Arc6.2.1) Arc6.2.2 hin7 (Has.at Hc6 hin7 rfl) (g := (mkF m 27 #[.val (.ref pr0), .val (.ref w_truth_pr0), .val (.int (2 : Int32)), .val (.int (0 : Int32)), .val (.int c0_w_truth_pr0)] [(.int (0 : Int32)), (.ref w_truth_pr0), (.int c0_w_truth_pr0)])) rfl rfl (hb hby d6_27) _ ?_
    show Stp p e below T5 m 28 #[.val (.ref pr0), .val (.ref w_truth_pr0), .val (.int (2 : Int32)), .val (.int (0 : Int32)), .val (.int c0_w_truth_pr0)] [(.int c0_w_truth_pr0), (.int c0_w_truth_pr0)] _
    refine XS.icmpYes X5.here hx rfl (pc0 := 28) (pc' := 33) rfl (hb hby d6_28) rfl (teq (rfl : c0_w_truth_pr0 = c0_w_truth_pr0)).1 (by decide) (by decide) ?_
    show Stp p e below T5 m 33 #[.val (.ref pr0), .val (.ref w_truth_pr0), .val (.int (2 : Int32)), .val (.int (0 : Int32)), .val (.int c0_w_truth_pr0)] [] _
    refine XS.iinc X5.here hx rfl (hb hby d6_33) rfl (l' := #[.val (.ref pr0), .val (.ref w_truth_pr0), .val (.int (2 : Int32)), .val (.int (1 : Int32)), .val (.int c0_w_truth_pr0)]) rfl ?_
    show Stp p e below T5 m 36 #[.val (.ref pr0), .val (.ref w_truth_pr0), .val (.int (2 : Int32)), .val (.int (1 : Int32)), .val (.int c0_w_truth_pr0)] [] _
    refine XS.goto X5.here hx rfl (pc0 := 36) (pc' := 10) rfl (hb hby d6_36) (by decide) (by decide) ?_
    show Stp p e below T5 m 10 #[.val (.ref pr0), .val (.ref w_truth_pr0), .val (.int (2 : Int32)), .val (.int (1 : Int32)), .val (.int c0_w_truth_pr0)] [] _
    refine XS.iloadN X5.here hx rfl (hb hby d6_10) rfl ?_
    show Stp p e below T5 m 11 #[.val (.ref pr0), .val (.ref w_truth_pr0), .val (.int (2 : Int32)), .val (.int (1 : Int32)), .val (.int c0_w_truth_pr0)] [(.int (1 : Int32))] _
    refine XS.iloadN X5.here hx rfl (hb hby d6_11) rfl ?_
    show Stp p e below T5 m 12 #[.val (.ref pr0), .val (.ref w_truth_pr0), .val (.int (2 : Int32)), .val (.int (1 : Int32)), .val (.int c0_w_truth_pr0)] [(.int (2 : Int32)), (.int (1 : Int32))] _
    refine XS.icmpNo X5.here hx rfl (hb hby d6_12) rfl (tlt (by decide : (1 : Int32) < (2 : Int32))).2.1 ?_
    show Stp p e below T5 m 15 #[.val (.ref pr0), .val (.ref w_truth_pr0), .val (.int (2 : Int32)), .val (.int (1 : Int32)), .val (.int c0_w_truth_pr0)] [] _
    refine XS.aloadN X5.here hx rfl (hb hby d6_15) rfl rfl ?_
    show Stp p e below T5 m 16 #[.val (.ref pr0), .val (.ref w_truth_pr0), .val (.int (2 : Int32)), .val (.int (1 : Int32)), .val (.int c0_w_truth_pr0)] [(.ref w_truth_pr0)] _
    refine XS.iloadN X5.here hx rfl (hb hby d6_16) rfl ?_
    show Stp p e below T5 m 17 #[.val (.ref pr0), .val (.ref w_truth_pr0), .val (.int (2 : Int32)), .val (.int (1 : Int32)), .val (.int c0_w_truth_pr0)] [(.int (1 : Int32)), (.ref w_truth_pr0)] _
    refine X5.baloadBooleans hx (j := (1 : Int32)) (v := (.int c1_w_truth_pr0)) (by rw [e5]; exact Arc8.1) (State.isArrayOf_alike hZ.alike Arc8.2.1) Arc8.2.2 hin9 (Has.at Hc8 hin9 rfl) (g := (mkF m 17 #[.val (.ref pr0), .val (.ref w_truth_pr0), .val (.int (2 : Int32)), .val (.int (1 : Int32)), .val (.int c0_w_truth_pr0)] [(.int (1 : Int32)), (.ref w_truth_pr0)])) rfl rfl (hb hby d6_17) _ ?_
    show Stp p e below T5 m 18 #[.val (.ref pr0), .val (.ref w_truth_pr0), .val (.int (2 : Int32)), .val (.int (1 : Int32)), .val (.int c0_w_truth_pr0)] [(.int c1_w_truth_pr0)] _
    refine XS.istore X5.here hx rfl (hb hby d6_18) rfl (l' := #[.val (.ref pr0), .val (.ref w_truth_pr0), .val (.int (2 : Int32)), .val (.int (1 : Int32)), .val (.int c1_w_truth_pr0)]) rfl ?_
    show Stp p e below T5 m 20 #[.val (.ref pr0), .val (.ref w_truth_pr0), .val (.int (2 : Int32)), .val (.int (1 : Int32)), .val (.int c1_w_truth_pr0)] [] _
    refine XS.iload X5.here hx rfl (hb hby d6_20) rfl ?_
    show Stp p e below T5 m 22 #[.val (.ref pr0), .val (.ref w_truth_pr0), .val (.int (2 : Int32)), .val (.int (1 : Int32)), .val (.int c1_w_truth_pr0)] [(.int c1_w_truth_pr0)] _
    refine XS.aloadN X5.here hx rfl (hb hby d6_22) rfl rfl ?_
    show Stp p e below T5 m 23 #[.val (.ref pr0), .val (.ref w_truth_pr0), .val (.int (2 : Int32)), .val (.int (1 : Int32)), .val (.int c1_w_truth_pr0)] [(.ref pr0), (.int c1_w_truth_pr0)] _
    refine st10 _ ?_
    show Stp p e below T10 m 26 #[.val (.ref pr0), .val (.ref w_truth_pr0), .val (.int (2 : Int32)), .val (.int (1 : Int32)), .val (.int c1_w_truth_pr0)] [(.ref w_truth_pr0), (.int c1_w_truth_pr0)] _
    refine XS.iconst X10.here hx rfl (hb hby d6_26) ?_
    show Stp p e below T10 m 27 #[.val (.ref pr0), .val (.ref w_truth_pr0), .val (.int (2 : Int32)), .val (.int (1 : Int32)), .val (.int c1_w_truth_pr0)] [(.int (0 : Int32)), (.ref w_truth_pr0), (.int c1_w_truth_pr0)] _
    refine X10.baloadBooleans hx (j := (0 : Int32)) (v := (.int c0_w_truth_pr0)) (by rw [e10]; exact Arc11.1) (State.isArrayOf_alike hZ.alike Arc11.2.1) Arc11.2.2 hin12 (Has.at Hc11 hin12 rfl) (g := (mkF m 27 #[.val (.ref pr0), .val (.ref w_truth_pr0), .val (.int (2 : Int32)), .val (.int (1 : Int32)), .val (.int c1_w_truth_pr0)] [(.int (0 : Int32)), (.ref w_truth_pr0), (.int c1_w_truth_pr0)])) rfl rfl (hb hby d6_27) _ ?_
    show Stp p e below T10 m 28 #[.val (.ref pr0), .val (.ref w_truth_pr0), .val (.int (2 : Int32)), .val (.int (1 : Int32)), .val (.int c1_w_truth_pr0)] [(.int c0_w_truth_pr0), (.int c1_w_truth_pr0)] _
    refine XS.icmpYes X10.here hx rfl (pc0 := 28) (pc' := 33) rfl (hb hby d6_28) rfl (teq hc28_0).1 (by decide) (by decide) ?_
    show Stp p e below T10 m 33 #[.val (.ref pr0), .val (.ref w_truth_pr0), .val (.int (2 : Int32)), .val (.int (1 : Int32)), .val (.int c1_w_truth_pr0)] [] _
    refine XS.iinc X10.here hx rfl (hb hby d6_33) rfl (l' := #[.val (.ref pr0), .val (.ref w_truth_pr0), .val (.int (2 : Int32)), .val (.int (2 : Int32)), .val (.int c1_w_truth_pr0)]) rfl ?_
    show Stp p e below T10 m 36 #[.val (.ref pr0), .val (.ref w_truth_pr0), .val (.int (2 : Int32)), .val (.int (2 : Int32)), .val (.int c1_w_truth_pr0)] [] _
    refine XS.goto X10.here hx rfl (pc0 := 36) (pc' := 10) rfl (hb hby d6_36) (by decide) (by decide) ?_
    show Stp p e below T10 m 10 #[.val (.ref pr0), .val (.ref w_truth_pr0), .val (.int (2 : Int32)), .val (.int (2 : Int32)), .val (.int c1_w_truth_pr0)] [] _
    refine XS.iloadN X10.here hx rfl (hb hby d6_10) rfl ?_
    show Stp p e below T10 m 11 #[.val (.ref pr0), .val (.ref w_truth_pr0), .val (.int (2 : Int32)), .val (.int (2 : Int32)), .val (.int c1_w_truth_pr0)] [(.int (2 : Int32))] _
    refine XS.iloadN X10.here hx rfl (hb hby d6_11) rfl ?_
    show Stp p e below T10 m 12 #[.val (.ref pr0), .val (.ref w_truth_pr0), .val (.int (2 : Int32)), .val (.int (2 : Int32)), .val (.int c1_w_truth_pr0)] [(.int (2 : Int32)), (.int (2 : Int32))] _
    refine XS.icmpYes X10.here hx rfl (pc0 := 12) (pc' := 39) rfl (hb hby d6_12) rfl (flt (by simp : ¬ ((2 : Int32) < (2 : Int32)))).2.1 (by decide) (by decide) ?_
    show Stp p e below T10 m 39 #[.val (.ref pr0), .val (.ref w_truth_pr0), .val (.int (2 : Int32)), .val (.int (2 : Int32)), .val (.int c1_w_truth_pr0)] [] _
    refine XS.iconst X10.here hx rfl (hb hby d6_39) ?_
    show Stp p e below T10 m 40 #[.val (.ref pr0), .val (.ref w_truth_pr0), .val (.int (2 : Int32)), .val (.int (2 : Int32)), .val (.int c1_w_truth_pr0)] [(.int (1 : Int32))] _
    exact retN X10 hx (t := .boolean) Bd.returns (by simp) (hb hby d6_40) hr
  · show Q6_k1t Z pr0 w_truth_pr0 kk_w_truth_pr0 c0_w_truth_pr0 c1_w_truth_pr0 h0 n0 _ T10.heap _
    rw [e10]
    exact ⟨rfl, N0, rfl⟩
theorem d6_31 : decode prog_42_method_8_code 31 = .ok (.iconst 0, 1) := by decide +kernel
theorem d6_32 : decode prog_42_method_8_code 32 = .ok (.ireturn, 1) := by decide +kernel
def Q6_k1f (Z : State) (pr0 : Addr) (w_truth_pr0 : Addr) (kk_w_truth_pr0 : ClassId) (c0_w_truth_pr0 : Int32) (c1_w_truth_pr0 : Int32) (h0 : Heap) (n0 : Nat) (v : Option Value) (h : Heap) (L : List Loc) : Prop := v = some (.int (0 : Int32)) ∧ Fr n0 L ∧ h = h0
set_option maxRecDepth 65536 in
set_option maxHeartbeats 40000000 in
theorem rm6_k1f (l : Launch) (Z : State) (a0 : Array Value) (hw : ∀ d ∈ tables_1, d.before a0 Z = true) (ws : List Jvm.Cond) (pr0 : Addr) (w_truth_pr0 : Addr) (kk_w_truth_pr0 : ClassId) (c0_w_truth_pr0 : Int32) (c1_w_truth_pr0 : Int32) (h0 : Heap) (n0 : Nat) (Z0 : n0 ≤ h0.size) (O0 : Old Z n0 h0) (F_truth_pr0 : Fld Z h0 pr0 "com/example/gudl/gudl/GroundFactor" "truth" "[Z" (.ref w_truth_pr0)) (V_w_truth_pr0 : Arv Z h0 w_truth_pr0 kk_w_truth_pr0 .boolean (2 : Int32) [(.int c0_w_truth_pr0), (.int c1_w_truth_pr0)] (.int (0 : Int32))) (hc28_0 : ¬ (c1_w_truth_pr0 = c0_w_truth_pr0)) :
    MetFree l (⟨"com/example/gudl/gudl/GroundFactor", "isConstant", "()Z"⟩ : MethodName) (head1 (Jvm.Cond.code (⟨"com/example/gudl/gudl/GroundFactor", "isConstant", "()Z"⟩ : MethodName) prog_42_method_8_code 5 (some .boolean) :: ws) ({ frames := 0, cells := 0, slots := 0, locals := 0 } : Room)) (fun a U => a = #[(.ref pr0)] ∧ Z.Warmed39 U.vm ∧ U.heap = h0) (fun _ _ _ _ _ => True) (fun _ U o U' => ∃ v L, o = .returned v ∧ Q6_k1f Z pr0 w_truth_pr0 kk_w_truth_pr0 c0_w_truth_pr0 c1_w_truth_pr0 h0 n0 v U'.heap L ∧ FrameEnd U o U' L ({ frames := 0, cells := 0, slots := 0, locals := 0 } : Room).cells ({ frames := 0, cells := 0, slots := 0, locals := 0 } : Room).slots) := by
  refine MetFree.of_bodySF (plainFor_of_name pn_6) hisR ?_
  intro p e s m args below meth c s₁ Bd hml0 hP hK
  obtain ⟨rfl, hZ, hh⟩ := hP
  have hx := Bd.exec
  have hby := Bd.bytes
  have hml : c.maxLocals = 5 := hml0
  have hown : s.vm.findClass "com/example/gudl/gudl/GroundFactor" = some m.cls := findClass_of_methodNamed Bd.named
  have hnm := (name_of_methodNamed Bd.named Bd.method).1
  have X0 : Stand p l e ({ frames := 0, cells := 0, slots := 0, locals := 0 } : Room) s m #[(.ref pr0)] below meth c s₁ [] 0 0 := Stand.of_body Bd
  have e0 : s₁.heap = h0 := by rw [← hh, Bd.state]; rfl
  have N0 := Fr.nil n0
  have pre0 : ∀ t, Steps p.tables e below (s₁.setTop (mkF m 0 #[.val (.ref pr0), .unset, .unset, .unset, .unset] [])) t → Steps p.tables e below (s₁.setTop (entryFrame m #[(.ref pr0)] 5)) t := fun t k => castTop (ef_6 m pr0) k
  obtain ⟨T1, X1, e1, st1⟩ := getF X0 hx hZ hown (host := "") (Or.inl (own_W hw 25 rfl)) Via.refl e0 F_truth_pr0 (g := (mkF m 1 #[.val (.ref pr0), .unset, .unset, .unset, .unset] [(.ref pr0)])) rfl rfl (hb hby d6_1)
  have V_c2 := V_w_truth_pr0
  obtain ⟨c2, Arc2, qc2, Sc2, Nc2, Hc2, Gc2⟩ := V_c2
  have V_c3 := V_w_truth_pr0
  obtain ⟨c3, Arc3, qc3, Sc3, Nc3, Hc3, Gc3⟩ := V_c3
  have hin4 : ¬ ((0 : Int32) < 0 ∨ c3.slots.size ≤ ((0 : Int32)).toNatClampNeg) := inb_of Sc3 ⟨by decide, by decide⟩
  obtain ⟨T5, X5, e5, st5⟩ := getF X1 hx hZ hown (host := "") (Or.inl (own_W hw 25 rfl)) Via.refl e1 F_truth_pr0 (g := (mkF m 23 #[.val (.ref pr0), .val (.ref w_truth_pr0), .val (.int (2 : Int32)), .val (.int (0 : Int32)), .val (.int c0_w_truth_pr0)] [(.ref pr0), (.int c0_w_truth_pr0)])) rfl rfl (hb hby d6_23)
  have V_c6 := V_w_truth_pr0
  obtain ⟨c6, Arc6, qc6, Sc6, Nc6, Hc6, Gc6⟩ := V_c6
  have hin7 : ¬ ((0 : Int32) < 0 ∨ c6.slots.size ≤ ((0 : Int32)).toNatClampNeg) := inb_of Sc6 ⟨by decide, by decide⟩
  have V_c8 := V_w_truth_pr0
  obtain ⟨c8, Arc8, qc8, Sc8, Nc8, Hc8, Gc8⟩ := V_c8
  have hin9 : ¬ ((1 : Int32) < 0 ∨ c8.slots.size ≤ ((1 : Int32)).toNatClampNeg) := inb_of Sc8 ⟨by decide, by decide⟩
  obtain ⟨T10, X10, e10, st10⟩ := getF X5 hx hZ hown (host := "") (Or.inl (own_W hw 25 rfl)) Via.refl e5 F_truth_pr0 (g := (mkF m 23 #[.val (.ref pr0), .val (.ref w_truth_pr0), .val (.int (2 : Int32)), .val (.int (1 : Int32)), .val (.int c1_w_truth_pr0)] [(.ref pr0), (.int c1_w_truth_pr0)])) rfl rfl (hb hby d6_23)
  have V_c11 := V_w_truth_pr0
  obtain ⟨c11, Arc11, qc11, Sc11, Nc11, Hc11, Gc11⟩ := V_c11
  have hin12 : ¬ ((0 : Int32) < 0 ∨ c11.slots.size ≤ ((0 : Int32)).toNatClampNeg) := inb_of Sc11 ⟨by decide, by decide⟩
  obtain ⟨fs, hr, hrun, hended, hW, hsame⟩ := X10.leave (v := some (.int (0 : Int32))) (fun h => by rw [Bd.returns] at h; cases h)
  refine ⟨_, _, pre0 _ ?_, hrun, hended, _, _, rfl, ?_, ⟨_, rfl⟩, hW, hsame.mono (by decide) (by decide)⟩
  · show Stp p e below s₁ m 0 #[.val (.ref pr0), .unset, .unset, .unset, .unset] [] _
    refine XS.aloadN X0.here hx rfl (hb hby d6_0) rfl rfl ?_
    show Stp p e below s₁ m 1 #[.val (.ref pr0), .unset, .unset, .unset, .unset] [(.ref pr0)] _
    refine st1 _ ?_
    show Stp p e below T1 m 4 #[.val (.ref pr0), .unset, .unset, .unset, .unset] [(.ref w_truth_pr0)] _
    refine XS.astoreN X1.here hx rfl (hb hby d6_4) rfl rfl (l' := #[.val (.ref pr0), .val (.ref w_truth_pr0), .unset, .unset, .unset]) rfl ?_
    show Stp p e below T1 m 5 #[.val (.ref pr0), .val (.ref w_truth_pr0), .unset, .unset, .unset] [] _
    refine XS.aloadN X1.here hx rfl (hb hby d6_5) rfl rfl ?_
    show Stp p e below T1 m 6 #[.val (.ref pr0), .val (.ref w_truth_pr0), .unset, .unset, .unset] [(.ref w_truth_pr0)] _
    refine X1.arraylength hx (by rw [e1]; exact Arc2.1) (State.isArrayOf_alike hZ.alike Arc2.2.1) (g := (mkF m 6 #[.val (.ref pr0), .val (.ref w_truth_pr0), .unset, .unset, .unset] [(.ref w_truth_pr0)])) rfl rfl (hb hby d6_6) _ ?_
    rw [len_of Sc2 Nc2]
    show Stp p e below T1 m 7 #[.val (.ref pr0), .val (.ref w_truth_pr0), .unset, .unset, .unset] [(.int (2 : Int32))] _
    refine XS.istoreN X1.here hx rfl (hb hby d6_7) rfl (l' := #[.val (.ref pr0), .val (.ref w_truth_pr0), .val (.int (2 : Int32)), .unset, .unset]) rfl ?_
    show Stp p e below T1 m 8 #[.val (.ref pr0), .val (.ref w_truth_pr0), .val (.int (2 : Int32)), .unset, .unset] [] _
    refine XS.iconst X1.here hx rfl (hb hby d6_8) ?_
    show Stp p e below T1 m 9 #[.val (.ref pr0), .val (.ref w_truth_pr0), .val (.int (2 : Int32)), .unset, .unset] [(.int (0 : Int32))] _
    refine XS.istoreN X1.here hx rfl (hb hby d6_9) rfl (l' := #[.val (.ref pr0), .val (.ref w_truth_pr0), .val (.int (2 : Int32)), .val (.int (0 : Int32)), .unset]) rfl ?_
    show Stp p e below T1 m 10 #[.val (.ref pr0), .val (.ref w_truth_pr0), .val (.int (2 : Int32)), .val (.int (0 : Int32)), .unset] [] _
    refine XS.iloadN X1.here hx rfl (hb hby d6_10) rfl ?_
    show Stp p e below T1 m 11 #[.val (.ref pr0), .val (.ref w_truth_pr0), .val (.int (2 : Int32)), .val (.int (0 : Int32)), .unset] [(.int (0 : Int32))] _
    refine XS.iloadN X1.here hx rfl (hb hby d6_11) rfl ?_
    show Stp p e below T1 m 12 #[.val (.ref pr0), .val (.ref w_truth_pr0), .val (.int (2 : Int32)), .val (.int (0 : Int32)), .unset] [(.int (2 : Int32)), (.int (0 : Int32))] _
    refine XS.icmpNo X1.here hx rfl (hb hby d6_12) rfl (tlt (by decide : (0 : Int32) < (2 : Int32))).2.1 ?_
    show Stp p e below T1 m 15 #[.val (.ref pr0), .val (.ref w_truth_pr0), .val (.int (2 : Int32)), .val (.int (0 : Int32)), .unset] [] _
    refine XS.aloadN X1.here hx rfl (hb hby d6_15) rfl rfl ?_
    show Stp p e below T1 m 16 #[.val (.ref pr0), .val (.ref w_truth_pr0), .val (.int (2 : Int32)), .val (.int (0 : Int32)), .unset] [(.ref w_truth_pr0)] _
    refine XS.iloadN X1.here hx rfl (hb hby d6_16) rfl ?_
    show Stp p e below T1 m 17 #[.val (.ref pr0), .val (.ref w_truth_pr0), .val (.int (2 : Int32)), .val (.int (0 : Int32)), .unset] [(.int (0 : Int32)), (.ref w_truth_pr0)] _
    refine X1.baloadBooleans hx (j := (0 : Int32)) (v := (.int c0_w_truth_pr0)) (by rw [e1]; exact Arc3.1) (State.isArrayOf_alike hZ.alike Arc3.2.1) Arc3.2.2 hin4 (Has.at Hc3 hin4 rfl) (g := (mkF m 17 #[.val (.ref pr0), .val (.ref w_truth_pr0), .val (.int (2 : Int32)), .val (.int (0 : Int32)), .unset] [(.int (0 : Int32)), (.ref w_truth_pr0)])) rfl rfl (hb hby d6_17) _ ?_
    show Stp p e below T1 m 18 #[.val (.ref pr0), .val (.ref w_truth_pr0), .val (.int (2 : Int32)), .val (.int (0 : Int32)), .unset] [(.int c0_w_truth_pr0)] _
    refine XS.istore X1.here hx rfl (hb hby d6_18) rfl (l' := #[.val (.ref pr0), .val (.ref w_truth_pr0), .val (.int (2 : Int32)), .val (.int (0 : Int32)), .val (.int c0_w_truth_pr0)]) rfl ?_
    show Stp p e below T1 m 20 #[.val (.ref pr0), .val (.ref w_truth_pr0), .val (.int (2 : Int32)), .val (.int (0 : Int32)), .val (.int c0_w_truth_pr0)] [] _
    refine XS.iload X1.here hx rfl (hb hby d6_20) rfl ?_
    show Stp p e below T1 m 22 #[.val (.ref pr0), .val (.ref w_truth_pr0), .val (.int (2 : Int32)), .val (.int (0 : Int32)), .val (.int c0_w_truth_pr0)] [(.int c0_w_truth_pr0)] _
    refine XS.aloadN X1.here hx rfl (hb hby d6_22) rfl rfl ?_
    show Stp p e below T1 m 23 #[.val (.ref pr0), .val (.ref w_truth_pr0), .val (.int (2 : Int32)), .val (.int (0 : Int32)), .val (.int c0_w_truth_pr0)] [(.ref pr0), (.int c0_w_truth_pr0)] _
    refine st5 _ ?_
    show Stp p e below T5 m 26 #[.val (.ref pr0), .val (.ref w_truth_pr0), .val (.int (2 : Int32)), .val (.int (0 : Int32)), .val (.int c0_w_truth_pr0)] [(.ref w_truth_pr0), (.int c0_w_truth_pr0)] _
    refine XS.iconst X5.here hx rfl (hb hby d6_26) ?_
    show Stp p e below T5 m 27 #[.val (.ref pr0), .val (.ref w_truth_pr0), .val (.int (2 : Int32)), .val (.int (0 : Int32)), .val (.int c0_w_truth_pr0)] [(.int (0 : Int32)), (.ref w_truth_pr0), (.int c0_w_truth_pr0)] _
    refine X5.baloadBooleans hx (j := (0 : Int32)) (v := (.int c0_w_truth_pr0)) (by rw [e5]; exact Arc6.1) (State.isArrayOf_alike hZ.alike Arc6.2.1) Arc6.2.2 hin7 (Has.at Hc6 hin7 rfl) (g := (mkF m 27 #[.val (.ref pr0), .val (.ref w_truth_pr0), .val (.int (2 : Int32)), .val (.int (0 : Int32)), .val (.int c0_w_truth_pr0)] [(.int (0 : Int32)), (.ref w_truth_pr0), (.int c0_w_truth_pr0)])) rfl rfl (hb hby d6_27) _ ?_
    show Stp p e below T5 m 28 #[.val (.ref pr0), .val (.ref w_truth_pr0), .val (.int (2 : Int32)), .val (.int (0 : Int32)), .val (.int c0_w_truth_pr0)] [(.int c0_w_truth_pr0), (.int c0_w_truth_pr0)] _
    refine XS.icmpYes X5.here hx rfl (pc0 := 28) (pc' := 33) rfl (hb hby d6_28) rfl (teq (rfl : c0_w_truth_pr0 = c0_w_truth_pr0)).1 (by decide) (by decide) ?_
    show Stp p e below T5 m 33 #[.val (.ref pr0), .val (.ref w_truth_pr0), .val (.int (2 : Int32)), .val (.int (0 : Int32)), .val (.int c0_w_truth_pr0)] [] _
    refine XS.iinc X5.here hx rfl (hb hby d6_33) rfl (l' := #[.val (.ref pr0), .val (.ref w_truth_pr0), .val (.int (2 : Int32)), .val (.int (1 : Int32)), .val (.int c0_w_truth_pr0)]) rfl ?_
    show Stp p e below T5 m 36 #[.val (.ref pr0), .val (.ref w_truth_pr0), .val (.int (2 : Int32)), .val (.int (1 : Int32)), .val (.int c0_w_truth_pr0)] [] _
    refine XS.goto X5.here hx rfl (pc0 := 36) (pc' := 10) rfl (hb hby d6_36) (by decide) (by decide) ?_
    show Stp p e below T5 m 10 #[.val (.ref pr0), .val (.ref w_truth_pr0), .val (.int (2 : Int32)), .val (.int (1 : Int32)), .val (.int c0_w_truth_pr0)] [] _
    refine XS.iloadN X5.here hx rfl (hb hby d6_10) rfl ?_
    show Stp p e below T5 m 11 #[.val (.ref pr0), .val (.ref w_truth_pr0), .val (.int (2 : Int32)), .val (.int (1 : Int32)), .val (.int c0_w_truth_pr0)] [(.int (1 : Int32))] _
    refine XS.iloadN X5.here hx rfl (hb hby d6_11) rfl ?_
    show Stp p e below T5 m 12 #[.val (.ref pr0), .val (.ref w_truth_pr0), .val (.int (2 : Int32)), .val (.int (1 : Int32)), .val (.int c0_w_truth_pr0)] [(.int (2 : Int32)), (.int (1 : Int32))] _
    refine XS.icmpNo X5.here hx rfl (hb hby d6_12) rfl (tlt (by decide : (1 : Int32) < (2 : Int32))).2.1 ?_
    show Stp p e below T5 m 15 #[.val (.ref pr0), .val (.ref w_truth_pr0), .val (.int (2 : Int32)), .val (.int (1 : Int32)), .val (.int c0_w_truth_pr0)] [] _
    refine XS.aloadN X5.here hx rfl (hb hby d6_15) rfl rfl ?_
    show Stp p e below T5 m 16 #[.val (.ref pr0), .val (.ref w_truth_pr0), .val (.int (2 : Int32)), .val (.int (1 : Int32)), .val (.int c0_w_truth_pr0)] [(.ref w_truth_pr0)] _
    refine XS.iloadN X5.here hx rfl (hb hby d6_16) rfl ?_
    show Stp p e below T5 m 17 #[.val (.ref pr0), .val (.ref w_truth_pr0), .val (.int (2 : Int32)), .val (.int (1 : Int32)), .val (.int c0_w_truth_pr0)] [(.int (1 : Int32)), (.ref w_truth_pr0)] _
    refine X5.baloadBooleans hx (j := (1 : Int32)) (v := (.int c1_w_truth_pr0)) (by rw [e5]; exact Arc8.1) (State.isArrayOf_alike hZ.alike Arc8.2.1) Arc8.2.2 hin9 (Has.at Hc8 hin9 rfl) (g := (mkF m 17 #[.val (.ref pr0), .val (.ref w_truth_pr0), .val (.int (2 : Int32)), .val (.int (1 : Int32)), .val (.int c0_w_truth_pr0)] [(.int (1 : Int32)), (.ref w_truth_pr0)])) rfl rfl (hb hby d6_17) _ ?_
    show Stp p e below T5 m 18 #[.val (.ref pr0), .val (.ref w_truth_pr0), .val (.int (2 : Int32)), .val (.int (1 : Int32)), .val (.int c0_w_truth_pr0)] [(.int c1_w_truth_pr0)] _
    refine XS.istore X5.here hx rfl (hb hby d6_18) rfl (l' := #[.val (.ref pr0), .val (.ref w_truth_pr0), .val (.int (2 : Int32)), .val (.int (1 : Int32)), .val (.int c1_w_truth_pr0)]) rfl ?_
    show Stp p e below T5 m 20 #[.val (.ref pr0), .val (.ref w_truth_pr0), .val (.int (2 : Int32)), .val (.int (1 : Int32)), .val (.int c1_w_truth_pr0)] [] _
    refine XS.iload X5.here hx rfl (hb hby d6_20) rfl ?_
    show Stp p e below T5 m 22 #[.val (.ref pr0), .val (.ref w_truth_pr0), .val (.int (2 : Int32)), .val (.int (1 : Int32)), .val (.int c1_w_truth_pr0)] [(.int c1_w_truth_pr0)] _
    refine XS.aloadN X5.here hx rfl (hb hby d6_22) rfl rfl ?_
    show Stp p e below T5 m 23 #[.val (.ref pr0), .val (.ref w_truth_pr0), .val (.int (2 : Int32)), .val (.int (1 : Int32)), .val (.int c1_w_truth_pr0)] [(.ref pr0), (.int c1_w_truth_pr0)] _
    refine st10 _ ?_
    show Stp p e below T10 m 26 #[.val (.ref pr0), .val (.ref w_truth_pr0), .val (.int (2 : Int32)), .val (.int (1 : Int32)), .val (.int c1_w_truth_pr0)] [(.ref w_truth_pr0), (.int c1_w_truth_pr0)] _
    refine XS.iconst X10.here hx rfl (hb hby d6_26) ?_
    show Stp p e below T10 m 27 #[.val (.ref pr0), .val (.ref w_truth_pr0), .val (.int (2 : Int32)), .val (.int (1 : Int32)), .val (.int c1_w_truth_pr0)] [(.int (0 : Int32)), (.ref w_truth_pr0), (.int c1_w_truth_pr0)] _
    refine X10.baloadBooleans hx (j := (0 : Int32)) (v := (.int c0_w_truth_pr0)) (by rw [e10]; exact Arc11.1) (State.isArrayOf_alike hZ.alike Arc11.2.1) Arc11.2.2 hin12 (Has.at Hc11 hin12 rfl) (g := (mkF m 27 #[.val (.ref pr0), .val (.ref w_truth_pr0), .val (.int (2 : Int32)), .val (.int (1 : Int32)), .val (.int c1_w_truth_pr0)] [(.int (0 : Int32)), (.ref w_truth_pr0), (.int c1_w_truth_pr0)])) rfl rfl (hb hby d6_27) _ ?_
    show Stp p e below T10 m 28 #[.val (.ref pr0), .val (.ref w_truth_pr0), .val (.int (2 : Int32)), .val (.int (1 : Int32)), .val (.int c1_w_truth_pr0)] [(.int c0_w_truth_pr0), (.int c1_w_truth_pr0)] _
    refine XS.icmpNo X10.here hx rfl (hb hby d6_28) rfl (feq hc28_0).1 ?_
    show Stp p e below T10 m 31 #[.val (.ref pr0), .val (.ref w_truth_pr0), .val (.int (2 : Int32)), .val (.int (1 : Int32)), .val (.int c1_w_truth_pr0)] [] _
    refine XS.iconst X10.here hx rfl (hb hby d6_31) ?_
    show Stp p e below T10 m 32 #[.val (.ref pr0), .val (.ref w_truth_pr0), .val (.int (2 : Int32)), .val (.int (1 : Int32)), .val (.int c1_w_truth_pr0)] [(.int (0 : Int32))] _
    exact retN X10 hx (t := .boolean) Bd.returns (by simp) (hb hby d6_32) hr
  · show Q6_k1f Z pr0 w_truth_pr0 kk_w_truth_pr0 c0_w_truth_pr0 c1_w_truth_pr0 h0 n0 _ T10.heap _
    rw [e10]
    exact ⟨rfl, N0, rfl⟩
def own_ic1 (c0_w_truth_pr0 : Int32) (c1_w_truth_pr0 : Int32) : Int32 := (if c1_w_truth_pr0 = c0_w_truth_pr0 then (1 : Int32) else (0 : Int32))
def Q6k1 (Z : State) (pr0 : Addr) (w_truth_pr0 : Addr) (kk_w_truth_pr0 : ClassId) (c0_w_truth_pr0 : Int32) (c1_w_truth_pr0 : Int32) (h0 : Heap) (n0 : Nat) (v : Option Value) (h : Heap) (L : List Loc) : Prop := v = some (.int (own_ic1 c0_w_truth_pr0 c1_w_truth_pr0)) ∧ Fr n0 L ∧ h = h0
set_option maxRecDepth 65536 in
theorem rm6k1 (l : Launch) (Z : State) (a0 : Array Value) (hw : ∀ d ∈ tables_1, d.before a0 Z = true) (ws : List Jvm.Cond) (pr0 : Addr) (w_truth_pr0 : Addr) (kk_w_truth_pr0 : ClassId) (c0_w_truth_pr0 : Int32) (c1_w_truth_pr0 : Int32) (h0 : Heap) (n0 : Nat) (Z0 : n0 ≤ h0.size) (O0 : Old Z n0 h0) (F_truth_pr0 : Fld Z h0 pr0 "com/example/gudl/gudl/GroundFactor" "truth" "[Z" (.ref w_truth_pr0)) (V_w_truth_pr0 : Arv Z h0 w_truth_pr0 kk_w_truth_pr0 .boolean (2 : Int32) [(.int c0_w_truth_pr0), (.int c1_w_truth_pr0)] (.int (0 : Int32))) :
    MetFree l (⟨"com/example/gudl/gudl/GroundFactor", "isConstant", "()Z"⟩ : MethodName) (head1 (Jvm.Cond.code (⟨"com/example/gudl/gudl/GroundFactor", "isConstant", "()Z"⟩ : MethodName) prog_42_method_8_code 5 (some .boolean) :: ws) ({ frames := 0, cells := 0, slots := 0, locals := 0 } : Room)) (fun a U => a = #[(.ref pr0)] ∧ Z.Warmed39 U.vm ∧ U.heap = h0) (fun _ _ _ _ _ => True) (fun _ U o U' => ∃ v L, o = .returned v ∧ Q6k1 Z pr0 w_truth_pr0 kk_w_truth_pr0 c0_w_truth_pr0 c1_w_truth_pr0 h0 n0 v U'.heap L ∧ FrameEnd U o U' L ({ frames := 0, cells := 0, slots := 0, locals := 0 } : Room).cells ({ frames := 0, cells := 0, slots := 0, locals := 0 } : Room).slots) := by
  by_cases H1 : c1_w_truth_pr0 = c0_w_truth_pr0
  · have e : (own_ic1 c0_w_truth_pr0 c1_w_truth_pr0) = (1 : Int32) := by unfold own_ic1; rw [if_pos H1]
    show MetFree l (⟨"com/example/gudl/gudl/GroundFactor", "isConstant", "()Z"⟩ : MethodName) (head1 (Jvm.Cond.code (⟨"com/example/gudl/gudl/GroundFactor", "isConstant", "()Z"⟩ : MethodName) prog_42_method_8_code 5 (some .boolean) :: ws) ({ frames := 0, cells := 0, slots := 0, locals := 0 } : Room)) (fun a U => a = #[(.ref pr0)] ∧ Z.Warmed39 U.vm ∧ U.heap = h0) (fun _ _ _ _ _ => True) (fun _ U o U' => ∃ v L, o = .returned v ∧ (v = some (.int (own_ic1 c0_w_truth_pr0 c1_w_truth_pr0)) ∧ Fr n0 L ∧ U'.heap = h0) ∧ FrameEnd U o U' L ({ frames := 0, cells := 0, slots := 0, locals := 0 } : Room).cells ({ frames := 0, cells := 0, slots := 0, locals := 0 } : Room).slots)
    rw [e]
    exact rm6_k1t l Z a0 hw ws pr0 w_truth_pr0 kk_w_truth_pr0 c0_w_truth_pr0 c1_w_truth_pr0 h0 n0 Z0 O0 F_truth_pr0 V_w_truth_pr0 H1
  · have e : (own_ic1 c0_w_truth_pr0 c1_w_truth_pr0) = (0 : Int32) := by unfold own_ic1; rw [if_neg H1]
    show MetFree l (⟨"com/example/gudl/gudl/GroundFactor", "isConstant", "()Z"⟩ : MethodName) (head1 (Jvm.Cond.code (⟨"com/example/gudl/gudl/GroundFactor", "isConstant", "()Z"⟩ : MethodName) prog_42_method_8_code 5 (some .boolean) :: ws) ({ frames := 0, cells := 0, slots := 0, locals := 0 } : Room)) (fun a U => a = #[(.ref pr0)] ∧ Z.Warmed39 U.vm ∧ U.heap = h0) (fun _ _ _ _ _ => True) (fun _ U o U' => ∃ v L, o = .returned v ∧ (v = some (.int (own_ic1 c0_w_truth_pr0 c1_w_truth_pr0)) ∧ Fr n0 L ∧ U'.heap = h0) ∧ FrameEnd U o U' L ({ frames := 0, cells := 0, slots := 0, locals := 0 } : Room).cells ({ frames := 0, cells := 0, slots := 0, locals := 0 } : Room).slots)
    rw [e]
    exact rm6_k1f l Z a0 hw ws pr0 w_truth_pr0 kk_w_truth_pr0 c0_w_truth_pr0 c1_w_truth_pr0 h0 n0 Z0 O0 F_truth_pr0 V_w_truth_pr0 H1
def Q6_k2ttt (Z : State) (pr0 : Addr) (w_truth_pr0 : Addr) (kk_w_truth_pr0 : ClassId) (c0_w_truth_pr0 : Int32) (c1_w_truth_pr0 : Int32) (c2_w_truth_pr0 : Int32) (c3_w_truth_pr0 : Int32) (h0 : Heap) (n0 : Nat) (v : Option Value) (h : Heap) (L : List Loc) : Prop := v = some (.int (1 : Int32)) ∧ Fr n0 L ∧ h = h0
set_option maxRecDepth 65536 in
set_option maxHeartbeats 40000000 in
theorem rm6_k2ttt (l : Launch) (Z : State) (a0 : Array Value) (hw : ∀ d ∈ tables_1, d.before a0 Z = true) (ws : List Jvm.Cond) (pr0 : Addr) (w_truth_pr0 : Addr) (kk_w_truth_pr0 : ClassId) (c0_w_truth_pr0 : Int32) (c1_w_truth_pr0 : Int32) (c2_w_truth_pr0 : Int32) (c3_w_truth_pr0 : Int32) (h0 : Heap) (n0 : Nat) (Z0 : n0 ≤ h0.size) (O0 : Old Z n0 h0) (F_truth_pr0 : Fld Z h0 pr0 "com/example/gudl/gudl/GroundFactor" "truth" "[Z" (.ref w_truth_pr0)) (V_w_truth_pr0 : Arv Z h0 w_truth_pr0 kk_w_truth_pr0 .boolean (4 : Int32) [(.int c0_w_truth_pr0), (.int c1_w_truth_pr0), (.int c2_w_truth_pr0), (.int c3_w_truth_pr0)] (.int (0 : Int32))) (hc28_0 : c1_w_truth_pr0 = c0_w_truth_pr0) (hc28_1 : c2_w_truth_pr0 = c0_w_truth_pr0) (hc28_2 : c3_w_truth_pr0 = c0_w_truth_pr0) :
    MetFree l (⟨"com/example/gudl/gudl/GroundFactor", "isConstant", "()Z"⟩ : MethodName) (head1 (Jvm.Cond.code (⟨"com/example/gudl/gudl/GroundFactor", "isConstant", "()Z"⟩ : MethodName) prog_42_method_8_code 5 (some .boolean) :: ws) ({ frames := 0, cells := 0, slots := 0, locals := 0 } : Room)) (fun a U => a = #[(.ref pr0)] ∧ Z.Warmed39 U.vm ∧ U.heap = h0) (fun _ _ _ _ _ => True) (fun _ U o U' => ∃ v L, o = .returned v ∧ Q6_k2ttt Z pr0 w_truth_pr0 kk_w_truth_pr0 c0_w_truth_pr0 c1_w_truth_pr0 c2_w_truth_pr0 c3_w_truth_pr0 h0 n0 v U'.heap L ∧ FrameEnd U o U' L ({ frames := 0, cells := 0, slots := 0, locals := 0 } : Room).cells ({ frames := 0, cells := 0, slots := 0, locals := 0 } : Room).slots) := by
  refine MetFree.of_bodySF (plainFor_of_name pn_6) hisR ?_
  intro p e s m args below meth c s₁ Bd hml0 hP hK
  obtain ⟨rfl, hZ, hh⟩ := hP
  have hx := Bd.exec
  have hby := Bd.bytes
  have hml : c.maxLocals = 5 := hml0
  have hown : s.vm.findClass "com/example/gudl/gudl/GroundFactor" = some m.cls := findClass_of_methodNamed Bd.named
  have hnm := (name_of_methodNamed Bd.named Bd.method).1
  have X0 : Stand p l e ({ frames := 0, cells := 0, slots := 0, locals := 0 } : Room) s m #[(.ref pr0)] below meth c s₁ [] 0 0 := Stand.of_body Bd
  have e0 : s₁.heap = h0 := by rw [← hh, Bd.state]; rfl
  have N0 := Fr.nil n0
  have pre0 : ∀ t, Steps p.tables e below (s₁.setTop (mkF m 0 #[.val (.ref pr0), .unset, .unset, .unset, .unset] [])) t → Steps p.tables e below (s₁.setTop (entryFrame m #[(.ref pr0)] 5)) t := fun t k => castTop (ef_6 m pr0) k
  obtain ⟨T1, X1, e1, st1⟩ := getF X0 hx hZ hown (host := "") (Or.inl (own_W hw 25 rfl)) Via.refl e0 F_truth_pr0 (g := (mkF m 1 #[.val (.ref pr0), .unset, .unset, .unset, .unset] [(.ref pr0)])) rfl rfl (hb hby d6_1)
  have V_c2 := V_w_truth_pr0
  obtain ⟨c2, Arc2, qc2, Sc2, Nc2, Hc2, Gc2⟩ := V_c2
  have V_c3 := V_w_truth_pr0
  obtain ⟨c3, Arc3, qc3, Sc3, Nc3, Hc3, Gc3⟩ := V_c3
  have hin4 : ¬ ((0 : Int32) < 0 ∨ c3.slots.size ≤ ((0 : Int32)).toNatClampNeg) := inb_of Sc3 ⟨by decide, by decide⟩
  obtain ⟨T5, X5, e5, st5⟩ := getF X1 hx hZ hown (host := "") (Or.inl (own_W hw 25 rfl)) Via.refl e1 F_truth_pr0 (g := (mkF m 23 #[.val (.ref pr0), .val (.ref w_truth_pr0), .val (.int (4 : Int32)), .val (.int (0 : Int32)), .val (.int c0_w_truth_pr0)] [(.ref pr0), (.int c0_w_truth_pr0)])) rfl rfl (hb hby d6_23)
  have V_c6 := V_w_truth_pr0
  obtain ⟨c6, Arc6, qc6, Sc6, Nc6, Hc6, Gc6⟩ := V_c6
  have hin7 : ¬ ((0 : Int32) < 0 ∨ c6.slots.size ≤ ((0 : Int32)).toNatClampNeg) := inb_of Sc6 ⟨by decide, by decide⟩
  have V_c8 := V_w_truth_pr0
  obtain ⟨c8, Arc8, qc8, Sc8, Nc8, Hc8, Gc8⟩ := V_c8
  have hin9 : ¬ ((1 : Int32) < 0 ∨ c8.slots.size ≤ ((1 : Int32)).toNatClampNeg) := inb_of Sc8 ⟨by decide, by decide⟩
  obtain ⟨T10, X10, e10, st10⟩ := getF X5 hx hZ hown (host := "") (Or.inl (own_W hw 25 rfl)) Via.refl e5 F_truth_pr0 (g := (mkF m 23 #[.val (.ref pr0), .val (.ref w_truth_pr0), .val (.int (4 : Int32)), .val (.int (1 : Int32)), .val (.int c1_w_truth_pr0)] [(.ref pr0), (.int c1_w_truth_pr0)])) rfl rfl (hb hby d6_23)
  have V_c11 := V_w_truth_pr0
  obtain ⟨c11, Arc11, qc11, Sc11, Nc11, Hc11, Gc11⟩ := V_c11
  have hin12 : ¬ ((0 : Int32) < 0 ∨ c11.slots.size ≤ ((0 : Int32)).toNatClampNeg) := inb_of Sc11 ⟨by decide, by decide⟩
  have V_c13 := V_w_truth_pr0
  obtain ⟨c13, Arc13, qc13, Sc13, Nc13, Hc13, Gc13⟩ := V_c13
  have hin14 : ¬ ((2 : Int32) < 0 ∨ c13.slots.size ≤ ((2 : Int32)).toNatClampNeg) := inb_of Sc13 ⟨by decide, by decide⟩
  obtain ⟨T15, X15, e15, st15⟩ := getF X10 hx hZ hown (host := "") (Or.inl (own_W hw 25 rfl)) Via.refl e10 F_truth_pr0 (g := (mkF m 23 #[.val (.ref pr0), .val (.ref w_truth_pr0), .val (.int (4 : Int32)), .val (.int (2 : Int32)), .val (.int c2_w_truth_pr0)] [(.ref pr0), (.int c2_w_truth_pr0)])) rfl rfl (hb hby d6_23)
  have V_c16 := V_w_truth_pr0
  obtain ⟨c16, Arc16, qc16, Sc16, Nc16, Hc16, Gc16⟩ := V_c16
  have hin17 : ¬ ((0 : Int32) < 0 ∨ c16.slots.size ≤ ((0 : Int32)).toNatClampNeg) := inb_of Sc16 ⟨by decide, by decide⟩
  have V_c18 := V_w_truth_pr0
  obtain ⟨c18, Arc18, qc18, Sc18, Nc18, Hc18, Gc18⟩ := V_c18
  have hin19 : ¬ ((3 : Int32) < 0 ∨ c18.slots.size ≤ ((3 : Int32)).toNatClampNeg) := inb_of Sc18 ⟨by decide, by decide⟩
  obtain ⟨T20, X20, e20, st20⟩ := getF X15 hx hZ hown (host := "") (Or.inl (own_W hw 25 rfl)) Via.refl e15 F_truth_pr0 (g := (mkF m 23 #[.val (.ref pr0), .val (.ref w_truth_pr0), .val (.int (4 : Int32)), .val (.int (3 : Int32)), .val (.int c3_w_truth_pr0)] [(.ref pr0), (.int c3_w_truth_pr0)])) rfl rfl (hb hby d6_23)
  have V_c21 := V_w_truth_pr0
  obtain ⟨c21, Arc21, qc21, Sc21, Nc21, Hc21, Gc21⟩ := V_c21
  have hin22 : ¬ ((0 : Int32) < 0 ∨ c21.slots.size ≤ ((0 : Int32)).toNatClampNeg) := inb_of Sc21 ⟨by decide, by decide⟩
  obtain ⟨fs, hr, hrun, hended, hW, hsame⟩ := X20.leave (v := some (.int (1 : Int32))) (fun h => by rw [Bd.returns] at h; cases h)
  refine ⟨_, _, pre0 _ ?_, hrun, hended, _, _, rfl, ?_, ⟨_, rfl⟩, hW, hsame.mono (by decide) (by decide)⟩
  · show Stp p e below s₁ m 0 #[.val (.ref pr0), .unset, .unset, .unset, .unset] [] _
    refine XS.aloadN X0.here hx rfl (hb hby d6_0) rfl rfl ?_
    show Stp p e below s₁ m 1 #[.val (.ref pr0), .unset, .unset, .unset, .unset] [(.ref pr0)] _
    refine st1 _ ?_
    show Stp p e below T1 m 4 #[.val (.ref pr0), .unset, .unset, .unset, .unset] [(.ref w_truth_pr0)] _
    refine XS.astoreN X1.here hx rfl (hb hby d6_4) rfl rfl (l' := #[.val (.ref pr0), .val (.ref w_truth_pr0), .unset, .unset, .unset]) rfl ?_
    show Stp p e below T1 m 5 #[.val (.ref pr0), .val (.ref w_truth_pr0), .unset, .unset, .unset] [] _
    refine XS.aloadN X1.here hx rfl (hb hby d6_5) rfl rfl ?_
    show Stp p e below T1 m 6 #[.val (.ref pr0), .val (.ref w_truth_pr0), .unset, .unset, .unset] [(.ref w_truth_pr0)] _
    refine X1.arraylength hx (by rw [e1]; exact Arc2.1) (State.isArrayOf_alike hZ.alike Arc2.2.1) (g := (mkF m 6 #[.val (.ref pr0), .val (.ref w_truth_pr0), .unset, .unset, .unset] [(.ref w_truth_pr0)])) rfl rfl (hb hby d6_6) _ ?_
    rw [len_of Sc2 Nc2]
    show Stp p e below T1 m 7 #[.val (.ref pr0), .val (.ref w_truth_pr0), .unset, .unset, .unset] [(.int (4 : Int32))] _
    refine XS.istoreN X1.here hx rfl (hb hby d6_7) rfl (l' := #[.val (.ref pr0), .val (.ref w_truth_pr0), .val (.int (4 : Int32)), .unset, .unset]) rfl ?_
    show Stp p e below T1 m 8 #[.val (.ref pr0), .val (.ref w_truth_pr0), .val (.int (4 : Int32)), .unset, .unset] [] _
    refine XS.iconst X1.here hx rfl (hb hby d6_8) ?_
    show Stp p e below T1 m 9 #[.val (.ref pr0), .val (.ref w_truth_pr0), .val (.int (4 : Int32)), .unset, .unset] [(.int (0 : Int32))] _
    refine XS.istoreN X1.here hx rfl (hb hby d6_9) rfl (l' := #[.val (.ref pr0), .val (.ref w_truth_pr0), .val (.int (4 : Int32)), .val (.int (0 : Int32)), .unset]) rfl ?_
    show Stp p e below T1 m 10 #[.val (.ref pr0), .val (.ref w_truth_pr0), .val (.int (4 : Int32)), .val (.int (0 : Int32)), .unset] [] _
    refine XS.iloadN X1.here hx rfl (hb hby d6_10) rfl ?_
    show Stp p e below T1 m 11 #[.val (.ref pr0), .val (.ref w_truth_pr0), .val (.int (4 : Int32)), .val (.int (0 : Int32)), .unset] [(.int (0 : Int32))] _
    refine XS.iloadN X1.here hx rfl (hb hby d6_11) rfl ?_
    show Stp p e below T1 m 12 #[.val (.ref pr0), .val (.ref w_truth_pr0), .val (.int (4 : Int32)), .val (.int (0 : Int32)), .unset] [(.int (4 : Int32)), (.int (0 : Int32))] _
    refine XS.icmpNo X1.here hx rfl (hb hby d6_12) rfl (tlt (by decide : (0 : Int32) < (4 : Int32))).2.1 ?_
    show Stp p e below T1 m 15 #[.val (.ref pr0), .val (.ref w_truth_pr0), .val (.int (4 : Int32)), .val (.int (0 : Int32)), .unset] [] _
    refine XS.aloadN X1.here hx rfl (hb hby d6_15) rfl rfl ?_
    show Stp p e below T1 m 16 #[.val (.ref pr0), .val (.ref w_truth_pr0), .val (.int (4 : Int32)), .val (.int (0 : Int32)), .unset] [(.ref w_truth_pr0)] _
    refine XS.iloadN X1.here hx rfl (hb hby d6_16) rfl ?_
    show Stp p e below T1 m 17 #[.val (.ref pr0), .val (.ref w_truth_pr0), .val (.int (4 : Int32)), .val (.int (0 : Int32)), .unset] [(.int (0 : Int32)), (.ref w_truth_pr0)] _
    refine X1.baloadBooleans hx (j := (0 : Int32)) (v := (.int c0_w_truth_pr0)) (by rw [e1]; exact Arc3.1) (State.isArrayOf_alike hZ.alike Arc3.2.1) Arc3.2.2 hin4 (Has.at Hc3 hin4 rfl) (g := (mkF m 17 #[.val (.ref pr0), .val (.ref w_truth_pr0), .val (.int (4 : Int32)), .val (.int (0 : Int32)), .unset] [(.int (0 : Int32)), (.ref w_truth_pr0)])) rfl rfl (hb hby d6_17) _ ?_
    show Stp p e below T1 m 18 #[.val (.ref pr0), .val (.ref w_truth_pr0), .val (.int (4 : Int32)), .val (.int (0 : Int32)), .unset] [(.int c0_w_truth_pr0)] _
    refine XS.istore X1.here hx rfl (hb hby d6_18) rfl (l' := #[.val (.ref pr0), .val (.ref w_truth_pr0), .val (.int (4 : Int32)), .val (.int (0 : Int32)), .val (.int c0_w_truth_pr0)]) rfl ?_
    show Stp p e below T1 m 20 #[.val (.ref pr0), .val (.ref w_truth_pr0), .val (.int (4 : Int32)), .val (.int (0 : Int32)), .val (.int c0_w_truth_pr0)] [] _
    refine XS.iload X1.here hx rfl (hb hby d6_20) rfl ?_
    show Stp p e below T1 m 22 #[.val (.ref pr0), .val (.ref w_truth_pr0), .val (.int (4 : Int32)), .val (.int (0 : Int32)), .val (.int c0_w_truth_pr0)] [(.int c0_w_truth_pr0)] _
    refine XS.aloadN X1.here hx rfl (hb hby d6_22) rfl rfl ?_
    show Stp p e below T1 m 23 #[.val (.ref pr0), .val (.ref w_truth_pr0), .val (.int (4 : Int32)), .val (.int (0 : Int32)), .val (.int c0_w_truth_pr0)] [(.ref pr0), (.int c0_w_truth_pr0)] _
    refine st5 _ ?_
    show Stp p e below T5 m 26 #[.val (.ref pr0), .val (.ref w_truth_pr0), .val (.int (4 : Int32)), .val (.int (0 : Int32)), .val (.int c0_w_truth_pr0)] [(.ref w_truth_pr0), (.int c0_w_truth_pr0)] _
    refine XS.iconst X5.here hx rfl (hb hby d6_26) ?_
    show Stp p e below T5 m 27 #[.val (.ref pr0), .val (.ref w_truth_pr0), .val (.int (4 : Int32)), .val (.int (0 : Int32)), .val (.int c0_w_truth_pr0)] [(.int (0 : Int32)), (.ref w_truth_pr0), (.int c0_w_truth_pr0)] _
    refine X5.baloadBooleans hx (j := (0 : Int32)) (v := (.int c0_w_truth_pr0)) (by rw [e5]; exact Arc6.1) (State.isArrayOf_alike hZ.alike Arc6.2.1) Arc6.2.2 hin7 (Has.at Hc6 hin7 rfl) (g := (mkF m 27 #[.val (.ref pr0), .val (.ref w_truth_pr0), .val (.int (4 : Int32)), .val (.int (0 : Int32)), .val (.int c0_w_truth_pr0)] [(.int (0 : Int32)), (.ref w_truth_pr0), (.int c0_w_truth_pr0)])) rfl rfl (hb hby d6_27) _ ?_
    show Stp p e below T5 m 28 #[.val (.ref pr0), .val (.ref w_truth_pr0), .val (.int (4 : Int32)), .val (.int (0 : Int32)), .val (.int c0_w_truth_pr0)] [(.int c0_w_truth_pr0), (.int c0_w_truth_pr0)] _
    refine XS.icmpYes X5.here hx rfl (pc0 := 28) (pc' := 33) rfl (hb hby d6_28) rfl (teq (rfl : c0_w_truth_pr0 = c0_w_truth_pr0)).1 (by decide) (by decide) ?_
    show Stp p e below T5 m 33 #[.val (.ref pr0), .val (.ref w_truth_pr0), .val (.int (4 : Int32)), .val (.int (0 : Int32)), .val (.int c0_w_truth_pr0)] [] _
    refine XS.iinc X5.here hx rfl (hb hby d6_33) rfl (l' := #[.val (.ref pr0), .val (.ref w_truth_pr0), .val (.int (4 : Int32)), .val (.int (1 : Int32)), .val (.int c0_w_truth_pr0)]) rfl ?_
    show Stp p e below T5 m 36 #[.val (.ref pr0), .val (.ref w_truth_pr0), .val (.int (4 : Int32)), .val (.int (1 : Int32)), .val (.int c0_w_truth_pr0)] [] _
    refine XS.goto X5.here hx rfl (pc0 := 36) (pc' := 10) rfl (hb hby d6_36) (by decide) (by decide) ?_
    show Stp p e below T5 m 10 #[.val (.ref pr0), .val (.ref w_truth_pr0), .val (.int (4 : Int32)), .val (.int (1 : Int32)), .val (.int c0_w_truth_pr0)] [] _
    refine XS.iloadN X5.here hx rfl (hb hby d6_10) rfl ?_
    show Stp p e below T5 m 11 #[.val (.ref pr0), .val (.ref w_truth_pr0), .val (.int (4 : Int32)), .val (.int (1 : Int32)), .val (.int c0_w_truth_pr0)] [(.int (1 : Int32))] _
    refine XS.iloadN X5.here hx rfl (hb hby d6_11) rfl ?_
    show Stp p e below T5 m 12 #[.val (.ref pr0), .val (.ref w_truth_pr0), .val (.int (4 : Int32)), .val (.int (1 : Int32)), .val (.int c0_w_truth_pr0)] [(.int (4 : Int32)), (.int (1 : Int32))] _
    refine XS.icmpNo X5.here hx rfl (hb hby d6_12) rfl (tlt (by decide : (1 : Int32) < (4 : Int32))).2.1 ?_
    show Stp p e below T5 m 15 #[.val (.ref pr0), .val (.ref w_truth_pr0), .val (.int (4 : Int32)), .val (.int (1 : Int32)), .val (.int c0_w_truth_pr0)] [] _
    refine XS.aloadN X5.here hx rfl (hb hby d6_15) rfl rfl ?_
    show Stp p e below T5 m 16 #[.val (.ref pr0), .val (.ref w_truth_pr0), .val (.int (4 : Int32)), .val (.int (1 : Int32)), .val (.int c0_w_truth_pr0)] [(.ref w_truth_pr0)] _
    refine XS.iloadN X5.here hx rfl (hb hby d6_16) rfl ?_
    show Stp p e below T5 m 17 #[.val (.ref pr0), .val (.ref w_truth_pr0), .val (.int (4 : Int32)), .val (.int (1 : Int32)), .val (.int c0_w_truth_pr0)] [(.int (1 : Int32)), (.ref w_truth_pr0)] _
    refine X5.baloadBooleans hx (j := (1 : Int32)) (v := (.int c1_w_truth_pr0)) (by rw [e5]; exact Arc8.1) (State.isArrayOf_alike hZ.alike Arc8.2.1) Arc8.2.2 hin9 (Has.at Hc8 hin9 rfl) (g := (mkF m 17 #[.val (.ref pr0), .val (.ref w_truth_pr0), .val (.int (4 : Int32)), .val (.int (1 : Int32)), .val (.int c0_w_truth_pr0)] [(.int (1 : Int32)), (.ref w_truth_pr0)])) rfl rfl (hb hby d6_17) _ ?_
    show Stp p e below T5 m 18 #[.val (.ref pr0), .val (.ref w_truth_pr0), .val (.int (4 : Int32)), .val (.int (1 : Int32)), .val (.int c0_w_truth_pr0)] [(.int c1_w_truth_pr0)] _
    refine XS.istore X5.here hx rfl (hb hby d6_18) rfl (l' := #[.val (.ref pr0), .val (.ref w_truth_pr0), .val (.int (4 : Int32)), .val (.int (1 : Int32)), .val (.int c1_w_truth_pr0)]) rfl ?_
    show Stp p e below T5 m 20 #[.val (.ref pr0), .val (.ref w_truth_pr0), .val (.int (4 : Int32)), .val (.int (1 : Int32)), .val (.int c1_w_truth_pr0)] [] _
    refine XS.iload X5.here hx rfl (hb hby d6_20) rfl ?_
    show Stp p e below T5 m 22 #[.val (.ref pr0), .val (.ref w_truth_pr0), .val (.int (4 : Int32)), .val (.int (1 : Int32)), .val (.int c1_w_truth_pr0)] [(.int c1_w_truth_pr0)] _
    refine XS.aloadN X5.here hx rfl (hb hby d6_22) rfl rfl ?_
    show Stp p e below T5 m 23 #[.val (.ref pr0), .val (.ref w_truth_pr0), .val (.int (4 : Int32)), .val (.int (1 : Int32)), .val (.int c1_w_truth_pr0)] [(.ref pr0), (.int c1_w_truth_pr0)] _
    refine st10 _ ?_
    show Stp p e below T10 m 26 #[.val (.ref pr0), .val (.ref w_truth_pr0), .val (.int (4 : Int32)), .val (.int (1 : Int32)), .val (.int c1_w_truth_pr0)] [(.ref w_truth_pr0), (.int c1_w_truth_pr0)] _
    refine XS.iconst X10.here hx rfl (hb hby d6_26) ?_
    show Stp p e below T10 m 27 #[.val (.ref pr0), .val (.ref w_truth_pr0), .val (.int (4 : Int32)), .val (.int (1 : Int32)), .val (.int c1_w_truth_pr0)] [(.int (0 : Int32)), (.ref w_truth_pr0), (.int c1_w_truth_pr0)] _
    refine X10.baloadBooleans hx (j := (0 : Int32)) (v := (.int c0_w_truth_pr0)) (by rw [e10]; exact Arc11.1) (State.isArrayOf_alike hZ.alike Arc11.2.1) Arc11.2.2 hin12 (Has.at Hc11 hin12 rfl) (g := (mkF m 27 #[.val (.ref pr0), .val (.ref w_truth_pr0), .val (.int (4 : Int32)), .val (.int (1 : Int32)), .val (.int c1_w_truth_pr0)] [(.int (0 : Int32)), (.ref w_truth_pr0), (.int c1_w_truth_pr0)])) rfl rfl (hb hby d6_27) _ ?_
    show Stp p e below T10 m 28 #[.val (.ref pr0), .val (.ref w_truth_pr0), .val (.int (4 : Int32)), .val (.int (1 : Int32)), .val (.int c1_w_truth_pr0)] [(.int c0_w_truth_pr0), (.int c1_w_truth_pr0)] _
    refine XS.icmpYes X10.here hx rfl (pc0 := 28) (pc' := 33) rfl (hb hby d6_28) rfl (teq hc28_0).1 (by decide) (by decide) ?_
    show Stp p e below T10 m 33 #[.val (.ref pr0), .val (.ref w_truth_pr0), .val (.int (4 : Int32)), .val (.int (1 : Int32)), .val (.int c1_w_truth_pr0)] [] _
    refine XS.iinc X10.here hx rfl (hb hby d6_33) rfl (l' := #[.val (.ref pr0), .val (.ref w_truth_pr0), .val (.int (4 : Int32)), .val (.int (2 : Int32)), .val (.int c1_w_truth_pr0)]) rfl ?_
    show Stp p e below T10 m 36 #[.val (.ref pr0), .val (.ref w_truth_pr0), .val (.int (4 : Int32)), .val (.int (2 : Int32)), .val (.int c1_w_truth_pr0)] [] _
    refine XS.goto X10.here hx rfl (pc0 := 36) (pc' := 10) rfl (hb hby d6_36) (by decide) (by decide) ?_
    show Stp p e below T10 m 10 #[.val (.ref pr0), .val (.ref w_truth_pr0), .val (.int (4 : Int32)), .val (.int (2 : Int32)), .val (.int c1_w_truth_pr0)] [] _
    refine XS.iloadN X10.here hx rfl (hb hby d6_10) rfl ?_
    show Stp p e below T10 m 11 #[.val (.ref pr0), .val (.ref w_truth_pr0), .val (.int (4 : Int32)), .val (.int (2 : Int32)), .val (.int c1_w_truth_pr0)] [(.int (2 : Int32))] _
    refine XS.iloadN X10.here hx rfl (hb hby d6_11) rfl ?_
    show Stp p e below T10 m 12 #[.val (.ref pr0), .val (.ref w_truth_pr0), .val (.int (4 : Int32)), .val (.int (2 : Int32)), .val (.int c1_w_truth_pr0)] [(.int (4 : Int32)), (.int (2 : Int32))] _
    refine XS.icmpNo X10.here hx rfl (hb hby d6_12) rfl (tlt (by decide : (2 : Int32) < (4 : Int32))).2.1 ?_
    show Stp p e below T10 m 15 #[.val (.ref pr0), .val (.ref w_truth_pr0), .val (.int (4 : Int32)), .val (.int (2 : Int32)), .val (.int c1_w_truth_pr0)] [] _
    refine XS.aloadN X10.here hx rfl (hb hby d6_15) rfl rfl ?_
    show Stp p e below T10 m 16 #[.val (.ref pr0), .val (.ref w_truth_pr0), .val (.int (4 : Int32)), .val (.int (2 : Int32)), .val (.int c1_w_truth_pr0)] [(.ref w_truth_pr0)] _
    refine XS.iloadN X10.here hx rfl (hb hby d6_16) rfl ?_
    show Stp p e below T10 m 17 #[.val (.ref pr0), .val (.ref w_truth_pr0), .val (.int (4 : Int32)), .val (.int (2 : Int32)), .val (.int c1_w_truth_pr0)] [(.int (2 : Int32)), (.ref w_truth_pr0)] _
    refine X10.baloadBooleans hx (j := (2 : Int32)) (v := (.int c2_w_truth_pr0)) (by rw [e10]; exact Arc13.1) (State.isArrayOf_alike hZ.alike Arc13.2.1) Arc13.2.2 hin14 (Has.at Hc13 hin14 rfl) (g := (mkF m 17 #[.val (.ref pr0), .val (.ref w_truth_pr0), .val (.int (4 : Int32)), .val (.int (2 : Int32)), .val (.int c1_w_truth_pr0)] [(.int (2 : Int32)), (.ref w_truth_pr0)])) rfl rfl (hb hby d6_17) _ ?_
    show Stp p e below T10 m 18 #[.val (.ref pr0), .val (.ref w_truth_pr0), .val (.int (4 : Int32)), .val (.int (2 : Int32)), .val (.int c1_w_truth_pr0)] [(.int c2_w_truth_pr0)] _
    refine XS.istore X10.here hx rfl (hb hby d6_18) rfl (l' := #[.val (.ref pr0), .val (.ref w_truth_pr0), .val (.int (4 : Int32)), .val (.int (2 : Int32)), .val (.int c2_w_truth_pr0)]) rfl ?_
    show Stp p e below T10 m 20 #[.val (.ref pr0), .val (.ref w_truth_pr0), .val (.int (4 : Int32)), .val (.int (2 : Int32)), .val (.int c2_w_truth_pr0)] [] _
    refine XS.iload X10.here hx rfl (hb hby d6_20) rfl ?_
    show Stp p e below T10 m 22 #[.val (.ref pr0), .val (.ref w_truth_pr0), .val (.int (4 : Int32)), .val (.int (2 : Int32)), .val (.int c2_w_truth_pr0)] [(.int c2_w_truth_pr0)] _
    refine XS.aloadN X10.here hx rfl (hb hby d6_22) rfl rfl ?_
    show Stp p e below T10 m 23 #[.val (.ref pr0), .val (.ref w_truth_pr0), .val (.int (4 : Int32)), .val (.int (2 : Int32)), .val (.int c2_w_truth_pr0)] [(.ref pr0), (.int c2_w_truth_pr0)] _
    refine st15 _ ?_
    show Stp p e below T15 m 26 #[.val (.ref pr0), .val (.ref w_truth_pr0), .val (.int (4 : Int32)), .val (.int (2 : Int32)), .val (.int c2_w_truth_pr0)] [(.ref w_truth_pr0), (.int c2_w_truth_pr0)] _
    refine XS.iconst X15.here hx rfl (hb hby d6_26) ?_
    show Stp p e below T15 m 27 #[.val (.ref pr0), .val (.ref w_truth_pr0), .val (.int (4 : Int32)), .val (.int (2 : Int32)), .val (.int c2_w_truth_pr0)] [(.int (0 : Int32)), (.ref w_truth_pr0), (.int c2_w_truth_pr0)] _
    refine X15.baloadBooleans hx (j := (0 : Int32)) (v := (.int c0_w_truth_pr0)) (by rw [e15]; exact Arc16.1) (State.isArrayOf_alike hZ.alike Arc16.2.1) Arc16.2.2 hin17 (Has.at Hc16 hin17 rfl) (g := (mkF m 27 #[.val (.ref pr0), .val (.ref w_truth_pr0), .val (.int (4 : Int32)), .val (.int (2 : Int32)), .val (.int c2_w_truth_pr0)] [(.int (0 : Int32)), (.ref w_truth_pr0), (.int c2_w_truth_pr0)])) rfl rfl (hb hby d6_27) _ ?_
    show Stp p e below T15 m 28 #[.val (.ref pr0), .val (.ref w_truth_pr0), .val (.int (4 : Int32)), .val (.int (2 : Int32)), .val (.int c2_w_truth_pr0)] [(.int c0_w_truth_pr0), (.int c2_w_truth_pr0)] _
    refine XS.icmpYes X15.here hx rfl (pc0 := 28) (pc' := 33) rfl (hb hby d6_28) rfl (teq hc28_1).1 (by decide) (by decide) ?_
    show Stp p e below T15 m 33 #[.val (.ref pr0), .val (.ref w_truth_pr0), .val (.int (4 : Int32)), .val (.int (2 : Int32)), .val (.int c2_w_truth_pr0)] [] _
    refine XS.iinc X15.here hx rfl (hb hby d6_33) rfl (l' := #[.val (.ref pr0), .val (.ref w_truth_pr0), .val (.int (4 : Int32)), .val (.int (3 : Int32)), .val (.int c2_w_truth_pr0)]) rfl ?_
    show Stp p e below T15 m 36 #[.val (.ref pr0), .val (.ref w_truth_pr0), .val (.int (4 : Int32)), .val (.int (3 : Int32)), .val (.int c2_w_truth_pr0)] [] _
    refine XS.goto X15.here hx rfl (pc0 := 36) (pc' := 10) rfl (hb hby d6_36) (by decide) (by decide) ?_
    show Stp p e below T15 m 10 #[.val (.ref pr0), .val (.ref w_truth_pr0), .val (.int (4 : Int32)), .val (.int (3 : Int32)), .val (.int c2_w_truth_pr0)] [] _
    refine XS.iloadN X15.here hx rfl (hb hby d6_10) rfl ?_
    show Stp p e below T15 m 11 #[.val (.ref pr0), .val (.ref w_truth_pr0), .val (.int (4 : Int32)), .val (.int (3 : Int32)), .val (.int c2_w_truth_pr0)] [(.int (3 : Int32))] _
    refine XS.iloadN X15.here hx rfl (hb hby d6_11) rfl ?_
    show Stp p e below T15 m 12 #[.val (.ref pr0), .val (.ref w_truth_pr0), .val (.int (4 : Int32)), .val (.int (3 : Int32)), .val (.int c2_w_truth_pr0)] [(.int (4 : Int32)), (.int (3 : Int32))] _
    refine XS.icmpNo X15.here hx rfl (hb hby d6_12) rfl (tlt (by decide : (3 : Int32) < (4 : Int32))).2.1 ?_
    show Stp p e below T15 m 15 #[.val (.ref pr0), .val (.ref w_truth_pr0), .val (.int (4 : Int32)), .val (.int (3 : Int32)), .val (.int c2_w_truth_pr0)] [] _
    refine XS.aloadN X15.here hx rfl (hb hby d6_15) rfl rfl ?_
    show Stp p e below T15 m 16 #[.val (.ref pr0), .val (.ref w_truth_pr0), .val (.int (4 : Int32)), .val (.int (3 : Int32)), .val (.int c2_w_truth_pr0)] [(.ref w_truth_pr0)] _
    refine XS.iloadN X15.here hx rfl (hb hby d6_16) rfl ?_
    show Stp p e below T15 m 17 #[.val (.ref pr0), .val (.ref w_truth_pr0), .val (.int (4 : Int32)), .val (.int (3 : Int32)), .val (.int c2_w_truth_pr0)] [(.int (3 : Int32)), (.ref w_truth_pr0)] _
    refine X15.baloadBooleans hx (j := (3 : Int32)) (v := (.int c3_w_truth_pr0)) (by rw [e15]; exact Arc18.1) (State.isArrayOf_alike hZ.alike Arc18.2.1) Arc18.2.2 hin19 (Has.at Hc18 hin19 rfl) (g := (mkF m 17 #[.val (.ref pr0), .val (.ref w_truth_pr0), .val (.int (4 : Int32)), .val (.int (3 : Int32)), .val (.int c2_w_truth_pr0)] [(.int (3 : Int32)), (.ref w_truth_pr0)])) rfl rfl (hb hby d6_17) _ ?_
    show Stp p e below T15 m 18 #[.val (.ref pr0), .val (.ref w_truth_pr0), .val (.int (4 : Int32)), .val (.int (3 : Int32)), .val (.int c2_w_truth_pr0)] [(.int c3_w_truth_pr0)] _
    refine XS.istore X15.here hx rfl (hb hby d6_18) rfl (l' := #[.val (.ref pr0), .val (.ref w_truth_pr0), .val (.int (4 : Int32)), .val (.int (3 : Int32)), .val (.int c3_w_truth_pr0)]) rfl ?_
    show Stp p e below T15 m 20 #[.val (.ref pr0), .val (.ref w_truth_pr0), .val (.int (4 : Int32)), .val (.int (3 : Int32)), .val (.int c3_w_truth_pr0)] [] _
    refine XS.iload X15.here hx rfl (hb hby d6_20) rfl ?_
    show Stp p e below T15 m 22 #[.val (.ref pr0), .val (.ref w_truth_pr0), .val (.int (4 : Int32)), .val (.int (3 : Int32)), .val (.int c3_w_truth_pr0)] [(.int c3_w_truth_pr0)] _
    refine XS.aloadN X15.here hx rfl (hb hby d6_22) rfl rfl ?_
    show Stp p e below T15 m 23 #[.val (.ref pr0), .val (.ref w_truth_pr0), .val (.int (4 : Int32)), .val (.int (3 : Int32)), .val (.int c3_w_truth_pr0)] [(.ref pr0), (.int c3_w_truth_pr0)] _
    refine st20 _ ?_
    show Stp p e below T20 m 26 #[.val (.ref pr0), .val (.ref w_truth_pr0), .val (.int (4 : Int32)), .val (.int (3 : Int32)), .val (.int c3_w_truth_pr0)] [(.ref w_truth_pr0), (.int c3_w_truth_pr0)] _
    refine XS.iconst X20.here hx rfl (hb hby d6_26) ?_
    show Stp p e below T20 m 27 #[.val (.ref pr0), .val (.ref w_truth_pr0), .val (.int (4 : Int32)), .val (.int (3 : Int32)), .val (.int c3_w_truth_pr0)] [(.int (0 : Int32)), (.ref w_truth_pr0), (.int c3_w_truth_pr0)] _
    refine X20.baloadBooleans hx (j := (0 : Int32)) (v := (.int c0_w_truth_pr0)) (by rw [e20]; exact Arc21.1) (State.isArrayOf_alike hZ.alike Arc21.2.1) Arc21.2.2 hin22 (Has.at Hc21 hin22 rfl) (g := (mkF m 27 #[.val (.ref pr0), .val (.ref w_truth_pr0), .val (.int (4 : Int32)), .val (.int (3 : Int32)), .val (.int c3_w_truth_pr0)] [(.int (0 : Int32)), (.ref w_truth_pr0), (.int c3_w_truth_pr0)])) rfl rfl (hb hby d6_27) _ ?_
    show Stp p e below T20 m 28 #[.val (.ref pr0), .val (.ref w_truth_pr0), .val (.int (4 : Int32)), .val (.int (3 : Int32)), .val (.int c3_w_truth_pr0)] [(.int c0_w_truth_pr0), (.int c3_w_truth_pr0)] _
    refine XS.icmpYes X20.here hx rfl (pc0 := 28) (pc' := 33) rfl (hb hby d6_28) rfl (teq hc28_2).1 (by decide) (by decide) ?_
    show Stp p e below T20 m 33 #[.val (.ref pr0), .val (.ref w_truth_pr0), .val (.int (4 : Int32)), .val (.int (3 : Int32)), .val (.int c3_w_truth_pr0)] [] _
    refine XS.iinc X20.here hx rfl (hb hby d6_33) rfl (l' := #[.val (.ref pr0), .val (.ref w_truth_pr0), .val (.int (4 : Int32)), .val (.int (4 : Int32)), .val (.int c3_w_truth_pr0)]) rfl ?_
    show Stp p e below T20 m 36 #[.val (.ref pr0), .val (.ref w_truth_pr0), .val (.int (4 : Int32)), .val (.int (4 : Int32)), .val (.int c3_w_truth_pr0)] [] _
    refine XS.goto X20.here hx rfl (pc0 := 36) (pc' := 10) rfl (hb hby d6_36) (by decide) (by decide) ?_
    show Stp p e below T20 m 10 #[.val (.ref pr0), .val (.ref w_truth_pr0), .val (.int (4 : Int32)), .val (.int (4 : Int32)), .val (.int c3_w_truth_pr0)] [] _
    refine XS.iloadN X20.here hx rfl (hb hby d6_10) rfl ?_
    show Stp p e below T20 m 11 #[.val (.ref pr0), .val (.ref w_truth_pr0), .val (.int (4 : Int32)), .val (.int (4 : Int32)), .val (.int c3_w_truth_pr0)] [(.int (4 : Int32))] _
    refine XS.iloadN X20.here hx rfl (hb hby d6_11) rfl ?_
    show Stp p e below T20 m 12 #[.val (.ref pr0), .val (.ref w_truth_pr0), .val (.int (4 : Int32)), .val (.int (4 : Int32)), .val (.int c3_w_truth_pr0)] [(.int (4 : Int32)), (.int (4 : Int32))] _
    refine XS.icmpYes X20.here hx rfl (pc0 := 12) (pc' := 39) rfl (hb hby d6_12) rfl (flt (by simp : ¬ ((4 : Int32) < (4 : Int32)))).2.1 (by decide) (by decide) ?_
    show Stp p e below T20 m 39 #[.val (.ref pr0), .val (.ref w_truth_pr0), .val (.int (4 : Int32)), .val (.int (4 : Int32)), .val (.int c3_w_truth_pr0)] [] _
    refine XS.iconst X20.here hx rfl (hb hby d6_39) ?_
    show Stp p e below T20 m 40 #[.val (.ref pr0), .val (.ref w_truth_pr0), .val (.int (4 : Int32)), .val (.int (4 : Int32)), .val (.int c3_w_truth_pr0)] [(.int (1 : Int32))] _
    exact retN X20 hx (t := .boolean) Bd.returns (by simp) (hb hby d6_40) hr
  · show Q6_k2ttt Z pr0 w_truth_pr0 kk_w_truth_pr0 c0_w_truth_pr0 c1_w_truth_pr0 c2_w_truth_pr0 c3_w_truth_pr0 h0 n0 _ T20.heap _
    rw [e20]
    exact ⟨rfl, N0, rfl⟩
def Q6_k2ttf (Z : State) (pr0 : Addr) (w_truth_pr0 : Addr) (kk_w_truth_pr0 : ClassId) (c0_w_truth_pr0 : Int32) (c1_w_truth_pr0 : Int32) (c2_w_truth_pr0 : Int32) (c3_w_truth_pr0 : Int32) (h0 : Heap) (n0 : Nat) (v : Option Value) (h : Heap) (L : List Loc) : Prop := v = some (.int (0 : Int32)) ∧ Fr n0 L ∧ h = h0
set_option maxRecDepth 65536 in
set_option maxHeartbeats 40000000 in
theorem rm6_k2ttf (l : Launch) (Z : State) (a0 : Array Value) (hw : ∀ d ∈ tables_1, d.before a0 Z = true) (ws : List Jvm.Cond) (pr0 : Addr) (w_truth_pr0 : Addr) (kk_w_truth_pr0 : ClassId) (c0_w_truth_pr0 : Int32) (c1_w_truth_pr0 : Int32) (c2_w_truth_pr0 : Int32) (c3_w_truth_pr0 : Int32) (h0 : Heap) (n0 : Nat) (Z0 : n0 ≤ h0.size) (O0 : Old Z n0 h0) (F_truth_pr0 : Fld Z h0 pr0 "com/example/gudl/gudl/GroundFactor" "truth" "[Z" (.ref w_truth_pr0)) (V_w_truth_pr0 : Arv Z h0 w_truth_pr0 kk_w_truth_pr0 .boolean (4 : Int32) [(.int c0_w_truth_pr0), (.int c1_w_truth_pr0), (.int c2_w_truth_pr0), (.int c3_w_truth_pr0)] (.int (0 : Int32))) (hc28_0 : c1_w_truth_pr0 = c0_w_truth_pr0) (hc28_1 : c2_w_truth_pr0 = c0_w_truth_pr0) (hc28_2 : ¬ (c3_w_truth_pr0 = c0_w_truth_pr0)) :
    MetFree l (⟨"com/example/gudl/gudl/GroundFactor", "isConstant", "()Z"⟩ : MethodName) (head1 (Jvm.Cond.code (⟨"com/example/gudl/gudl/GroundFactor", "isConstant", "()Z"⟩ : MethodName) prog_42_method_8_code 5 (some .boolean) :: ws) ({ frames := 0, cells := 0, slots := 0, locals := 0 } : Room)) (fun a U => a = #[(.ref pr0)] ∧ Z.Warmed39 U.vm ∧ U.heap = h0) (fun _ _ _ _ _ => True) (fun _ U o U' => ∃ v L, o = .returned v ∧ Q6_k2ttf Z pr0 w_truth_pr0 kk_w_truth_pr0 c0_w_truth_pr0 c1_w_truth_pr0 c2_w_truth_pr0 c3_w_truth_pr0 h0 n0 v U'.heap L ∧ FrameEnd U o U' L ({ frames := 0, cells := 0, slots := 0, locals := 0 } : Room).cells ({ frames := 0, cells := 0, slots := 0, locals := 0 } : Room).slots) := by
  refine MetFree.of_bodySF (plainFor_of_name pn_6) hisR ?_
  intro p e s m args below meth c s₁ Bd hml0 hP hK
  obtain ⟨rfl, hZ, hh⟩ := hP
  have hx := Bd.exec
  have hby := Bd.bytes
  have hml : c.maxLocals = 5 := hml0
  have hown : s.vm.findClass "com/example/gudl/gudl/GroundFactor" = some m.cls := findClass_of_methodNamed Bd.named
  have hnm := (name_of_methodNamed Bd.named Bd.method).1
  have X0 : Stand p l e ({ frames := 0, cells := 0, slots := 0, locals := 0 } : Room) s m #[(.ref pr0)] below meth c s₁ [] 0 0 := Stand.of_body Bd
  have e0 : s₁.heap = h0 := by rw [← hh, Bd.state]; rfl
  have N0 := Fr.nil n0
  have pre0 : ∀ t, Steps p.tables e below (s₁.setTop (mkF m 0 #[.val (.ref pr0), .unset, .unset, .unset, .unset] [])) t → Steps p.tables e below (s₁.setTop (entryFrame m #[(.ref pr0)] 5)) t := fun t k => castTop (ef_6 m pr0) k
  obtain ⟨T1, X1, e1, st1⟩ := getF X0 hx hZ hown (host := "") (Or.inl (own_W hw 25 rfl)) Via.refl e0 F_truth_pr0 (g := (mkF m 1 #[.val (.ref pr0), .unset, .unset, .unset, .unset] [(.ref pr0)])) rfl rfl (hb hby d6_1)
  have V_c2 := V_w_truth_pr0
  obtain ⟨c2, Arc2, qc2, Sc2, Nc2, Hc2, Gc2⟩ := V_c2
  have V_c3 := V_w_truth_pr0
  obtain ⟨c3, Arc3, qc3, Sc3, Nc3, Hc3, Gc3⟩ := V_c3
  have hin4 : ¬ ((0 : Int32) < 0 ∨ c3.slots.size ≤ ((0 : Int32)).toNatClampNeg) := inb_of Sc3 ⟨by decide, by decide⟩
  obtain ⟨T5, X5, e5, st5⟩ := getF X1 hx hZ hown (host := "") (Or.inl (own_W hw 25 rfl)) Via.refl e1 F_truth_pr0 (g := (mkF m 23 #[.val (.ref pr0), .val (.ref w_truth_pr0), .val (.int (4 : Int32)), .val (.int (0 : Int32)), .val (.int c0_w_truth_pr0)] [(.ref pr0), (.int c0_w_truth_pr0)])) rfl rfl (hb hby d6_23)
  have V_c6 := V_w_truth_pr0
  obtain ⟨c6, Arc6, qc6, Sc6, Nc6, Hc6, Gc6⟩ := V_c6
  have hin7 : ¬ ((0 : Int32) < 0 ∨ c6.slots.size ≤ ((0 : Int32)).toNatClampNeg) := inb_of Sc6 ⟨by decide, by decide⟩
  have V_c8 := V_w_truth_pr0
  obtain ⟨c8, Arc8, qc8, Sc8, Nc8, Hc8, Gc8⟩ := V_c8
  have hin9 : ¬ ((1 : Int32) < 0 ∨ c8.slots.size ≤ ((1 : Int32)).toNatClampNeg) := inb_of Sc8 ⟨by decide, by decide⟩
  obtain ⟨T10, X10, e10, st10⟩ := getF X5 hx hZ hown (host := "") (Or.inl (own_W hw 25 rfl)) Via.refl e5 F_truth_pr0 (g := (mkF m 23 #[.val (.ref pr0), .val (.ref w_truth_pr0), .val (.int (4 : Int32)), .val (.int (1 : Int32)), .val (.int c1_w_truth_pr0)] [(.ref pr0), (.int c1_w_truth_pr0)])) rfl rfl (hb hby d6_23)
  have V_c11 := V_w_truth_pr0
  obtain ⟨c11, Arc11, qc11, Sc11, Nc11, Hc11, Gc11⟩ := V_c11
  have hin12 : ¬ ((0 : Int32) < 0 ∨ c11.slots.size ≤ ((0 : Int32)).toNatClampNeg) := inb_of Sc11 ⟨by decide, by decide⟩
  have V_c13 := V_w_truth_pr0
  obtain ⟨c13, Arc13, qc13, Sc13, Nc13, Hc13, Gc13⟩ := V_c13
  have hin14 : ¬ ((2 : Int32) < 0 ∨ c13.slots.size ≤ ((2 : Int32)).toNatClampNeg) := inb_of Sc13 ⟨by decide, by decide⟩
  obtain ⟨T15, X15, e15, st15⟩ := getF X10 hx hZ hown (host := "") (Or.inl (own_W hw 25 rfl)) Via.refl e10 F_truth_pr0 (g := (mkF m 23 #[.val (.ref pr0), .val (.ref w_truth_pr0), .val (.int (4 : Int32)), .val (.int (2 : Int32)), .val (.int c2_w_truth_pr0)] [(.ref pr0), (.int c2_w_truth_pr0)])) rfl rfl (hb hby d6_23)
  have V_c16 := V_w_truth_pr0
  obtain ⟨c16, Arc16, qc16, Sc16, Nc16, Hc16, Gc16⟩ := V_c16
  have hin17 : ¬ ((0 : Int32) < 0 ∨ c16.slots.size ≤ ((0 : Int32)).toNatClampNeg) := inb_of Sc16 ⟨by decide, by decide⟩
  have V_c18 := V_w_truth_pr0
  obtain ⟨c18, Arc18, qc18, Sc18, Nc18, Hc18, Gc18⟩ := V_c18
  have hin19 : ¬ ((3 : Int32) < 0 ∨ c18.slots.size ≤ ((3 : Int32)).toNatClampNeg) := inb_of Sc18 ⟨by decide, by decide⟩
  obtain ⟨T20, X20, e20, st20⟩ := getF X15 hx hZ hown (host := "") (Or.inl (own_W hw 25 rfl)) Via.refl e15 F_truth_pr0 (g := (mkF m 23 #[.val (.ref pr0), .val (.ref w_truth_pr0), .val (.int (4 : Int32)), .val (.int (3 : Int32)), .val (.int c3_w_truth_pr0)] [(.ref pr0), (.int c3_w_truth_pr0)])) rfl rfl (hb hby d6_23)
  have V_c21 := V_w_truth_pr0
  obtain ⟨c21, Arc21, qc21, Sc21, Nc21, Hc21, Gc21⟩ := V_c21
  have hin22 : ¬ ((0 : Int32) < 0 ∨ c21.slots.size ≤ ((0 : Int32)).toNatClampNeg) := inb_of Sc21 ⟨by decide, by decide⟩
  obtain ⟨fs, hr, hrun, hended, hW, hsame⟩ := X20.leave (v := some (.int (0 : Int32))) (fun h => by rw [Bd.returns] at h; cases h)
  refine ⟨_, _, pre0 _ ?_, hrun, hended, _, _, rfl, ?_, ⟨_, rfl⟩, hW, hsame.mono (by decide) (by decide)⟩
  · show Stp p e below s₁ m 0 #[.val (.ref pr0), .unset, .unset, .unset, .unset] [] _
    refine XS.aloadN X0.here hx rfl (hb hby d6_0) rfl rfl ?_
    show Stp p e below s₁ m 1 #[.val (.ref pr0), .unset, .unset, .unset, .unset] [(.ref pr0)] _
    refine st1 _ ?_
    show Stp p e below T1 m 4 #[.val (.ref pr0), .unset, .unset, .unset, .unset] [(.ref w_truth_pr0)] _
    refine XS.astoreN X1.here hx rfl (hb hby d6_4) rfl rfl (l' := #[.val (.ref pr0), .val (.ref w_truth_pr0), .unset, .unset, .unset]) rfl ?_
    show Stp p e below T1 m 5 #[.val (.ref pr0), .val (.ref w_truth_pr0), .unset, .unset, .unset] [] _
    refine XS.aloadN X1.here hx rfl (hb hby d6_5) rfl rfl ?_
    show Stp p e below T1 m 6 #[.val (.ref pr0), .val (.ref w_truth_pr0), .unset, .unset, .unset] [(.ref w_truth_pr0)] _
    refine X1.arraylength hx (by rw [e1]; exact Arc2.1) (State.isArrayOf_alike hZ.alike Arc2.2.1) (g := (mkF m 6 #[.val (.ref pr0), .val (.ref w_truth_pr0), .unset, .unset, .unset] [(.ref w_truth_pr0)])) rfl rfl (hb hby d6_6) _ ?_
    rw [len_of Sc2 Nc2]
    show Stp p e below T1 m 7 #[.val (.ref pr0), .val (.ref w_truth_pr0), .unset, .unset, .unset] [(.int (4 : Int32))] _
    refine XS.istoreN X1.here hx rfl (hb hby d6_7) rfl (l' := #[.val (.ref pr0), .val (.ref w_truth_pr0), .val (.int (4 : Int32)), .unset, .unset]) rfl ?_
    show Stp p e below T1 m 8 #[.val (.ref pr0), .val (.ref w_truth_pr0), .val (.int (4 : Int32)), .unset, .unset] [] _
    refine XS.iconst X1.here hx rfl (hb hby d6_8) ?_
    show Stp p e below T1 m 9 #[.val (.ref pr0), .val (.ref w_truth_pr0), .val (.int (4 : Int32)), .unset, .unset] [(.int (0 : Int32))] _
    refine XS.istoreN X1.here hx rfl (hb hby d6_9) rfl (l' := #[.val (.ref pr0), .val (.ref w_truth_pr0), .val (.int (4 : Int32)), .val (.int (0 : Int32)), .unset]) rfl ?_
    show Stp p e below T1 m 10 #[.val (.ref pr0), .val (.ref w_truth_pr0), .val (.int (4 : Int32)), .val (.int (0 : Int32)), .unset] [] _
    refine XS.iloadN X1.here hx rfl (hb hby d6_10) rfl ?_
    show Stp p e below T1 m 11 #[.val (.ref pr0), .val (.ref w_truth_pr0), .val (.int (4 : Int32)), .val (.int (0 : Int32)), .unset] [(.int (0 : Int32))] _
    refine XS.iloadN X1.here hx rfl (hb hby d6_11) rfl ?_
    show Stp p e below T1 m 12 #[.val (.ref pr0), .val (.ref w_truth_pr0), .val (.int (4 : Int32)), .val (.int (0 : Int32)), .unset] [(.int (4 : Int32)), (.int (0 : Int32))] _
    refine XS.icmpNo X1.here hx rfl (hb hby d6_12) rfl (tlt (by decide : (0 : Int32) < (4 : Int32))).2.1 ?_
    show Stp p e below T1 m 15 #[.val (.ref pr0), .val (.ref w_truth_pr0), .val (.int (4 : Int32)), .val (.int (0 : Int32)), .unset] [] _
    refine XS.aloadN X1.here hx rfl (hb hby d6_15) rfl rfl ?_
    show Stp p e below T1 m 16 #[.val (.ref pr0), .val (.ref w_truth_pr0), .val (.int (4 : Int32)), .val (.int (0 : Int32)), .unset] [(.ref w_truth_pr0)] _
    refine XS.iloadN X1.here hx rfl (hb hby d6_16) rfl ?_
    show Stp p e below T1 m 17 #[.val (.ref pr0), .val (.ref w_truth_pr0), .val (.int (4 : Int32)), .val (.int (0 : Int32)), .unset] [(.int (0 : Int32)), (.ref w_truth_pr0)] _
    refine X1.baloadBooleans hx (j := (0 : Int32)) (v := (.int c0_w_truth_pr0)) (by rw [e1]; exact Arc3.1) (State.isArrayOf_alike hZ.alike Arc3.2.1) Arc3.2.2 hin4 (Has.at Hc3 hin4 rfl) (g := (mkF m 17 #[.val (.ref pr0), .val (.ref w_truth_pr0), .val (.int (4 : Int32)), .val (.int (0 : Int32)), .unset] [(.int (0 : Int32)), (.ref w_truth_pr0)])) rfl rfl (hb hby d6_17) _ ?_
    show Stp p e below T1 m 18 #[.val (.ref pr0), .val (.ref w_truth_pr0), .val (.int (4 : Int32)), .val (.int (0 : Int32)), .unset] [(.int c0_w_truth_pr0)] _
    refine XS.istore X1.here hx rfl (hb hby d6_18) rfl (l' := #[.val (.ref pr0), .val (.ref w_truth_pr0), .val (.int (4 : Int32)), .val (.int (0 : Int32)), .val (.int c0_w_truth_pr0)]) rfl ?_
    show Stp p e below T1 m 20 #[.val (.ref pr0), .val (.ref w_truth_pr0), .val (.int (4 : Int32)), .val (.int (0 : Int32)), .val (.int c0_w_truth_pr0)] [] _
    refine XS.iload X1.here hx rfl (hb hby d6_20) rfl ?_
    show Stp p e below T1 m 22 #[.val (.ref pr0), .val (.ref w_truth_pr0), .val (.int (4 : Int32)), .val (.int (0 : Int32)), .val (.int c0_w_truth_pr0)] [(.int c0_w_truth_pr0)] _
    refine XS.aloadN X1.here hx rfl (hb hby d6_22) rfl rfl ?_
    show Stp p e below T1 m 23 #[.val (.ref pr0), .val (.ref w_truth_pr0), .val (.int (4 : Int32)), .val (.int (0 : Int32)), .val (.int c0_w_truth_pr0)] [(.ref pr0), (.int c0_w_truth_pr0)] _
    refine st5 _ ?_
    show Stp p e below T5 m 26 #[.val (.ref pr0), .val (.ref w_truth_pr0), .val (.int (4 : Int32)), .val (.int (0 : Int32)), .val (.int c0_w_truth_pr0)] [(.ref w_truth_pr0), (.int c0_w_truth_pr0)] _
    refine XS.iconst X5.here hx rfl (hb hby d6_26) ?_
    show Stp p e below T5 m 27 #[.val (.ref pr0), .val (.ref w_truth_pr0), .val (.int (4 : Int32)), .val (.int (0 : Int32)), .val (.int c0_w_truth_pr0)] [(.int (0 : Int32)), (.ref w_truth_pr0), (.int c0_w_truth_pr0)] _
    refine X5.baloadBooleans hx (j := (0 : Int32)) (v := (.int c0_w_truth_pr0)) (by rw [e5]; exact Arc6.1) (State.isArrayOf_alike hZ.alike Arc6.2.1) Arc6.2.2 hin7 (Has.at Hc6 hin7 rfl) (g := (mkF m 27 #[.val (.ref pr0), .val (.ref w_truth_pr0), .val (.int (4 : Int32)), .val (.int (0 : Int32)), .val (.int c0_w_truth_pr0)] [(.int (0 : Int32)), (.ref w_truth_pr0), (.int c0_w_truth_pr0)])) rfl rfl (hb hby d6_27) _ ?_
    show Stp p e below T5 m 28 #[.val (.ref pr0), .val (.ref w_truth_pr0), .val (.int (4 : Int32)), .val (.int (0 : Int32)), .val (.int c0_w_truth_pr0)] [(.int c0_w_truth_pr0), (.int c0_w_truth_pr0)] _
    refine XS.icmpYes X5.here hx rfl (pc0 := 28) (pc' := 33) rfl (hb hby d6_28) rfl (teq (rfl : c0_w_truth_pr0 = c0_w_truth_pr0)).1 (by decide) (by decide) ?_
    show Stp p e below T5 m 33 #[.val (.ref pr0), .val (.ref w_truth_pr0), .val (.int (4 : Int32)), .val (.int (0 : Int32)), .val (.int c0_w_truth_pr0)] [] _
    refine XS.iinc X5.here hx rfl (hb hby d6_33) rfl (l' := #[.val (.ref pr0), .val (.ref w_truth_pr0), .val (.int (4 : Int32)), .val (.int (1 : Int32)), .val (.int c0_w_truth_pr0)]) rfl ?_
    show Stp p e below T5 m 36 #[.val (.ref pr0), .val (.ref w_truth_pr0), .val (.int (4 : Int32)), .val (.int (1 : Int32)), .val (.int c0_w_truth_pr0)] [] _
    refine XS.goto X5.here hx rfl (pc0 := 36) (pc' := 10) rfl (hb hby d6_36) (by decide) (by decide) ?_
    show Stp p e below T5 m 10 #[.val (.ref pr0), .val (.ref w_truth_pr0), .val (.int (4 : Int32)), .val (.int (1 : Int32)), .val (.int c0_w_truth_pr0)] [] _
    refine XS.iloadN X5.here hx rfl (hb hby d6_10) rfl ?_
    show Stp p e below T5 m 11 #[.val (.ref pr0), .val (.ref w_truth_pr0), .val (.int (4 : Int32)), .val (.int (1 : Int32)), .val (.int c0_w_truth_pr0)] [(.int (1 : Int32))] _
    refine XS.iloadN X5.here hx rfl (hb hby d6_11) rfl ?_
    show Stp p e below T5 m 12 #[.val (.ref pr0), .val (.ref w_truth_pr0), .val (.int (4 : Int32)), .val (.int (1 : Int32)), .val (.int c0_w_truth_pr0)] [(.int (4 : Int32)), (.int (1 : Int32))] _
    refine XS.icmpNo X5.here hx rfl (hb hby d6_12) rfl (tlt (by decide : (1 : Int32) < (4 : Int32))).2.1 ?_
    show Stp p e below T5 m 15 #[.val (.ref pr0), .val (.ref w_truth_pr0), .val (.int (4 : Int32)), .val (.int (1 : Int32)), .val (.int c0_w_truth_pr0)] [] _
    refine XS.aloadN X5.here hx rfl (hb hby d6_15) rfl rfl ?_
    show Stp p e below T5 m 16 #[.val (.ref pr0), .val (.ref w_truth_pr0), .val (.int (4 : Int32)), .val (.int (1 : Int32)), .val (.int c0_w_truth_pr0)] [(.ref w_truth_pr0)] _
    refine XS.iloadN X5.here hx rfl (hb hby d6_16) rfl ?_
    show Stp p e below T5 m 17 #[.val (.ref pr0), .val (.ref w_truth_pr0), .val (.int (4 : Int32)), .val (.int (1 : Int32)), .val (.int c0_w_truth_pr0)] [(.int (1 : Int32)), (.ref w_truth_pr0)] _
    refine X5.baloadBooleans hx (j := (1 : Int32)) (v := (.int c1_w_truth_pr0)) (by rw [e5]; exact Arc8.1) (State.isArrayOf_alike hZ.alike Arc8.2.1) Arc8.2.2 hin9 (Has.at Hc8 hin9 rfl) (g := (mkF m 17 #[.val (.ref pr0), .val (.ref w_truth_pr0), .val (.int (4 : Int32)), .val (.int (1 : Int32)), .val (.int c0_w_truth_pr0)] [(.int (1 : Int32)), (.ref w_truth_pr0)])) rfl rfl (hb hby d6_17) _ ?_
    show Stp p e below T5 m 18 #[.val (.ref pr0), .val (.ref w_truth_pr0), .val (.int (4 : Int32)), .val (.int (1 : Int32)), .val (.int c0_w_truth_pr0)] [(.int c1_w_truth_pr0)] _
    refine XS.istore X5.here hx rfl (hb hby d6_18) rfl (l' := #[.val (.ref pr0), .val (.ref w_truth_pr0), .val (.int (4 : Int32)), .val (.int (1 : Int32)), .val (.int c1_w_truth_pr0)]) rfl ?_
    show Stp p e below T5 m 20 #[.val (.ref pr0), .val (.ref w_truth_pr0), .val (.int (4 : Int32)), .val (.int (1 : Int32)), .val (.int c1_w_truth_pr0)] [] _
    refine XS.iload X5.here hx rfl (hb hby d6_20) rfl ?_
    show Stp p e below T5 m 22 #[.val (.ref pr0), .val (.ref w_truth_pr0), .val (.int (4 : Int32)), .val (.int (1 : Int32)), .val (.int c1_w_truth_pr0)] [(.int c1_w_truth_pr0)] _
    refine XS.aloadN X5.here hx rfl (hb hby d6_22) rfl rfl ?_
    show Stp p e below T5 m 23 #[.val (.ref pr0), .val (.ref w_truth_pr0), .val (.int (4 : Int32)), .val (.int (1 : Int32)), .val (.int c1_w_truth_pr0)] [(.ref pr0), (.int c1_w_truth_pr0)] _
    refine st10 _ ?_
    show Stp p e below T10 m 26 #[.val (.ref pr0), .val (.ref w_truth_pr0), .val (.int (4 : Int32)), .val (.int (1 : Int32)), .val (.int c1_w_truth_pr0)] [(.ref w_truth_pr0), (.int c1_w_truth_pr0)] _
    refine XS.iconst X10.here hx rfl (hb hby d6_26) ?_
    show Stp p e below T10 m 27 #[.val (.ref pr0), .val (.ref w_truth_pr0), .val (.int (4 : Int32)), .val (.int (1 : Int32)), .val (.int c1_w_truth_pr0)] [(.int (0 : Int32)), (.ref w_truth_pr0), (.int c1_w_truth_pr0)] _
    refine X10.baloadBooleans hx (j := (0 : Int32)) (v := (.int c0_w_truth_pr0)) (by rw [e10]; exact Arc11.1) (State.isArrayOf_alike hZ.alike Arc11.2.1) Arc11.2.2 hin12 (Has.at Hc11 hin12 rfl) (g := (mkF m 27 #[.val (.ref pr0), .val (.ref w_truth_pr0), .val (.int (4 : Int32)), .val (.int (1 : Int32)), .val (.int c1_w_truth_pr0)] [(.int (0 : Int32)), (.ref w_truth_pr0), (.int c1_w_truth_pr0)])) rfl rfl (hb hby d6_27) _ ?_
    show Stp p e below T10 m 28 #[.val (.ref pr0), .val (.ref w_truth_pr0), .val (.int (4 : Int32)), .val (.int (1 : Int32)), .val (.int c1_w_truth_pr0)] [(.int c0_w_truth_pr0), (.int c1_w_truth_pr0)] _
    refine XS.icmpYes X10.here hx rfl (pc0 := 28) (pc' := 33) rfl (hb hby d6_28) rfl (teq hc28_0).1 (by decide) (by decide) ?_
    show Stp p e below T10 m 33 #[.val (.ref pr0), .val (.ref w_truth_pr0), .val (.int (4 : Int32)), .val (.int (1 : Int32)), .val (.int c1_w_truth_pr0)] [] _
    refine XS.iinc X10.here hx rfl (hb hby d6_33) rfl (l' := #[.val (.ref pr0), .val (.ref w_truth_pr0), .val (.int (4 : Int32)), .val (.int (2 : Int32)), .val (.int c1_w_truth_pr0)]) rfl ?_
    show Stp p e below T10 m 36 #[.val (.ref pr0), .val (.ref w_truth_pr0), .val (.int (4 : Int32)), .val (.int (2 : Int32)), .val (.int c1_w_truth_pr0)] [] _
    refine XS.goto X10.here hx rfl (pc0 := 36) (pc' := 10) rfl (hb hby d6_36) (by decide) (by decide) ?_
    show Stp p e below T10 m 10 #[.val (.ref pr0), .val (.ref w_truth_pr0), .val (.int (4 : Int32)), .val (.int (2 : Int32)), .val (.int c1_w_truth_pr0)] [] _
    refine XS.iloadN X10.here hx rfl (hb hby d6_10) rfl ?_
    show Stp p e below T10 m 11 #[.val (.ref pr0), .val (.ref w_truth_pr0), .val (.int (4 : Int32)), .val (.int (2 : Int32)), .val (.int c1_w_truth_pr0)] [(.int (2 : Int32))] _
    refine XS.iloadN X10.here hx rfl (hb hby d6_11) rfl ?_
    show Stp p e below T10 m 12 #[.val (.ref pr0), .val (.ref w_truth_pr0), .val (.int (4 : Int32)), .val (.int (2 : Int32)), .val (.int c1_w_truth_pr0)] [(.int (4 : Int32)), (.int (2 : Int32))] _
    refine XS.icmpNo X10.here hx rfl (hb hby d6_12) rfl (tlt (by decide : (2 : Int32) < (4 : Int32))).2.1 ?_
    show Stp p e below T10 m 15 #[.val (.ref pr0), .val (.ref w_truth_pr0), .val (.int (4 : Int32)), .val (.int (2 : Int32)), .val (.int c1_w_truth_pr0)] [] _
    refine XS.aloadN X10.here hx rfl (hb hby d6_15) rfl rfl ?_
    show Stp p e below T10 m 16 #[.val (.ref pr0), .val (.ref w_truth_pr0), .val (.int (4 : Int32)), .val (.int (2 : Int32)), .val (.int c1_w_truth_pr0)] [(.ref w_truth_pr0)] _
    refine XS.iloadN X10.here hx rfl (hb hby d6_16) rfl ?_
    show Stp p e below T10 m 17 #[.val (.ref pr0), .val (.ref w_truth_pr0), .val (.int (4 : Int32)), .val (.int (2 : Int32)), .val (.int c1_w_truth_pr0)] [(.int (2 : Int32)), (.ref w_truth_pr0)] _
    refine X10.baloadBooleans hx (j := (2 : Int32)) (v := (.int c2_w_truth_pr0)) (by rw [e10]; exact Arc13.1) (State.isArrayOf_alike hZ.alike Arc13.2.1) Arc13.2.2 hin14 (Has.at Hc13 hin14 rfl) (g := (mkF m 17 #[.val (.ref pr0), .val (.ref w_truth_pr0), .val (.int (4 : Int32)), .val (.int (2 : Int32)), .val (.int c1_w_truth_pr0)] [(.int (2 : Int32)), (.ref w_truth_pr0)])) rfl rfl (hb hby d6_17) _ ?_
    show Stp p e below T10 m 18 #[.val (.ref pr0), .val (.ref w_truth_pr0), .val (.int (4 : Int32)), .val (.int (2 : Int32)), .val (.int c1_w_truth_pr0)] [(.int c2_w_truth_pr0)] _
    refine XS.istore X10.here hx rfl (hb hby d6_18) rfl (l' := #[.val (.ref pr0), .val (.ref w_truth_pr0), .val (.int (4 : Int32)), .val (.int (2 : Int32)), .val (.int c2_w_truth_pr0)]) rfl ?_
    show Stp p e below T10 m 20 #[.val (.ref pr0), .val (.ref w_truth_pr0), .val (.int (4 : Int32)), .val (.int (2 : Int32)), .val (.int c2_w_truth_pr0)] [] _
    refine XS.iload X10.here hx rfl (hb hby d6_20) rfl ?_
    show Stp p e below T10 m 22 #[.val (.ref pr0), .val (.ref w_truth_pr0), .val (.int (4 : Int32)), .val (.int (2 : Int32)), .val (.int c2_w_truth_pr0)] [(.int c2_w_truth_pr0)] _
    refine XS.aloadN X10.here hx rfl (hb hby d6_22) rfl rfl ?_
    show Stp p e below T10 m 23 #[.val (.ref pr0), .val (.ref w_truth_pr0), .val (.int (4 : Int32)), .val (.int (2 : Int32)), .val (.int c2_w_truth_pr0)] [(.ref pr0), (.int c2_w_truth_pr0)] _
    refine st15 _ ?_
    show Stp p e below T15 m 26 #[.val (.ref pr0), .val (.ref w_truth_pr0), .val (.int (4 : Int32)), .val (.int (2 : Int32)), .val (.int c2_w_truth_pr0)] [(.ref w_truth_pr0), (.int c2_w_truth_pr0)] _
    refine XS.iconst X15.here hx rfl (hb hby d6_26) ?_
    show Stp p e below T15 m 27 #[.val (.ref pr0), .val (.ref w_truth_pr0), .val (.int (4 : Int32)), .val (.int (2 : Int32)), .val (.int c2_w_truth_pr0)] [(.int (0 : Int32)), (.ref w_truth_pr0), (.int c2_w_truth_pr0)] _
    refine X15.baloadBooleans hx (j := (0 : Int32)) (v := (.int c0_w_truth_pr0)) (by rw [e15]; exact Arc16.1) (State.isArrayOf_alike hZ.alike Arc16.2.1) Arc16.2.2 hin17 (Has.at Hc16 hin17 rfl) (g := (mkF m 27 #[.val (.ref pr0), .val (.ref w_truth_pr0), .val (.int (4 : Int32)), .val (.int (2 : Int32)), .val (.int c2_w_truth_pr0)] [(.int (0 : Int32)), (.ref w_truth_pr0), (.int c2_w_truth_pr0)])) rfl rfl (hb hby d6_27) _ ?_
    show Stp p e below T15 m 28 #[.val (.ref pr0), .val (.ref w_truth_pr0), .val (.int (4 : Int32)), .val (.int (2 : Int32)), .val (.int c2_w_truth_pr0)] [(.int c0_w_truth_pr0), (.int c2_w_truth_pr0)] _
    refine XS.icmpYes X15.here hx rfl (pc0 := 28) (pc' := 33) rfl (hb hby d6_28) rfl (teq hc28_1).1 (by decide) (by decide) ?_
    show Stp p e below T15 m 33 #[.val (.ref pr0), .val (.ref w_truth_pr0), .val (.int (4 : Int32)), .val (.int (2 : Int32)), .val (.int c2_w_truth_pr0)] [] _
    refine XS.iinc X15.here hx rfl (hb hby d6_33) rfl (l' := #[.val (.ref pr0), .val (.ref w_truth_pr0), .val (.int (4 : Int32)), .val (.int (3 : Int32)), .val (.int c2_w_truth_pr0)]) rfl ?_
    show Stp p e below T15 m 36 #[.val (.ref pr0), .val (.ref w_truth_pr0), .val (.int (4 : Int32)), .val (.int (3 : Int32)), .val (.int c2_w_truth_pr0)] [] _
    refine XS.goto X15.here hx rfl (pc0 := 36) (pc' := 10) rfl (hb hby d6_36) (by decide) (by decide) ?_
    show Stp p e below T15 m 10 #[.val (.ref pr0), .val (.ref w_truth_pr0), .val (.int (4 : Int32)), .val (.int (3 : Int32)), .val (.int c2_w_truth_pr0)] [] _
    refine XS.iloadN X15.here hx rfl (hb hby d6_10) rfl ?_
    show Stp p e below T15 m 11 #[.val (.ref pr0), .val (.ref w_truth_pr0), .val (.int (4 : Int32)), .val (.int (3 : Int32)), .val (.int c2_w_truth_pr0)] [(.int (3 : Int32))] _
    refine XS.iloadN X15.here hx rfl (hb hby d6_11) rfl ?_
    show Stp p e below T15 m 12 #[.val (.ref pr0), .val (.ref w_truth_pr0), .val (.int (4 : Int32)), .val (.int (3 : Int32)), .val (.int c2_w_truth_pr0)] [(.int (4 : Int32)), (.int (3 : Int32))] _
    refine XS.icmpNo X15.here hx rfl (hb hby d6_12) rfl (tlt (by decide : (3 : Int32) < (4 : Int32))).2.1 ?_
    show Stp p e below T15 m 15 #[.val (.ref pr0), .val (.ref w_truth_pr0), .val (.int (4 : Int32)), .val (.int (3 : Int32)), .val (.int c2_w_truth_pr0)] [] _
    refine XS.aloadN X15.here hx rfl (hb hby d6_15) rfl rfl ?_
    show Stp p e below T15 m 16 #[.val (.ref pr0), .val (.ref w_truth_pr0), .val (.int (4 : Int32)), .val (.int (3 : Int32)), .val (.int c2_w_truth_pr0)] [(.ref w_truth_pr0)] _
    refine XS.iloadN X15.here hx rfl (hb hby d6_16) rfl ?_
    show Stp p e below T15 m 17 #[.val (.ref pr0), .val (.ref w_truth_pr0), .val (.int (4 : Int32)), .val (.int (3 : Int32)), .val (.int c2_w_truth_pr0)] [(.int (3 : Int32)), (.ref w_truth_pr0)] _
    refine X15.baloadBooleans hx (j := (3 : Int32)) (v := (.int c3_w_truth_pr0)) (by rw [e15]; exact Arc18.1) (State.isArrayOf_alike hZ.alike Arc18.2.1) Arc18.2.2 hin19 (Has.at Hc18 hin19 rfl) (g := (mkF m 17 #[.val (.ref pr0), .val (.ref w_truth_pr0), .val (.int (4 : Int32)), .val (.int (3 : Int32)), .val (.int c2_w_truth_pr0)] [(.int (3 : Int32)), (.ref w_truth_pr0)])) rfl rfl (hb hby d6_17) _ ?_
    show Stp p e below T15 m 18 #[.val (.ref pr0), .val (.ref w_truth_pr0), .val (.int (4 : Int32)), .val (.int (3 : Int32)), .val (.int c2_w_truth_pr0)] [(.int c3_w_truth_pr0)] _
    refine XS.istore X15.here hx rfl (hb hby d6_18) rfl (l' := #[.val (.ref pr0), .val (.ref w_truth_pr0), .val (.int (4 : Int32)), .val (.int (3 : Int32)), .val (.int c3_w_truth_pr0)]) rfl ?_
    show Stp p e below T15 m 20 #[.val (.ref pr0), .val (.ref w_truth_pr0), .val (.int (4 : Int32)), .val (.int (3 : Int32)), .val (.int c3_w_truth_pr0)] [] _
    refine XS.iload X15.here hx rfl (hb hby d6_20) rfl ?_
    show Stp p e below T15 m 22 #[.val (.ref pr0), .val (.ref w_truth_pr0), .val (.int (4 : Int32)), .val (.int (3 : Int32)), .val (.int c3_w_truth_pr0)] [(.int c3_w_truth_pr0)] _
    refine XS.aloadN X15.here hx rfl (hb hby d6_22) rfl rfl ?_
    show Stp p e below T15 m 23 #[.val (.ref pr0), .val (.ref w_truth_pr0), .val (.int (4 : Int32)), .val (.int (3 : Int32)), .val (.int c3_w_truth_pr0)] [(.ref pr0), (.int c3_w_truth_pr0)] _
    refine st20 _ ?_
    show Stp p e below T20 m 26 #[.val (.ref pr0), .val (.ref w_truth_pr0), .val (.int (4 : Int32)), .val (.int (3 : Int32)), .val (.int c3_w_truth_pr0)] [(.ref w_truth_pr0), (.int c3_w_truth_pr0)] _
    refine XS.iconst X20.here hx rfl (hb hby d6_26) ?_
    show Stp p e below T20 m 27 #[.val (.ref pr0), .val (.ref w_truth_pr0), .val (.int (4 : Int32)), .val (.int (3 : Int32)), .val (.int c3_w_truth_pr0)] [(.int (0 : Int32)), (.ref w_truth_pr0), (.int c3_w_truth_pr0)] _
    refine X20.baloadBooleans hx (j := (0 : Int32)) (v := (.int c0_w_truth_pr0)) (by rw [e20]; exact Arc21.1) (State.isArrayOf_alike hZ.alike Arc21.2.1) Arc21.2.2 hin22 (Has.at Hc21 hin22 rfl) (g := (mkF m 27 #[.val (.ref pr0), .val (.ref w_truth_pr0), .val (.int (4 : Int32)), .val (.int (3 : Int32)), .val (.int c3_w_truth_pr0)] [(.int (0 : Int32)), (.ref w_truth_pr0), (.int c3_w_truth_pr0)])) rfl rfl (hb hby d6_27) _ ?_
    show Stp p e below T20 m 28 #[.val (.ref pr0), .val (.ref w_truth_pr0), .val (.int (4 : Int32)), .val (.int (3 : Int32)), .val (.int c3_w_truth_pr0)] [(.int c0_w_truth_pr0), (.int c3_w_truth_pr0)] _
    refine XS.icmpNo X20.here hx rfl (hb hby d6_28) rfl (feq hc28_2).1 ?_
    show Stp p e below T20 m 31 #[.val (.ref pr0), .val (.ref w_truth_pr0), .val (.int (4 : Int32)), .val (.int (3 : Int32)), .val (.int c3_w_truth_pr0)] [] _
    refine XS.iconst X20.here hx rfl (hb hby d6_31) ?_
    show Stp p e below T20 m 32 #[.val (.ref pr0), .val (.ref w_truth_pr0), .val (.int (4 : Int32)), .val (.int (3 : Int32)), .val (.int c3_w_truth_pr0)] [(.int (0 : Int32))] _
    exact retN X20 hx (t := .boolean) Bd.returns (by simp) (hb hby d6_32) hr
  · show Q6_k2ttf Z pr0 w_truth_pr0 kk_w_truth_pr0 c0_w_truth_pr0 c1_w_truth_pr0 c2_w_truth_pr0 c3_w_truth_pr0 h0 n0 _ T20.heap _
    rw [e20]
    exact ⟨rfl, N0, rfl⟩
def Q6_k2tf (Z : State) (pr0 : Addr) (w_truth_pr0 : Addr) (kk_w_truth_pr0 : ClassId) (c0_w_truth_pr0 : Int32) (c1_w_truth_pr0 : Int32) (c2_w_truth_pr0 : Int32) (c3_w_truth_pr0 : Int32) (h0 : Heap) (n0 : Nat) (v : Option Value) (h : Heap) (L : List Loc) : Prop := v = some (.int (0 : Int32)) ∧ Fr n0 L ∧ h = h0
set_option maxRecDepth 65536 in
set_option maxHeartbeats 40000000 in
theorem rm6_k2tf (l : Launch) (Z : State) (a0 : Array Value) (hw : ∀ d ∈ tables_1, d.before a0 Z = true) (ws : List Jvm.Cond) (pr0 : Addr) (w_truth_pr0 : Addr) (kk_w_truth_pr0 : ClassId) (c0_w_truth_pr0 : Int32) (c1_w_truth_pr0 : Int32) (c2_w_truth_pr0 : Int32) (c3_w_truth_pr0 : Int32) (h0 : Heap) (n0 : Nat) (Z0 : n0 ≤ h0.size) (O0 : Old Z n0 h0) (F_truth_pr0 : Fld Z h0 pr0 "com/example/gudl/gudl/GroundFactor" "truth" "[Z" (.ref w_truth_pr0)) (V_w_truth_pr0 : Arv Z h0 w_truth_pr0 kk_w_truth_pr0 .boolean (4 : Int32) [(.int c0_w_truth_pr0), (.int c1_w_truth_pr0), (.int c2_w_truth_pr0), (.int c3_w_truth_pr0)] (.int (0 : Int32))) (hc28_0 : c1_w_truth_pr0 = c0_w_truth_pr0) (hc28_1 : ¬ (c2_w_truth_pr0 = c0_w_truth_pr0)) :
    MetFree l (⟨"com/example/gudl/gudl/GroundFactor", "isConstant", "()Z"⟩ : MethodName) (head1 (Jvm.Cond.code (⟨"com/example/gudl/gudl/GroundFactor", "isConstant", "()Z"⟩ : MethodName) prog_42_method_8_code 5 (some .boolean) :: ws) ({ frames := 0, cells := 0, slots := 0, locals := 0 } : Room)) (fun a U => a = #[(.ref pr0)] ∧ Z.Warmed39 U.vm ∧ U.heap = h0) (fun _ _ _ _ _ => True) (fun _ U o U' => ∃ v L, o = .returned v ∧ Q6_k2tf Z pr0 w_truth_pr0 kk_w_truth_pr0 c0_w_truth_pr0 c1_w_truth_pr0 c2_w_truth_pr0 c3_w_truth_pr0 h0 n0 v U'.heap L ∧ FrameEnd U o U' L ({ frames := 0, cells := 0, slots := 0, locals := 0 } : Room).cells ({ frames := 0, cells := 0, slots := 0, locals := 0 } : Room).slots) := by
  refine MetFree.of_bodySF (plainFor_of_name pn_6) hisR ?_
  intro p e s m args below meth c s₁ Bd hml0 hP hK
  obtain ⟨rfl, hZ, hh⟩ := hP
  have hx := Bd.exec
  have hby := Bd.bytes
  have hml : c.maxLocals = 5 := hml0
  have hown : s.vm.findClass "com/example/gudl/gudl/GroundFactor" = some m.cls := findClass_of_methodNamed Bd.named
  have hnm := (name_of_methodNamed Bd.named Bd.method).1
  have X0 : Stand p l e ({ frames := 0, cells := 0, slots := 0, locals := 0 } : Room) s m #[(.ref pr0)] below meth c s₁ [] 0 0 := Stand.of_body Bd
  have e0 : s₁.heap = h0 := by rw [← hh, Bd.state]; rfl
  have N0 := Fr.nil n0
  have pre0 : ∀ t, Steps p.tables e below (s₁.setTop (mkF m 0 #[.val (.ref pr0), .unset, .unset, .unset, .unset] [])) t → Steps p.tables e below (s₁.setTop (entryFrame m #[(.ref pr0)] 5)) t := fun t k => castTop (ef_6 m pr0) k
  obtain ⟨T1, X1, e1, st1⟩ := getF X0 hx hZ hown (host := "") (Or.inl (own_W hw 25 rfl)) Via.refl e0 F_truth_pr0 (g := (mkF m 1 #[.val (.ref pr0), .unset, .unset, .unset, .unset] [(.ref pr0)])) rfl rfl (hb hby d6_1)
  have V_c2 := V_w_truth_pr0
  obtain ⟨c2, Arc2, qc2, Sc2, Nc2, Hc2, Gc2⟩ := V_c2
  have V_c3 := V_w_truth_pr0
  obtain ⟨c3, Arc3, qc3, Sc3, Nc3, Hc3, Gc3⟩ := V_c3
  have hin4 : ¬ ((0 : Int32) < 0 ∨ c3.slots.size ≤ ((0 : Int32)).toNatClampNeg) := inb_of Sc3 ⟨by decide, by decide⟩
  obtain ⟨T5, X5, e5, st5⟩ := getF X1 hx hZ hown (host := "") (Or.inl (own_W hw 25 rfl)) Via.refl e1 F_truth_pr0 (g := (mkF m 23 #[.val (.ref pr0), .val (.ref w_truth_pr0), .val (.int (4 : Int32)), .val (.int (0 : Int32)), .val (.int c0_w_truth_pr0)] [(.ref pr0), (.int c0_w_truth_pr0)])) rfl rfl (hb hby d6_23)
  have V_c6 := V_w_truth_pr0
  obtain ⟨c6, Arc6, qc6, Sc6, Nc6, Hc6, Gc6⟩ := V_c6
  have hin7 : ¬ ((0 : Int32) < 0 ∨ c6.slots.size ≤ ((0 : Int32)).toNatClampNeg) := inb_of Sc6 ⟨by decide, by decide⟩
  have V_c8 := V_w_truth_pr0
  obtain ⟨c8, Arc8, qc8, Sc8, Nc8, Hc8, Gc8⟩ := V_c8
  have hin9 : ¬ ((1 : Int32) < 0 ∨ c8.slots.size ≤ ((1 : Int32)).toNatClampNeg) := inb_of Sc8 ⟨by decide, by decide⟩
  obtain ⟨T10, X10, e10, st10⟩ := getF X5 hx hZ hown (host := "") (Or.inl (own_W hw 25 rfl)) Via.refl e5 F_truth_pr0 (g := (mkF m 23 #[.val (.ref pr0), .val (.ref w_truth_pr0), .val (.int (4 : Int32)), .val (.int (1 : Int32)), .val (.int c1_w_truth_pr0)] [(.ref pr0), (.int c1_w_truth_pr0)])) rfl rfl (hb hby d6_23)
  have V_c11 := V_w_truth_pr0
  obtain ⟨c11, Arc11, qc11, Sc11, Nc11, Hc11, Gc11⟩ := V_c11
  have hin12 : ¬ ((0 : Int32) < 0 ∨ c11.slots.size ≤ ((0 : Int32)).toNatClampNeg) := inb_of Sc11 ⟨by decide, by decide⟩
  have V_c13 := V_w_truth_pr0
  obtain ⟨c13, Arc13, qc13, Sc13, Nc13, Hc13, Gc13⟩ := V_c13
  have hin14 : ¬ ((2 : Int32) < 0 ∨ c13.slots.size ≤ ((2 : Int32)).toNatClampNeg) := inb_of Sc13 ⟨by decide, by decide⟩
  obtain ⟨T15, X15, e15, st15⟩ := getF X10 hx hZ hown (host := "") (Or.inl (own_W hw 25 rfl)) Via.refl e10 F_truth_pr0 (g := (mkF m 23 #[.val (.ref pr0), .val (.ref w_truth_pr0), .val (.int (4 : Int32)), .val (.int (2 : Int32)), .val (.int c2_w_truth_pr0)] [(.ref pr0), (.int c2_w_truth_pr0)])) rfl rfl (hb hby d6_23)
  have V_c16 := V_w_truth_pr0
  obtain ⟨c16, Arc16, qc16, Sc16, Nc16, Hc16, Gc16⟩ := V_c16
  have hin17 : ¬ ((0 : Int32) < 0 ∨ c16.slots.size ≤ ((0 : Int32)).toNatClampNeg) := inb_of Sc16 ⟨by decide, by decide⟩
  obtain ⟨fs, hr, hrun, hended, hW, hsame⟩ := X15.leave (v := some (.int (0 : Int32))) (fun h => by rw [Bd.returns] at h; cases h)
  refine ⟨_, _, pre0 _ ?_, hrun, hended, _, _, rfl, ?_, ⟨_, rfl⟩, hW, hsame.mono (by decide) (by decide)⟩
  · show Stp p e below s₁ m 0 #[.val (.ref pr0), .unset, .unset, .unset, .unset] [] _
    refine XS.aloadN X0.here hx rfl (hb hby d6_0) rfl rfl ?_
    show Stp p e below s₁ m 1 #[.val (.ref pr0), .unset, .unset, .unset, .unset] [(.ref pr0)] _
    refine st1 _ ?_
    show Stp p e below T1 m 4 #[.val (.ref pr0), .unset, .unset, .unset, .unset] [(.ref w_truth_pr0)] _
    refine XS.astoreN X1.here hx rfl (hb hby d6_4) rfl rfl (l' := #[.val (.ref pr0), .val (.ref w_truth_pr0), .unset, .unset, .unset]) rfl ?_
    show Stp p e below T1 m 5 #[.val (.ref pr0), .val (.ref w_truth_pr0), .unset, .unset, .unset] [] _
    refine XS.aloadN X1.here hx rfl (hb hby d6_5) rfl rfl ?_
    show Stp p e below T1 m 6 #[.val (.ref pr0), .val (.ref w_truth_pr0), .unset, .unset, .unset] [(.ref w_truth_pr0)] _
    refine X1.arraylength hx (by rw [e1]; exact Arc2.1) (State.isArrayOf_alike hZ.alike Arc2.2.1) (g := (mkF m 6 #[.val (.ref pr0), .val (.ref w_truth_pr0), .unset, .unset, .unset] [(.ref w_truth_pr0)])) rfl rfl (hb hby d6_6) _ ?_
    rw [len_of Sc2 Nc2]
    show Stp p e below T1 m 7 #[.val (.ref pr0), .val (.ref w_truth_pr0), .unset, .unset, .unset] [(.int (4 : Int32))] _
    refine XS.istoreN X1.here hx rfl (hb hby d6_7) rfl (l' := #[.val (.ref pr0), .val (.ref w_truth_pr0), .val (.int (4 : Int32)), .unset, .unset]) rfl ?_
    show Stp p e below T1 m 8 #[.val (.ref pr0), .val (.ref w_truth_pr0), .val (.int (4 : Int32)), .unset, .unset] [] _
    refine XS.iconst X1.here hx rfl (hb hby d6_8) ?_
    show Stp p e below T1 m 9 #[.val (.ref pr0), .val (.ref w_truth_pr0), .val (.int (4 : Int32)), .unset, .unset] [(.int (0 : Int32))] _
    refine XS.istoreN X1.here hx rfl (hb hby d6_9) rfl (l' := #[.val (.ref pr0), .val (.ref w_truth_pr0), .val (.int (4 : Int32)), .val (.int (0 : Int32)), .unset]) rfl ?_
    show Stp p e below T1 m 10 #[.val (.ref pr0), .val (.ref w_truth_pr0), .val (.int (4 : Int32)), .val (.int (0 : Int32)), .unset] [] _
    refine XS.iloadN X1.here hx rfl (hb hby d6_10) rfl ?_
    show Stp p e below T1 m 11 #[.val (.ref pr0), .val (.ref w_truth_pr0), .val (.int (4 : Int32)), .val (.int (0 : Int32)), .unset] [(.int (0 : Int32))] _
    refine XS.iloadN X1.here hx rfl (hb hby d6_11) rfl ?_
    show Stp p e below T1 m 12 #[.val (.ref pr0), .val (.ref w_truth_pr0), .val (.int (4 : Int32)), .val (.int (0 : Int32)), .unset] [(.int (4 : Int32)), (.int (0 : Int32))] _
    refine XS.icmpNo X1.here hx rfl (hb hby d6_12) rfl (tlt (by decide : (0 : Int32) < (4 : Int32))).2.1 ?_
    show Stp p e below T1 m 15 #[.val (.ref pr0), .val (.ref w_truth_pr0), .val (.int (4 : Int32)), .val (.int (0 : Int32)), .unset] [] _
    refine XS.aloadN X1.here hx rfl (hb hby d6_15) rfl rfl ?_
    show Stp p e below T1 m 16 #[.val (.ref pr0), .val (.ref w_truth_pr0), .val (.int (4 : Int32)), .val (.int (0 : Int32)), .unset] [(.ref w_truth_pr0)] _
    refine XS.iloadN X1.here hx rfl (hb hby d6_16) rfl ?_
    show Stp p e below T1 m 17 #[.val (.ref pr0), .val (.ref w_truth_pr0), .val (.int (4 : Int32)), .val (.int (0 : Int32)), .unset] [(.int (0 : Int32)), (.ref w_truth_pr0)] _
    refine X1.baloadBooleans hx (j := (0 : Int32)) (v := (.int c0_w_truth_pr0)) (by rw [e1]; exact Arc3.1) (State.isArrayOf_alike hZ.alike Arc3.2.1) Arc3.2.2 hin4 (Has.at Hc3 hin4 rfl) (g := (mkF m 17 #[.val (.ref pr0), .val (.ref w_truth_pr0), .val (.int (4 : Int32)), .val (.int (0 : Int32)), .unset] [(.int (0 : Int32)), (.ref w_truth_pr0)])) rfl rfl (hb hby d6_17) _ ?_
    show Stp p e below T1 m 18 #[.val (.ref pr0), .val (.ref w_truth_pr0), .val (.int (4 : Int32)), .val (.int (0 : Int32)), .unset] [(.int c0_w_truth_pr0)] _
    refine XS.istore X1.here hx rfl (hb hby d6_18) rfl (l' := #[.val (.ref pr0), .val (.ref w_truth_pr0), .val (.int (4 : Int32)), .val (.int (0 : Int32)), .val (.int c0_w_truth_pr0)]) rfl ?_
    show Stp p e below T1 m 20 #[.val (.ref pr0), .val (.ref w_truth_pr0), .val (.int (4 : Int32)), .val (.int (0 : Int32)), .val (.int c0_w_truth_pr0)] [] _
    refine XS.iload X1.here hx rfl (hb hby d6_20) rfl ?_
    show Stp p e below T1 m 22 #[.val (.ref pr0), .val (.ref w_truth_pr0), .val (.int (4 : Int32)), .val (.int (0 : Int32)), .val (.int c0_w_truth_pr0)] [(.int c0_w_truth_pr0)] _
    refine XS.aloadN X1.here hx rfl (hb hby d6_22) rfl rfl ?_
    show Stp p e below T1 m 23 #[.val (.ref pr0), .val (.ref w_truth_pr0), .val (.int (4 : Int32)), .val (.int (0 : Int32)), .val (.int c0_w_truth_pr0)] [(.ref pr0), (.int c0_w_truth_pr0)] _
    refine st5 _ ?_
    show Stp p e below T5 m 26 #[.val (.ref pr0), .val (.ref w_truth_pr0), .val (.int (4 : Int32)), .val (.int (0 : Int32)), .val (.int c0_w_truth_pr0)] [(.ref w_truth_pr0), (.int c0_w_truth_pr0)] _
    refine XS.iconst X5.here hx rfl (hb hby d6_26) ?_
    show Stp p e below T5 m 27 #[.val (.ref pr0), .val (.ref w_truth_pr0), .val (.int (4 : Int32)), .val (.int (0 : Int32)), .val (.int c0_w_truth_pr0)] [(.int (0 : Int32)), (.ref w_truth_pr0), (.int c0_w_truth_pr0)] _
    refine X5.baloadBooleans hx (j := (0 : Int32)) (v := (.int c0_w_truth_pr0)) (by rw [e5]; exact Arc6.1) (State.isArrayOf_alike hZ.alike Arc6.2.1) Arc6.2.2 hin7 (Has.at Hc6 hin7 rfl) (g := (mkF m 27 #[.val (.ref pr0), .val (.ref w_truth_pr0), .val (.int (4 : Int32)), .val (.int (0 : Int32)), .val (.int c0_w_truth_pr0)] [(.int (0 : Int32)), (.ref w_truth_pr0), (.int c0_w_truth_pr0)])) rfl rfl (hb hby d6_27) _ ?_
    show Stp p e below T5 m 28 #[.val (.ref pr0), .val (.ref w_truth_pr0), .val (.int (4 : Int32)), .val (.int (0 : Int32)), .val (.int c0_w_truth_pr0)] [(.int c0_w_truth_pr0), (.int c0_w_truth_pr0)] _
    refine XS.icmpYes X5.here hx rfl (pc0 := 28) (pc' := 33) rfl (hb hby d6_28) rfl (teq (rfl : c0_w_truth_pr0 = c0_w_truth_pr0)).1 (by decide) (by decide) ?_
    show Stp p e below T5 m 33 #[.val (.ref pr0), .val (.ref w_truth_pr0), .val (.int (4 : Int32)), .val (.int (0 : Int32)), .val (.int c0_w_truth_pr0)] [] _
    refine XS.iinc X5.here hx rfl (hb hby d6_33) rfl (l' := #[.val (.ref pr0), .val (.ref w_truth_pr0), .val (.int (4 : Int32)), .val (.int (1 : Int32)), .val (.int c0_w_truth_pr0)]) rfl ?_
    show Stp p e below T5 m 36 #[.val (.ref pr0), .val (.ref w_truth_pr0), .val (.int (4 : Int32)), .val (.int (1 : Int32)), .val (.int c0_w_truth_pr0)] [] _
    refine XS.goto X5.here hx rfl (pc0 := 36) (pc' := 10) rfl (hb hby d6_36) (by decide) (by decide) ?_
    show Stp p e below T5 m 10 #[.val (.ref pr0), .val (.ref w_truth_pr0), .val (.int (4 : Int32)), .val (.int (1 : Int32)), .val (.int c0_w_truth_pr0)] [] _
    refine XS.iloadN X5.here hx rfl (hb hby d6_10) rfl ?_
    show Stp p e below T5 m 11 #[.val (.ref pr0), .val (.ref w_truth_pr0), .val (.int (4 : Int32)), .val (.int (1 : Int32)), .val (.int c0_w_truth_pr0)] [(.int (1 : Int32))] _
    refine XS.iloadN X5.here hx rfl (hb hby d6_11) rfl ?_
    show Stp p e below T5 m 12 #[.val (.ref pr0), .val (.ref w_truth_pr0), .val (.int (4 : Int32)), .val (.int (1 : Int32)), .val (.int c0_w_truth_pr0)] [(.int (4 : Int32)), (.int (1 : Int32))] _
    refine XS.icmpNo X5.here hx rfl (hb hby d6_12) rfl (tlt (by decide : (1 : Int32) < (4 : Int32))).2.1 ?_
    show Stp p e below T5 m 15 #[.val (.ref pr0), .val (.ref w_truth_pr0), .val (.int (4 : Int32)), .val (.int (1 : Int32)), .val (.int c0_w_truth_pr0)] [] _
    refine XS.aloadN X5.here hx rfl (hb hby d6_15) rfl rfl ?_
    show Stp p e below T5 m 16 #[.val (.ref pr0), .val (.ref w_truth_pr0), .val (.int (4 : Int32)), .val (.int (1 : Int32)), .val (.int c0_w_truth_pr0)] [(.ref w_truth_pr0)] _
    refine XS.iloadN X5.here hx rfl (hb hby d6_16) rfl ?_
    show Stp p e below T5 m 17 #[.val (.ref pr0), .val (.ref w_truth_pr0), .val (.int (4 : Int32)), .val (.int (1 : Int32)), .val (.int c0_w_truth_pr0)] [(.int (1 : Int32)), (.ref w_truth_pr0)] _
    refine X5.baloadBooleans hx (j := (1 : Int32)) (v := (.int c1_w_truth_pr0)) (by rw [e5]; exact Arc8.1) (State.isArrayOf_alike hZ.alike Arc8.2.1) Arc8.2.2 hin9 (Has.at Hc8 hin9 rfl) (g := (mkF m 17 #[.val (.ref pr0), .val (.ref w_truth_pr0), .val (.int (4 : Int32)), .val (.int (1 : Int32)), .val (.int c0_w_truth_pr0)] [(.int (1 : Int32)), (.ref w_truth_pr0)])) rfl rfl (hb hby d6_17) _ ?_
    show Stp p e below T5 m 18 #[.val (.ref pr0), .val (.ref w_truth_pr0), .val (.int (4 : Int32)), .val (.int (1 : Int32)), .val (.int c0_w_truth_pr0)] [(.int c1_w_truth_pr0)] _
    refine XS.istore X5.here hx rfl (hb hby d6_18) rfl (l' := #[.val (.ref pr0), .val (.ref w_truth_pr0), .val (.int (4 : Int32)), .val (.int (1 : Int32)), .val (.int c1_w_truth_pr0)]) rfl ?_
    show Stp p e below T5 m 20 #[.val (.ref pr0), .val (.ref w_truth_pr0), .val (.int (4 : Int32)), .val (.int (1 : Int32)), .val (.int c1_w_truth_pr0)] [] _
    refine XS.iload X5.here hx rfl (hb hby d6_20) rfl ?_
    show Stp p e below T5 m 22 #[.val (.ref pr0), .val (.ref w_truth_pr0), .val (.int (4 : Int32)), .val (.int (1 : Int32)), .val (.int c1_w_truth_pr0)] [(.int c1_w_truth_pr0)] _
    refine XS.aloadN X5.here hx rfl (hb hby d6_22) rfl rfl ?_
    show Stp p e below T5 m 23 #[.val (.ref pr0), .val (.ref w_truth_pr0), .val (.int (4 : Int32)), .val (.int (1 : Int32)), .val (.int c1_w_truth_pr0)] [(.ref pr0), (.int c1_w_truth_pr0)] _
    refine st10 _ ?_
    show Stp p e below T10 m 26 #[.val (.ref pr0), .val (.ref w_truth_pr0), .val (.int (4 : Int32)), .val (.int (1 : Int32)), .val (.int c1_w_truth_pr0)] [(.ref w_truth_pr0), (.int c1_w_truth_pr0)] _
    refine XS.iconst X10.here hx rfl (hb hby d6_26) ?_
    show Stp p e below T10 m 27 #[.val (.ref pr0), .val (.ref w_truth_pr0), .val (.int (4 : Int32)), .val (.int (1 : Int32)), .val (.int c1_w_truth_pr0)] [(.int (0 : Int32)), (.ref w_truth_pr0), (.int c1_w_truth_pr0)] _
    refine X10.baloadBooleans hx (j := (0 : Int32)) (v := (.int c0_w_truth_pr0)) (by rw [e10]; exact Arc11.1) (State.isArrayOf_alike hZ.alike Arc11.2.1) Arc11.2.2 hin12 (Has.at Hc11 hin12 rfl) (g := (mkF m 27 #[.val (.ref pr0), .val (.ref w_truth_pr0), .val (.int (4 : Int32)), .val (.int (1 : Int32)), .val (.int c1_w_truth_pr0)] [(.int (0 : Int32)), (.ref w_truth_pr0), (.int c1_w_truth_pr0)])) rfl rfl (hb hby d6_27) _ ?_
    show Stp p e below T10 m 28 #[.val (.ref pr0), .val (.ref w_truth_pr0), .val (.int (4 : Int32)), .val (.int (1 : Int32)), .val (.int c1_w_truth_pr0)] [(.int c0_w_truth_pr0), (.int c1_w_truth_pr0)] _
    refine XS.icmpYes X10.here hx rfl (pc0 := 28) (pc' := 33) rfl (hb hby d6_28) rfl (teq hc28_0).1 (by decide) (by decide) ?_
    show Stp p e below T10 m 33 #[.val (.ref pr0), .val (.ref w_truth_pr0), .val (.int (4 : Int32)), .val (.int (1 : Int32)), .val (.int c1_w_truth_pr0)] [] _
    refine XS.iinc X10.here hx rfl (hb hby d6_33) rfl (l' := #[.val (.ref pr0), .val (.ref w_truth_pr0), .val (.int (4 : Int32)), .val (.int (2 : Int32)), .val (.int c1_w_truth_pr0)]) rfl ?_
    show Stp p e below T10 m 36 #[.val (.ref pr0), .val (.ref w_truth_pr0), .val (.int (4 : Int32)), .val (.int (2 : Int32)), .val (.int c1_w_truth_pr0)] [] _
    refine XS.goto X10.here hx rfl (pc0 := 36) (pc' := 10) rfl (hb hby d6_36) (by decide) (by decide) ?_
    show Stp p e below T10 m 10 #[.val (.ref pr0), .val (.ref w_truth_pr0), .val (.int (4 : Int32)), .val (.int (2 : Int32)), .val (.int c1_w_truth_pr0)] [] _
    refine XS.iloadN X10.here hx rfl (hb hby d6_10) rfl ?_
    show Stp p e below T10 m 11 #[.val (.ref pr0), .val (.ref w_truth_pr0), .val (.int (4 : Int32)), .val (.int (2 : Int32)), .val (.int c1_w_truth_pr0)] [(.int (2 : Int32))] _
    refine XS.iloadN X10.here hx rfl (hb hby d6_11) rfl ?_
    show Stp p e below T10 m 12 #[.val (.ref pr0), .val (.ref w_truth_pr0), .val (.int (4 : Int32)), .val (.int (2 : Int32)), .val (.int c1_w_truth_pr0)] [(.int (4 : Int32)), (.int (2 : Int32))] _
    refine XS.icmpNo X10.here hx rfl (hb hby d6_12) rfl (tlt (by decide : (2 : Int32) < (4 : Int32))).2.1 ?_
    show Stp p e below T10 m 15 #[.val (.ref pr0), .val (.ref w_truth_pr0), .val (.int (4 : Int32)), .val (.int (2 : Int32)), .val (.int c1_w_truth_pr0)] [] _
    refine XS.aloadN X10.here hx rfl (hb hby d6_15) rfl rfl ?_
    show Stp p e below T10 m 16 #[.val (.ref pr0), .val (.ref w_truth_pr0), .val (.int (4 : Int32)), .val (.int (2 : Int32)), .val (.int c1_w_truth_pr0)] [(.ref w_truth_pr0)] _
    refine XS.iloadN X10.here hx rfl (hb hby d6_16) rfl ?_
    show Stp p e below T10 m 17 #[.val (.ref pr0), .val (.ref w_truth_pr0), .val (.int (4 : Int32)), .val (.int (2 : Int32)), .val (.int c1_w_truth_pr0)] [(.int (2 : Int32)), (.ref w_truth_pr0)] _
    refine X10.baloadBooleans hx (j := (2 : Int32)) (v := (.int c2_w_truth_pr0)) (by rw [e10]; exact Arc13.1) (State.isArrayOf_alike hZ.alike Arc13.2.1) Arc13.2.2 hin14 (Has.at Hc13 hin14 rfl) (g := (mkF m 17 #[.val (.ref pr0), .val (.ref w_truth_pr0), .val (.int (4 : Int32)), .val (.int (2 : Int32)), .val (.int c1_w_truth_pr0)] [(.int (2 : Int32)), (.ref w_truth_pr0)])) rfl rfl (hb hby d6_17) _ ?_
    show Stp p e below T10 m 18 #[.val (.ref pr0), .val (.ref w_truth_pr0), .val (.int (4 : Int32)), .val (.int (2 : Int32)), .val (.int c1_w_truth_pr0)] [(.int c2_w_truth_pr0)] _
    refine XS.istore X10.here hx rfl (hb hby d6_18) rfl (l' := #[.val (.ref pr0), .val (.ref w_truth_pr0), .val (.int (4 : Int32)), .val (.int (2 : Int32)), .val (.int c2_w_truth_pr0)]) rfl ?_
    show Stp p e below T10 m 20 #[.val (.ref pr0), .val (.ref w_truth_pr0), .val (.int (4 : Int32)), .val (.int (2 : Int32)), .val (.int c2_w_truth_pr0)] [] _
    refine XS.iload X10.here hx rfl (hb hby d6_20) rfl ?_
    show Stp p e below T10 m 22 #[.val (.ref pr0), .val (.ref w_truth_pr0), .val (.int (4 : Int32)), .val (.int (2 : Int32)), .val (.int c2_w_truth_pr0)] [(.int c2_w_truth_pr0)] _
    refine XS.aloadN X10.here hx rfl (hb hby d6_22) rfl rfl ?_
    show Stp p e below T10 m 23 #[.val (.ref pr0), .val (.ref w_truth_pr0), .val (.int (4 : Int32)), .val (.int (2 : Int32)), .val (.int c2_w_truth_pr0)] [(.ref pr0), (.int c2_w_truth_pr0)] _
    refine st15 _ ?_
    show Stp p e below T15 m 26 #[.val (.ref pr0), .val (.ref w_truth_pr0), .val (.int (4 : Int32)), .val (.int (2 : Int32)), .val (.int c2_w_truth_pr0)] [(.ref w_truth_pr0), (.int c2_w_truth_pr0)] _
    refine XS.iconst X15.here hx rfl (hb hby d6_26) ?_
    show Stp p e below T15 m 27 #[.val (.ref pr0), .val (.ref w_truth_pr0), .val (.int (4 : Int32)), .val (.int (2 : Int32)), .val (.int c2_w_truth_pr0)] [(.int (0 : Int32)), (.ref w_truth_pr0), (.int c2_w_truth_pr0)] _
    refine X15.baloadBooleans hx (j := (0 : Int32)) (v := (.int c0_w_truth_pr0)) (by rw [e15]; exact Arc16.1) (State.isArrayOf_alike hZ.alike Arc16.2.1) Arc16.2.2 hin17 (Has.at Hc16 hin17 rfl) (g := (mkF m 27 #[.val (.ref pr0), .val (.ref w_truth_pr0), .val (.int (4 : Int32)), .val (.int (2 : Int32)), .val (.int c2_w_truth_pr0)] [(.int (0 : Int32)), (.ref w_truth_pr0), (.int c2_w_truth_pr0)])) rfl rfl (hb hby d6_27) _ ?_
    show Stp p e below T15 m 28 #[.val (.ref pr0), .val (.ref w_truth_pr0), .val (.int (4 : Int32)), .val (.int (2 : Int32)), .val (.int c2_w_truth_pr0)] [(.int c0_w_truth_pr0), (.int c2_w_truth_pr0)] _
    refine XS.icmpNo X15.here hx rfl (hb hby d6_28) rfl (feq hc28_1).1 ?_
    show Stp p e below T15 m 31 #[.val (.ref pr0), .val (.ref w_truth_pr0), .val (.int (4 : Int32)), .val (.int (2 : Int32)), .val (.int c2_w_truth_pr0)] [] _
    refine XS.iconst X15.here hx rfl (hb hby d6_31) ?_
    show Stp p e below T15 m 32 #[.val (.ref pr0), .val (.ref w_truth_pr0), .val (.int (4 : Int32)), .val (.int (2 : Int32)), .val (.int c2_w_truth_pr0)] [(.int (0 : Int32))] _
    exact retN X15 hx (t := .boolean) Bd.returns (by simp) (hb hby d6_32) hr
  · show Q6_k2tf Z pr0 w_truth_pr0 kk_w_truth_pr0 c0_w_truth_pr0 c1_w_truth_pr0 c2_w_truth_pr0 c3_w_truth_pr0 h0 n0 _ T15.heap _
    rw [e15]
    exact ⟨rfl, N0, rfl⟩
def Q6_k2f (Z : State) (pr0 : Addr) (w_truth_pr0 : Addr) (kk_w_truth_pr0 : ClassId) (c0_w_truth_pr0 : Int32) (c1_w_truth_pr0 : Int32) (c2_w_truth_pr0 : Int32) (c3_w_truth_pr0 : Int32) (h0 : Heap) (n0 : Nat) (v : Option Value) (h : Heap) (L : List Loc) : Prop := v = some (.int (0 : Int32)) ∧ Fr n0 L ∧ h = h0
set_option maxRecDepth 65536 in
set_option maxHeartbeats 40000000 in
theorem rm6_k2f (l : Launch) (Z : State) (a0 : Array Value) (hw : ∀ d ∈ tables_1, d.before a0 Z = true) (ws : List Jvm.Cond) (pr0 : Addr) (w_truth_pr0 : Addr) (kk_w_truth_pr0 : ClassId) (c0_w_truth_pr0 : Int32) (c1_w_truth_pr0 : Int32) (c2_w_truth_pr0 : Int32) (c3_w_truth_pr0 : Int32) (h0 : Heap) (n0 : Nat) (Z0 : n0 ≤ h0.size) (O0 : Old Z n0 h0) (F_truth_pr0 : Fld Z h0 pr0 "com/example/gudl/gudl/GroundFactor" "truth" "[Z" (.ref w_truth_pr0)) (V_w_truth_pr0 : Arv Z h0 w_truth_pr0 kk_w_truth_pr0 .boolean (4 : Int32) [(.int c0_w_truth_pr0), (.int c1_w_truth_pr0), (.int c2_w_truth_pr0), (.int c3_w_truth_pr0)] (.int (0 : Int32))) (hc28_0 : ¬ (c1_w_truth_pr0 = c0_w_truth_pr0)) :
    MetFree l (⟨"com/example/gudl/gudl/GroundFactor", "isConstant", "()Z"⟩ : MethodName) (head1 (Jvm.Cond.code (⟨"com/example/gudl/gudl/GroundFactor", "isConstant", "()Z"⟩ : MethodName) prog_42_method_8_code 5 (some .boolean) :: ws) ({ frames := 0, cells := 0, slots := 0, locals := 0 } : Room)) (fun a U => a = #[(.ref pr0)] ∧ Z.Warmed39 U.vm ∧ U.heap = h0) (fun _ _ _ _ _ => True) (fun _ U o U' => ∃ v L, o = .returned v ∧ Q6_k2f Z pr0 w_truth_pr0 kk_w_truth_pr0 c0_w_truth_pr0 c1_w_truth_pr0 c2_w_truth_pr0 c3_w_truth_pr0 h0 n0 v U'.heap L ∧ FrameEnd U o U' L ({ frames := 0, cells := 0, slots := 0, locals := 0 } : Room).cells ({ frames := 0, cells := 0, slots := 0, locals := 0 } : Room).slots) := by
  refine MetFree.of_bodySF (plainFor_of_name pn_6) hisR ?_
  intro p e s m args below meth c s₁ Bd hml0 hP hK
  obtain ⟨rfl, hZ, hh⟩ := hP
  have hx := Bd.exec
  have hby := Bd.bytes
  have hml : c.maxLocals = 5 := hml0
  have hown : s.vm.findClass "com/example/gudl/gudl/GroundFactor" = some m.cls := findClass_of_methodNamed Bd.named
  have hnm := (name_of_methodNamed Bd.named Bd.method).1
  have X0 : Stand p l e ({ frames := 0, cells := 0, slots := 0, locals := 0 } : Room) s m #[(.ref pr0)] below meth c s₁ [] 0 0 := Stand.of_body Bd
  have e0 : s₁.heap = h0 := by rw [← hh, Bd.state]; rfl
  have N0 := Fr.nil n0
  have pre0 : ∀ t, Steps p.tables e below (s₁.setTop (mkF m 0 #[.val (.ref pr0), .unset, .unset, .unset, .unset] [])) t → Steps p.tables e below (s₁.setTop (entryFrame m #[(.ref pr0)] 5)) t := fun t k => castTop (ef_6 m pr0) k
  obtain ⟨T1, X1, e1, st1⟩ := getF X0 hx hZ hown (host := "") (Or.inl (own_W hw 25 rfl)) Via.refl e0 F_truth_pr0 (g := (mkF m 1 #[.val (.ref pr0), .unset, .unset, .unset, .unset] [(.ref pr0)])) rfl rfl (hb hby d6_1)
  have V_c2 := V_w_truth_pr0
  obtain ⟨c2, Arc2, qc2, Sc2, Nc2, Hc2, Gc2⟩ := V_c2
  have V_c3 := V_w_truth_pr0
  obtain ⟨c3, Arc3, qc3, Sc3, Nc3, Hc3, Gc3⟩ := V_c3
  have hin4 : ¬ ((0 : Int32) < 0 ∨ c3.slots.size ≤ ((0 : Int32)).toNatClampNeg) := inb_of Sc3 ⟨by decide, by decide⟩
  obtain ⟨T5, X5, e5, st5⟩ := getF X1 hx hZ hown (host := "") (Or.inl (own_W hw 25 rfl)) Via.refl e1 F_truth_pr0 (g := (mkF m 23 #[.val (.ref pr0), .val (.ref w_truth_pr0), .val (.int (4 : Int32)), .val (.int (0 : Int32)), .val (.int c0_w_truth_pr0)] [(.ref pr0), (.int c0_w_truth_pr0)])) rfl rfl (hb hby d6_23)
  have V_c6 := V_w_truth_pr0
  obtain ⟨c6, Arc6, qc6, Sc6, Nc6, Hc6, Gc6⟩ := V_c6
  have hin7 : ¬ ((0 : Int32) < 0 ∨ c6.slots.size ≤ ((0 : Int32)).toNatClampNeg) := inb_of Sc6 ⟨by decide, by decide⟩
  have V_c8 := V_w_truth_pr0
  obtain ⟨c8, Arc8, qc8, Sc8, Nc8, Hc8, Gc8⟩ := V_c8
  have hin9 : ¬ ((1 : Int32) < 0 ∨ c8.slots.size ≤ ((1 : Int32)).toNatClampNeg) := inb_of Sc8 ⟨by decide, by decide⟩
  obtain ⟨T10, X10, e10, st10⟩ := getF X5 hx hZ hown (host := "") (Or.inl (own_W hw 25 rfl)) Via.refl e5 F_truth_pr0 (g := (mkF m 23 #[.val (.ref pr0), .val (.ref w_truth_pr0), .val (.int (4 : Int32)), .val (.int (1 : Int32)), .val (.int c1_w_truth_pr0)] [(.ref pr0), (.int c1_w_truth_pr0)])) rfl rfl (hb hby d6_23)
  have V_c11 := V_w_truth_pr0
  obtain ⟨c11, Arc11, qc11, Sc11, Nc11, Hc11, Gc11⟩ := V_c11
  have hin12 : ¬ ((0 : Int32) < 0 ∨ c11.slots.size ≤ ((0 : Int32)).toNatClampNeg) := inb_of Sc11 ⟨by decide, by decide⟩
  obtain ⟨fs, hr, hrun, hended, hW, hsame⟩ := X10.leave (v := some (.int (0 : Int32))) (fun h => by rw [Bd.returns] at h; cases h)
  refine ⟨_, _, pre0 _ ?_, hrun, hended, _, _, rfl, ?_, ⟨_, rfl⟩, hW, hsame.mono (by decide) (by decide)⟩
  · show Stp p e below s₁ m 0 #[.val (.ref pr0), .unset, .unset, .unset, .unset] [] _
    refine XS.aloadN X0.here hx rfl (hb hby d6_0) rfl rfl ?_
    show Stp p e below s₁ m 1 #[.val (.ref pr0), .unset, .unset, .unset, .unset] [(.ref pr0)] _
    refine st1 _ ?_
    show Stp p e below T1 m 4 #[.val (.ref pr0), .unset, .unset, .unset, .unset] [(.ref w_truth_pr0)] _
    refine XS.astoreN X1.here hx rfl (hb hby d6_4) rfl rfl (l' := #[.val (.ref pr0), .val (.ref w_truth_pr0), .unset, .unset, .unset]) rfl ?_
    show Stp p e below T1 m 5 #[.val (.ref pr0), .val (.ref w_truth_pr0), .unset, .unset, .unset] [] _
    refine XS.aloadN X1.here hx rfl (hb hby d6_5) rfl rfl ?_
    show Stp p e below T1 m 6 #[.val (.ref pr0), .val (.ref w_truth_pr0), .unset, .unset, .unset] [(.ref w_truth_pr0)] _
    refine X1.arraylength hx (by rw [e1]; exact Arc2.1) (State.isArrayOf_alike hZ.alike Arc2.2.1) (g := (mkF m 6 #[.val (.ref pr0), .val (.ref w_truth_pr0), .unset, .unset, .unset] [(.ref w_truth_pr0)])) rfl rfl (hb hby d6_6) _ ?_
    rw [len_of Sc2 Nc2]
    show Stp p e below T1 m 7 #[.val (.ref pr0), .val (.ref w_truth_pr0), .unset, .unset, .unset] [(.int (4 : Int32))] _
    refine XS.istoreN X1.here hx rfl (hb hby d6_7) rfl (l' := #[.val (.ref pr0), .val (.ref w_truth_pr0), .val (.int (4 : Int32)), .unset, .unset]) rfl ?_
    show Stp p e below T1 m 8 #[.val (.ref pr0), .val (.ref w_truth_pr0), .val (.int (4 : Int32)), .unset, .unset] [] _
    refine XS.iconst X1.here hx rfl (hb hby d6_8) ?_
    show Stp p e below T1 m 9 #[.val (.ref pr0), .val (.ref w_truth_pr0), .val (.int (4 : Int32)), .unset, .unset] [(.int (0 : Int32))] _
    refine XS.istoreN X1.here hx rfl (hb hby d6_9) rfl (l' := #[.val (.ref pr0), .val (.ref w_truth_pr0), .val (.int (4 : Int32)), .val (.int (0 : Int32)), .unset]) rfl ?_
    show Stp p e below T1 m 10 #[.val (.ref pr0), .val (.ref w_truth_pr0), .val (.int (4 : Int32)), .val (.int (0 : Int32)), .unset] [] _
    refine XS.iloadN X1.here hx rfl (hb hby d6_10) rfl ?_
    show Stp p e below T1 m 11 #[.val (.ref pr0), .val (.ref w_truth_pr0), .val (.int (4 : Int32)), .val (.int (0 : Int32)), .unset] [(.int (0 : Int32))] _
    refine XS.iloadN X1.here hx rfl (hb hby d6_11) rfl ?_
    show Stp p e below T1 m 12 #[.val (.ref pr0), .val (.ref w_truth_pr0), .val (.int (4 : Int32)), .val (.int (0 : Int32)), .unset] [(.int (4 : Int32)), (.int (0 : Int32))] _
    refine XS.icmpNo X1.here hx rfl (hb hby d6_12) rfl (tlt (by decide : (0 : Int32) < (4 : Int32))).2.1 ?_
    show Stp p e below T1 m 15 #[.val (.ref pr0), .val (.ref w_truth_pr0), .val (.int (4 : Int32)), .val (.int (0 : Int32)), .unset] [] _
    refine XS.aloadN X1.here hx rfl (hb hby d6_15) rfl rfl ?_
    show Stp p e below T1 m 16 #[.val (.ref pr0), .val (.ref w_truth_pr0), .val (.int (4 : Int32)), .val (.int (0 : Int32)), .unset] [(.ref w_truth_pr0)] _
    refine XS.iloadN X1.here hx rfl (hb hby d6_16) rfl ?_
    show Stp p e below T1 m 17 #[.val (.ref pr0), .val (.ref w_truth_pr0), .val (.int (4 : Int32)), .val (.int (0 : Int32)), .unset] [(.int (0 : Int32)), (.ref w_truth_pr0)] _
    refine X1.baloadBooleans hx (j := (0 : Int32)) (v := (.int c0_w_truth_pr0)) (by rw [e1]; exact Arc3.1) (State.isArrayOf_alike hZ.alike Arc3.2.1) Arc3.2.2 hin4 (Has.at Hc3 hin4 rfl) (g := (mkF m 17 #[.val (.ref pr0), .val (.ref w_truth_pr0), .val (.int (4 : Int32)), .val (.int (0 : Int32)), .unset] [(.int (0 : Int32)), (.ref w_truth_pr0)])) rfl rfl (hb hby d6_17) _ ?_
    show Stp p e below T1 m 18 #[.val (.ref pr0), .val (.ref w_truth_pr0), .val (.int (4 : Int32)), .val (.int (0 : Int32)), .unset] [(.int c0_w_truth_pr0)] _
    refine XS.istore X1.here hx rfl (hb hby d6_18) rfl (l' := #[.val (.ref pr0), .val (.ref w_truth_pr0), .val (.int (4 : Int32)), .val (.int (0 : Int32)), .val (.int c0_w_truth_pr0)]) rfl ?_
    show Stp p e below T1 m 20 #[.val (.ref pr0), .val (.ref w_truth_pr0), .val (.int (4 : Int32)), .val (.int (0 : Int32)), .val (.int c0_w_truth_pr0)] [] _
    refine XS.iload X1.here hx rfl (hb hby d6_20) rfl ?_
    show Stp p e below T1 m 22 #[.val (.ref pr0), .val (.ref w_truth_pr0), .val (.int (4 : Int32)), .val (.int (0 : Int32)), .val (.int c0_w_truth_pr0)] [(.int c0_w_truth_pr0)] _
    refine XS.aloadN X1.here hx rfl (hb hby d6_22) rfl rfl ?_
    show Stp p e below T1 m 23 #[.val (.ref pr0), .val (.ref w_truth_pr0), .val (.int (4 : Int32)), .val (.int (0 : Int32)), .val (.int c0_w_truth_pr0)] [(.ref pr0), (.int c0_w_truth_pr0)] _
    refine st5 _ ?_
    show Stp p e below T5 m 26 #[.val (.ref pr0), .val (.ref w_truth_pr0), .val (.int (4 : Int32)), .val (.int (0 : Int32)), .val (.int c0_w_truth_pr0)] [(.ref w_truth_pr0), (.int c0_w_truth_pr0)] _
    refine XS.iconst X5.here hx rfl (hb hby d6_26) ?_
    show Stp p e below T5 m 27 #[.val (.ref pr0), .val (.ref w_truth_pr0), .val (.int (4 : Int32)), .val (.int (0 : Int32)), .val (.int c0_w_truth_pr0)] [(.int (0 : Int32)), (.ref w_truth_pr0), (.int c0_w_truth_pr0)] _
    refine X5.baloadBooleans hx (j := (0 : Int32)) (v := (.int c0_w_truth_pr0)) (by rw [e5]; exact Arc6.1) (State.isArrayOf_alike hZ.alike Arc6.2.1) Arc6.2.2 hin7 (Has.at Hc6 hin7 rfl) (g := (mkF m 27 #[.val (.ref pr0), .val (.ref w_truth_pr0), .val (.int (4 : Int32)), .val (.int (0 : Int32)), .val (.int c0_w_truth_pr0)] [(.int (0 : Int32)), (.ref w_truth_pr0), (.int c0_w_truth_pr0)])) rfl rfl (hb hby d6_27) _ ?_
    show Stp p e below T5 m 28 #[.val (.ref pr0), .val (.ref w_truth_pr0), .val (.int (4 : Int32)), .val (.int (0 : Int32)), .val (.int c0_w_truth_pr0)] [(.int c0_w_truth_pr0), (.int c0_w_truth_pr0)] _
    refine XS.icmpYes X5.here hx rfl (pc0 := 28) (pc' := 33) rfl (hb hby d6_28) rfl (teq (rfl : c0_w_truth_pr0 = c0_w_truth_pr0)).1 (by decide) (by decide) ?_
    show Stp p e below T5 m 33 #[.val (.ref pr0), .val (.ref w_truth_pr0), .val (.int (4 : Int32)), .val (.int (0 : Int32)), .val (.int c0_w_truth_pr0)] [] _
    refine XS.iinc X5.here hx rfl (hb hby d6_33) rfl (l' := #[.val (.ref pr0), .val (.ref w_truth_pr0), .val (.int (4 : Int32)), .val (.int (1 : Int32)), .val (.int c0_w_truth_pr0)]) rfl ?_
    show Stp p e below T5 m 36 #[.val (.ref pr0), .val (.ref w_truth_pr0), .val (.int (4 : Int32)), .val (.int (1 : Int32)), .val (.int c0_w_truth_pr0)] [] _
    refine XS.goto X5.here hx rfl (pc0 := 36) (pc' := 10) rfl (hb hby d6_36) (by decide) (by decide) ?_
    show Stp p e below T5 m 10 #[.val (.ref pr0), .val (.ref w_truth_pr0), .val (.int (4 : Int32)), .val (.int (1 : Int32)), .val (.int c0_w_truth_pr0)] [] _
    refine XS.iloadN X5.here hx rfl (hb hby d6_10) rfl ?_
    show Stp p e below T5 m 11 #[.val (.ref pr0), .val (.ref w_truth_pr0), .val (.int (4 : Int32)), .val (.int (1 : Int32)), .val (.int c0_w_truth_pr0)] [(.int (1 : Int32))] _
    refine XS.iloadN X5.here hx rfl (hb hby d6_11) rfl ?_
    show Stp p e below T5 m 12 #[.val (.ref pr0), .val (.ref w_truth_pr0), .val (.int (4 : Int32)), .val (.int (1 : Int32)), .val (.int c0_w_truth_pr0)] [(.int (4 : Int32)), (.int (1 : Int32))] _
    refine XS.icmpNo X5.here hx rfl (hb hby d6_12) rfl (tlt (by decide : (1 : Int32) < (4 : Int32))).2.1 ?_
    show Stp p e below T5 m 15 #[.val (.ref pr0), .val (.ref w_truth_pr0), .val (.int (4 : Int32)), .val (.int (1 : Int32)), .val (.int c0_w_truth_pr0)] [] _
    refine XS.aloadN X5.here hx rfl (hb hby d6_15) rfl rfl ?_
    show Stp p e below T5 m 16 #[.val (.ref pr0), .val (.ref w_truth_pr0), .val (.int (4 : Int32)), .val (.int (1 : Int32)), .val (.int c0_w_truth_pr0)] [(.ref w_truth_pr0)] _
    refine XS.iloadN X5.here hx rfl (hb hby d6_16) rfl ?_
    show Stp p e below T5 m 17 #[.val (.ref pr0), .val (.ref w_truth_pr0), .val (.int (4 : Int32)), .val (.int (1 : Int32)), .val (.int c0_w_truth_pr0)] [(.int (1 : Int32)), (.ref w_truth_pr0)] _
    refine X5.baloadBooleans hx (j := (1 : Int32)) (v := (.int c1_w_truth_pr0)) (by rw [e5]; exact Arc8.1) (State.isArrayOf_alike hZ.alike Arc8.2.1) Arc8.2.2 hin9 (Has.at Hc8 hin9 rfl) (g := (mkF m 17 #[.val (.ref pr0), .val (.ref w_truth_pr0), .val (.int (4 : Int32)), .val (.int (1 : Int32)), .val (.int c0_w_truth_pr0)] [(.int (1 : Int32)), (.ref w_truth_pr0)])) rfl rfl (hb hby d6_17) _ ?_
    show Stp p e below T5 m 18 #[.val (.ref pr0), .val (.ref w_truth_pr0), .val (.int (4 : Int32)), .val (.int (1 : Int32)), .val (.int c0_w_truth_pr0)] [(.int c1_w_truth_pr0)] _
    refine XS.istore X5.here hx rfl (hb hby d6_18) rfl (l' := #[.val (.ref pr0), .val (.ref w_truth_pr0), .val (.int (4 : Int32)), .val (.int (1 : Int32)), .val (.int c1_w_truth_pr0)]) rfl ?_
    show Stp p e below T5 m 20 #[.val (.ref pr0), .val (.ref w_truth_pr0), .val (.int (4 : Int32)), .val (.int (1 : Int32)), .val (.int c1_w_truth_pr0)] [] _
    refine XS.iload X5.here hx rfl (hb hby d6_20) rfl ?_
    show Stp p e below T5 m 22 #[.val (.ref pr0), .val (.ref w_truth_pr0), .val (.int (4 : Int32)), .val (.int (1 : Int32)), .val (.int c1_w_truth_pr0)] [(.int c1_w_truth_pr0)] _
    refine XS.aloadN X5.here hx rfl (hb hby d6_22) rfl rfl ?_
    show Stp p e below T5 m 23 #[.val (.ref pr0), .val (.ref w_truth_pr0), .val (.int (4 : Int32)), .val (.int (1 : Int32)), .val (.int c1_w_truth_pr0)] [(.ref pr0), (.int c1_w_truth_pr0)] _
    refine st10 _ ?_
    show Stp p e below T10 m 26 #[.val (.ref pr0), .val (.ref w_truth_pr0), .val (.int (4 : Int32)), .val (.int (1 : Int32)), .val (.int c1_w_truth_pr0)] [(.ref w_truth_pr0), (.int c1_w_truth_pr0)] _
    refine XS.iconst X10.here hx rfl (hb hby d6_26) ?_
    show Stp p e below T10 m 27 #[.val (.ref pr0), .val (.ref w_truth_pr0), .val (.int (4 : Int32)), .val (.int (1 : Int32)), .val (.int c1_w_truth_pr0)] [(.int (0 : Int32)), (.ref w_truth_pr0), (.int c1_w_truth_pr0)] _
    refine X10.baloadBooleans hx (j := (0 : Int32)) (v := (.int c0_w_truth_pr0)) (by rw [e10]; exact Arc11.1) (State.isArrayOf_alike hZ.alike Arc11.2.1) Arc11.2.2 hin12 (Has.at Hc11 hin12 rfl) (g := (mkF m 27 #[.val (.ref pr0), .val (.ref w_truth_pr0), .val (.int (4 : Int32)), .val (.int (1 : Int32)), .val (.int c1_w_truth_pr0)] [(.int (0 : Int32)), (.ref w_truth_pr0), (.int c1_w_truth_pr0)])) rfl rfl (hb hby d6_27) _ ?_
    show Stp p e below T10 m 28 #[.val (.ref pr0), .val (.ref w_truth_pr0), .val (.int (4 : Int32)), .val (.int (1 : Int32)), .val (.int c1_w_truth_pr0)] [(.int c0_w_truth_pr0), (.int c1_w_truth_pr0)] _
    refine XS.icmpNo X10.here hx rfl (hb hby d6_28) rfl (feq hc28_0).1 ?_
    show Stp p e below T10 m 31 #[.val (.ref pr0), .val (.ref w_truth_pr0), .val (.int (4 : Int32)), .val (.int (1 : Int32)), .val (.int c1_w_truth_pr0)] [] _
    refine XS.iconst X10.here hx rfl (hb hby d6_31) ?_
    show Stp p e below T10 m 32 #[.val (.ref pr0), .val (.ref w_truth_pr0), .val (.int (4 : Int32)), .val (.int (1 : Int32)), .val (.int c1_w_truth_pr0)] [(.int (0 : Int32))] _
    exact retN X10 hx (t := .boolean) Bd.returns (by simp) (hb hby d6_32) hr
  · show Q6_k2f Z pr0 w_truth_pr0 kk_w_truth_pr0 c0_w_truth_pr0 c1_w_truth_pr0 c2_w_truth_pr0 c3_w_truth_pr0 h0 n0 _ T10.heap _
    rw [e10]
    exact ⟨rfl, N0, rfl⟩
def own_ic2 (c0_w_truth_pr0 : Int32) (c1_w_truth_pr0 : Int32) (c2_w_truth_pr0 : Int32) (c3_w_truth_pr0 : Int32) : Int32 := (if c1_w_truth_pr0 = c0_w_truth_pr0 then (if c2_w_truth_pr0 = c0_w_truth_pr0 then (if c3_w_truth_pr0 = c0_w_truth_pr0 then (1 : Int32) else (0 : Int32)) else (0 : Int32)) else (0 : Int32))
def Q6k2 (Z : State) (pr0 : Addr) (w_truth_pr0 : Addr) (kk_w_truth_pr0 : ClassId) (c0_w_truth_pr0 : Int32) (c1_w_truth_pr0 : Int32) (c2_w_truth_pr0 : Int32) (c3_w_truth_pr0 : Int32) (h0 : Heap) (n0 : Nat) (v : Option Value) (h : Heap) (L : List Loc) : Prop := v = some (.int (own_ic2 c0_w_truth_pr0 c1_w_truth_pr0 c2_w_truth_pr0 c3_w_truth_pr0)) ∧ Fr n0 L ∧ h = h0
set_option maxRecDepth 65536 in
theorem rm6k2 (l : Launch) (Z : State) (a0 : Array Value) (hw : ∀ d ∈ tables_1, d.before a0 Z = true) (ws : List Jvm.Cond) (pr0 : Addr) (w_truth_pr0 : Addr) (kk_w_truth_pr0 : ClassId) (c0_w_truth_pr0 : Int32) (c1_w_truth_pr0 : Int32) (c2_w_truth_pr0 : Int32) (c3_w_truth_pr0 : Int32) (h0 : Heap) (n0 : Nat) (Z0 : n0 ≤ h0.size) (O0 : Old Z n0 h0) (F_truth_pr0 : Fld Z h0 pr0 "com/example/gudl/gudl/GroundFactor" "truth" "[Z" (.ref w_truth_pr0)) (V_w_truth_pr0 : Arv Z h0 w_truth_pr0 kk_w_truth_pr0 .boolean (4 : Int32) [(.int c0_w_truth_pr0), (.int c1_w_truth_pr0), (.int c2_w_truth_pr0), (.int c3_w_truth_pr0)] (.int (0 : Int32))) :
    MetFree l (⟨"com/example/gudl/gudl/GroundFactor", "isConstant", "()Z"⟩ : MethodName) (head1 (Jvm.Cond.code (⟨"com/example/gudl/gudl/GroundFactor", "isConstant", "()Z"⟩ : MethodName) prog_42_method_8_code 5 (some .boolean) :: ws) ({ frames := 0, cells := 0, slots := 0, locals := 0 } : Room)) (fun a U => a = #[(.ref pr0)] ∧ Z.Warmed39 U.vm ∧ U.heap = h0) (fun _ _ _ _ _ => True) (fun _ U o U' => ∃ v L, o = .returned v ∧ Q6k2 Z pr0 w_truth_pr0 kk_w_truth_pr0 c0_w_truth_pr0 c1_w_truth_pr0 c2_w_truth_pr0 c3_w_truth_pr0 h0 n0 v U'.heap L ∧ FrameEnd U o U' L ({ frames := 0, cells := 0, slots := 0, locals := 0 } : Room).cells ({ frames := 0, cells := 0, slots := 0, locals := 0 } : Room).slots) := by
  by_cases H1 : c1_w_truth_pr0 = c0_w_truth_pr0
  · by_cases H2 : c2_w_truth_pr0 = c0_w_truth_pr0
    · by_cases H3 : c3_w_truth_pr0 = c0_w_truth_pr0
      · have e : (own_ic2 c0_w_truth_pr0 c1_w_truth_pr0 c2_w_truth_pr0 c3_w_truth_pr0) = (1 : Int32) := by unfold own_ic2; rw [if_pos H1, if_pos H2, if_pos H3]
        show MetFree l (⟨"com/example/gudl/gudl/GroundFactor", "isConstant", "()Z"⟩ : MethodName) (head1 (Jvm.Cond.code (⟨"com/example/gudl/gudl/GroundFactor", "isConstant", "()Z"⟩ : MethodName) prog_42_method_8_code 5 (some .boolean) :: ws) ({ frames := 0, cells := 0, slots := 0, locals := 0 } : Room)) (fun a U => a = #[(.ref pr0)] ∧ Z.Warmed39 U.vm ∧ U.heap = h0) (fun _ _ _ _ _ => True) (fun _ U o U' => ∃ v L, o = .returned v ∧ (v = some (.int (own_ic2 c0_w_truth_pr0 c1_w_truth_pr0 c2_w_truth_pr0 c3_w_truth_pr0)) ∧ Fr n0 L ∧ U'.heap = h0) ∧ FrameEnd U o U' L ({ frames := 0, cells := 0, slots := 0, locals := 0 } : Room).cells ({ frames := 0, cells := 0, slots := 0, locals := 0 } : Room).slots)
        rw [e]
        exact rm6_k2ttt l Z a0 hw ws pr0 w_truth_pr0 kk_w_truth_pr0 c0_w_truth_pr0 c1_w_truth_pr0 c2_w_truth_pr0 c3_w_truth_pr0 h0 n0 Z0 O0 F_truth_pr0 V_w_truth_pr0 H1 H2 H3
      · have e : (own_ic2 c0_w_truth_pr0 c1_w_truth_pr0 c2_w_truth_pr0 c3_w_truth_pr0) = (0 : Int32) := by unfold own_ic2; rw [if_pos H1, if_pos H2, if_neg H3]
        show MetFree l (⟨"com/example/gudl/gudl/GroundFactor", "isConstant", "()Z"⟩ : MethodName) (head1 (Jvm.Cond.code (⟨"com/example/gudl/gudl/GroundFactor", "isConstant", "()Z"⟩ : MethodName) prog_42_method_8_code 5 (some .boolean) :: ws) ({ frames := 0, cells := 0, slots := 0, locals := 0 } : Room)) (fun a U => a = #[(.ref pr0)] ∧ Z.Warmed39 U.vm ∧ U.heap = h0) (fun _ _ _ _ _ => True) (fun _ U o U' => ∃ v L, o = .returned v ∧ (v = some (.int (own_ic2 c0_w_truth_pr0 c1_w_truth_pr0 c2_w_truth_pr0 c3_w_truth_pr0)) ∧ Fr n0 L ∧ U'.heap = h0) ∧ FrameEnd U o U' L ({ frames := 0, cells := 0, slots := 0, locals := 0 } : Room).cells ({ frames := 0, cells := 0, slots := 0, locals := 0 } : Room).slots)
        rw [e]
        exact rm6_k2ttf l Z a0 hw ws pr0 w_truth_pr0 kk_w_truth_pr0 c0_w_truth_pr0 c1_w_truth_pr0 c2_w_truth_pr0 c3_w_truth_pr0 h0 n0 Z0 O0 F_truth_pr0 V_w_truth_pr0 H1 H2 H3
    · have e : (own_ic2 c0_w_truth_pr0 c1_w_truth_pr0 c2_w_truth_pr0 c3_w_truth_pr0) = (0 : Int32) := by unfold own_ic2; rw [if_pos H1, if_neg H2]
      show MetFree l (⟨"com/example/gudl/gudl/GroundFactor", "isConstant", "()Z"⟩ : MethodName) (head1 (Jvm.Cond.code (⟨"com/example/gudl/gudl/GroundFactor", "isConstant", "()Z"⟩ : MethodName) prog_42_method_8_code 5 (some .boolean) :: ws) ({ frames := 0, cells := 0, slots := 0, locals := 0 } : Room)) (fun a U => a = #[(.ref pr0)] ∧ Z.Warmed39 U.vm ∧ U.heap = h0) (fun _ _ _ _ _ => True) (fun _ U o U' => ∃ v L, o = .returned v ∧ (v = some (.int (own_ic2 c0_w_truth_pr0 c1_w_truth_pr0 c2_w_truth_pr0 c3_w_truth_pr0)) ∧ Fr n0 L ∧ U'.heap = h0) ∧ FrameEnd U o U' L ({ frames := 0, cells := 0, slots := 0, locals := 0 } : Room).cells ({ frames := 0, cells := 0, slots := 0, locals := 0 } : Room).slots)
      rw [e]
      exact rm6_k2tf l Z a0 hw ws pr0 w_truth_pr0 kk_w_truth_pr0 c0_w_truth_pr0 c1_w_truth_pr0 c2_w_truth_pr0 c3_w_truth_pr0 h0 n0 Z0 O0 F_truth_pr0 V_w_truth_pr0 H1 H2
  · have e : (own_ic2 c0_w_truth_pr0 c1_w_truth_pr0 c2_w_truth_pr0 c3_w_truth_pr0) = (0 : Int32) := by unfold own_ic2; rw [if_neg H1]
    show MetFree l (⟨"com/example/gudl/gudl/GroundFactor", "isConstant", "()Z"⟩ : MethodName) (head1 (Jvm.Cond.code (⟨"com/example/gudl/gudl/GroundFactor", "isConstant", "()Z"⟩ : MethodName) prog_42_method_8_code 5 (some .boolean) :: ws) ({ frames := 0, cells := 0, slots := 0, locals := 0 } : Room)) (fun a U => a = #[(.ref pr0)] ∧ Z.Warmed39 U.vm ∧ U.heap = h0) (fun _ _ _ _ _ => True) (fun _ U o U' => ∃ v L, o = .returned v ∧ (v = some (.int (own_ic2 c0_w_truth_pr0 c1_w_truth_pr0 c2_w_truth_pr0 c3_w_truth_pr0)) ∧ Fr n0 L ∧ U'.heap = h0) ∧ FrameEnd U o U' L ({ frames := 0, cells := 0, slots := 0, locals := 0 } : Room).cells ({ frames := 0, cells := 0, slots := 0, locals := 0 } : Room).slots)
    rw [e]
    exact rm6_k2f l Z a0 hw ws pr0 w_truth_pr0 kk_w_truth_pr0 c0_w_truth_pr0 c1_w_truth_pr0 c2_w_truth_pr0 c3_w_truth_pr0 h0 n0 Z0 O0 F_truth_pr0 V_w_truth_pr0 H1
def Q6_k3ttttttt (Z : State) (pr0 : Addr) (w_truth_pr0 : Addr) (kk_w_truth_pr0 : ClassId) (c0_w_truth_pr0 : Int32) (c1_w_truth_pr0 : Int32) (c2_w_truth_pr0 : Int32) (c3_w_truth_pr0 : Int32) (c4_w_truth_pr0 : Int32) (c5_w_truth_pr0 : Int32) (c6_w_truth_pr0 : Int32) (c7_w_truth_pr0 : Int32) (h0 : Heap) (n0 : Nat) (v : Option Value) (h : Heap) (L : List Loc) : Prop := v = some (.int (1 : Int32)) ∧ Fr n0 L ∧ h = h0
set_option maxRecDepth 65536 in
set_option maxHeartbeats 40000000 in
theorem rm6_k3ttttttt (l : Launch) (Z : State) (a0 : Array Value) (hw : ∀ d ∈ tables_1, d.before a0 Z = true) (ws : List Jvm.Cond) (pr0 : Addr) (w_truth_pr0 : Addr) (kk_w_truth_pr0 : ClassId) (c0_w_truth_pr0 : Int32) (c1_w_truth_pr0 : Int32) (c2_w_truth_pr0 : Int32) (c3_w_truth_pr0 : Int32) (c4_w_truth_pr0 : Int32) (c5_w_truth_pr0 : Int32) (c6_w_truth_pr0 : Int32) (c7_w_truth_pr0 : Int32) (h0 : Heap) (n0 : Nat) (Z0 : n0 ≤ h0.size) (O0 : Old Z n0 h0) (F_truth_pr0 : Fld Z h0 pr0 "com/example/gudl/gudl/GroundFactor" "truth" "[Z" (.ref w_truth_pr0)) (V_w_truth_pr0 : Arv Z h0 w_truth_pr0 kk_w_truth_pr0 .boolean (8 : Int32) [(.int c0_w_truth_pr0), (.int c1_w_truth_pr0), (.int c2_w_truth_pr0), (.int c3_w_truth_pr0), (.int c4_w_truth_pr0), (.int c5_w_truth_pr0), (.int c6_w_truth_pr0), (.int c7_w_truth_pr0)] (.int (0 : Int32))) (hc28_0 : c1_w_truth_pr0 = c0_w_truth_pr0) (hc28_1 : c2_w_truth_pr0 = c0_w_truth_pr0) (hc28_2 : c3_w_truth_pr0 = c0_w_truth_pr0) (hc28_3 : c4_w_truth_pr0 = c0_w_truth_pr0) (hc28_4 : c5_w_truth_pr0 = c0_w_truth_pr0) (hc28_5 : c6_w_truth_pr0 = c0_w_truth_pr0) (hc28_6 : c7_w_truth_pr0 = c0_w_truth_pr0) :
    MetFree l (⟨"com/example/gudl/gudl/GroundFactor", "isConstant", "()Z"⟩ : MethodName) (head1 (Jvm.Cond.code (⟨"com/example/gudl/gudl/GroundFactor", "isConstant", "()Z"⟩ : MethodName) prog_42_method_8_code 5 (some .boolean) :: ws) ({ frames := 0, cells := 0, slots := 0, locals := 0 } : Room)) (fun a U => a = #[(.ref pr0)] ∧ Z.Warmed39 U.vm ∧ U.heap = h0) (fun _ _ _ _ _ => True) (fun _ U o U' => ∃ v L, o = .returned v ∧ Q6_k3ttttttt Z pr0 w_truth_pr0 kk_w_truth_pr0 c0_w_truth_pr0 c1_w_truth_pr0 c2_w_truth_pr0 c3_w_truth_pr0 c4_w_truth_pr0 c5_w_truth_pr0 c6_w_truth_pr0 c7_w_truth_pr0 h0 n0 v U'.heap L ∧ FrameEnd U o U' L ({ frames := 0, cells := 0, slots := 0, locals := 0 } : Room).cells ({ frames := 0, cells := 0, slots := 0, locals := 0 } : Room).slots) := by
  refine MetFree.of_bodySF (plainFor_of_name pn_6) hisR ?_
  intro p e s m args below meth c s₁ Bd hml0 hP hK
  obtain ⟨rfl, hZ, hh⟩ := hP
  have hx := Bd.exec
  have hby := Bd.bytes
  have hml : c.maxLocals = 5 := hml0
  have hown : s.vm.findClass "com/example/gudl/gudl/GroundFactor" = some m.cls := findClass_of_methodNamed Bd.named
  have hnm := (name_of_methodNamed Bd.named Bd.method).1
  have X0 : Stand p l e ({ frames := 0, cells := 0, slots := 0, locals := 0 } : Room) s m #[(.ref pr0)] below meth c s₁ [] 0 0 := Stand.of_body Bd
  have e0 : s₁.heap = h0 := by rw [← hh, Bd.state]; rfl
  have N0 := Fr.nil n0
  have pre0 : ∀ t, Steps p.tables e below (s₁.setTop (mkF m 0 #[.val (.ref pr0), .unset, .unset, .unset, .unset] [])) t → Steps p.tables e below (s₁.setTop (entryFrame m #[(.ref pr0)] 5)) t := fun t k => castTop (ef_6 m pr0) k
  obtain ⟨T1, X1, e1, st1⟩ := getF X0 hx hZ hown (host := "") (Or.inl (own_W hw 25 rfl)) Via.refl e0 F_truth_pr0 (g := (mkF m 1 #[.val (.ref pr0), .unset, .unset, .unset, .unset] [(.ref pr0)])) rfl rfl (hb hby d6_1)
  have V_c2 := V_w_truth_pr0
  obtain ⟨c2, Arc2, qc2, Sc2, Nc2, Hc2, Gc2⟩ := V_c2
  have V_c3 := V_w_truth_pr0
  obtain ⟨c3, Arc3, qc3, Sc3, Nc3, Hc3, Gc3⟩ := V_c3
  have hin4 : ¬ ((0 : Int32) < 0 ∨ c3.slots.size ≤ ((0 : Int32)).toNatClampNeg) := inb_of Sc3 ⟨by decide, by decide⟩
  obtain ⟨T5, X5, e5, st5⟩ := getF X1 hx hZ hown (host := "") (Or.inl (own_W hw 25 rfl)) Via.refl e1 F_truth_pr0 (g := (mkF m 23 #[.val (.ref pr0), .val (.ref w_truth_pr0), .val (.int (8 : Int32)), .val (.int (0 : Int32)), .val (.int c0_w_truth_pr0)] [(.ref pr0), (.int c0_w_truth_pr0)])) rfl rfl (hb hby d6_23)
  have V_c6 := V_w_truth_pr0
  obtain ⟨c6, Arc6, qc6, Sc6, Nc6, Hc6, Gc6⟩ := V_c6
  have hin7 : ¬ ((0 : Int32) < 0 ∨ c6.slots.size ≤ ((0 : Int32)).toNatClampNeg) := inb_of Sc6 ⟨by decide, by decide⟩
  have V_c8 := V_w_truth_pr0
  obtain ⟨c8, Arc8, qc8, Sc8, Nc8, Hc8, Gc8⟩ := V_c8
  have hin9 : ¬ ((1 : Int32) < 0 ∨ c8.slots.size ≤ ((1 : Int32)).toNatClampNeg) := inb_of Sc8 ⟨by decide, by decide⟩
  obtain ⟨T10, X10, e10, st10⟩ := getF X5 hx hZ hown (host := "") (Or.inl (own_W hw 25 rfl)) Via.refl e5 F_truth_pr0 (g := (mkF m 23 #[.val (.ref pr0), .val (.ref w_truth_pr0), .val (.int (8 : Int32)), .val (.int (1 : Int32)), .val (.int c1_w_truth_pr0)] [(.ref pr0), (.int c1_w_truth_pr0)])) rfl rfl (hb hby d6_23)
  have V_c11 := V_w_truth_pr0
  obtain ⟨c11, Arc11, qc11, Sc11, Nc11, Hc11, Gc11⟩ := V_c11
  have hin12 : ¬ ((0 : Int32) < 0 ∨ c11.slots.size ≤ ((0 : Int32)).toNatClampNeg) := inb_of Sc11 ⟨by decide, by decide⟩
  have V_c13 := V_w_truth_pr0
  obtain ⟨c13, Arc13, qc13, Sc13, Nc13, Hc13, Gc13⟩ := V_c13
  have hin14 : ¬ ((2 : Int32) < 0 ∨ c13.slots.size ≤ ((2 : Int32)).toNatClampNeg) := inb_of Sc13 ⟨by decide, by decide⟩
  obtain ⟨T15, X15, e15, st15⟩ := getF X10 hx hZ hown (host := "") (Or.inl (own_W hw 25 rfl)) Via.refl e10 F_truth_pr0 (g := (mkF m 23 #[.val (.ref pr0), .val (.ref w_truth_pr0), .val (.int (8 : Int32)), .val (.int (2 : Int32)), .val (.int c2_w_truth_pr0)] [(.ref pr0), (.int c2_w_truth_pr0)])) rfl rfl (hb hby d6_23)
  have V_c16 := V_w_truth_pr0
  obtain ⟨c16, Arc16, qc16, Sc16, Nc16, Hc16, Gc16⟩ := V_c16
  have hin17 : ¬ ((0 : Int32) < 0 ∨ c16.slots.size ≤ ((0 : Int32)).toNatClampNeg) := inb_of Sc16 ⟨by decide, by decide⟩
  have V_c18 := V_w_truth_pr0
  obtain ⟨c18, Arc18, qc18, Sc18, Nc18, Hc18, Gc18⟩ := V_c18
  have hin19 : ¬ ((3 : Int32) < 0 ∨ c18.slots.size ≤ ((3 : Int32)).toNatClampNeg) := inb_of Sc18 ⟨by decide, by decide⟩
  obtain ⟨T20, X20, e20, st20⟩ := getF X15 hx hZ hown (host := "") (Or.inl (own_W hw 25 rfl)) Via.refl e15 F_truth_pr0 (g := (mkF m 23 #[.val (.ref pr0), .val (.ref w_truth_pr0), .val (.int (8 : Int32)), .val (.int (3 : Int32)), .val (.int c3_w_truth_pr0)] [(.ref pr0), (.int c3_w_truth_pr0)])) rfl rfl (hb hby d6_23)
  have V_c21 := V_w_truth_pr0
  obtain ⟨c21, Arc21, qc21, Sc21, Nc21, Hc21, Gc21⟩ := V_c21
  have hin22 : ¬ ((0 : Int32) < 0 ∨ c21.slots.size ≤ ((0 : Int32)).toNatClampNeg) := inb_of Sc21 ⟨by decide, by decide⟩
  have V_c23 := V_w_truth_pr0
  obtain ⟨c23, Arc23, qc23, Sc23, Nc23, Hc23, Gc23⟩ := V_c23
  have hin24 : ¬ ((4 : Int32) < 0 ∨ c23.slots.size ≤ ((4 : Int32)).toNatClampNeg) := inb_of Sc23 ⟨by decide, by decide⟩
  obtain ⟨T25, X25, e25, st25⟩ := getF X20 hx hZ hown (host := "") (Or.inl (own_W hw 25 rfl)) Via.refl e20 F_truth_pr0 (g := (mkF m 23 #[.val (.ref pr0), .val (.ref w_truth_pr0), .val (.int (8 : Int32)), .val (.int (4 : Int32)), .val (.int c4_w_truth_pr0)] [(.ref pr0), (.int c4_w_truth_pr0)])) rfl rfl (hb hby d6_23)
  have V_c26 := V_w_truth_pr0
  obtain ⟨c26, Arc26, qc26, Sc26, Nc26, Hc26, Gc26⟩ := V_c26
  have hin27 : ¬ ((0 : Int32) < 0 ∨ c26.slots.size ≤ ((0 : Int32)).toNatClampNeg) := inb_of Sc26 ⟨by decide, by decide⟩
  have V_c28 := V_w_truth_pr0
  obtain ⟨c28, Arc28, qc28, Sc28, Nc28, Hc28, Gc28⟩ := V_c28
  have hin29 : ¬ ((5 : Int32) < 0 ∨ c28.slots.size ≤ ((5 : Int32)).toNatClampNeg) := inb_of Sc28 ⟨by decide, by decide⟩
  obtain ⟨T30, X30, e30, st30⟩ := getF X25 hx hZ hown (host := "") (Or.inl (own_W hw 25 rfl)) Via.refl e25 F_truth_pr0 (g := (mkF m 23 #[.val (.ref pr0), .val (.ref w_truth_pr0), .val (.int (8 : Int32)), .val (.int (5 : Int32)), .val (.int c5_w_truth_pr0)] [(.ref pr0), (.int c5_w_truth_pr0)])) rfl rfl (hb hby d6_23)
  have V_c31 := V_w_truth_pr0
  obtain ⟨c31, Arc31, qc31, Sc31, Nc31, Hc31, Gc31⟩ := V_c31
  have hin32 : ¬ ((0 : Int32) < 0 ∨ c31.slots.size ≤ ((0 : Int32)).toNatClampNeg) := inb_of Sc31 ⟨by decide, by decide⟩
  have V_c33 := V_w_truth_pr0
  obtain ⟨c33, Arc33, qc33, Sc33, Nc33, Hc33, Gc33⟩ := V_c33
  have hin34 : ¬ ((6 : Int32) < 0 ∨ c33.slots.size ≤ ((6 : Int32)).toNatClampNeg) := inb_of Sc33 ⟨by decide, by decide⟩
  obtain ⟨T35, X35, e35, st35⟩ := getF X30 hx hZ hown (host := "") (Or.inl (own_W hw 25 rfl)) Via.refl e30 F_truth_pr0 (g := (mkF m 23 #[.val (.ref pr0), .val (.ref w_truth_pr0), .val (.int (8 : Int32)), .val (.int (6 : Int32)), .val (.int c6_w_truth_pr0)] [(.ref pr0), (.int c6_w_truth_pr0)])) rfl rfl (hb hby d6_23)
  have V_c36 := V_w_truth_pr0
  obtain ⟨c36, Arc36, qc36, Sc36, Nc36, Hc36, Gc36⟩ := V_c36
  have hin37 : ¬ ((0 : Int32) < 0 ∨ c36.slots.size ≤ ((0 : Int32)).toNatClampNeg) := inb_of Sc36 ⟨by decide, by decide⟩
  have V_c38 := V_w_truth_pr0
  obtain ⟨c38, Arc38, qc38, Sc38, Nc38, Hc38, Gc38⟩ := V_c38
  have hin39 : ¬ ((7 : Int32) < 0 ∨ c38.slots.size ≤ ((7 : Int32)).toNatClampNeg) := inb_of Sc38 ⟨by decide, by decide⟩
  obtain ⟨T40, X40, e40, st40⟩ := getF X35 hx hZ hown (host := "") (Or.inl (own_W hw 25 rfl)) Via.refl e35 F_truth_pr0 (g := (mkF m 23 #[.val (.ref pr0), .val (.ref w_truth_pr0), .val (.int (8 : Int32)), .val (.int (7 : Int32)), .val (.int c7_w_truth_pr0)] [(.ref pr0), (.int c7_w_truth_pr0)])) rfl rfl (hb hby d6_23)
  have V_c41 := V_w_truth_pr0
  obtain ⟨c41, Arc41, qc41, Sc41, Nc41, Hc41, Gc41⟩ := V_c41
  have hin42 : ¬ ((0 : Int32) < 0 ∨ c41.slots.size ≤ ((0 : Int32)).toNatClampNeg) := inb_of Sc41 ⟨by decide, by decide⟩
  obtain ⟨fs, hr, hrun, hended, hW, hsame⟩ := X40.leave (v := some (.int (1 : Int32))) (fun h => by rw [Bd.returns] at h; cases h)
  refine ⟨_, _, pre0 _ ?_, hrun, hended, _, _, rfl, ?_, ⟨_, rfl⟩, hW, hsame.mono (by decide) (by decide)⟩
  · show Stp p e below s₁ m 0 #[.val (.ref pr0), .unset, .unset, .unset, .unset] [] _
    refine XS.aloadN X0.here hx rfl (hb hby d6_0) rfl rfl ?_
    show Stp p e below s₁ m 1 #[.val (.ref pr0), .unset, .unset, .unset, .unset] [(.ref pr0)] _
    refine st1 _ ?_
    show Stp p e below T1 m 4 #[.val (.ref pr0), .unset, .unset, .unset, .unset] [(.ref w_truth_pr0)] _
    refine XS.astoreN X1.here hx rfl (hb hby d6_4) rfl rfl (l' := #[.val (.ref pr0), .val (.ref w_truth_pr0), .unset, .unset, .unset]) rfl ?_
    show Stp p e below T1 m 5 #[.val (.ref pr0), .val (.ref w_truth_pr0), .unset, .unset, .unset] [] _
    refine XS.aloadN X1.here hx rfl (hb hby d6_5) rfl rfl ?_
    show Stp p e below T1 m 6 #[.val (.ref pr0), .val (.ref w_truth_pr0), .unset, .unset, .unset] [(.ref w_truth_pr0)] _
    refine X1.arraylength hx (by rw [e1]; exact Arc2.1) (State.isArrayOf_alike hZ.alike Arc2.2.1) (g := (mkF m 6 #[.val (.ref pr0), .val (.ref w_truth_pr0), .unset, .unset, .unset] [(.ref w_truth_pr0)])) rfl rfl (hb hby d6_6) _ ?_
    rw [len_of Sc2 Nc2]
    show Stp p e below T1 m 7 #[.val (.ref pr0), .val (.ref w_truth_pr0), .unset, .unset, .unset] [(.int (8 : Int32))] _
    refine XS.istoreN X1.here hx rfl (hb hby d6_7) rfl (l' := #[.val (.ref pr0), .val (.ref w_truth_pr0), .val (.int (8 : Int32)), .unset, .unset]) rfl ?_
    show Stp p e below T1 m 8 #[.val (.ref pr0), .val (.ref w_truth_pr0), .val (.int (8 : Int32)), .unset, .unset] [] _
    refine XS.iconst X1.here hx rfl (hb hby d6_8) ?_
    show Stp p e below T1 m 9 #[.val (.ref pr0), .val (.ref w_truth_pr0), .val (.int (8 : Int32)), .unset, .unset] [(.int (0 : Int32))] _
    refine XS.istoreN X1.here hx rfl (hb hby d6_9) rfl (l' := #[.val (.ref pr0), .val (.ref w_truth_pr0), .val (.int (8 : Int32)), .val (.int (0 : Int32)), .unset]) rfl ?_
    show Stp p e below T1 m 10 #[.val (.ref pr0), .val (.ref w_truth_pr0), .val (.int (8 : Int32)), .val (.int (0 : Int32)), .unset] [] _
    refine XS.iloadN X1.here hx rfl (hb hby d6_10) rfl ?_
    show Stp p e below T1 m 11 #[.val (.ref pr0), .val (.ref w_truth_pr0), .val (.int (8 : Int32)), .val (.int (0 : Int32)), .unset] [(.int (0 : Int32))] _
    refine XS.iloadN X1.here hx rfl (hb hby d6_11) rfl ?_
    show Stp p e below T1 m 12 #[.val (.ref pr0), .val (.ref w_truth_pr0), .val (.int (8 : Int32)), .val (.int (0 : Int32)), .unset] [(.int (8 : Int32)), (.int (0 : Int32))] _
    refine XS.icmpNo X1.here hx rfl (hb hby d6_12) rfl (tlt (by decide : (0 : Int32) < (8 : Int32))).2.1 ?_
    show Stp p e below T1 m 15 #[.val (.ref pr0), .val (.ref w_truth_pr0), .val (.int (8 : Int32)), .val (.int (0 : Int32)), .unset] [] _
    refine XS.aloadN X1.here hx rfl (hb hby d6_15) rfl rfl ?_
    show Stp p e below T1 m 16 #[.val (.ref pr0), .val (.ref w_truth_pr0), .val (.int (8 : Int32)), .val (.int (0 : Int32)), .unset] [(.ref w_truth_pr0)] _
    refine XS.iloadN X1.here hx rfl (hb hby d6_16) rfl ?_
    show Stp p e below T1 m 17 #[.val (.ref pr0), .val (.ref w_truth_pr0), .val (.int (8 : Int32)), .val (.int (0 : Int32)), .unset] [(.int (0 : Int32)), (.ref w_truth_pr0)] _
    refine X1.baloadBooleans hx (j := (0 : Int32)) (v := (.int c0_w_truth_pr0)) (by rw [e1]; exact Arc3.1) (State.isArrayOf_alike hZ.alike Arc3.2.1) Arc3.2.2 hin4 (Has.at Hc3 hin4 rfl) (g := (mkF m 17 #[.val (.ref pr0), .val (.ref w_truth_pr0), .val (.int (8 : Int32)), .val (.int (0 : Int32)), .unset] [(.int (0 : Int32)), (.ref w_truth_pr0)])) rfl rfl (hb hby d6_17) _ ?_
    show Stp p e below T1 m 18 #[.val (.ref pr0), .val (.ref w_truth_pr0), .val (.int (8 : Int32)), .val (.int (0 : Int32)), .unset] [(.int c0_w_truth_pr0)] _
    refine XS.istore X1.here hx rfl (hb hby d6_18) rfl (l' := #[.val (.ref pr0), .val (.ref w_truth_pr0), .val (.int (8 : Int32)), .val (.int (0 : Int32)), .val (.int c0_w_truth_pr0)]) rfl ?_
    show Stp p e below T1 m 20 #[.val (.ref pr0), .val (.ref w_truth_pr0), .val (.int (8 : Int32)), .val (.int (0 : Int32)), .val (.int c0_w_truth_pr0)] [] _
    refine XS.iload X1.here hx rfl (hb hby d6_20) rfl ?_
    show Stp p e below T1 m 22 #[.val (.ref pr0), .val (.ref w_truth_pr0), .val (.int (8 : Int32)), .val (.int (0 : Int32)), .val (.int c0_w_truth_pr0)] [(.int c0_w_truth_pr0)] _
    refine XS.aloadN X1.here hx rfl (hb hby d6_22) rfl rfl ?_
    show Stp p e below T1 m 23 #[.val (.ref pr0), .val (.ref w_truth_pr0), .val (.int (8 : Int32)), .val (.int (0 : Int32)), .val (.int c0_w_truth_pr0)] [(.ref pr0), (.int c0_w_truth_pr0)] _
    refine st5 _ ?_
    show Stp p e below T5 m 26 #[.val (.ref pr0), .val (.ref w_truth_pr0), .val (.int (8 : Int32)), .val (.int (0 : Int32)), .val (.int c0_w_truth_pr0)] [(.ref w_truth_pr0), (.int c0_w_truth_pr0)] _
    refine XS.iconst X5.here hx rfl (hb hby d6_26) ?_
    show Stp p e below T5 m 27 #[.val (.ref pr0), .val (.ref w_truth_pr0), .val (.int (8 : Int32)), .val (.int (0 : Int32)), .val (.int c0_w_truth_pr0)] [(.int (0 : Int32)), (.ref w_truth_pr0), (.int c0_w_truth_pr0)] _
    refine X5.baloadBooleans hx (j := (0 : Int32)) (v := (.int c0_w_truth_pr0)) (by rw [e5]; exact Arc6.1) (State.isArrayOf_alike hZ.alike Arc6.2.1) Arc6.2.2 hin7 (Has.at Hc6 hin7 rfl) (g := (mkF m 27 #[.val (.ref pr0), .val (.ref w_truth_pr0), .val (.int (8 : Int32)), .val (.int (0 : Int32)), .val (.int c0_w_truth_pr0)] [(.int (0 : Int32)), (.ref w_truth_pr0), (.int c0_w_truth_pr0)])) rfl rfl (hb hby d6_27) _ ?_
    show Stp p e below T5 m 28 #[.val (.ref pr0), .val (.ref w_truth_pr0), .val (.int (8 : Int32)), .val (.int (0 : Int32)), .val (.int c0_w_truth_pr0)] [(.int c0_w_truth_pr0), (.int c0_w_truth_pr0)] _
    refine XS.icmpYes X5.here hx rfl (pc0 := 28) (pc' := 33) rfl (hb hby d6_28) rfl (teq (rfl : c0_w_truth_pr0 = c0_w_truth_pr0)).1 (by decide) (by decide) ?_
    show Stp p e below T5 m 33 #[.val (.ref pr0), .val (.ref w_truth_pr0), .val (.int (8 : Int32)), .val (.int (0 : Int32)), .val (.int c0_w_truth_pr0)] [] _
    refine XS.iinc X5.here hx rfl (hb hby d6_33) rfl (l' := #[.val (.ref pr0), .val (.ref w_truth_pr0), .val (.int (8 : Int32)), .val (.int (1 : Int32)), .val (.int c0_w_truth_pr0)]) rfl ?_
    show Stp p e below T5 m 36 #[.val (.ref pr0), .val (.ref w_truth_pr0), .val (.int (8 : Int32)), .val (.int (1 : Int32)), .val (.int c0_w_truth_pr0)] [] _
    refine XS.goto X5.here hx rfl (pc0 := 36) (pc' := 10) rfl (hb hby d6_36) (by decide) (by decide) ?_
    show Stp p e below T5 m 10 #[.val (.ref pr0), .val (.ref w_truth_pr0), .val (.int (8 : Int32)), .val (.int (1 : Int32)), .val (.int c0_w_truth_pr0)] [] _
    refine XS.iloadN X5.here hx rfl (hb hby d6_10) rfl ?_
    show Stp p e below T5 m 11 #[.val (.ref pr0), .val (.ref w_truth_pr0), .val (.int (8 : Int32)), .val (.int (1 : Int32)), .val (.int c0_w_truth_pr0)] [(.int (1 : Int32))] _
    refine XS.iloadN X5.here hx rfl (hb hby d6_11) rfl ?_
    show Stp p e below T5 m 12 #[.val (.ref pr0), .val (.ref w_truth_pr0), .val (.int (8 : Int32)), .val (.int (1 : Int32)), .val (.int c0_w_truth_pr0)] [(.int (8 : Int32)), (.int (1 : Int32))] _
    refine XS.icmpNo X5.here hx rfl (hb hby d6_12) rfl (tlt (by decide : (1 : Int32) < (8 : Int32))).2.1 ?_
    show Stp p e below T5 m 15 #[.val (.ref pr0), .val (.ref w_truth_pr0), .val (.int (8 : Int32)), .val (.int (1 : Int32)), .val (.int c0_w_truth_pr0)] [] _
    refine XS.aloadN X5.here hx rfl (hb hby d6_15) rfl rfl ?_
    show Stp p e below T5 m 16 #[.val (.ref pr0), .val (.ref w_truth_pr0), .val (.int (8 : Int32)), .val (.int (1 : Int32)), .val (.int c0_w_truth_pr0)] [(.ref w_truth_pr0)] _
    refine XS.iloadN X5.here hx rfl (hb hby d6_16) rfl ?_
    show Stp p e below T5 m 17 #[.val (.ref pr0), .val (.ref w_truth_pr0), .val (.int (8 : Int32)), .val (.int (1 : Int32)), .val (.int c0_w_truth_pr0)] [(.int (1 : Int32)), (.ref w_truth_pr0)] _
    refine X5.baloadBooleans hx (j := (1 : Int32)) (v := (.int c1_w_truth_pr0)) (by rw [e5]; exact Arc8.1) (State.isArrayOf_alike hZ.alike Arc8.2.1) Arc8.2.2 hin9 (Has.at Hc8 hin9 rfl) (g := (mkF m 17 #[.val (.ref pr0), .val (.ref w_truth_pr0), .val (.int (8 : Int32)), .val (.int (1 : Int32)), .val (.int c0_w_truth_pr0)] [(.int (1 : Int32)), (.ref w_truth_pr0)])) rfl rfl (hb hby d6_17) _ ?_
    show Stp p e below T5 m 18 #[.val (.ref pr0), .val (.ref w_truth_pr0), .val (.int (8 : Int32)), .val (.int (1 : Int32)), .val (.int c0_w_truth_pr0)] [(.int c1_w_truth_pr0)] _
    refine XS.istore X5.here hx rfl (hb hby d6_18) rfl (l' := #[.val (.ref pr0), .val (.ref w_truth_pr0), .val (.int (8 : Int32)), .val (.int (1 : Int32)), .val (.int c1_w_truth_pr0)]) rfl ?_
    show Stp p e below T5 m 20 #[.val (.ref pr0), .val (.ref w_truth_pr0), .val (.int (8 : Int32)), .val (.int (1 : Int32)), .val (.int c1_w_truth_pr0)] [] _
    refine XS.iload X5.here hx rfl (hb hby d6_20) rfl ?_
    show Stp p e below T5 m 22 #[.val (.ref pr0), .val (.ref w_truth_pr0), .val (.int (8 : Int32)), .val (.int (1 : Int32)), .val (.int c1_w_truth_pr0)] [(.int c1_w_truth_pr0)] _
    refine XS.aloadN X5.here hx rfl (hb hby d6_22) rfl rfl ?_
    show Stp p e below T5 m 23 #[.val (.ref pr0), .val (.ref w_truth_pr0), .val (.int (8 : Int32)), .val (.int (1 : Int32)), .val (.int c1_w_truth_pr0)] [(.ref pr0), (.int c1_w_truth_pr0)] _
    refine st10 _ ?_
    show Stp p e below T10 m 26 #[.val (.ref pr0), .val (.ref w_truth_pr0), .val (.int (8 : Int32)), .val (.int (1 : Int32)), .val (.int c1_w_truth_pr0)] [(.ref w_truth_pr0), (.int c1_w_truth_pr0)] _
    refine XS.iconst X10.here hx rfl (hb hby d6_26) ?_
    show Stp p e below T10 m 27 #[.val (.ref pr0), .val (.ref w_truth_pr0), .val (.int (8 : Int32)), .val (.int (1 : Int32)), .val (.int c1_w_truth_pr0)] [(.int (0 : Int32)), (.ref w_truth_pr0), (.int c1_w_truth_pr0)] _
    refine X10.baloadBooleans hx (j := (0 : Int32)) (v := (.int c0_w_truth_pr0)) (by rw [e10]; exact Arc11.1) (State.isArrayOf_alike hZ.alike Arc11.2.1) Arc11.2.2 hin12 (Has.at Hc11 hin12 rfl) (g := (mkF m 27 #[.val (.ref pr0), .val (.ref w_truth_pr0), .val (.int (8 : Int32)), .val (.int (1 : Int32)), .val (.int c1_w_truth_pr0)] [(.int (0 : Int32)), (.ref w_truth_pr0), (.int c1_w_truth_pr0)])) rfl rfl (hb hby d6_27) _ ?_
    show Stp p e below T10 m 28 #[.val (.ref pr0), .val (.ref w_truth_pr0), .val (.int (8 : Int32)), .val (.int (1 : Int32)), .val (.int c1_w_truth_pr0)] [(.int c0_w_truth_pr0), (.int c1_w_truth_pr0)] _
    refine XS.icmpYes X10.here hx rfl (pc0 := 28) (pc' := 33) rfl (hb hby d6_28) rfl (teq hc28_0).1 (by decide) (by decide) ?_
    show Stp p e below T10 m 33 #[.val (.ref pr0), .val (.ref w_truth_pr0), .val (.int (8 : Int32)), .val (.int (1 : Int32)), .val (.int c1_w_truth_pr0)] [] _
    refine XS.iinc X10.here hx rfl (hb hby d6_33) rfl (l' := #[.val (.ref pr0), .val (.ref w_truth_pr0), .val (.int (8 : Int32)), .val (.int (2 : Int32)), .val (.int c1_w_truth_pr0)]) rfl ?_
    show Stp p e below T10 m 36 #[.val (.ref pr0), .val (.ref w_truth_pr0), .val (.int (8 : Int32)), .val (.int (2 : Int32)), .val (.int c1_w_truth_pr0)] [] _
    refine XS.goto X10.here hx rfl (pc0 := 36) (pc' := 10) rfl (hb hby d6_36) (by decide) (by decide) ?_
    show Stp p e below T10 m 10 #[.val (.ref pr0), .val (.ref w_truth_pr0), .val (.int (8 : Int32)), .val (.int (2 : Int32)), .val (.int c1_w_truth_pr0)] [] _
    refine XS.iloadN X10.here hx rfl (hb hby d6_10) rfl ?_
    show Stp p e below T10 m 11 #[.val (.ref pr0), .val (.ref w_truth_pr0), .val (.int (8 : Int32)), .val (.int (2 : Int32)), .val (.int c1_w_truth_pr0)] [(.int (2 : Int32))] _
    refine XS.iloadN X10.here hx rfl (hb hby d6_11) rfl ?_
    show Stp p e below T10 m 12 #[.val (.ref pr0), .val (.ref w_truth_pr0), .val (.int (8 : Int32)), .val (.int (2 : Int32)), .val (.int c1_w_truth_pr0)] [(.int (8 : Int32)), (.int (2 : Int32))] _
    refine XS.icmpNo X10.here hx rfl (hb hby d6_12) rfl (tlt (by decide : (2 : Int32) < (8 : Int32))).2.1 ?_
    show Stp p e below T10 m 15 #[.val (.ref pr0), .val (.ref w_truth_pr0), .val (.int (8 : Int32)), .val (.int (2 : Int32)), .val (.int c1_w_truth_pr0)] [] _
    refine XS.aloadN X10.here hx rfl (hb hby d6_15) rfl rfl ?_
    show Stp p e below T10 m 16 #[.val (.ref pr0), .val (.ref w_truth_pr0), .val (.int (8 : Int32)), .val (.int (2 : Int32)), .val (.int c1_w_truth_pr0)] [(.ref w_truth_pr0)] _
    refine XS.iloadN X10.here hx rfl (hb hby d6_16) rfl ?_
    show Stp p e below T10 m 17 #[.val (.ref pr0), .val (.ref w_truth_pr0), .val (.int (8 : Int32)), .val (.int (2 : Int32)), .val (.int c1_w_truth_pr0)] [(.int (2 : Int32)), (.ref w_truth_pr0)] _
    refine X10.baloadBooleans hx (j := (2 : Int32)) (v := (.int c2_w_truth_pr0)) (by rw [e10]; exact Arc13.1) (State.isArrayOf_alike hZ.alike Arc13.2.1) Arc13.2.2 hin14 (Has.at Hc13 hin14 rfl) (g := (mkF m 17 #[.val (.ref pr0), .val (.ref w_truth_pr0), .val (.int (8 : Int32)), .val (.int (2 : Int32)), .val (.int c1_w_truth_pr0)] [(.int (2 : Int32)), (.ref w_truth_pr0)])) rfl rfl (hb hby d6_17) _ ?_
    show Stp p e below T10 m 18 #[.val (.ref pr0), .val (.ref w_truth_pr0), .val (.int (8 : Int32)), .val (.int (2 : Int32)), .val (.int c1_w_truth_pr0)] [(.int c2_w_truth_pr0)] _
    refine XS.istore X10.here hx rfl (hb hby d6_18) rfl (l' := #[.val (.ref pr0), .val (.ref w_truth_pr0), .val (.int (8 : Int32)), .val (.int (2 : Int32)), .val (.int c2_w_truth_pr0)]) rfl ?_
    show Stp p e below T10 m 20 #[.val (.ref pr0), .val (.ref w_truth_pr0), .val (.int (8 : Int32)), .val (.int (2 : Int32)), .val (.int c2_w_truth_pr0)] [] _
    refine XS.iload X10.here hx rfl (hb hby d6_20) rfl ?_
    show Stp p e below T10 m 22 #[.val (.ref pr0), .val (.ref w_truth_pr0), .val (.int (8 : Int32)), .val (.int (2 : Int32)), .val (.int c2_w_truth_pr0)] [(.int c2_w_truth_pr0)] _
    refine XS.aloadN X10.here hx rfl (hb hby d6_22) rfl rfl ?_
    show Stp p e below T10 m 23 #[.val (.ref pr0), .val (.ref w_truth_pr0), .val (.int (8 : Int32)), .val (.int (2 : Int32)), .val (.int c2_w_truth_pr0)] [(.ref pr0), (.int c2_w_truth_pr0)] _
    refine st15 _ ?_
    show Stp p e below T15 m 26 #[.val (.ref pr0), .val (.ref w_truth_pr0), .val (.int (8 : Int32)), .val (.int (2 : Int32)), .val (.int c2_w_truth_pr0)] [(.ref w_truth_pr0), (.int c2_w_truth_pr0)] _
    refine XS.iconst X15.here hx rfl (hb hby d6_26) ?_
    show Stp p e below T15 m 27 #[.val (.ref pr0), .val (.ref w_truth_pr0), .val (.int (8 : Int32)), .val (.int (2 : Int32)), .val (.int c2_w_truth_pr0)] [(.int (0 : Int32)), (.ref w_truth_pr0), (.int c2_w_truth_pr0)] _
    refine X15.baloadBooleans hx (j := (0 : Int32)) (v := (.int c0_w_truth_pr0)) (by rw [e15]; exact Arc16.1) (State.isArrayOf_alike hZ.alike Arc16.2.1) Arc16.2.2 hin17 (Has.at Hc16 hin17 rfl) (g := (mkF m 27 #[.val (.ref pr0), .val (.ref w_truth_pr0), .val (.int (8 : Int32)), .val (.int (2 : Int32)), .val (.int c2_w_truth_pr0)] [(.int (0 : Int32)), (.ref w_truth_pr0), (.int c2_w_truth_pr0)])) rfl rfl (hb hby d6_27) _ ?_
    show Stp p e below T15 m 28 #[.val (.ref pr0), .val (.ref w_truth_pr0), .val (.int (8 : Int32)), .val (.int (2 : Int32)), .val (.int c2_w_truth_pr0)] [(.int c0_w_truth_pr0), (.int c2_w_truth_pr0)] _
    refine XS.icmpYes X15.here hx rfl (pc0 := 28) (pc' := 33) rfl (hb hby d6_28) rfl (teq hc28_1).1 (by decide) (by decide) ?_
    show Stp p e below T15 m 33 #[.val (.ref pr0), .val (.ref w_truth_pr0), .val (.int (8 : Int32)), .val (.int (2 : Int32)), .val (.int c2_w_truth_pr0)] [] _
    refine XS.iinc X15.here hx rfl (hb hby d6_33) rfl (l' := #[.val (.ref pr0), .val (.ref w_truth_pr0), .val (.int (8 : Int32)), .val (.int (3 : Int32)), .val (.int c2_w_truth_pr0)]) rfl ?_
    show Stp p e below T15 m 36 #[.val (.ref pr0), .val (.ref w_truth_pr0), .val (.int (8 : Int32)), .val (.int (3 : Int32)), .val (.int c2_w_truth_pr0)] [] _
    refine XS.goto X15.here hx rfl (pc0 := 36) (pc' := 10) rfl (hb hby d6_36) (by decide) (by decide) ?_
    show Stp p e below T15 m 10 #[.val (.ref pr0), .val (.ref w_truth_pr0), .val (.int (8 : Int32)), .val (.int (3 : Int32)), .val (.int c2_w_truth_pr0)] [] _
    refine XS.iloadN X15.here hx rfl (hb hby d6_10) rfl ?_
    show Stp p e below T15 m 11 #[.val (.ref pr0), .val (.ref w_truth_pr0), .val (.int (8 : Int32)), .val (.int (3 : Int32)), .val (.int c2_w_truth_pr0)] [(.int (3 : Int32))] _
    refine XS.iloadN X15.here hx rfl (hb hby d6_11) rfl ?_
    show Stp p e below T15 m 12 #[.val (.ref pr0), .val (.ref w_truth_pr0), .val (.int (8 : Int32)), .val (.int (3 : Int32)), .val (.int c2_w_truth_pr0)] [(.int (8 : Int32)), (.int (3 : Int32))] _
    refine XS.icmpNo X15.here hx rfl (hb hby d6_12) rfl (tlt (by decide : (3 : Int32) < (8 : Int32))).2.1 ?_
    show Stp p e below T15 m 15 #[.val (.ref pr0), .val (.ref w_truth_pr0), .val (.int (8 : Int32)), .val (.int (3 : Int32)), .val (.int c2_w_truth_pr0)] [] _
    refine XS.aloadN X15.here hx rfl (hb hby d6_15) rfl rfl ?_
    show Stp p e below T15 m 16 #[.val (.ref pr0), .val (.ref w_truth_pr0), .val (.int (8 : Int32)), .val (.int (3 : Int32)), .val (.int c2_w_truth_pr0)] [(.ref w_truth_pr0)] _
    refine XS.iloadN X15.here hx rfl (hb hby d6_16) rfl ?_
    show Stp p e below T15 m 17 #[.val (.ref pr0), .val (.ref w_truth_pr0), .val (.int (8 : Int32)), .val (.int (3 : Int32)), .val (.int c2_w_truth_pr0)] [(.int (3 : Int32)), (.ref w_truth_pr0)] _
    refine X15.baloadBooleans hx (j := (3 : Int32)) (v := (.int c3_w_truth_pr0)) (by rw [e15]; exact Arc18.1) (State.isArrayOf_alike hZ.alike Arc18.2.1) Arc18.2.2 hin19 (Has.at Hc18 hin19 rfl) (g := (mkF m 17 #[.val (.ref pr0), .val (.ref w_truth_pr0), .val (.int (8 : Int32)), .val (.int (3 : Int32)), .val (.int c2_w_truth_pr0)] [(.int (3 : Int32)), (.ref w_truth_pr0)])) rfl rfl (hb hby d6_17) _ ?_
    show Stp p e below T15 m 18 #[.val (.ref pr0), .val (.ref w_truth_pr0), .val (.int (8 : Int32)), .val (.int (3 : Int32)), .val (.int c2_w_truth_pr0)] [(.int c3_w_truth_pr0)] _
    refine XS.istore X15.here hx rfl (hb hby d6_18) rfl (l' := #[.val (.ref pr0), .val (.ref w_truth_pr0), .val (.int (8 : Int32)), .val (.int (3 : Int32)), .val (.int c3_w_truth_pr0)]) rfl ?_
    show Stp p e below T15 m 20 #[.val (.ref pr0), .val (.ref w_truth_pr0), .val (.int (8 : Int32)), .val (.int (3 : Int32)), .val (.int c3_w_truth_pr0)] [] _
    refine XS.iload X15.here hx rfl (hb hby d6_20) rfl ?_
    show Stp p e below T15 m 22 #[.val (.ref pr0), .val (.ref w_truth_pr0), .val (.int (8 : Int32)), .val (.int (3 : Int32)), .val (.int c3_w_truth_pr0)] [(.int c3_w_truth_pr0)] _
    refine XS.aloadN X15.here hx rfl (hb hby d6_22) rfl rfl ?_
    show Stp p e below T15 m 23 #[.val (.ref pr0), .val (.ref w_truth_pr0), .val (.int (8 : Int32)), .val (.int (3 : Int32)), .val (.int c3_w_truth_pr0)] [(.ref pr0), (.int c3_w_truth_pr0)] _
    refine st20 _ ?_
    show Stp p e below T20 m 26 #[.val (.ref pr0), .val (.ref w_truth_pr0), .val (.int (8 : Int32)), .val (.int (3 : Int32)), .val (.int c3_w_truth_pr0)] [(.ref w_truth_pr0), (.int c3_w_truth_pr0)] _
    refine XS.iconst X20.here hx rfl (hb hby d6_26) ?_
    show Stp p e below T20 m 27 #[.val (.ref pr0), .val (.ref w_truth_pr0), .val (.int (8 : Int32)), .val (.int (3 : Int32)), .val (.int c3_w_truth_pr0)] [(.int (0 : Int32)), (.ref w_truth_pr0), (.int c3_w_truth_pr0)] _
    refine X20.baloadBooleans hx (j := (0 : Int32)) (v := (.int c0_w_truth_pr0)) (by rw [e20]; exact Arc21.1) (State.isArrayOf_alike hZ.alike Arc21.2.1) Arc21.2.2 hin22 (Has.at Hc21 hin22 rfl) (g := (mkF m 27 #[.val (.ref pr0), .val (.ref w_truth_pr0), .val (.int (8 : Int32)), .val (.int (3 : Int32)), .val (.int c3_w_truth_pr0)] [(.int (0 : Int32)), (.ref w_truth_pr0), (.int c3_w_truth_pr0)])) rfl rfl (hb hby d6_27) _ ?_
    show Stp p e below T20 m 28 #[.val (.ref pr0), .val (.ref w_truth_pr0), .val (.int (8 : Int32)), .val (.int (3 : Int32)), .val (.int c3_w_truth_pr0)] [(.int c0_w_truth_pr0), (.int c3_w_truth_pr0)] _
    refine XS.icmpYes X20.here hx rfl (pc0 := 28) (pc' := 33) rfl (hb hby d6_28) rfl (teq hc28_2).1 (by decide) (by decide) ?_
    show Stp p e below T20 m 33 #[.val (.ref pr0), .val (.ref w_truth_pr0), .val (.int (8 : Int32)), .val (.int (3 : Int32)), .val (.int c3_w_truth_pr0)] [] _
    refine XS.iinc X20.here hx rfl (hb hby d6_33) rfl (l' := #[.val (.ref pr0), .val (.ref w_truth_pr0), .val (.int (8 : Int32)), .val (.int (4 : Int32)), .val (.int c3_w_truth_pr0)]) rfl ?_
    show Stp p e below T20 m 36 #[.val (.ref pr0), .val (.ref w_truth_pr0), .val (.int (8 : Int32)), .val (.int (4 : Int32)), .val (.int c3_w_truth_pr0)] [] _
    refine XS.goto X20.here hx rfl (pc0 := 36) (pc' := 10) rfl (hb hby d6_36) (by decide) (by decide) ?_
    show Stp p e below T20 m 10 #[.val (.ref pr0), .val (.ref w_truth_pr0), .val (.int (8 : Int32)), .val (.int (4 : Int32)), .val (.int c3_w_truth_pr0)] [] _
    refine XS.iloadN X20.here hx rfl (hb hby d6_10) rfl ?_
    show Stp p e below T20 m 11 #[.val (.ref pr0), .val (.ref w_truth_pr0), .val (.int (8 : Int32)), .val (.int (4 : Int32)), .val (.int c3_w_truth_pr0)] [(.int (4 : Int32))] _
    refine XS.iloadN X20.here hx rfl (hb hby d6_11) rfl ?_
    show Stp p e below T20 m 12 #[.val (.ref pr0), .val (.ref w_truth_pr0), .val (.int (8 : Int32)), .val (.int (4 : Int32)), .val (.int c3_w_truth_pr0)] [(.int (8 : Int32)), (.int (4 : Int32))] _
    refine XS.icmpNo X20.here hx rfl (hb hby d6_12) rfl (tlt (by decide : (4 : Int32) < (8 : Int32))).2.1 ?_
    show Stp p e below T20 m 15 #[.val (.ref pr0), .val (.ref w_truth_pr0), .val (.int (8 : Int32)), .val (.int (4 : Int32)), .val (.int c3_w_truth_pr0)] [] _
    refine XS.aloadN X20.here hx rfl (hb hby d6_15) rfl rfl ?_
    show Stp p e below T20 m 16 #[.val (.ref pr0), .val (.ref w_truth_pr0), .val (.int (8 : Int32)), .val (.int (4 : Int32)), .val (.int c3_w_truth_pr0)] [(.ref w_truth_pr0)] _
    refine XS.iloadN X20.here hx rfl (hb hby d6_16) rfl ?_
    show Stp p e below T20 m 17 #[.val (.ref pr0), .val (.ref w_truth_pr0), .val (.int (8 : Int32)), .val (.int (4 : Int32)), .val (.int c3_w_truth_pr0)] [(.int (4 : Int32)), (.ref w_truth_pr0)] _
    refine X20.baloadBooleans hx (j := (4 : Int32)) (v := (.int c4_w_truth_pr0)) (by rw [e20]; exact Arc23.1) (State.isArrayOf_alike hZ.alike Arc23.2.1) Arc23.2.2 hin24 (Has.at Hc23 hin24 rfl) (g := (mkF m 17 #[.val (.ref pr0), .val (.ref w_truth_pr0), .val (.int (8 : Int32)), .val (.int (4 : Int32)), .val (.int c3_w_truth_pr0)] [(.int (4 : Int32)), (.ref w_truth_pr0)])) rfl rfl (hb hby d6_17) _ ?_
    show Stp p e below T20 m 18 #[.val (.ref pr0), .val (.ref w_truth_pr0), .val (.int (8 : Int32)), .val (.int (4 : Int32)), .val (.int c3_w_truth_pr0)] [(.int c4_w_truth_pr0)] _
    refine XS.istore X20.here hx rfl (hb hby d6_18) rfl (l' := #[.val (.ref pr0), .val (.ref w_truth_pr0), .val (.int (8 : Int32)), .val (.int (4 : Int32)), .val (.int c4_w_truth_pr0)]) rfl ?_
    show Stp p e below T20 m 20 #[.val (.ref pr0), .val (.ref w_truth_pr0), .val (.int (8 : Int32)), .val (.int (4 : Int32)), .val (.int c4_w_truth_pr0)] [] _
    refine XS.iload X20.here hx rfl (hb hby d6_20) rfl ?_
    show Stp p e below T20 m 22 #[.val (.ref pr0), .val (.ref w_truth_pr0), .val (.int (8 : Int32)), .val (.int (4 : Int32)), .val (.int c4_w_truth_pr0)] [(.int c4_w_truth_pr0)] _
    refine XS.aloadN X20.here hx rfl (hb hby d6_22) rfl rfl ?_
    show Stp p e below T20 m 23 #[.val (.ref pr0), .val (.ref w_truth_pr0), .val (.int (8 : Int32)), .val (.int (4 : Int32)), .val (.int c4_w_truth_pr0)] [(.ref pr0), (.int c4_w_truth_pr0)] _
    refine st25 _ ?_
    show Stp p e below T25 m 26 #[.val (.ref pr0), .val (.ref w_truth_pr0), .val (.int (8 : Int32)), .val (.int (4 : Int32)), .val (.int c4_w_truth_pr0)] [(.ref w_truth_pr0), (.int c4_w_truth_pr0)] _
    refine XS.iconst X25.here hx rfl (hb hby d6_26) ?_
    show Stp p e below T25 m 27 #[.val (.ref pr0), .val (.ref w_truth_pr0), .val (.int (8 : Int32)), .val (.int (4 : Int32)), .val (.int c4_w_truth_pr0)] [(.int (0 : Int32)), (.ref w_truth_pr0), (.int c4_w_truth_pr0)] _
    refine X25.baloadBooleans hx (j := (0 : Int32)) (v := (.int c0_w_truth_pr0)) (by rw [e25]; exact Arc26.1) (State.isArrayOf_alike hZ.alike Arc26.2.1) Arc26.2.2 hin27 (Has.at Hc26 hin27 rfl) (g := (mkF m 27 #[.val (.ref pr0), .val (.ref w_truth_pr0), .val (.int (8 : Int32)), .val (.int (4 : Int32)), .val (.int c4_w_truth_pr0)] [(.int (0 : Int32)), (.ref w_truth_pr0), (.int c4_w_truth_pr0)])) rfl rfl (hb hby d6_27) _ ?_
    show Stp p e below T25 m 28 #[.val (.ref pr0), .val (.ref w_truth_pr0), .val (.int (8 : Int32)), .val (.int (4 : Int32)), .val (.int c4_w_truth_pr0)] [(.int c0_w_truth_pr0), (.int c4_w_truth_pr0)] _
    refine XS.icmpYes X25.here hx rfl (pc0 := 28) (pc' := 33) rfl (hb hby d6_28) rfl (teq hc28_3).1 (by decide) (by decide) ?_
    show Stp p e below T25 m 33 #[.val (.ref pr0), .val (.ref w_truth_pr0), .val (.int (8 : Int32)), .val (.int (4 : Int32)), .val (.int c4_w_truth_pr0)] [] _
    refine XS.iinc X25.here hx rfl (hb hby d6_33) rfl (l' := #[.val (.ref pr0), .val (.ref w_truth_pr0), .val (.int (8 : Int32)), .val (.int (5 : Int32)), .val (.int c4_w_truth_pr0)]) rfl ?_
    show Stp p e below T25 m 36 #[.val (.ref pr0), .val (.ref w_truth_pr0), .val (.int (8 : Int32)), .val (.int (5 : Int32)), .val (.int c4_w_truth_pr0)] [] _
    refine XS.goto X25.here hx rfl (pc0 := 36) (pc' := 10) rfl (hb hby d6_36) (by decide) (by decide) ?_
    show Stp p e below T25 m 10 #[.val (.ref pr0), .val (.ref w_truth_pr0), .val (.int (8 : Int32)), .val (.int (5 : Int32)), .val (.int c4_w_truth_pr0)] [] _
    refine XS.iloadN X25.here hx rfl (hb hby d6_10) rfl ?_
    show Stp p e below T25 m 11 #[.val (.ref pr0), .val (.ref w_truth_pr0), .val (.int (8 : Int32)), .val (.int (5 : Int32)), .val (.int c4_w_truth_pr0)] [(.int (5 : Int32))] _
    refine XS.iloadN X25.here hx rfl (hb hby d6_11) rfl ?_
    show Stp p e below T25 m 12 #[.val (.ref pr0), .val (.ref w_truth_pr0), .val (.int (8 : Int32)), .val (.int (5 : Int32)), .val (.int c4_w_truth_pr0)] [(.int (8 : Int32)), (.int (5 : Int32))] _
    refine XS.icmpNo X25.here hx rfl (hb hby d6_12) rfl (tlt (by decide : (5 : Int32) < (8 : Int32))).2.1 ?_
    show Stp p e below T25 m 15 #[.val (.ref pr0), .val (.ref w_truth_pr0), .val (.int (8 : Int32)), .val (.int (5 : Int32)), .val (.int c4_w_truth_pr0)] [] _
    refine XS.aloadN X25.here hx rfl (hb hby d6_15) rfl rfl ?_
    show Stp p e below T25 m 16 #[.val (.ref pr0), .val (.ref w_truth_pr0), .val (.int (8 : Int32)), .val (.int (5 : Int32)), .val (.int c4_w_truth_pr0)] [(.ref w_truth_pr0)] _
    refine XS.iloadN X25.here hx rfl (hb hby d6_16) rfl ?_
    show Stp p e below T25 m 17 #[.val (.ref pr0), .val (.ref w_truth_pr0), .val (.int (8 : Int32)), .val (.int (5 : Int32)), .val (.int c4_w_truth_pr0)] [(.int (5 : Int32)), (.ref w_truth_pr0)] _
    refine X25.baloadBooleans hx (j := (5 : Int32)) (v := (.int c5_w_truth_pr0)) (by rw [e25]; exact Arc28.1) (State.isArrayOf_alike hZ.alike Arc28.2.1) Arc28.2.2 hin29 (Has.at Hc28 hin29 rfl) (g := (mkF m 17 #[.val (.ref pr0), .val (.ref w_truth_pr0), .val (.int (8 : Int32)), .val (.int (5 : Int32)), .val (.int c4_w_truth_pr0)] [(.int (5 : Int32)), (.ref w_truth_pr0)])) rfl rfl (hb hby d6_17) _ ?_
    show Stp p e below T25 m 18 #[.val (.ref pr0), .val (.ref w_truth_pr0), .val (.int (8 : Int32)), .val (.int (5 : Int32)), .val (.int c4_w_truth_pr0)] [(.int c5_w_truth_pr0)] _
    refine XS.istore X25.here hx rfl (hb hby d6_18) rfl (l' := #[.val (.ref pr0), .val (.ref w_truth_pr0), .val (.int (8 : Int32)), .val (.int (5 : Int32)), .val (.int c5_w_truth_pr0)]) rfl ?_
    show Stp p e below T25 m 20 #[.val (.ref pr0), .val (.ref w_truth_pr0), .val (.int (8 : Int32)), .val (.int (5 : Int32)), .val (.int c5_w_truth_pr0)] [] _
    refine XS.iload X25.here hx rfl (hb hby d6_20) rfl ?_
    show Stp p e below T25 m 22 #[.val (.ref pr0), .val (.ref w_truth_pr0), .val (.int (8 : Int32)), .val (.int (5 : Int32)), .val (.int c5_w_truth_pr0)] [(.int c5_w_truth_pr0)] _
    refine XS.aloadN X25.here hx rfl (hb hby d6_22) rfl rfl ?_
    show Stp p e below T25 m 23 #[.val (.ref pr0), .val (.ref w_truth_pr0), .val (.int (8 : Int32)), .val (.int (5 : Int32)), .val (.int c5_w_truth_pr0)] [(.ref pr0), (.int c5_w_truth_pr0)] _
    refine st30 _ ?_
    show Stp p e below T30 m 26 #[.val (.ref pr0), .val (.ref w_truth_pr0), .val (.int (8 : Int32)), .val (.int (5 : Int32)), .val (.int c5_w_truth_pr0)] [(.ref w_truth_pr0), (.int c5_w_truth_pr0)] _
    refine XS.iconst X30.here hx rfl (hb hby d6_26) ?_
    show Stp p e below T30 m 27 #[.val (.ref pr0), .val (.ref w_truth_pr0), .val (.int (8 : Int32)), .val (.int (5 : Int32)), .val (.int c5_w_truth_pr0)] [(.int (0 : Int32)), (.ref w_truth_pr0), (.int c5_w_truth_pr0)] _
    refine X30.baloadBooleans hx (j := (0 : Int32)) (v := (.int c0_w_truth_pr0)) (by rw [e30]; exact Arc31.1) (State.isArrayOf_alike hZ.alike Arc31.2.1) Arc31.2.2 hin32 (Has.at Hc31 hin32 rfl) (g := (mkF m 27 #[.val (.ref pr0), .val (.ref w_truth_pr0), .val (.int (8 : Int32)), .val (.int (5 : Int32)), .val (.int c5_w_truth_pr0)] [(.int (0 : Int32)), (.ref w_truth_pr0), (.int c5_w_truth_pr0)])) rfl rfl (hb hby d6_27) _ ?_
    show Stp p e below T30 m 28 #[.val (.ref pr0), .val (.ref w_truth_pr0), .val (.int (8 : Int32)), .val (.int (5 : Int32)), .val (.int c5_w_truth_pr0)] [(.int c0_w_truth_pr0), (.int c5_w_truth_pr0)] _
    refine XS.icmpYes X30.here hx rfl (pc0 := 28) (pc' := 33) rfl (hb hby d6_28) rfl (teq hc28_4).1 (by decide) (by decide) ?_
    show Stp p e below T30 m 33 #[.val (.ref pr0), .val (.ref w_truth_pr0), .val (.int (8 : Int32)), .val (.int (5 : Int32)), .val (.int c5_w_truth_pr0)] [] _
    refine XS.iinc X30.here hx rfl (hb hby d6_33) rfl (l' := #[.val (.ref pr0), .val (.ref w_truth_pr0), .val (.int (8 : Int32)), .val (.int (6 : Int32)), .val (.int c5_w_truth_pr0)]) rfl ?_
    show Stp p e below T30 m 36 #[.val (.ref pr0), .val (.ref w_truth_pr0), .val (.int (8 : Int32)), .val (.int (6 : Int32)), .val (.int c5_w_truth_pr0)] [] _
    refine XS.goto X30.here hx rfl (pc0 := 36) (pc' := 10) rfl (hb hby d6_36) (by decide) (by decide) ?_
    show Stp p e below T30 m 10 #[.val (.ref pr0), .val (.ref w_truth_pr0), .val (.int (8 : Int32)), .val (.int (6 : Int32)), .val (.int c5_w_truth_pr0)] [] _
    refine XS.iloadN X30.here hx rfl (hb hby d6_10) rfl ?_
    show Stp p e below T30 m 11 #[.val (.ref pr0), .val (.ref w_truth_pr0), .val (.int (8 : Int32)), .val (.int (6 : Int32)), .val (.int c5_w_truth_pr0)] [(.int (6 : Int32))] _
    refine XS.iloadN X30.here hx rfl (hb hby d6_11) rfl ?_
    show Stp p e below T30 m 12 #[.val (.ref pr0), .val (.ref w_truth_pr0), .val (.int (8 : Int32)), .val (.int (6 : Int32)), .val (.int c5_w_truth_pr0)] [(.int (8 : Int32)), (.int (6 : Int32))] _
    refine XS.icmpNo X30.here hx rfl (hb hby d6_12) rfl (tlt (by decide : (6 : Int32) < (8 : Int32))).2.1 ?_
    show Stp p e below T30 m 15 #[.val (.ref pr0), .val (.ref w_truth_pr0), .val (.int (8 : Int32)), .val (.int (6 : Int32)), .val (.int c5_w_truth_pr0)] [] _
    refine XS.aloadN X30.here hx rfl (hb hby d6_15) rfl rfl ?_
    show Stp p e below T30 m 16 #[.val (.ref pr0), .val (.ref w_truth_pr0), .val (.int (8 : Int32)), .val (.int (6 : Int32)), .val (.int c5_w_truth_pr0)] [(.ref w_truth_pr0)] _
    refine XS.iloadN X30.here hx rfl (hb hby d6_16) rfl ?_
    show Stp p e below T30 m 17 #[.val (.ref pr0), .val (.ref w_truth_pr0), .val (.int (8 : Int32)), .val (.int (6 : Int32)), .val (.int c5_w_truth_pr0)] [(.int (6 : Int32)), (.ref w_truth_pr0)] _
    refine X30.baloadBooleans hx (j := (6 : Int32)) (v := (.int c6_w_truth_pr0)) (by rw [e30]; exact Arc33.1) (State.isArrayOf_alike hZ.alike Arc33.2.1) Arc33.2.2 hin34 (Has.at Hc33 hin34 rfl) (g := (mkF m 17 #[.val (.ref pr0), .val (.ref w_truth_pr0), .val (.int (8 : Int32)), .val (.int (6 : Int32)), .val (.int c5_w_truth_pr0)] [(.int (6 : Int32)), (.ref w_truth_pr0)])) rfl rfl (hb hby d6_17) _ ?_
    show Stp p e below T30 m 18 #[.val (.ref pr0), .val (.ref w_truth_pr0), .val (.int (8 : Int32)), .val (.int (6 : Int32)), .val (.int c5_w_truth_pr0)] [(.int c6_w_truth_pr0)] _
    refine XS.istore X30.here hx rfl (hb hby d6_18) rfl (l' := #[.val (.ref pr0), .val (.ref w_truth_pr0), .val (.int (8 : Int32)), .val (.int (6 : Int32)), .val (.int c6_w_truth_pr0)]) rfl ?_
    show Stp p e below T30 m 20 #[.val (.ref pr0), .val (.ref w_truth_pr0), .val (.int (8 : Int32)), .val (.int (6 : Int32)), .val (.int c6_w_truth_pr0)] [] _
    refine XS.iload X30.here hx rfl (hb hby d6_20) rfl ?_
    show Stp p e below T30 m 22 #[.val (.ref pr0), .val (.ref w_truth_pr0), .val (.int (8 : Int32)), .val (.int (6 : Int32)), .val (.int c6_w_truth_pr0)] [(.int c6_w_truth_pr0)] _
    refine XS.aloadN X30.here hx rfl (hb hby d6_22) rfl rfl ?_
    show Stp p e below T30 m 23 #[.val (.ref pr0), .val (.ref w_truth_pr0), .val (.int (8 : Int32)), .val (.int (6 : Int32)), .val (.int c6_w_truth_pr0)] [(.ref pr0), (.int c6_w_truth_pr0)] _
    refine st35 _ ?_
    show Stp p e below T35 m 26 #[.val (.ref pr0), .val (.ref w_truth_pr0), .val (.int (8 : Int32)), .val (.int (6 : Int32)), .val (.int c6_w_truth_pr0)] [(.ref w_truth_pr0), (.int c6_w_truth_pr0)] _
    refine XS.iconst X35.here hx rfl (hb hby d6_26) ?_
    show Stp p e below T35 m 27 #[.val (.ref pr0), .val (.ref w_truth_pr0), .val (.int (8 : Int32)), .val (.int (6 : Int32)), .val (.int c6_w_truth_pr0)] [(.int (0 : Int32)), (.ref w_truth_pr0), (.int c6_w_truth_pr0)] _
    refine X35.baloadBooleans hx (j := (0 : Int32)) (v := (.int c0_w_truth_pr0)) (by rw [e35]; exact Arc36.1) (State.isArrayOf_alike hZ.alike Arc36.2.1) Arc36.2.2 hin37 (Has.at Hc36 hin37 rfl) (g := (mkF m 27 #[.val (.ref pr0), .val (.ref w_truth_pr0), .val (.int (8 : Int32)), .val (.int (6 : Int32)), .val (.int c6_w_truth_pr0)] [(.int (0 : Int32)), (.ref w_truth_pr0), (.int c6_w_truth_pr0)])) rfl rfl (hb hby d6_27) _ ?_
    show Stp p e below T35 m 28 #[.val (.ref pr0), .val (.ref w_truth_pr0), .val (.int (8 : Int32)), .val (.int (6 : Int32)), .val (.int c6_w_truth_pr0)] [(.int c0_w_truth_pr0), (.int c6_w_truth_pr0)] _
    refine XS.icmpYes X35.here hx rfl (pc0 := 28) (pc' := 33) rfl (hb hby d6_28) rfl (teq hc28_5).1 (by decide) (by decide) ?_
    show Stp p e below T35 m 33 #[.val (.ref pr0), .val (.ref w_truth_pr0), .val (.int (8 : Int32)), .val (.int (6 : Int32)), .val (.int c6_w_truth_pr0)] [] _
    refine XS.iinc X35.here hx rfl (hb hby d6_33) rfl (l' := #[.val (.ref pr0), .val (.ref w_truth_pr0), .val (.int (8 : Int32)), .val (.int (7 : Int32)), .val (.int c6_w_truth_pr0)]) rfl ?_
    show Stp p e below T35 m 36 #[.val (.ref pr0), .val (.ref w_truth_pr0), .val (.int (8 : Int32)), .val (.int (7 : Int32)), .val (.int c6_w_truth_pr0)] [] _
    refine XS.goto X35.here hx rfl (pc0 := 36) (pc' := 10) rfl (hb hby d6_36) (by decide) (by decide) ?_
    show Stp p e below T35 m 10 #[.val (.ref pr0), .val (.ref w_truth_pr0), .val (.int (8 : Int32)), .val (.int (7 : Int32)), .val (.int c6_w_truth_pr0)] [] _
    refine XS.iloadN X35.here hx rfl (hb hby d6_10) rfl ?_
    show Stp p e below T35 m 11 #[.val (.ref pr0), .val (.ref w_truth_pr0), .val (.int (8 : Int32)), .val (.int (7 : Int32)), .val (.int c6_w_truth_pr0)] [(.int (7 : Int32))] _
    refine XS.iloadN X35.here hx rfl (hb hby d6_11) rfl ?_
    show Stp p e below T35 m 12 #[.val (.ref pr0), .val (.ref w_truth_pr0), .val (.int (8 : Int32)), .val (.int (7 : Int32)), .val (.int c6_w_truth_pr0)] [(.int (8 : Int32)), (.int (7 : Int32))] _
    refine XS.icmpNo X35.here hx rfl (hb hby d6_12) rfl (tlt (by decide : (7 : Int32) < (8 : Int32))).2.1 ?_
    show Stp p e below T35 m 15 #[.val (.ref pr0), .val (.ref w_truth_pr0), .val (.int (8 : Int32)), .val (.int (7 : Int32)), .val (.int c6_w_truth_pr0)] [] _
    refine XS.aloadN X35.here hx rfl (hb hby d6_15) rfl rfl ?_
    show Stp p e below T35 m 16 #[.val (.ref pr0), .val (.ref w_truth_pr0), .val (.int (8 : Int32)), .val (.int (7 : Int32)), .val (.int c6_w_truth_pr0)] [(.ref w_truth_pr0)] _
    refine XS.iloadN X35.here hx rfl (hb hby d6_16) rfl ?_
    show Stp p e below T35 m 17 #[.val (.ref pr0), .val (.ref w_truth_pr0), .val (.int (8 : Int32)), .val (.int (7 : Int32)), .val (.int c6_w_truth_pr0)] [(.int (7 : Int32)), (.ref w_truth_pr0)] _
    refine X35.baloadBooleans hx (j := (7 : Int32)) (v := (.int c7_w_truth_pr0)) (by rw [e35]; exact Arc38.1) (State.isArrayOf_alike hZ.alike Arc38.2.1) Arc38.2.2 hin39 (Has.at Hc38 hin39 rfl) (g := (mkF m 17 #[.val (.ref pr0), .val (.ref w_truth_pr0), .val (.int (8 : Int32)), .val (.int (7 : Int32)), .val (.int c6_w_truth_pr0)] [(.int (7 : Int32)), (.ref w_truth_pr0)])) rfl rfl (hb hby d6_17) _ ?_
    show Stp p e below T35 m 18 #[.val (.ref pr0), .val (.ref w_truth_pr0), .val (.int (8 : Int32)), .val (.int (7 : Int32)), .val (.int c6_w_truth_pr0)] [(.int c7_w_truth_pr0)] _
    refine XS.istore X35.here hx rfl (hb hby d6_18) rfl (l' := #[.val (.ref pr0), .val (.ref w_truth_pr0), .val (.int (8 : Int32)), .val (.int (7 : Int32)), .val (.int c7_w_truth_pr0)]) rfl ?_
    show Stp p e below T35 m 20 #[.val (.ref pr0), .val (.ref w_truth_pr0), .val (.int (8 : Int32)), .val (.int (7 : Int32)), .val (.int c7_w_truth_pr0)] [] _
    refine XS.iload X35.here hx rfl (hb hby d6_20) rfl ?_
    show Stp p e below T35 m 22 #[.val (.ref pr0), .val (.ref w_truth_pr0), .val (.int (8 : Int32)), .val (.int (7 : Int32)), .val (.int c7_w_truth_pr0)] [(.int c7_w_truth_pr0)] _
    refine XS.aloadN X35.here hx rfl (hb hby d6_22) rfl rfl ?_
    show Stp p e below T35 m 23 #[.val (.ref pr0), .val (.ref w_truth_pr0), .val (.int (8 : Int32)), .val (.int (7 : Int32)), .val (.int c7_w_truth_pr0)] [(.ref pr0), (.int c7_w_truth_pr0)] _
    refine st40 _ ?_
    show Stp p e below T40 m 26 #[.val (.ref pr0), .val (.ref w_truth_pr0), .val (.int (8 : Int32)), .val (.int (7 : Int32)), .val (.int c7_w_truth_pr0)] [(.ref w_truth_pr0), (.int c7_w_truth_pr0)] _
    refine XS.iconst X40.here hx rfl (hb hby d6_26) ?_
    show Stp p e below T40 m 27 #[.val (.ref pr0), .val (.ref w_truth_pr0), .val (.int (8 : Int32)), .val (.int (7 : Int32)), .val (.int c7_w_truth_pr0)] [(.int (0 : Int32)), (.ref w_truth_pr0), (.int c7_w_truth_pr0)] _
    refine X40.baloadBooleans hx (j := (0 : Int32)) (v := (.int c0_w_truth_pr0)) (by rw [e40]; exact Arc41.1) (State.isArrayOf_alike hZ.alike Arc41.2.1) Arc41.2.2 hin42 (Has.at Hc41 hin42 rfl) (g := (mkF m 27 #[.val (.ref pr0), .val (.ref w_truth_pr0), .val (.int (8 : Int32)), .val (.int (7 : Int32)), .val (.int c7_w_truth_pr0)] [(.int (0 : Int32)), (.ref w_truth_pr0), (.int c7_w_truth_pr0)])) rfl rfl (hb hby d6_27) _ ?_
    show Stp p e below T40 m 28 #[.val (.ref pr0), .val (.ref w_truth_pr0), .val (.int (8 : Int32)), .val (.int (7 : Int32)), .val (.int c7_w_truth_pr0)] [(.int c0_w_truth_pr0), (.int c7_w_truth_pr0)] _
    refine XS.icmpYes X40.here hx rfl (pc0 := 28) (pc' := 33) rfl (hb hby d6_28) rfl (teq hc28_6).1 (by decide) (by decide) ?_
    show Stp p e below T40 m 33 #[.val (.ref pr0), .val (.ref w_truth_pr0), .val (.int (8 : Int32)), .val (.int (7 : Int32)), .val (.int c7_w_truth_pr0)] [] _
    refine XS.iinc X40.here hx rfl (hb hby d6_33) rfl (l' := #[.val (.ref pr0), .val (.ref w_truth_pr0), .val (.int (8 : Int32)), .val (.int (8 : Int32)), .val (.int c7_w_truth_pr0)]) rfl ?_
    show Stp p e below T40 m 36 #[.val (.ref pr0), .val (.ref w_truth_pr0), .val (.int (8 : Int32)), .val (.int (8 : Int32)), .val (.int c7_w_truth_pr0)] [] _
    refine XS.goto X40.here hx rfl (pc0 := 36) (pc' := 10) rfl (hb hby d6_36) (by decide) (by decide) ?_
    show Stp p e below T40 m 10 #[.val (.ref pr0), .val (.ref w_truth_pr0), .val (.int (8 : Int32)), .val (.int (8 : Int32)), .val (.int c7_w_truth_pr0)] [] _
    refine XS.iloadN X40.here hx rfl (hb hby d6_10) rfl ?_
    show Stp p e below T40 m 11 #[.val (.ref pr0), .val (.ref w_truth_pr0), .val (.int (8 : Int32)), .val (.int (8 : Int32)), .val (.int c7_w_truth_pr0)] [(.int (8 : Int32))] _
    refine XS.iloadN X40.here hx rfl (hb hby d6_11) rfl ?_
    show Stp p e below T40 m 12 #[.val (.ref pr0), .val (.ref w_truth_pr0), .val (.int (8 : Int32)), .val (.int (8 : Int32)), .val (.int c7_w_truth_pr0)] [(.int (8 : Int32)), (.int (8 : Int32))] _
    refine XS.icmpYes X40.here hx rfl (pc0 := 12) (pc' := 39) rfl (hb hby d6_12) rfl (flt (by simp : ¬ ((8 : Int32) < (8 : Int32)))).2.1 (by decide) (by decide) ?_
    show Stp p e below T40 m 39 #[.val (.ref pr0), .val (.ref w_truth_pr0), .val (.int (8 : Int32)), .val (.int (8 : Int32)), .val (.int c7_w_truth_pr0)] [] _
    refine XS.iconst X40.here hx rfl (hb hby d6_39) ?_
    show Stp p e below T40 m 40 #[.val (.ref pr0), .val (.ref w_truth_pr0), .val (.int (8 : Int32)), .val (.int (8 : Int32)), .val (.int c7_w_truth_pr0)] [(.int (1 : Int32))] _
    exact retN X40 hx (t := .boolean) Bd.returns (by simp) (hb hby d6_40) hr
  · show Q6_k3ttttttt Z pr0 w_truth_pr0 kk_w_truth_pr0 c0_w_truth_pr0 c1_w_truth_pr0 c2_w_truth_pr0 c3_w_truth_pr0 c4_w_truth_pr0 c5_w_truth_pr0 c6_w_truth_pr0 c7_w_truth_pr0 h0 n0 _ T40.heap _
    rw [e40]
    exact ⟨rfl, N0, rfl⟩
def Q6_k3ttttttf (Z : State) (pr0 : Addr) (w_truth_pr0 : Addr) (kk_w_truth_pr0 : ClassId) (c0_w_truth_pr0 : Int32) (c1_w_truth_pr0 : Int32) (c2_w_truth_pr0 : Int32) (c3_w_truth_pr0 : Int32) (c4_w_truth_pr0 : Int32) (c5_w_truth_pr0 : Int32) (c6_w_truth_pr0 : Int32) (c7_w_truth_pr0 : Int32) (h0 : Heap) (n0 : Nat) (v : Option Value) (h : Heap) (L : List Loc) : Prop := v = some (.int (0 : Int32)) ∧ Fr n0 L ∧ h = h0
set_option maxRecDepth 65536 in
set_option maxHeartbeats 40000000 in
theorem rm6_k3ttttttf (l : Launch) (Z : State) (a0 : Array Value) (hw : ∀ d ∈ tables_1, d.before a0 Z = true) (ws : List Jvm.Cond) (pr0 : Addr) (w_truth_pr0 : Addr) (kk_w_truth_pr0 : ClassId) (c0_w_truth_pr0 : Int32) (c1_w_truth_pr0 : Int32) (c2_w_truth_pr0 : Int32) (c3_w_truth_pr0 : Int32) (c4_w_truth_pr0 : Int32) (c5_w_truth_pr0 : Int32) (c6_w_truth_pr0 : Int32) (c7_w_truth_pr0 : Int32) (h0 : Heap) (n0 : Nat) (Z0 : n0 ≤ h0.size) (O0 : Old Z n0 h0) (F_truth_pr0 : Fld Z h0 pr0 "com/example/gudl/gudl/GroundFactor" "truth" "[Z" (.ref w_truth_pr0)) (V_w_truth_pr0 : Arv Z h0 w_truth_pr0 kk_w_truth_pr0 .boolean (8 : Int32) [(.int c0_w_truth_pr0), (.int c1_w_truth_pr0), (.int c2_w_truth_pr0), (.int c3_w_truth_pr0), (.int c4_w_truth_pr0), (.int c5_w_truth_pr0), (.int c6_w_truth_pr0), (.int c7_w_truth_pr0)] (.int (0 : Int32))) (hc28_0 : c1_w_truth_pr0 = c0_w_truth_pr0) (hc28_1 : c2_w_truth_pr0 = c0_w_truth_pr0) (hc28_2 : c3_w_truth_pr0 = c0_w_truth_pr0) (hc28_3 : c4_w_truth_pr0 = c0_w_truth_pr0) (hc28_4 : c5_w_truth_pr0 = c0_w_truth_pr0) (hc28_5 : c6_w_truth_pr0 = c0_w_truth_pr0) (hc28_6 : ¬ (c7_w_truth_pr0 = c0_w_truth_pr0)) :
    MetFree l (⟨"com/example/gudl/gudl/GroundFactor", "isConstant", "()Z"⟩ : MethodName) (head1 (Jvm.Cond.code (⟨"com/example/gudl/gudl/GroundFactor", "isConstant", "()Z"⟩ : MethodName) prog_42_method_8_code 5 (some .boolean) :: ws) ({ frames := 0, cells := 0, slots := 0, locals := 0 } : Room)) (fun a U => a = #[(.ref pr0)] ∧ Z.Warmed39 U.vm ∧ U.heap = h0) (fun _ _ _ _ _ => True) (fun _ U o U' => ∃ v L, o = .returned v ∧ Q6_k3ttttttf Z pr0 w_truth_pr0 kk_w_truth_pr0 c0_w_truth_pr0 c1_w_truth_pr0 c2_w_truth_pr0 c3_w_truth_pr0 c4_w_truth_pr0 c5_w_truth_pr0 c6_w_truth_pr0 c7_w_truth_pr0 h0 n0 v U'.heap L ∧ FrameEnd U o U' L ({ frames := 0, cells := 0, slots := 0, locals := 0 } : Room).cells ({ frames := 0, cells := 0, slots := 0, locals := 0 } : Room).slots) := by
  refine MetFree.of_bodySF (plainFor_of_name pn_6) hisR ?_
  intro p e s m args below meth c s₁ Bd hml0 hP hK
  obtain ⟨rfl, hZ, hh⟩ := hP
  have hx := Bd.exec
  have hby := Bd.bytes
  have hml : c.maxLocals = 5 := hml0
  have hown : s.vm.findClass "com/example/gudl/gudl/GroundFactor" = some m.cls := findClass_of_methodNamed Bd.named
  have hnm := (name_of_methodNamed Bd.named Bd.method).1
  have X0 : Stand p l e ({ frames := 0, cells := 0, slots := 0, locals := 0 } : Room) s m #[(.ref pr0)] below meth c s₁ [] 0 0 := Stand.of_body Bd
  have e0 : s₁.heap = h0 := by rw [← hh, Bd.state]; rfl
  have N0 := Fr.nil n0
  have pre0 : ∀ t, Steps p.tables e below (s₁.setTop (mkF m 0 #[.val (.ref pr0), .unset, .unset, .unset, .unset] [])) t → Steps p.tables e below (s₁.setTop (entryFrame m #[(.ref pr0)] 5)) t := fun t k => castTop (ef_6 m pr0) k
  obtain ⟨T1, X1, e1, st1⟩ := getF X0 hx hZ hown (host := "") (Or.inl (own_W hw 25 rfl)) Via.refl e0 F_truth_pr0 (g := (mkF m 1 #[.val (.ref pr0), .unset, .unset, .unset, .unset] [(.ref pr0)])) rfl rfl (hb hby d6_1)
  have V_c2 := V_w_truth_pr0
  obtain ⟨c2, Arc2, qc2, Sc2, Nc2, Hc2, Gc2⟩ := V_c2
  have V_c3 := V_w_truth_pr0
  obtain ⟨c3, Arc3, qc3, Sc3, Nc3, Hc3, Gc3⟩ := V_c3
  have hin4 : ¬ ((0 : Int32) < 0 ∨ c3.slots.size ≤ ((0 : Int32)).toNatClampNeg) := inb_of Sc3 ⟨by decide, by decide⟩
  obtain ⟨T5, X5, e5, st5⟩ := getF X1 hx hZ hown (host := "") (Or.inl (own_W hw 25 rfl)) Via.refl e1 F_truth_pr0 (g := (mkF m 23 #[.val (.ref pr0), .val (.ref w_truth_pr0), .val (.int (8 : Int32)), .val (.int (0 : Int32)), .val (.int c0_w_truth_pr0)] [(.ref pr0), (.int c0_w_truth_pr0)])) rfl rfl (hb hby d6_23)
  have V_c6 := V_w_truth_pr0
  obtain ⟨c6, Arc6, qc6, Sc6, Nc6, Hc6, Gc6⟩ := V_c6
  have hin7 : ¬ ((0 : Int32) < 0 ∨ c6.slots.size ≤ ((0 : Int32)).toNatClampNeg) := inb_of Sc6 ⟨by decide, by decide⟩
  have V_c8 := V_w_truth_pr0
  obtain ⟨c8, Arc8, qc8, Sc8, Nc8, Hc8, Gc8⟩ := V_c8
  have hin9 : ¬ ((1 : Int32) < 0 ∨ c8.slots.size ≤ ((1 : Int32)).toNatClampNeg) := inb_of Sc8 ⟨by decide, by decide⟩
  obtain ⟨T10, X10, e10, st10⟩ := getF X5 hx hZ hown (host := "") (Or.inl (own_W hw 25 rfl)) Via.refl e5 F_truth_pr0 (g := (mkF m 23 #[.val (.ref pr0), .val (.ref w_truth_pr0), .val (.int (8 : Int32)), .val (.int (1 : Int32)), .val (.int c1_w_truth_pr0)] [(.ref pr0), (.int c1_w_truth_pr0)])) rfl rfl (hb hby d6_23)
  have V_c11 := V_w_truth_pr0
  obtain ⟨c11, Arc11, qc11, Sc11, Nc11, Hc11, Gc11⟩ := V_c11
  have hin12 : ¬ ((0 : Int32) < 0 ∨ c11.slots.size ≤ ((0 : Int32)).toNatClampNeg) := inb_of Sc11 ⟨by decide, by decide⟩
  have V_c13 := V_w_truth_pr0
  obtain ⟨c13, Arc13, qc13, Sc13, Nc13, Hc13, Gc13⟩ := V_c13
  have hin14 : ¬ ((2 : Int32) < 0 ∨ c13.slots.size ≤ ((2 : Int32)).toNatClampNeg) := inb_of Sc13 ⟨by decide, by decide⟩
  obtain ⟨T15, X15, e15, st15⟩ := getF X10 hx hZ hown (host := "") (Or.inl (own_W hw 25 rfl)) Via.refl e10 F_truth_pr0 (g := (mkF m 23 #[.val (.ref pr0), .val (.ref w_truth_pr0), .val (.int (8 : Int32)), .val (.int (2 : Int32)), .val (.int c2_w_truth_pr0)] [(.ref pr0), (.int c2_w_truth_pr0)])) rfl rfl (hb hby d6_23)
  have V_c16 := V_w_truth_pr0
  obtain ⟨c16, Arc16, qc16, Sc16, Nc16, Hc16, Gc16⟩ := V_c16
  have hin17 : ¬ ((0 : Int32) < 0 ∨ c16.slots.size ≤ ((0 : Int32)).toNatClampNeg) := inb_of Sc16 ⟨by decide, by decide⟩
  have V_c18 := V_w_truth_pr0
  obtain ⟨c18, Arc18, qc18, Sc18, Nc18, Hc18, Gc18⟩ := V_c18
  have hin19 : ¬ ((3 : Int32) < 0 ∨ c18.slots.size ≤ ((3 : Int32)).toNatClampNeg) := inb_of Sc18 ⟨by decide, by decide⟩
  obtain ⟨T20, X20, e20, st20⟩ := getF X15 hx hZ hown (host := "") (Or.inl (own_W hw 25 rfl)) Via.refl e15 F_truth_pr0 (g := (mkF m 23 #[.val (.ref pr0), .val (.ref w_truth_pr0), .val (.int (8 : Int32)), .val (.int (3 : Int32)), .val (.int c3_w_truth_pr0)] [(.ref pr0), (.int c3_w_truth_pr0)])) rfl rfl (hb hby d6_23)
  have V_c21 := V_w_truth_pr0
  obtain ⟨c21, Arc21, qc21, Sc21, Nc21, Hc21, Gc21⟩ := V_c21
  have hin22 : ¬ ((0 : Int32) < 0 ∨ c21.slots.size ≤ ((0 : Int32)).toNatClampNeg) := inb_of Sc21 ⟨by decide, by decide⟩
  have V_c23 := V_w_truth_pr0
  obtain ⟨c23, Arc23, qc23, Sc23, Nc23, Hc23, Gc23⟩ := V_c23
  have hin24 : ¬ ((4 : Int32) < 0 ∨ c23.slots.size ≤ ((4 : Int32)).toNatClampNeg) := inb_of Sc23 ⟨by decide, by decide⟩
  obtain ⟨T25, X25, e25, st25⟩ := getF X20 hx hZ hown (host := "") (Or.inl (own_W hw 25 rfl)) Via.refl e20 F_truth_pr0 (g := (mkF m 23 #[.val (.ref pr0), .val (.ref w_truth_pr0), .val (.int (8 : Int32)), .val (.int (4 : Int32)), .val (.int c4_w_truth_pr0)] [(.ref pr0), (.int c4_w_truth_pr0)])) rfl rfl (hb hby d6_23)
  have V_c26 := V_w_truth_pr0
  obtain ⟨c26, Arc26, qc26, Sc26, Nc26, Hc26, Gc26⟩ := V_c26
  have hin27 : ¬ ((0 : Int32) < 0 ∨ c26.slots.size ≤ ((0 : Int32)).toNatClampNeg) := inb_of Sc26 ⟨by decide, by decide⟩
  have V_c28 := V_w_truth_pr0
  obtain ⟨c28, Arc28, qc28, Sc28, Nc28, Hc28, Gc28⟩ := V_c28
  have hin29 : ¬ ((5 : Int32) < 0 ∨ c28.slots.size ≤ ((5 : Int32)).toNatClampNeg) := inb_of Sc28 ⟨by decide, by decide⟩
  obtain ⟨T30, X30, e30, st30⟩ := getF X25 hx hZ hown (host := "") (Or.inl (own_W hw 25 rfl)) Via.refl e25 F_truth_pr0 (g := (mkF m 23 #[.val (.ref pr0), .val (.ref w_truth_pr0), .val (.int (8 : Int32)), .val (.int (5 : Int32)), .val (.int c5_w_truth_pr0)] [(.ref pr0), (.int c5_w_truth_pr0)])) rfl rfl (hb hby d6_23)
  have V_c31 := V_w_truth_pr0
  obtain ⟨c31, Arc31, qc31, Sc31, Nc31, Hc31, Gc31⟩ := V_c31
  have hin32 : ¬ ((0 : Int32) < 0 ∨ c31.slots.size ≤ ((0 : Int32)).toNatClampNeg) := inb_of Sc31 ⟨by decide, by decide⟩
  have V_c33 := V_w_truth_pr0
  obtain ⟨c33, Arc33, qc33, Sc33, Nc33, Hc33, Gc33⟩ := V_c33
  have hin34 : ¬ ((6 : Int32) < 0 ∨ c33.slots.size ≤ ((6 : Int32)).toNatClampNeg) := inb_of Sc33 ⟨by decide, by decide⟩
  obtain ⟨T35, X35, e35, st35⟩ := getF X30 hx hZ hown (host := "") (Or.inl (own_W hw 25 rfl)) Via.refl e30 F_truth_pr0 (g := (mkF m 23 #[.val (.ref pr0), .val (.ref w_truth_pr0), .val (.int (8 : Int32)), .val (.int (6 : Int32)), .val (.int c6_w_truth_pr0)] [(.ref pr0), (.int c6_w_truth_pr0)])) rfl rfl (hb hby d6_23)
  have V_c36 := V_w_truth_pr0
  obtain ⟨c36, Arc36, qc36, Sc36, Nc36, Hc36, Gc36⟩ := V_c36
  have hin37 : ¬ ((0 : Int32) < 0 ∨ c36.slots.size ≤ ((0 : Int32)).toNatClampNeg) := inb_of Sc36 ⟨by decide, by decide⟩
  have V_c38 := V_w_truth_pr0
  obtain ⟨c38, Arc38, qc38, Sc38, Nc38, Hc38, Gc38⟩ := V_c38
  have hin39 : ¬ ((7 : Int32) < 0 ∨ c38.slots.size ≤ ((7 : Int32)).toNatClampNeg) := inb_of Sc38 ⟨by decide, by decide⟩
  obtain ⟨T40, X40, e40, st40⟩ := getF X35 hx hZ hown (host := "") (Or.inl (own_W hw 25 rfl)) Via.refl e35 F_truth_pr0 (g := (mkF m 23 #[.val (.ref pr0), .val (.ref w_truth_pr0), .val (.int (8 : Int32)), .val (.int (7 : Int32)), .val (.int c7_w_truth_pr0)] [(.ref pr0), (.int c7_w_truth_pr0)])) rfl rfl (hb hby d6_23)
  have V_c41 := V_w_truth_pr0
  obtain ⟨c41, Arc41, qc41, Sc41, Nc41, Hc41, Gc41⟩ := V_c41
  have hin42 : ¬ ((0 : Int32) < 0 ∨ c41.slots.size ≤ ((0 : Int32)).toNatClampNeg) := inb_of Sc41 ⟨by decide, by decide⟩
  obtain ⟨fs, hr, hrun, hended, hW, hsame⟩ := X40.leave (v := some (.int (0 : Int32))) (fun h => by rw [Bd.returns] at h; cases h)
  refine ⟨_, _, pre0 _ ?_, hrun, hended, _, _, rfl, ?_, ⟨_, rfl⟩, hW, hsame.mono (by decide) (by decide)⟩
  · show Stp p e below s₁ m 0 #[.val (.ref pr0), .unset, .unset, .unset, .unset] [] _
    refine XS.aloadN X0.here hx rfl (hb hby d6_0) rfl rfl ?_
    show Stp p e below s₁ m 1 #[.val (.ref pr0), .unset, .unset, .unset, .unset] [(.ref pr0)] _
    refine st1 _ ?_
    show Stp p e below T1 m 4 #[.val (.ref pr0), .unset, .unset, .unset, .unset] [(.ref w_truth_pr0)] _
    refine XS.astoreN X1.here hx rfl (hb hby d6_4) rfl rfl (l' := #[.val (.ref pr0), .val (.ref w_truth_pr0), .unset, .unset, .unset]) rfl ?_
    show Stp p e below T1 m 5 #[.val (.ref pr0), .val (.ref w_truth_pr0), .unset, .unset, .unset] [] _
    refine XS.aloadN X1.here hx rfl (hb hby d6_5) rfl rfl ?_
    show Stp p e below T1 m 6 #[.val (.ref pr0), .val (.ref w_truth_pr0), .unset, .unset, .unset] [(.ref w_truth_pr0)] _
    refine X1.arraylength hx (by rw [e1]; exact Arc2.1) (State.isArrayOf_alike hZ.alike Arc2.2.1) (g := (mkF m 6 #[.val (.ref pr0), .val (.ref w_truth_pr0), .unset, .unset, .unset] [(.ref w_truth_pr0)])) rfl rfl (hb hby d6_6) _ ?_
    rw [len_of Sc2 Nc2]
    show Stp p e below T1 m 7 #[.val (.ref pr0), .val (.ref w_truth_pr0), .unset, .unset, .unset] [(.int (8 : Int32))] _
    refine XS.istoreN X1.here hx rfl (hb hby d6_7) rfl (l' := #[.val (.ref pr0), .val (.ref w_truth_pr0), .val (.int (8 : Int32)), .unset, .unset]) rfl ?_
    show Stp p e below T1 m 8 #[.val (.ref pr0), .val (.ref w_truth_pr0), .val (.int (8 : Int32)), .unset, .unset] [] _
    refine XS.iconst X1.here hx rfl (hb hby d6_8) ?_
    show Stp p e below T1 m 9 #[.val (.ref pr0), .val (.ref w_truth_pr0), .val (.int (8 : Int32)), .unset, .unset] [(.int (0 : Int32))] _
    refine XS.istoreN X1.here hx rfl (hb hby d6_9) rfl (l' := #[.val (.ref pr0), .val (.ref w_truth_pr0), .val (.int (8 : Int32)), .val (.int (0 : Int32)), .unset]) rfl ?_
    show Stp p e below T1 m 10 #[.val (.ref pr0), .val (.ref w_truth_pr0), .val (.int (8 : Int32)), .val (.int (0 : Int32)), .unset] [] _
    refine XS.iloadN X1.here hx rfl (hb hby d6_10) rfl ?_
    show Stp p e below T1 m 11 #[.val (.ref pr0), .val (.ref w_truth_pr0), .val (.int (8 : Int32)), .val (.int (0 : Int32)), .unset] [(.int (0 : Int32))] _
    refine XS.iloadN X1.here hx rfl (hb hby d6_11) rfl ?_
    show Stp p e below T1 m 12 #[.val (.ref pr0), .val (.ref w_truth_pr0), .val (.int (8 : Int32)), .val (.int (0 : Int32)), .unset] [(.int (8 : Int32)), (.int (0 : Int32))] _
    refine XS.icmpNo X1.here hx rfl (hb hby d6_12) rfl (tlt (by decide : (0 : Int32) < (8 : Int32))).2.1 ?_
    show Stp p e below T1 m 15 #[.val (.ref pr0), .val (.ref w_truth_pr0), .val (.int (8 : Int32)), .val (.int (0 : Int32)), .unset] [] _
    refine XS.aloadN X1.here hx rfl (hb hby d6_15) rfl rfl ?_
    show Stp p e below T1 m 16 #[.val (.ref pr0), .val (.ref w_truth_pr0), .val (.int (8 : Int32)), .val (.int (0 : Int32)), .unset] [(.ref w_truth_pr0)] _
    refine XS.iloadN X1.here hx rfl (hb hby d6_16) rfl ?_
    show Stp p e below T1 m 17 #[.val (.ref pr0), .val (.ref w_truth_pr0), .val (.int (8 : Int32)), .val (.int (0 : Int32)), .unset] [(.int (0 : Int32)), (.ref w_truth_pr0)] _
    refine X1.baloadBooleans hx (j := (0 : Int32)) (v := (.int c0_w_truth_pr0)) (by rw [e1]; exact Arc3.1) (State.isArrayOf_alike hZ.alike Arc3.2.1) Arc3.2.2 hin4 (Has.at Hc3 hin4 rfl) (g := (mkF m 17 #[.val (.ref pr0), .val (.ref w_truth_pr0), .val (.int (8 : Int32)), .val (.int (0 : Int32)), .unset] [(.int (0 : Int32)), (.ref w_truth_pr0)])) rfl rfl (hb hby d6_17) _ ?_
    show Stp p e below T1 m 18 #[.val (.ref pr0), .val (.ref w_truth_pr0), .val (.int (8 : Int32)), .val (.int (0 : Int32)), .unset] [(.int c0_w_truth_pr0)] _
    refine XS.istore X1.here hx rfl (hb hby d6_18) rfl (l' := #[.val (.ref pr0), .val (.ref w_truth_pr0), .val (.int (8 : Int32)), .val (.int (0 : Int32)), .val (.int c0_w_truth_pr0)]) rfl ?_
    show Stp p e below T1 m 20 #[.val (.ref pr0), .val (.ref w_truth_pr0), .val (.int (8 : Int32)), .val (.int (0 : Int32)), .val (.int c0_w_truth_pr0)] [] _
    refine XS.iload X1.here hx rfl (hb hby d6_20) rfl ?_
    show Stp p e below T1 m 22 #[.val (.ref pr0), .val (.ref w_truth_pr0), .val (.int (8 : Int32)), .val (.int (0 : Int32)), .val (.int c0_w_truth_pr0)] [(.int c0_w_truth_pr0)] _
    refine XS.aloadN X1.here hx rfl (hb hby d6_22) rfl rfl ?_
    show Stp p e below T1 m 23 #[.val (.ref pr0), .val (.ref w_truth_pr0), .val (.int (8 : Int32)), .val (.int (0 : Int32)), .val (.int c0_w_truth_pr0)] [(.ref pr0), (.int c0_w_truth_pr0)] _
    refine st5 _ ?_
    show Stp p e below T5 m 26 #[.val (.ref pr0), .val (.ref w_truth_pr0), .val (.int (8 : Int32)), .val (.int (0 : Int32)), .val (.int c0_w_truth_pr0)] [(.ref w_truth_pr0), (.int c0_w_truth_pr0)] _
    refine XS.iconst X5.here hx rfl (hb hby d6_26) ?_
    show Stp p e below T5 m 27 #[.val (.ref pr0), .val (.ref w_truth_pr0), .val (.int (8 : Int32)), .val (.int (0 : Int32)), .val (.int c0_w_truth_pr0)] [(.int (0 : Int32)), (.ref w_truth_pr0), (.int c0_w_truth_pr0)] _
    refine X5.baloadBooleans hx (j := (0 : Int32)) (v := (.int c0_w_truth_pr0)) (by rw [e5]; exact Arc6.1) (State.isArrayOf_alike hZ.alike Arc6.2.1) Arc6.2.2 hin7 (Has.at Hc6 hin7 rfl) (g := (mkF m 27 #[.val (.ref pr0), .val (.ref w_truth_pr0), .val (.int (8 : Int32)), .val (.int (0 : Int32)), .val (.int c0_w_truth_pr0)] [(.int (0 : Int32)), (.ref w_truth_pr0), (.int c0_w_truth_pr0)])) rfl rfl (hb hby d6_27) _ ?_
    show Stp p e below T5 m 28 #[.val (.ref pr0), .val (.ref w_truth_pr0), .val (.int (8 : Int32)), .val (.int (0 : Int32)), .val (.int c0_w_truth_pr0)] [(.int c0_w_truth_pr0), (.int c0_w_truth_pr0)] _
    refine XS.icmpYes X5.here hx rfl (pc0 := 28) (pc' := 33) rfl (hb hby d6_28) rfl (teq (rfl : c0_w_truth_pr0 = c0_w_truth_pr0)).1 (by decide) (by decide) ?_
    show Stp p e below T5 m 33 #[.val (.ref pr0), .val (.ref w_truth_pr0), .val (.int (8 : Int32)), .val (.int (0 : Int32)), .val (.int c0_w_truth_pr0)] [] _
    refine XS.iinc X5.here hx rfl (hb hby d6_33) rfl (l' := #[.val (.ref pr0), .val (.ref w_truth_pr0), .val (.int (8 : Int32)), .val (.int (1 : Int32)), .val (.int c0_w_truth_pr0)]) rfl ?_
    show Stp p e below T5 m 36 #[.val (.ref pr0), .val (.ref w_truth_pr0), .val (.int (8 : Int32)), .val (.int (1 : Int32)), .val (.int c0_w_truth_pr0)] [] _
    refine XS.goto X5.here hx rfl (pc0 := 36) (pc' := 10) rfl (hb hby d6_36) (by decide) (by decide) ?_
    show Stp p e below T5 m 10 #[.val (.ref pr0), .val (.ref w_truth_pr0), .val (.int (8 : Int32)), .val (.int (1 : Int32)), .val (.int c0_w_truth_pr0)] [] _
    refine XS.iloadN X5.here hx rfl (hb hby d6_10) rfl ?_
    show Stp p e below T5 m 11 #[.val (.ref pr0), .val (.ref w_truth_pr0), .val (.int (8 : Int32)), .val (.int (1 : Int32)), .val (.int c0_w_truth_pr0)] [(.int (1 : Int32))] _
    refine XS.iloadN X5.here hx rfl (hb hby d6_11) rfl ?_
    show Stp p e below T5 m 12 #[.val (.ref pr0), .val (.ref w_truth_pr0), .val (.int (8 : Int32)), .val (.int (1 : Int32)), .val (.int c0_w_truth_pr0)] [(.int (8 : Int32)), (.int (1 : Int32))] _
    refine XS.icmpNo X5.here hx rfl (hb hby d6_12) rfl (tlt (by decide : (1 : Int32) < (8 : Int32))).2.1 ?_
    show Stp p e below T5 m 15 #[.val (.ref pr0), .val (.ref w_truth_pr0), .val (.int (8 : Int32)), .val (.int (1 : Int32)), .val (.int c0_w_truth_pr0)] [] _
    refine XS.aloadN X5.here hx rfl (hb hby d6_15) rfl rfl ?_
    show Stp p e below T5 m 16 #[.val (.ref pr0), .val (.ref w_truth_pr0), .val (.int (8 : Int32)), .val (.int (1 : Int32)), .val (.int c0_w_truth_pr0)] [(.ref w_truth_pr0)] _
    refine XS.iloadN X5.here hx rfl (hb hby d6_16) rfl ?_
    show Stp p e below T5 m 17 #[.val (.ref pr0), .val (.ref w_truth_pr0), .val (.int (8 : Int32)), .val (.int (1 : Int32)), .val (.int c0_w_truth_pr0)] [(.int (1 : Int32)), (.ref w_truth_pr0)] _
    refine X5.baloadBooleans hx (j := (1 : Int32)) (v := (.int c1_w_truth_pr0)) (by rw [e5]; exact Arc8.1) (State.isArrayOf_alike hZ.alike Arc8.2.1) Arc8.2.2 hin9 (Has.at Hc8 hin9 rfl) (g := (mkF m 17 #[.val (.ref pr0), .val (.ref w_truth_pr0), .val (.int (8 : Int32)), .val (.int (1 : Int32)), .val (.int c0_w_truth_pr0)] [(.int (1 : Int32)), (.ref w_truth_pr0)])) rfl rfl (hb hby d6_17) _ ?_
    show Stp p e below T5 m 18 #[.val (.ref pr0), .val (.ref w_truth_pr0), .val (.int (8 : Int32)), .val (.int (1 : Int32)), .val (.int c0_w_truth_pr0)] [(.int c1_w_truth_pr0)] _
    refine XS.istore X5.here hx rfl (hb hby d6_18) rfl (l' := #[.val (.ref pr0), .val (.ref w_truth_pr0), .val (.int (8 : Int32)), .val (.int (1 : Int32)), .val (.int c1_w_truth_pr0)]) rfl ?_
    show Stp p e below T5 m 20 #[.val (.ref pr0), .val (.ref w_truth_pr0), .val (.int (8 : Int32)), .val (.int (1 : Int32)), .val (.int c1_w_truth_pr0)] [] _
    refine XS.iload X5.here hx rfl (hb hby d6_20) rfl ?_
    show Stp p e below T5 m 22 #[.val (.ref pr0), .val (.ref w_truth_pr0), .val (.int (8 : Int32)), .val (.int (1 : Int32)), .val (.int c1_w_truth_pr0)] [(.int c1_w_truth_pr0)] _
    refine XS.aloadN X5.here hx rfl (hb hby d6_22) rfl rfl ?_
    show Stp p e below T5 m 23 #[.val (.ref pr0), .val (.ref w_truth_pr0), .val (.int (8 : Int32)), .val (.int (1 : Int32)), .val (.int c1_w_truth_pr0)] [(.ref pr0), (.int c1_w_truth_pr0)] _
    refine st10 _ ?_
    show Stp p e below T10 m 26 #[.val (.ref pr0), .val (.ref w_truth_pr0), .val (.int (8 : Int32)), .val (.int (1 : Int32)), .val (.int c1_w_truth_pr0)] [(.ref w_truth_pr0), (.int c1_w_truth_pr0)] _
    refine XS.iconst X10.here hx rfl (hb hby d6_26) ?_
    show Stp p e below T10 m 27 #[.val (.ref pr0), .val (.ref w_truth_pr0), .val (.int (8 : Int32)), .val (.int (1 : Int32)), .val (.int c1_w_truth_pr0)] [(.int (0 : Int32)), (.ref w_truth_pr0), (.int c1_w_truth_pr0)] _
    refine X10.baloadBooleans hx (j := (0 : Int32)) (v := (.int c0_w_truth_pr0)) (by rw [e10]; exact Arc11.1) (State.isArrayOf_alike hZ.alike Arc11.2.1) Arc11.2.2 hin12 (Has.at Hc11 hin12 rfl) (g := (mkF m 27 #[.val (.ref pr0), .val (.ref w_truth_pr0), .val (.int (8 : Int32)), .val (.int (1 : Int32)), .val (.int c1_w_truth_pr0)] [(.int (0 : Int32)), (.ref w_truth_pr0), (.int c1_w_truth_pr0)])) rfl rfl (hb hby d6_27) _ ?_
    show Stp p e below T10 m 28 #[.val (.ref pr0), .val (.ref w_truth_pr0), .val (.int (8 : Int32)), .val (.int (1 : Int32)), .val (.int c1_w_truth_pr0)] [(.int c0_w_truth_pr0), (.int c1_w_truth_pr0)] _
    refine XS.icmpYes X10.here hx rfl (pc0 := 28) (pc' := 33) rfl (hb hby d6_28) rfl (teq hc28_0).1 (by decide) (by decide) ?_
    show Stp p e below T10 m 33 #[.val (.ref pr0), .val (.ref w_truth_pr0), .val (.int (8 : Int32)), .val (.int (1 : Int32)), .val (.int c1_w_truth_pr0)] [] _
    refine XS.iinc X10.here hx rfl (hb hby d6_33) rfl (l' := #[.val (.ref pr0), .val (.ref w_truth_pr0), .val (.int (8 : Int32)), .val (.int (2 : Int32)), .val (.int c1_w_truth_pr0)]) rfl ?_
    show Stp p e below T10 m 36 #[.val (.ref pr0), .val (.ref w_truth_pr0), .val (.int (8 : Int32)), .val (.int (2 : Int32)), .val (.int c1_w_truth_pr0)] [] _
    refine XS.goto X10.here hx rfl (pc0 := 36) (pc' := 10) rfl (hb hby d6_36) (by decide) (by decide) ?_
    show Stp p e below T10 m 10 #[.val (.ref pr0), .val (.ref w_truth_pr0), .val (.int (8 : Int32)), .val (.int (2 : Int32)), .val (.int c1_w_truth_pr0)] [] _
    refine XS.iloadN X10.here hx rfl (hb hby d6_10) rfl ?_
    show Stp p e below T10 m 11 #[.val (.ref pr0), .val (.ref w_truth_pr0), .val (.int (8 : Int32)), .val (.int (2 : Int32)), .val (.int c1_w_truth_pr0)] [(.int (2 : Int32))] _
    refine XS.iloadN X10.here hx rfl (hb hby d6_11) rfl ?_
    show Stp p e below T10 m 12 #[.val (.ref pr0), .val (.ref w_truth_pr0), .val (.int (8 : Int32)), .val (.int (2 : Int32)), .val (.int c1_w_truth_pr0)] [(.int (8 : Int32)), (.int (2 : Int32))] _
    refine XS.icmpNo X10.here hx rfl (hb hby d6_12) rfl (tlt (by decide : (2 : Int32) < (8 : Int32))).2.1 ?_
    show Stp p e below T10 m 15 #[.val (.ref pr0), .val (.ref w_truth_pr0), .val (.int (8 : Int32)), .val (.int (2 : Int32)), .val (.int c1_w_truth_pr0)] [] _
    refine XS.aloadN X10.here hx rfl (hb hby d6_15) rfl rfl ?_
    show Stp p e below T10 m 16 #[.val (.ref pr0), .val (.ref w_truth_pr0), .val (.int (8 : Int32)), .val (.int (2 : Int32)), .val (.int c1_w_truth_pr0)] [(.ref w_truth_pr0)] _
    refine XS.iloadN X10.here hx rfl (hb hby d6_16) rfl ?_
    show Stp p e below T10 m 17 #[.val (.ref pr0), .val (.ref w_truth_pr0), .val (.int (8 : Int32)), .val (.int (2 : Int32)), .val (.int c1_w_truth_pr0)] [(.int (2 : Int32)), (.ref w_truth_pr0)] _
    refine X10.baloadBooleans hx (j := (2 : Int32)) (v := (.int c2_w_truth_pr0)) (by rw [e10]; exact Arc13.1) (State.isArrayOf_alike hZ.alike Arc13.2.1) Arc13.2.2 hin14 (Has.at Hc13 hin14 rfl) (g := (mkF m 17 #[.val (.ref pr0), .val (.ref w_truth_pr0), .val (.int (8 : Int32)), .val (.int (2 : Int32)), .val (.int c1_w_truth_pr0)] [(.int (2 : Int32)), (.ref w_truth_pr0)])) rfl rfl (hb hby d6_17) _ ?_
    show Stp p e below T10 m 18 #[.val (.ref pr0), .val (.ref w_truth_pr0), .val (.int (8 : Int32)), .val (.int (2 : Int32)), .val (.int c1_w_truth_pr0)] [(.int c2_w_truth_pr0)] _
    refine XS.istore X10.here hx rfl (hb hby d6_18) rfl (l' := #[.val (.ref pr0), .val (.ref w_truth_pr0), .val (.int (8 : Int32)), .val (.int (2 : Int32)), .val (.int c2_w_truth_pr0)]) rfl ?_
    show Stp p e below T10 m 20 #[.val (.ref pr0), .val (.ref w_truth_pr0), .val (.int (8 : Int32)), .val (.int (2 : Int32)), .val (.int c2_w_truth_pr0)] [] _
    refine XS.iload X10.here hx rfl (hb hby d6_20) rfl ?_
    show Stp p e below T10 m 22 #[.val (.ref pr0), .val (.ref w_truth_pr0), .val (.int (8 : Int32)), .val (.int (2 : Int32)), .val (.int c2_w_truth_pr0)] [(.int c2_w_truth_pr0)] _
    refine XS.aloadN X10.here hx rfl (hb hby d6_22) rfl rfl ?_
    show Stp p e below T10 m 23 #[.val (.ref pr0), .val (.ref w_truth_pr0), .val (.int (8 : Int32)), .val (.int (2 : Int32)), .val (.int c2_w_truth_pr0)] [(.ref pr0), (.int c2_w_truth_pr0)] _
    refine st15 _ ?_
    show Stp p e below T15 m 26 #[.val (.ref pr0), .val (.ref w_truth_pr0), .val (.int (8 : Int32)), .val (.int (2 : Int32)), .val (.int c2_w_truth_pr0)] [(.ref w_truth_pr0), (.int c2_w_truth_pr0)] _
    refine XS.iconst X15.here hx rfl (hb hby d6_26) ?_
    show Stp p e below T15 m 27 #[.val (.ref pr0), .val (.ref w_truth_pr0), .val (.int (8 : Int32)), .val (.int (2 : Int32)), .val (.int c2_w_truth_pr0)] [(.int (0 : Int32)), (.ref w_truth_pr0), (.int c2_w_truth_pr0)] _
    refine X15.baloadBooleans hx (j := (0 : Int32)) (v := (.int c0_w_truth_pr0)) (by rw [e15]; exact Arc16.1) (State.isArrayOf_alike hZ.alike Arc16.2.1) Arc16.2.2 hin17 (Has.at Hc16 hin17 rfl) (g := (mkF m 27 #[.val (.ref pr0), .val (.ref w_truth_pr0), .val (.int (8 : Int32)), .val (.int (2 : Int32)), .val (.int c2_w_truth_pr0)] [(.int (0 : Int32)), (.ref w_truth_pr0), (.int c2_w_truth_pr0)])) rfl rfl (hb hby d6_27) _ ?_
    show Stp p e below T15 m 28 #[.val (.ref pr0), .val (.ref w_truth_pr0), .val (.int (8 : Int32)), .val (.int (2 : Int32)), .val (.int c2_w_truth_pr0)] [(.int c0_w_truth_pr0), (.int c2_w_truth_pr0)] _
    refine XS.icmpYes X15.here hx rfl (pc0 := 28) (pc' := 33) rfl (hb hby d6_28) rfl (teq hc28_1).1 (by decide) (by decide) ?_
    show Stp p e below T15 m 33 #[.val (.ref pr0), .val (.ref w_truth_pr0), .val (.int (8 : Int32)), .val (.int (2 : Int32)), .val (.int c2_w_truth_pr0)] [] _
    refine XS.iinc X15.here hx rfl (hb hby d6_33) rfl (l' := #[.val (.ref pr0), .val (.ref w_truth_pr0), .val (.int (8 : Int32)), .val (.int (3 : Int32)), .val (.int c2_w_truth_pr0)]) rfl ?_
    show Stp p e below T15 m 36 #[.val (.ref pr0), .val (.ref w_truth_pr0), .val (.int (8 : Int32)), .val (.int (3 : Int32)), .val (.int c2_w_truth_pr0)] [] _
    refine XS.goto X15.here hx rfl (pc0 := 36) (pc' := 10) rfl (hb hby d6_36) (by decide) (by decide) ?_
    show Stp p e below T15 m 10 #[.val (.ref pr0), .val (.ref w_truth_pr0), .val (.int (8 : Int32)), .val (.int (3 : Int32)), .val (.int c2_w_truth_pr0)] [] _
    refine XS.iloadN X15.here hx rfl (hb hby d6_10) rfl ?_
    show Stp p e below T15 m 11 #[.val (.ref pr0), .val (.ref w_truth_pr0), .val (.int (8 : Int32)), .val (.int (3 : Int32)), .val (.int c2_w_truth_pr0)] [(.int (3 : Int32))] _
    refine XS.iloadN X15.here hx rfl (hb hby d6_11) rfl ?_
    show Stp p e below T15 m 12 #[.val (.ref pr0), .val (.ref w_truth_pr0), .val (.int (8 : Int32)), .val (.int (3 : Int32)), .val (.int c2_w_truth_pr0)] [(.int (8 : Int32)), (.int (3 : Int32))] _
    refine XS.icmpNo X15.here hx rfl (hb hby d6_12) rfl (tlt (by decide : (3 : Int32) < (8 : Int32))).2.1 ?_
    show Stp p e below T15 m 15 #[.val (.ref pr0), .val (.ref w_truth_pr0), .val (.int (8 : Int32)), .val (.int (3 : Int32)), .val (.int c2_w_truth_pr0)] [] _
    refine XS.aloadN X15.here hx rfl (hb hby d6_15) rfl rfl ?_
    show Stp p e below T15 m 16 #[.val (.ref pr0), .val (.ref w_truth_pr0), .val (.int (8 : Int32)), .val (.int (3 : Int32)), .val (.int c2_w_truth_pr0)] [(.ref w_truth_pr0)] _
    refine XS.iloadN X15.here hx rfl (hb hby d6_16) rfl ?_
    show Stp p e below T15 m 17 #[.val (.ref pr0), .val (.ref w_truth_pr0), .val (.int (8 : Int32)), .val (.int (3 : Int32)), .val (.int c2_w_truth_pr0)] [(.int (3 : Int32)), (.ref w_truth_pr0)] _
    refine X15.baloadBooleans hx (j := (3 : Int32)) (v := (.int c3_w_truth_pr0)) (by rw [e15]; exact Arc18.1) (State.isArrayOf_alike hZ.alike Arc18.2.1) Arc18.2.2 hin19 (Has.at Hc18 hin19 rfl) (g := (mkF m 17 #[.val (.ref pr0), .val (.ref w_truth_pr0), .val (.int (8 : Int32)), .val (.int (3 : Int32)), .val (.int c2_w_truth_pr0)] [(.int (3 : Int32)), (.ref w_truth_pr0)])) rfl rfl (hb hby d6_17) _ ?_
    show Stp p e below T15 m 18 #[.val (.ref pr0), .val (.ref w_truth_pr0), .val (.int (8 : Int32)), .val (.int (3 : Int32)), .val (.int c2_w_truth_pr0)] [(.int c3_w_truth_pr0)] _
    refine XS.istore X15.here hx rfl (hb hby d6_18) rfl (l' := #[.val (.ref pr0), .val (.ref w_truth_pr0), .val (.int (8 : Int32)), .val (.int (3 : Int32)), .val (.int c3_w_truth_pr0)]) rfl ?_
    show Stp p e below T15 m 20 #[.val (.ref pr0), .val (.ref w_truth_pr0), .val (.int (8 : Int32)), .val (.int (3 : Int32)), .val (.int c3_w_truth_pr0)] [] _
    refine XS.iload X15.here hx rfl (hb hby d6_20) rfl ?_
    show Stp p e below T15 m 22 #[.val (.ref pr0), .val (.ref w_truth_pr0), .val (.int (8 : Int32)), .val (.int (3 : Int32)), .val (.int c3_w_truth_pr0)] [(.int c3_w_truth_pr0)] _
    refine XS.aloadN X15.here hx rfl (hb hby d6_22) rfl rfl ?_
    show Stp p e below T15 m 23 #[.val (.ref pr0), .val (.ref w_truth_pr0), .val (.int (8 : Int32)), .val (.int (3 : Int32)), .val (.int c3_w_truth_pr0)] [(.ref pr0), (.int c3_w_truth_pr0)] _
    refine st20 _ ?_
    show Stp p e below T20 m 26 #[.val (.ref pr0), .val (.ref w_truth_pr0), .val (.int (8 : Int32)), .val (.int (3 : Int32)), .val (.int c3_w_truth_pr0)] [(.ref w_truth_pr0), (.int c3_w_truth_pr0)] _
    refine XS.iconst X20.here hx rfl (hb hby d6_26) ?_
    show Stp p e below T20 m 27 #[.val (.ref pr0), .val (.ref w_truth_pr0), .val (.int (8 : Int32)), .val (.int (3 : Int32)), .val (.int c3_w_truth_pr0)] [(.int (0 : Int32)), (.ref w_truth_pr0), (.int c3_w_truth_pr0)] _
    refine X20.baloadBooleans hx (j := (0 : Int32)) (v := (.int c0_w_truth_pr0)) (by rw [e20]; exact Arc21.1) (State.isArrayOf_alike hZ.alike Arc21.2.1) Arc21.2.2 hin22 (Has.at Hc21 hin22 rfl) (g := (mkF m 27 #[.val (.ref pr0), .val (.ref w_truth_pr0), .val (.int (8 : Int32)), .val (.int (3 : Int32)), .val (.int c3_w_truth_pr0)] [(.int (0 : Int32)), (.ref w_truth_pr0), (.int c3_w_truth_pr0)])) rfl rfl (hb hby d6_27) _ ?_
    show Stp p e below T20 m 28 #[.val (.ref pr0), .val (.ref w_truth_pr0), .val (.int (8 : Int32)), .val (.int (3 : Int32)), .val (.int c3_w_truth_pr0)] [(.int c0_w_truth_pr0), (.int c3_w_truth_pr0)] _
    refine XS.icmpYes X20.here hx rfl (pc0 := 28) (pc' := 33) rfl (hb hby d6_28) rfl (teq hc28_2).1 (by decide) (by decide) ?_
    show Stp p e below T20 m 33 #[.val (.ref pr0), .val (.ref w_truth_pr0), .val (.int (8 : Int32)), .val (.int (3 : Int32)), .val (.int c3_w_truth_pr0)] [] _
    refine XS.iinc X20.here hx rfl (hb hby d6_33) rfl (l' := #[.val (.ref pr0), .val (.ref w_truth_pr0), .val (.int (8 : Int32)), .val (.int (4 : Int32)), .val (.int c3_w_truth_pr0)]) rfl ?_
    show Stp p e below T20 m 36 #[.val (.ref pr0), .val (.ref w_truth_pr0), .val (.int (8 : Int32)), .val (.int (4 : Int32)), .val (.int c3_w_truth_pr0)] [] _
    refine XS.goto X20.here hx rfl (pc0 := 36) (pc' := 10) rfl (hb hby d6_36) (by decide) (by decide) ?_
    show Stp p e below T20 m 10 #[.val (.ref pr0), .val (.ref w_truth_pr0), .val (.int (8 : Int32)), .val (.int (4 : Int32)), .val (.int c3_w_truth_pr0)] [] _
    refine XS.iloadN X20.here hx rfl (hb hby d6_10) rfl ?_
    show Stp p e below T20 m 11 #[.val (.ref pr0), .val (.ref w_truth_pr0), .val (.int (8 : Int32)), .val (.int (4 : Int32)), .val (.int c3_w_truth_pr0)] [(.int (4 : Int32))] _
    refine XS.iloadN X20.here hx rfl (hb hby d6_11) rfl ?_
    show Stp p e below T20 m 12 #[.val (.ref pr0), .val (.ref w_truth_pr0), .val (.int (8 : Int32)), .val (.int (4 : Int32)), .val (.int c3_w_truth_pr0)] [(.int (8 : Int32)), (.int (4 : Int32))] _
    refine XS.icmpNo X20.here hx rfl (hb hby d6_12) rfl (tlt (by decide : (4 : Int32) < (8 : Int32))).2.1 ?_
    show Stp p e below T20 m 15 #[.val (.ref pr0), .val (.ref w_truth_pr0), .val (.int (8 : Int32)), .val (.int (4 : Int32)), .val (.int c3_w_truth_pr0)] [] _
    refine XS.aloadN X20.here hx rfl (hb hby d6_15) rfl rfl ?_
    show Stp p e below T20 m 16 #[.val (.ref pr0), .val (.ref w_truth_pr0), .val (.int (8 : Int32)), .val (.int (4 : Int32)), .val (.int c3_w_truth_pr0)] [(.ref w_truth_pr0)] _
    refine XS.iloadN X20.here hx rfl (hb hby d6_16) rfl ?_
    show Stp p e below T20 m 17 #[.val (.ref pr0), .val (.ref w_truth_pr0), .val (.int (8 : Int32)), .val (.int (4 : Int32)), .val (.int c3_w_truth_pr0)] [(.int (4 : Int32)), (.ref w_truth_pr0)] _
    refine X20.baloadBooleans hx (j := (4 : Int32)) (v := (.int c4_w_truth_pr0)) (by rw [e20]; exact Arc23.1) (State.isArrayOf_alike hZ.alike Arc23.2.1) Arc23.2.2 hin24 (Has.at Hc23 hin24 rfl) (g := (mkF m 17 #[.val (.ref pr0), .val (.ref w_truth_pr0), .val (.int (8 : Int32)), .val (.int (4 : Int32)), .val (.int c3_w_truth_pr0)] [(.int (4 : Int32)), (.ref w_truth_pr0)])) rfl rfl (hb hby d6_17) _ ?_
    show Stp p e below T20 m 18 #[.val (.ref pr0), .val (.ref w_truth_pr0), .val (.int (8 : Int32)), .val (.int (4 : Int32)), .val (.int c3_w_truth_pr0)] [(.int c4_w_truth_pr0)] _
    refine XS.istore X20.here hx rfl (hb hby d6_18) rfl (l' := #[.val (.ref pr0), .val (.ref w_truth_pr0), .val (.int (8 : Int32)), .val (.int (4 : Int32)), .val (.int c4_w_truth_pr0)]) rfl ?_
    show Stp p e below T20 m 20 #[.val (.ref pr0), .val (.ref w_truth_pr0), .val (.int (8 : Int32)), .val (.int (4 : Int32)), .val (.int c4_w_truth_pr0)] [] _
    refine XS.iload X20.here hx rfl (hb hby d6_20) rfl ?_
    show Stp p e below T20 m 22 #[.val (.ref pr0), .val (.ref w_truth_pr0), .val (.int (8 : Int32)), .val (.int (4 : Int32)), .val (.int c4_w_truth_pr0)] [(.int c4_w_truth_pr0)] _
    refine XS.aloadN X20.here hx rfl (hb hby d6_22) rfl rfl ?_
    show Stp p e below T20 m 23 #[.val (.ref pr0), .val (.ref w_truth_pr0), .val (.int (8 : Int32)), .val (.int (4 : Int32)), .val (.int c4_w_truth_pr0)] [(.ref pr0), (.int c4_w_truth_pr0)] _
    refine st25 _ ?_
    show Stp p e below T25 m 26 #[.val (.ref pr0), .val (.ref w_truth_pr0), .val (.int (8 : Int32)), .val (.int (4 : Int32)), .val (.int c4_w_truth_pr0)] [(.ref w_truth_pr0), (.int c4_w_truth_pr0)] _
    refine XS.iconst X25.here hx rfl (hb hby d6_26) ?_
    show Stp p e below T25 m 27 #[.val (.ref pr0), .val (.ref w_truth_pr0), .val (.int (8 : Int32)), .val (.int (4 : Int32)), .val (.int c4_w_truth_pr0)] [(.int (0 : Int32)), (.ref w_truth_pr0), (.int c4_w_truth_pr0)] _
    refine X25.baloadBooleans hx (j := (0 : Int32)) (v := (.int c0_w_truth_pr0)) (by rw [e25]; exact Arc26.1) (State.isArrayOf_alike hZ.alike Arc26.2.1) Arc26.2.2 hin27 (Has.at Hc26 hin27 rfl) (g := (mkF m 27 #[.val (.ref pr0), .val (.ref w_truth_pr0), .val (.int (8 : Int32)), .val (.int (4 : Int32)), .val (.int c4_w_truth_pr0)] [(.int (0 : Int32)), (.ref w_truth_pr0), (.int c4_w_truth_pr0)])) rfl rfl (hb hby d6_27) _ ?_
    show Stp p e below T25 m 28 #[.val (.ref pr0), .val (.ref w_truth_pr0), .val (.int (8 : Int32)), .val (.int (4 : Int32)), .val (.int c4_w_truth_pr0)] [(.int c0_w_truth_pr0), (.int c4_w_truth_pr0)] _
    refine XS.icmpYes X25.here hx rfl (pc0 := 28) (pc' := 33) rfl (hb hby d6_28) rfl (teq hc28_3).1 (by decide) (by decide) ?_
    show Stp p e below T25 m 33 #[.val (.ref pr0), .val (.ref w_truth_pr0), .val (.int (8 : Int32)), .val (.int (4 : Int32)), .val (.int c4_w_truth_pr0)] [] _
    refine XS.iinc X25.here hx rfl (hb hby d6_33) rfl (l' := #[.val (.ref pr0), .val (.ref w_truth_pr0), .val (.int (8 : Int32)), .val (.int (5 : Int32)), .val (.int c4_w_truth_pr0)]) rfl ?_
    show Stp p e below T25 m 36 #[.val (.ref pr0), .val (.ref w_truth_pr0), .val (.int (8 : Int32)), .val (.int (5 : Int32)), .val (.int c4_w_truth_pr0)] [] _
    refine XS.goto X25.here hx rfl (pc0 := 36) (pc' := 10) rfl (hb hby d6_36) (by decide) (by decide) ?_
    show Stp p e below T25 m 10 #[.val (.ref pr0), .val (.ref w_truth_pr0), .val (.int (8 : Int32)), .val (.int (5 : Int32)), .val (.int c4_w_truth_pr0)] [] _
    refine XS.iloadN X25.here hx rfl (hb hby d6_10) rfl ?_
    show Stp p e below T25 m 11 #[.val (.ref pr0), .val (.ref w_truth_pr0), .val (.int (8 : Int32)), .val (.int (5 : Int32)), .val (.int c4_w_truth_pr0)] [(.int (5 : Int32))] _
    refine XS.iloadN X25.here hx rfl (hb hby d6_11) rfl ?_
    show Stp p e below T25 m 12 #[.val (.ref pr0), .val (.ref w_truth_pr0), .val (.int (8 : Int32)), .val (.int (5 : Int32)), .val (.int c4_w_truth_pr0)] [(.int (8 : Int32)), (.int (5 : Int32))] _
    refine XS.icmpNo X25.here hx rfl (hb hby d6_12) rfl (tlt (by decide : (5 : Int32) < (8 : Int32))).2.1 ?_
    show Stp p e below T25 m 15 #[.val (.ref pr0), .val (.ref w_truth_pr0), .val (.int (8 : Int32)), .val (.int (5 : Int32)), .val (.int c4_w_truth_pr0)] [] _
    refine XS.aloadN X25.here hx rfl (hb hby d6_15) rfl rfl ?_
    show Stp p e below T25 m 16 #[.val (.ref pr0), .val (.ref w_truth_pr0), .val (.int (8 : Int32)), .val (.int (5 : Int32)), .val (.int c4_w_truth_pr0)] [(.ref w_truth_pr0)] _
    refine XS.iloadN X25.here hx rfl (hb hby d6_16) rfl ?_
    show Stp p e below T25 m 17 #[.val (.ref pr0), .val (.ref w_truth_pr0), .val (.int (8 : Int32)), .val (.int (5 : Int32)), .val (.int c4_w_truth_pr0)] [(.int (5 : Int32)), (.ref w_truth_pr0)] _
    refine X25.baloadBooleans hx (j := (5 : Int32)) (v := (.int c5_w_truth_pr0)) (by rw [e25]; exact Arc28.1) (State.isArrayOf_alike hZ.alike Arc28.2.1) Arc28.2.2 hin29 (Has.at Hc28 hin29 rfl) (g := (mkF m 17 #[.val (.ref pr0), .val (.ref w_truth_pr0), .val (.int (8 : Int32)), .val (.int (5 : Int32)), .val (.int c4_w_truth_pr0)] [(.int (5 : Int32)), (.ref w_truth_pr0)])) rfl rfl (hb hby d6_17) _ ?_
    show Stp p e below T25 m 18 #[.val (.ref pr0), .val (.ref w_truth_pr0), .val (.int (8 : Int32)), .val (.int (5 : Int32)), .val (.int c4_w_truth_pr0)] [(.int c5_w_truth_pr0)] _
    refine XS.istore X25.here hx rfl (hb hby d6_18) rfl (l' := #[.val (.ref pr0), .val (.ref w_truth_pr0), .val (.int (8 : Int32)), .val (.int (5 : Int32)), .val (.int c5_w_truth_pr0)]) rfl ?_
    show Stp p e below T25 m 20 #[.val (.ref pr0), .val (.ref w_truth_pr0), .val (.int (8 : Int32)), .val (.int (5 : Int32)), .val (.int c5_w_truth_pr0)] [] _
    refine XS.iload X25.here hx rfl (hb hby d6_20) rfl ?_
    show Stp p e below T25 m 22 #[.val (.ref pr0), .val (.ref w_truth_pr0), .val (.int (8 : Int32)), .val (.int (5 : Int32)), .val (.int c5_w_truth_pr0)] [(.int c5_w_truth_pr0)] _
    refine XS.aloadN X25.here hx rfl (hb hby d6_22) rfl rfl ?_
    show Stp p e below T25 m 23 #[.val (.ref pr0), .val (.ref w_truth_pr0), .val (.int (8 : Int32)), .val (.int (5 : Int32)), .val (.int c5_w_truth_pr0)] [(.ref pr0), (.int c5_w_truth_pr0)] _
    refine st30 _ ?_
    show Stp p e below T30 m 26 #[.val (.ref pr0), .val (.ref w_truth_pr0), .val (.int (8 : Int32)), .val (.int (5 : Int32)), .val (.int c5_w_truth_pr0)] [(.ref w_truth_pr0), (.int c5_w_truth_pr0)] _
    refine XS.iconst X30.here hx rfl (hb hby d6_26) ?_
    show Stp p e below T30 m 27 #[.val (.ref pr0), .val (.ref w_truth_pr0), .val (.int (8 : Int32)), .val (.int (5 : Int32)), .val (.int c5_w_truth_pr0)] [(.int (0 : Int32)), (.ref w_truth_pr0), (.int c5_w_truth_pr0)] _
    refine X30.baloadBooleans hx (j := (0 : Int32)) (v := (.int c0_w_truth_pr0)) (by rw [e30]; exact Arc31.1) (State.isArrayOf_alike hZ.alike Arc31.2.1) Arc31.2.2 hin32 (Has.at Hc31 hin32 rfl) (g := (mkF m 27 #[.val (.ref pr0), .val (.ref w_truth_pr0), .val (.int (8 : Int32)), .val (.int (5 : Int32)), .val (.int c5_w_truth_pr0)] [(.int (0 : Int32)), (.ref w_truth_pr0), (.int c5_w_truth_pr0)])) rfl rfl (hb hby d6_27) _ ?_
    show Stp p e below T30 m 28 #[.val (.ref pr0), .val (.ref w_truth_pr0), .val (.int (8 : Int32)), .val (.int (5 : Int32)), .val (.int c5_w_truth_pr0)] [(.int c0_w_truth_pr0), (.int c5_w_truth_pr0)] _
    refine XS.icmpYes X30.here hx rfl (pc0 := 28) (pc' := 33) rfl (hb hby d6_28) rfl (teq hc28_4).1 (by decide) (by decide) ?_
    show Stp p e below T30 m 33 #[.val (.ref pr0), .val (.ref w_truth_pr0), .val (.int (8 : Int32)), .val (.int (5 : Int32)), .val (.int c5_w_truth_pr0)] [] _
    refine XS.iinc X30.here hx rfl (hb hby d6_33) rfl (l' := #[.val (.ref pr0), .val (.ref w_truth_pr0), .val (.int (8 : Int32)), .val (.int (6 : Int32)), .val (.int c5_w_truth_pr0)]) rfl ?_
    show Stp p e below T30 m 36 #[.val (.ref pr0), .val (.ref w_truth_pr0), .val (.int (8 : Int32)), .val (.int (6 : Int32)), .val (.int c5_w_truth_pr0)] [] _
    refine XS.goto X30.here hx rfl (pc0 := 36) (pc' := 10) rfl (hb hby d6_36) (by decide) (by decide) ?_
    show Stp p e below T30 m 10 #[.val (.ref pr0), .val (.ref w_truth_pr0), .val (.int (8 : Int32)), .val (.int (6 : Int32)), .val (.int c5_w_truth_pr0)] [] _
    refine XS.iloadN X30.here hx rfl (hb hby d6_10) rfl ?_
    show Stp p e below T30 m 11 #[.val (.ref pr0), .val (.ref w_truth_pr0), .val (.int (8 : Int32)), .val (.int (6 : Int32)), .val (.int c5_w_truth_pr0)] [(.int (6 : Int32))] _
    refine XS.iloadN X30.here hx rfl (hb hby d6_11) rfl ?_
    show Stp p e below T30 m 12 #[.val (.ref pr0), .val (.ref w_truth_pr0), .val (.int (8 : Int32)), .val (.int (6 : Int32)), .val (.int c5_w_truth_pr0)] [(.int (8 : Int32)), (.int (6 : Int32))] _
    refine XS.icmpNo X30.here hx rfl (hb hby d6_12) rfl (tlt (by decide : (6 : Int32) < (8 : Int32))).2.1 ?_
    show Stp p e below T30 m 15 #[.val (.ref pr0), .val (.ref w_truth_pr0), .val (.int (8 : Int32)), .val (.int (6 : Int32)), .val (.int c5_w_truth_pr0)] [] _
    refine XS.aloadN X30.here hx rfl (hb hby d6_15) rfl rfl ?_
    show Stp p e below T30 m 16 #[.val (.ref pr0), .val (.ref w_truth_pr0), .val (.int (8 : Int32)), .val (.int (6 : Int32)), .val (.int c5_w_truth_pr0)] [(.ref w_truth_pr0)] _
    refine XS.iloadN X30.here hx rfl (hb hby d6_16) rfl ?_
    show Stp p e below T30 m 17 #[.val (.ref pr0), .val (.ref w_truth_pr0), .val (.int (8 : Int32)), .val (.int (6 : Int32)), .val (.int c5_w_truth_pr0)] [(.int (6 : Int32)), (.ref w_truth_pr0)] _
    refine X30.baloadBooleans hx (j := (6 : Int32)) (v := (.int c6_w_truth_pr0)) (by rw [e30]; exact Arc33.1) (State.isArrayOf_alike hZ.alike Arc33.2.1) Arc33.2.2 hin34 (Has.at Hc33 hin34 rfl) (g := (mkF m 17 #[.val (.ref pr0), .val (.ref w_truth_pr0), .val (.int (8 : Int32)), .val (.int (6 : Int32)), .val (.int c5_w_truth_pr0)] [(.int (6 : Int32)), (.ref w_truth_pr0)])) rfl rfl (hb hby d6_17) _ ?_
    show Stp p e below T30 m 18 #[.val (.ref pr0), .val (.ref w_truth_pr0), .val (.int (8 : Int32)), .val (.int (6 : Int32)), .val (.int c5_w_truth_pr0)] [(.int c6_w_truth_pr0)] _
    refine XS.istore X30.here hx rfl (hb hby d6_18) rfl (l' := #[.val (.ref pr0), .val (.ref w_truth_pr0), .val (.int (8 : Int32)), .val (.int (6 : Int32)), .val (.int c6_w_truth_pr0)]) rfl ?_
    show Stp p e below T30 m 20 #[.val (.ref pr0), .val (.ref w_truth_pr0), .val (.int (8 : Int32)), .val (.int (6 : Int32)), .val (.int c6_w_truth_pr0)] [] _
    refine XS.iload X30.here hx rfl (hb hby d6_20) rfl ?_
    show Stp p e below T30 m 22 #[.val (.ref pr0), .val (.ref w_truth_pr0), .val (.int (8 : Int32)), .val (.int (6 : Int32)), .val (.int c6_w_truth_pr0)] [(.int c6_w_truth_pr0)] _
    refine XS.aloadN X30.here hx rfl (hb hby d6_22) rfl rfl ?_
    show Stp p e below T30 m 23 #[.val (.ref pr0), .val (.ref w_truth_pr0), .val (.int (8 : Int32)), .val (.int (6 : Int32)), .val (.int c6_w_truth_pr0)] [(.ref pr0), (.int c6_w_truth_pr0)] _
    refine st35 _ ?_
    show Stp p e below T35 m 26 #[.val (.ref pr0), .val (.ref w_truth_pr0), .val (.int (8 : Int32)), .val (.int (6 : Int32)), .val (.int c6_w_truth_pr0)] [(.ref w_truth_pr0), (.int c6_w_truth_pr0)] _
    refine XS.iconst X35.here hx rfl (hb hby d6_26) ?_
    show Stp p e below T35 m 27 #[.val (.ref pr0), .val (.ref w_truth_pr0), .val (.int (8 : Int32)), .val (.int (6 : Int32)), .val (.int c6_w_truth_pr0)] [(.int (0 : Int32)), (.ref w_truth_pr0), (.int c6_w_truth_pr0)] _
    refine X35.baloadBooleans hx (j := (0 : Int32)) (v := (.int c0_w_truth_pr0)) (by rw [e35]; exact Arc36.1) (State.isArrayOf_alike hZ.alike Arc36.2.1) Arc36.2.2 hin37 (Has.at Hc36 hin37 rfl) (g := (mkF m 27 #[.val (.ref pr0), .val (.ref w_truth_pr0), .val (.int (8 : Int32)), .val (.int (6 : Int32)), .val (.int c6_w_truth_pr0)] [(.int (0 : Int32)), (.ref w_truth_pr0), (.int c6_w_truth_pr0)])) rfl rfl (hb hby d6_27) _ ?_
    show Stp p e below T35 m 28 #[.val (.ref pr0), .val (.ref w_truth_pr0), .val (.int (8 : Int32)), .val (.int (6 : Int32)), .val (.int c6_w_truth_pr0)] [(.int c0_w_truth_pr0), (.int c6_w_truth_pr0)] _
    refine XS.icmpYes X35.here hx rfl (pc0 := 28) (pc' := 33) rfl (hb hby d6_28) rfl (teq hc28_5).1 (by decide) (by decide) ?_
    show Stp p e below T35 m 33 #[.val (.ref pr0), .val (.ref w_truth_pr0), .val (.int (8 : Int32)), .val (.int (6 : Int32)), .val (.int c6_w_truth_pr0)] [] _
    refine XS.iinc X35.here hx rfl (hb hby d6_33) rfl (l' := #[.val (.ref pr0), .val (.ref w_truth_pr0), .val (.int (8 : Int32)), .val (.int (7 : Int32)), .val (.int c6_w_truth_pr0)]) rfl ?_
    show Stp p e below T35 m 36 #[.val (.ref pr0), .val (.ref w_truth_pr0), .val (.int (8 : Int32)), .val (.int (7 : Int32)), .val (.int c6_w_truth_pr0)] [] _
    refine XS.goto X35.here hx rfl (pc0 := 36) (pc' := 10) rfl (hb hby d6_36) (by decide) (by decide) ?_
    show Stp p e below T35 m 10 #[.val (.ref pr0), .val (.ref w_truth_pr0), .val (.int (8 : Int32)), .val (.int (7 : Int32)), .val (.int c6_w_truth_pr0)] [] _
    refine XS.iloadN X35.here hx rfl (hb hby d6_10) rfl ?_
    show Stp p e below T35 m 11 #[.val (.ref pr0), .val (.ref w_truth_pr0), .val (.int (8 : Int32)), .val (.int (7 : Int32)), .val (.int c6_w_truth_pr0)] [(.int (7 : Int32))] _
    refine XS.iloadN X35.here hx rfl (hb hby d6_11) rfl ?_
    show Stp p e below T35 m 12 #[.val (.ref pr0), .val (.ref w_truth_pr0), .val (.int (8 : Int32)), .val (.int (7 : Int32)), .val (.int c6_w_truth_pr0)] [(.int (8 : Int32)), (.int (7 : Int32))] _
    refine XS.icmpNo X35.here hx rfl (hb hby d6_12) rfl (tlt (by decide : (7 : Int32) < (8 : Int32))).2.1 ?_
    show Stp p e below T35 m 15 #[.val (.ref pr0), .val (.ref w_truth_pr0), .val (.int (8 : Int32)), .val (.int (7 : Int32)), .val (.int c6_w_truth_pr0)] [] _
    refine XS.aloadN X35.here hx rfl (hb hby d6_15) rfl rfl ?_
    show Stp p e below T35 m 16 #[.val (.ref pr0), .val (.ref w_truth_pr0), .val (.int (8 : Int32)), .val (.int (7 : Int32)), .val (.int c6_w_truth_pr0)] [(.ref w_truth_pr0)] _
    refine XS.iloadN X35.here hx rfl (hb hby d6_16) rfl ?_
    show Stp p e below T35 m 17 #[.val (.ref pr0), .val (.ref w_truth_pr0), .val (.int (8 : Int32)), .val (.int (7 : Int32)), .val (.int c6_w_truth_pr0)] [(.int (7 : Int32)), (.ref w_truth_pr0)] _
    refine X35.baloadBooleans hx (j := (7 : Int32)) (v := (.int c7_w_truth_pr0)) (by rw [e35]; exact Arc38.1) (State.isArrayOf_alike hZ.alike Arc38.2.1) Arc38.2.2 hin39 (Has.at Hc38 hin39 rfl) (g := (mkF m 17 #[.val (.ref pr0), .val (.ref w_truth_pr0), .val (.int (8 : Int32)), .val (.int (7 : Int32)), .val (.int c6_w_truth_pr0)] [(.int (7 : Int32)), (.ref w_truth_pr0)])) rfl rfl (hb hby d6_17) _ ?_
    show Stp p e below T35 m 18 #[.val (.ref pr0), .val (.ref w_truth_pr0), .val (.int (8 : Int32)), .val (.int (7 : Int32)), .val (.int c6_w_truth_pr0)] [(.int c7_w_truth_pr0)] _
    refine XS.istore X35.here hx rfl (hb hby d6_18) rfl (l' := #[.val (.ref pr0), .val (.ref w_truth_pr0), .val (.int (8 : Int32)), .val (.int (7 : Int32)), .val (.int c7_w_truth_pr0)]) rfl ?_
    show Stp p e below T35 m 20 #[.val (.ref pr0), .val (.ref w_truth_pr0), .val (.int (8 : Int32)), .val (.int (7 : Int32)), .val (.int c7_w_truth_pr0)] [] _
    refine XS.iload X35.here hx rfl (hb hby d6_20) rfl ?_
    show Stp p e below T35 m 22 #[.val (.ref pr0), .val (.ref w_truth_pr0), .val (.int (8 : Int32)), .val (.int (7 : Int32)), .val (.int c7_w_truth_pr0)] [(.int c7_w_truth_pr0)] _
    refine XS.aloadN X35.here hx rfl (hb hby d6_22) rfl rfl ?_
    show Stp p e below T35 m 23 #[.val (.ref pr0), .val (.ref w_truth_pr0), .val (.int (8 : Int32)), .val (.int (7 : Int32)), .val (.int c7_w_truth_pr0)] [(.ref pr0), (.int c7_w_truth_pr0)] _
    refine st40 _ ?_
    show Stp p e below T40 m 26 #[.val (.ref pr0), .val (.ref w_truth_pr0), .val (.int (8 : Int32)), .val (.int (7 : Int32)), .val (.int c7_w_truth_pr0)] [(.ref w_truth_pr0), (.int c7_w_truth_pr0)] _
    refine XS.iconst X40.here hx rfl (hb hby d6_26) ?_
    show Stp p e below T40 m 27 #[.val (.ref pr0), .val (.ref w_truth_pr0), .val (.int (8 : Int32)), .val (.int (7 : Int32)), .val (.int c7_w_truth_pr0)] [(.int (0 : Int32)), (.ref w_truth_pr0), (.int c7_w_truth_pr0)] _
    refine X40.baloadBooleans hx (j := (0 : Int32)) (v := (.int c0_w_truth_pr0)) (by rw [e40]; exact Arc41.1) (State.isArrayOf_alike hZ.alike Arc41.2.1) Arc41.2.2 hin42 (Has.at Hc41 hin42 rfl) (g := (mkF m 27 #[.val (.ref pr0), .val (.ref w_truth_pr0), .val (.int (8 : Int32)), .val (.int (7 : Int32)), .val (.int c7_w_truth_pr0)] [(.int (0 : Int32)), (.ref w_truth_pr0), (.int c7_w_truth_pr0)])) rfl rfl (hb hby d6_27) _ ?_
    show Stp p e below T40 m 28 #[.val (.ref pr0), .val (.ref w_truth_pr0), .val (.int (8 : Int32)), .val (.int (7 : Int32)), .val (.int c7_w_truth_pr0)] [(.int c0_w_truth_pr0), (.int c7_w_truth_pr0)] _
    refine XS.icmpNo X40.here hx rfl (hb hby d6_28) rfl (feq hc28_6).1 ?_
    show Stp p e below T40 m 31 #[.val (.ref pr0), .val (.ref w_truth_pr0), .val (.int (8 : Int32)), .val (.int (7 : Int32)), .val (.int c7_w_truth_pr0)] [] _
    refine XS.iconst X40.here hx rfl (hb hby d6_31) ?_
    show Stp p e below T40 m 32 #[.val (.ref pr0), .val (.ref w_truth_pr0), .val (.int (8 : Int32)), .val (.int (7 : Int32)), .val (.int c7_w_truth_pr0)] [(.int (0 : Int32))] _
    exact retN X40 hx (t := .boolean) Bd.returns (by simp) (hb hby d6_32) hr
  · show Q6_k3ttttttf Z pr0 w_truth_pr0 kk_w_truth_pr0 c0_w_truth_pr0 c1_w_truth_pr0 c2_w_truth_pr0 c3_w_truth_pr0 c4_w_truth_pr0 c5_w_truth_pr0 c6_w_truth_pr0 c7_w_truth_pr0 h0 n0 _ T40.heap _
    rw [e40]
    exact ⟨rfl, N0, rfl⟩
def Q6_k3tttttf (Z : State) (pr0 : Addr) (w_truth_pr0 : Addr) (kk_w_truth_pr0 : ClassId) (c0_w_truth_pr0 : Int32) (c1_w_truth_pr0 : Int32) (c2_w_truth_pr0 : Int32) (c3_w_truth_pr0 : Int32) (c4_w_truth_pr0 : Int32) (c5_w_truth_pr0 : Int32) (c6_w_truth_pr0 : Int32) (c7_w_truth_pr0 : Int32) (h0 : Heap) (n0 : Nat) (v : Option Value) (h : Heap) (L : List Loc) : Prop := v = some (.int (0 : Int32)) ∧ Fr n0 L ∧ h = h0
set_option maxRecDepth 65536 in
set_option maxHeartbeats 40000000 in
theorem rm6_k3tttttf (l : Launch) (Z : State) (a0 : Array Value) (hw : ∀ d ∈ tables_1, d.before a0 Z = true) (ws : List Jvm.Cond) (pr0 : Addr) (w_truth_pr0 : Addr) (kk_w_truth_pr0 : ClassId) (c0_w_truth_pr0 : Int32) (c1_w_truth_pr0 : Int32) (c2_w_truth_pr0 : Int32) (c3_w_truth_pr0 : Int32) (c4_w_truth_pr0 : Int32) (c5_w_truth_pr0 : Int32) (c6_w_truth_pr0 : Int32) (c7_w_truth_pr0 : Int32) (h0 : Heap) (n0 : Nat) (Z0 : n0 ≤ h0.size) (O0 : Old Z n0 h0) (F_truth_pr0 : Fld Z h0 pr0 "com/example/gudl/gudl/GroundFactor" "truth" "[Z" (.ref w_truth_pr0)) (V_w_truth_pr0 : Arv Z h0 w_truth_pr0 kk_w_truth_pr0 .boolean (8 : Int32) [(.int c0_w_truth_pr0), (.int c1_w_truth_pr0), (.int c2_w_truth_pr0), (.int c3_w_truth_pr0), (.int c4_w_truth_pr0), (.int c5_w_truth_pr0), (.int c6_w_truth_pr0), (.int c7_w_truth_pr0)] (.int (0 : Int32))) (hc28_0 : c1_w_truth_pr0 = c0_w_truth_pr0) (hc28_1 : c2_w_truth_pr0 = c0_w_truth_pr0) (hc28_2 : c3_w_truth_pr0 = c0_w_truth_pr0) (hc28_3 : c4_w_truth_pr0 = c0_w_truth_pr0) (hc28_4 : c5_w_truth_pr0 = c0_w_truth_pr0) (hc28_5 : ¬ (c6_w_truth_pr0 = c0_w_truth_pr0)) :
    MetFree l (⟨"com/example/gudl/gudl/GroundFactor", "isConstant", "()Z"⟩ : MethodName) (head1 (Jvm.Cond.code (⟨"com/example/gudl/gudl/GroundFactor", "isConstant", "()Z"⟩ : MethodName) prog_42_method_8_code 5 (some .boolean) :: ws) ({ frames := 0, cells := 0, slots := 0, locals := 0 } : Room)) (fun a U => a = #[(.ref pr0)] ∧ Z.Warmed39 U.vm ∧ U.heap = h0) (fun _ _ _ _ _ => True) (fun _ U o U' => ∃ v L, o = .returned v ∧ Q6_k3tttttf Z pr0 w_truth_pr0 kk_w_truth_pr0 c0_w_truth_pr0 c1_w_truth_pr0 c2_w_truth_pr0 c3_w_truth_pr0 c4_w_truth_pr0 c5_w_truth_pr0 c6_w_truth_pr0 c7_w_truth_pr0 h0 n0 v U'.heap L ∧ FrameEnd U o U' L ({ frames := 0, cells := 0, slots := 0, locals := 0 } : Room).cells ({ frames := 0, cells := 0, slots := 0, locals := 0 } : Room).slots) := by
  refine MetFree.of_bodySF (plainFor_of_name pn_6) hisR ?_
  intro p e s m args below meth c s₁ Bd hml0 hP hK
  obtain ⟨rfl, hZ, hh⟩ := hP
  have hx := Bd.exec
  have hby := Bd.bytes
  have hml : c.maxLocals = 5 := hml0
  have hown : s.vm.findClass "com/example/gudl/gudl/GroundFactor" = some m.cls := findClass_of_methodNamed Bd.named
  have hnm := (name_of_methodNamed Bd.named Bd.method).1
  have X0 : Stand p l e ({ frames := 0, cells := 0, slots := 0, locals := 0 } : Room) s m #[(.ref pr0)] below meth c s₁ [] 0 0 := Stand.of_body Bd
  have e0 : s₁.heap = h0 := by rw [← hh, Bd.state]; rfl
  have N0 := Fr.nil n0
  have pre0 : ∀ t, Steps p.tables e below (s₁.setTop (mkF m 0 #[.val (.ref pr0), .unset, .unset, .unset, .unset] [])) t → Steps p.tables e below (s₁.setTop (entryFrame m #[(.ref pr0)] 5)) t := fun t k => castTop (ef_6 m pr0) k
  obtain ⟨T1, X1, e1, st1⟩ := getF X0 hx hZ hown (host := "") (Or.inl (own_W hw 25 rfl)) Via.refl e0 F_truth_pr0 (g := (mkF m 1 #[.val (.ref pr0), .unset, .unset, .unset, .unset] [(.ref pr0)])) rfl rfl (hb hby d6_1)
  have V_c2 := V_w_truth_pr0
  obtain ⟨c2, Arc2, qc2, Sc2, Nc2, Hc2, Gc2⟩ := V_c2
  have V_c3 := V_w_truth_pr0
  obtain ⟨c3, Arc3, qc3, Sc3, Nc3, Hc3, Gc3⟩ := V_c3
  have hin4 : ¬ ((0 : Int32) < 0 ∨ c3.slots.size ≤ ((0 : Int32)).toNatClampNeg) := inb_of Sc3 ⟨by decide, by decide⟩
  obtain ⟨T5, X5, e5, st5⟩ := getF X1 hx hZ hown (host := "") (Or.inl (own_W hw 25 rfl)) Via.refl e1 F_truth_pr0 (g := (mkF m 23 #[.val (.ref pr0), .val (.ref w_truth_pr0), .val (.int (8 : Int32)), .val (.int (0 : Int32)), .val (.int c0_w_truth_pr0)] [(.ref pr0), (.int c0_w_truth_pr0)])) rfl rfl (hb hby d6_23)
  have V_c6 := V_w_truth_pr0
  obtain ⟨c6, Arc6, qc6, Sc6, Nc6, Hc6, Gc6⟩ := V_c6
  have hin7 : ¬ ((0 : Int32) < 0 ∨ c6.slots.size ≤ ((0 : Int32)).toNatClampNeg) := inb_of Sc6 ⟨by decide, by decide⟩
  have V_c8 := V_w_truth_pr0
  obtain ⟨c8, Arc8, qc8, Sc8, Nc8, Hc8, Gc8⟩ := V_c8
  have hin9 : ¬ ((1 : Int32) < 0 ∨ c8.slots.size ≤ ((1 : Int32)).toNatClampNeg) := inb_of Sc8 ⟨by decide, by decide⟩
  obtain ⟨T10, X10, e10, st10⟩ := getF X5 hx hZ hown (host := "") (Or.inl (own_W hw 25 rfl)) Via.refl e5 F_truth_pr0 (g := (mkF m 23 #[.val (.ref pr0), .val (.ref w_truth_pr0), .val (.int (8 : Int32)), .val (.int (1 : Int32)), .val (.int c1_w_truth_pr0)] [(.ref pr0), (.int c1_w_truth_pr0)])) rfl rfl (hb hby d6_23)
  have V_c11 := V_w_truth_pr0
  obtain ⟨c11, Arc11, qc11, Sc11, Nc11, Hc11, Gc11⟩ := V_c11
  have hin12 : ¬ ((0 : Int32) < 0 ∨ c11.slots.size ≤ ((0 : Int32)).toNatClampNeg) := inb_of Sc11 ⟨by decide, by decide⟩
  have V_c13 := V_w_truth_pr0
  obtain ⟨c13, Arc13, qc13, Sc13, Nc13, Hc13, Gc13⟩ := V_c13
  have hin14 : ¬ ((2 : Int32) < 0 ∨ c13.slots.size ≤ ((2 : Int32)).toNatClampNeg) := inb_of Sc13 ⟨by decide, by decide⟩
  obtain ⟨T15, X15, e15, st15⟩ := getF X10 hx hZ hown (host := "") (Or.inl (own_W hw 25 rfl)) Via.refl e10 F_truth_pr0 (g := (mkF m 23 #[.val (.ref pr0), .val (.ref w_truth_pr0), .val (.int (8 : Int32)), .val (.int (2 : Int32)), .val (.int c2_w_truth_pr0)] [(.ref pr0), (.int c2_w_truth_pr0)])) rfl rfl (hb hby d6_23)
  have V_c16 := V_w_truth_pr0
  obtain ⟨c16, Arc16, qc16, Sc16, Nc16, Hc16, Gc16⟩ := V_c16
  have hin17 : ¬ ((0 : Int32) < 0 ∨ c16.slots.size ≤ ((0 : Int32)).toNatClampNeg) := inb_of Sc16 ⟨by decide, by decide⟩
  have V_c18 := V_w_truth_pr0
  obtain ⟨c18, Arc18, qc18, Sc18, Nc18, Hc18, Gc18⟩ := V_c18
  have hin19 : ¬ ((3 : Int32) < 0 ∨ c18.slots.size ≤ ((3 : Int32)).toNatClampNeg) := inb_of Sc18 ⟨by decide, by decide⟩
  obtain ⟨T20, X20, e20, st20⟩ := getF X15 hx hZ hown (host := "") (Or.inl (own_W hw 25 rfl)) Via.refl e15 F_truth_pr0 (g := (mkF m 23 #[.val (.ref pr0), .val (.ref w_truth_pr0), .val (.int (8 : Int32)), .val (.int (3 : Int32)), .val (.int c3_w_truth_pr0)] [(.ref pr0), (.int c3_w_truth_pr0)])) rfl rfl (hb hby d6_23)
  have V_c21 := V_w_truth_pr0
  obtain ⟨c21, Arc21, qc21, Sc21, Nc21, Hc21, Gc21⟩ := V_c21
  have hin22 : ¬ ((0 : Int32) < 0 ∨ c21.slots.size ≤ ((0 : Int32)).toNatClampNeg) := inb_of Sc21 ⟨by decide, by decide⟩
  have V_c23 := V_w_truth_pr0
  obtain ⟨c23, Arc23, qc23, Sc23, Nc23, Hc23, Gc23⟩ := V_c23
  have hin24 : ¬ ((4 : Int32) < 0 ∨ c23.slots.size ≤ ((4 : Int32)).toNatClampNeg) := inb_of Sc23 ⟨by decide, by decide⟩
  obtain ⟨T25, X25, e25, st25⟩ := getF X20 hx hZ hown (host := "") (Or.inl (own_W hw 25 rfl)) Via.refl e20 F_truth_pr0 (g := (mkF m 23 #[.val (.ref pr0), .val (.ref w_truth_pr0), .val (.int (8 : Int32)), .val (.int (4 : Int32)), .val (.int c4_w_truth_pr0)] [(.ref pr0), (.int c4_w_truth_pr0)])) rfl rfl (hb hby d6_23)
  have V_c26 := V_w_truth_pr0
  obtain ⟨c26, Arc26, qc26, Sc26, Nc26, Hc26, Gc26⟩ := V_c26
  have hin27 : ¬ ((0 : Int32) < 0 ∨ c26.slots.size ≤ ((0 : Int32)).toNatClampNeg) := inb_of Sc26 ⟨by decide, by decide⟩
  have V_c28 := V_w_truth_pr0
  obtain ⟨c28, Arc28, qc28, Sc28, Nc28, Hc28, Gc28⟩ := V_c28
  have hin29 : ¬ ((5 : Int32) < 0 ∨ c28.slots.size ≤ ((5 : Int32)).toNatClampNeg) := inb_of Sc28 ⟨by decide, by decide⟩
  obtain ⟨T30, X30, e30, st30⟩ := getF X25 hx hZ hown (host := "") (Or.inl (own_W hw 25 rfl)) Via.refl e25 F_truth_pr0 (g := (mkF m 23 #[.val (.ref pr0), .val (.ref w_truth_pr0), .val (.int (8 : Int32)), .val (.int (5 : Int32)), .val (.int c5_w_truth_pr0)] [(.ref pr0), (.int c5_w_truth_pr0)])) rfl rfl (hb hby d6_23)
  have V_c31 := V_w_truth_pr0
  obtain ⟨c31, Arc31, qc31, Sc31, Nc31, Hc31, Gc31⟩ := V_c31
  have hin32 : ¬ ((0 : Int32) < 0 ∨ c31.slots.size ≤ ((0 : Int32)).toNatClampNeg) := inb_of Sc31 ⟨by decide, by decide⟩
  have V_c33 := V_w_truth_pr0
  obtain ⟨c33, Arc33, qc33, Sc33, Nc33, Hc33, Gc33⟩ := V_c33
  have hin34 : ¬ ((6 : Int32) < 0 ∨ c33.slots.size ≤ ((6 : Int32)).toNatClampNeg) := inb_of Sc33 ⟨by decide, by decide⟩
  obtain ⟨T35, X35, e35, st35⟩ := getF X30 hx hZ hown (host := "") (Or.inl (own_W hw 25 rfl)) Via.refl e30 F_truth_pr0 (g := (mkF m 23 #[.val (.ref pr0), .val (.ref w_truth_pr0), .val (.int (8 : Int32)), .val (.int (6 : Int32)), .val (.int c6_w_truth_pr0)] [(.ref pr0), (.int c6_w_truth_pr0)])) rfl rfl (hb hby d6_23)
  have V_c36 := V_w_truth_pr0
  obtain ⟨c36, Arc36, qc36, Sc36, Nc36, Hc36, Gc36⟩ := V_c36
  have hin37 : ¬ ((0 : Int32) < 0 ∨ c36.slots.size ≤ ((0 : Int32)).toNatClampNeg) := inb_of Sc36 ⟨by decide, by decide⟩
  obtain ⟨fs, hr, hrun, hended, hW, hsame⟩ := X35.leave (v := some (.int (0 : Int32))) (fun h => by rw [Bd.returns] at h; cases h)
  refine ⟨_, _, pre0 _ ?_, hrun, hended, _, _, rfl, ?_, ⟨_, rfl⟩, hW, hsame.mono (by decide) (by decide)⟩
  · show Stp p e below s₁ m 0 #[.val (.ref pr0), .unset, .unset, .unset, .unset] [] _
    refine XS.aloadN X0.here hx rfl (hb hby d6_0) rfl rfl ?_
    show Stp p e below s₁ m 1 #[.val (.ref pr0), .unset, .unset, .unset, .unset] [(.ref pr0)] _
    refine st1 _ ?_
    show Stp p e below T1 m 4 #[.val (.ref pr0), .unset, .unset, .unset, .unset] [(.ref w_truth_pr0)] _
    refine XS.astoreN X1.here hx rfl (hb hby d6_4) rfl rfl (l' := #[.val (.ref pr0), .val (.ref w_truth_pr0), .unset, .unset, .unset]) rfl ?_
    show Stp p e below T1 m 5 #[.val (.ref pr0), .val (.ref w_truth_pr0), .unset, .unset, .unset] [] _
    refine XS.aloadN X1.here hx rfl (hb hby d6_5) rfl rfl ?_
    show Stp p e below T1 m 6 #[.val (.ref pr0), .val (.ref w_truth_pr0), .unset, .unset, .unset] [(.ref w_truth_pr0)] _
    refine X1.arraylength hx (by rw [e1]; exact Arc2.1) (State.isArrayOf_alike hZ.alike Arc2.2.1) (g := (mkF m 6 #[.val (.ref pr0), .val (.ref w_truth_pr0), .unset, .unset, .unset] [(.ref w_truth_pr0)])) rfl rfl (hb hby d6_6) _ ?_
    rw [len_of Sc2 Nc2]
    show Stp p e below T1 m 7 #[.val (.ref pr0), .val (.ref w_truth_pr0), .unset, .unset, .unset] [(.int (8 : Int32))] _
    refine XS.istoreN X1.here hx rfl (hb hby d6_7) rfl (l' := #[.val (.ref pr0), .val (.ref w_truth_pr0), .val (.int (8 : Int32)), .unset, .unset]) rfl ?_
    show Stp p e below T1 m 8 #[.val (.ref pr0), .val (.ref w_truth_pr0), .val (.int (8 : Int32)), .unset, .unset] [] _
    refine XS.iconst X1.here hx rfl (hb hby d6_8) ?_
    show Stp p e below T1 m 9 #[.val (.ref pr0), .val (.ref w_truth_pr0), .val (.int (8 : Int32)), .unset, .unset] [(.int (0 : Int32))] _
    refine XS.istoreN X1.here hx rfl (hb hby d6_9) rfl (l' := #[.val (.ref pr0), .val (.ref w_truth_pr0), .val (.int (8 : Int32)), .val (.int (0 : Int32)), .unset]) rfl ?_
    show Stp p e below T1 m 10 #[.val (.ref pr0), .val (.ref w_truth_pr0), .val (.int (8 : Int32)), .val (.int (0 : Int32)), .unset] [] _
    refine XS.iloadN X1.here hx rfl (hb hby d6_10) rfl ?_
    show Stp p e below T1 m 11 #[.val (.ref pr0), .val (.ref w_truth_pr0), .val (.int (8 : Int32)), .val (.int (0 : Int32)), .unset] [(.int (0 : Int32))] _
    refine XS.iloadN X1.here hx rfl (hb hby d6_11) rfl ?_
    show Stp p e below T1 m 12 #[.val (.ref pr0), .val (.ref w_truth_pr0), .val (.int (8 : Int32)), .val (.int (0 : Int32)), .unset] [(.int (8 : Int32)), (.int (0 : Int32))] _
    refine XS.icmpNo X1.here hx rfl (hb hby d6_12) rfl (tlt (by decide : (0 : Int32) < (8 : Int32))).2.1 ?_
    show Stp p e below T1 m 15 #[.val (.ref pr0), .val (.ref w_truth_pr0), .val (.int (8 : Int32)), .val (.int (0 : Int32)), .unset] [] _
    refine XS.aloadN X1.here hx rfl (hb hby d6_15) rfl rfl ?_
    show Stp p e below T1 m 16 #[.val (.ref pr0), .val (.ref w_truth_pr0), .val (.int (8 : Int32)), .val (.int (0 : Int32)), .unset] [(.ref w_truth_pr0)] _
    refine XS.iloadN X1.here hx rfl (hb hby d6_16) rfl ?_
    show Stp p e below T1 m 17 #[.val (.ref pr0), .val (.ref w_truth_pr0), .val (.int (8 : Int32)), .val (.int (0 : Int32)), .unset] [(.int (0 : Int32)), (.ref w_truth_pr0)] _
    refine X1.baloadBooleans hx (j := (0 : Int32)) (v := (.int c0_w_truth_pr0)) (by rw [e1]; exact Arc3.1) (State.isArrayOf_alike hZ.alike Arc3.2.1) Arc3.2.2 hin4 (Has.at Hc3 hin4 rfl) (g := (mkF m 17 #[.val (.ref pr0), .val (.ref w_truth_pr0), .val (.int (8 : Int32)), .val (.int (0 : Int32)), .unset] [(.int (0 : Int32)), (.ref w_truth_pr0)])) rfl rfl (hb hby d6_17) _ ?_
    show Stp p e below T1 m 18 #[.val (.ref pr0), .val (.ref w_truth_pr0), .val (.int (8 : Int32)), .val (.int (0 : Int32)), .unset] [(.int c0_w_truth_pr0)] _
    refine XS.istore X1.here hx rfl (hb hby d6_18) rfl (l' := #[.val (.ref pr0), .val (.ref w_truth_pr0), .val (.int (8 : Int32)), .val (.int (0 : Int32)), .val (.int c0_w_truth_pr0)]) rfl ?_
    show Stp p e below T1 m 20 #[.val (.ref pr0), .val (.ref w_truth_pr0), .val (.int (8 : Int32)), .val (.int (0 : Int32)), .val (.int c0_w_truth_pr0)] [] _
    refine XS.iload X1.here hx rfl (hb hby d6_20) rfl ?_
    show Stp p e below T1 m 22 #[.val (.ref pr0), .val (.ref w_truth_pr0), .val (.int (8 : Int32)), .val (.int (0 : Int32)), .val (.int c0_w_truth_pr0)] [(.int c0_w_truth_pr0)] _
    refine XS.aloadN X1.here hx rfl (hb hby d6_22) rfl rfl ?_
    show Stp p e below T1 m 23 #[.val (.ref pr0), .val (.ref w_truth_pr0), .val (.int (8 : Int32)), .val (.int (0 : Int32)), .val (.int c0_w_truth_pr0)] [(.ref pr0), (.int c0_w_truth_pr0)] _
    refine st5 _ ?_
    show Stp p e below T5 m 26 #[.val (.ref pr0), .val (.ref w_truth_pr0), .val (.int (8 : Int32)), .val (.int (0 : Int32)), .val (.int c0_w_truth_pr0)] [(.ref w_truth_pr0), (.int c0_w_truth_pr0)] _
    refine XS.iconst X5.here hx rfl (hb hby d6_26) ?_
    show Stp p e below T5 m 27 #[.val (.ref pr0), .val (.ref w_truth_pr0), .val (.int (8 : Int32)), .val (.int (0 : Int32)), .val (.int c0_w_truth_pr0)] [(.int (0 : Int32)), (.ref w_truth_pr0), (.int c0_w_truth_pr0)] _
    refine X5.baloadBooleans hx (j := (0 : Int32)) (v := (.int c0_w_truth_pr0)) (by rw [e5]; exact Arc6.1) (State.isArrayOf_alike hZ.alike Arc6.2.1) Arc6.2.2 hin7 (Has.at Hc6 hin7 rfl) (g := (mkF m 27 #[.val (.ref pr0), .val (.ref w_truth_pr0), .val (.int (8 : Int32)), .val (.int (0 : Int32)), .val (.int c0_w_truth_pr0)] [(.int (0 : Int32)), (.ref w_truth_pr0), (.int c0_w_truth_pr0)])) rfl rfl (hb hby d6_27) _ ?_
    show Stp p e below T5 m 28 #[.val (.ref pr0), .val (.ref w_truth_pr0), .val (.int (8 : Int32)), .val (.int (0 : Int32)), .val (.int c0_w_truth_pr0)] [(.int c0_w_truth_pr0), (.int c0_w_truth_pr0)] _
    refine XS.icmpYes X5.here hx rfl (pc0 := 28) (pc' := 33) rfl (hb hby d6_28) rfl (teq (rfl : c0_w_truth_pr0 = c0_w_truth_pr0)).1 (by decide) (by decide) ?_
    show Stp p e below T5 m 33 #[.val (.ref pr0), .val (.ref w_truth_pr0), .val (.int (8 : Int32)), .val (.int (0 : Int32)), .val (.int c0_w_truth_pr0)] [] _
    refine XS.iinc X5.here hx rfl (hb hby d6_33) rfl (l' := #[.val (.ref pr0), .val (.ref w_truth_pr0), .val (.int (8 : Int32)), .val (.int (1 : Int32)), .val (.int c0_w_truth_pr0)]) rfl ?_
    show Stp p e below T5 m 36 #[.val (.ref pr0), .val (.ref w_truth_pr0), .val (.int (8 : Int32)), .val (.int (1 : Int32)), .val (.int c0_w_truth_pr0)] [] _
    refine XS.goto X5.here hx rfl (pc0 := 36) (pc' := 10) rfl (hb hby d6_36) (by decide) (by decide) ?_
    show Stp p e below T5 m 10 #[.val (.ref pr0), .val (.ref w_truth_pr0), .val (.int (8 : Int32)), .val (.int (1 : Int32)), .val (.int c0_w_truth_pr0)] [] _
    refine XS.iloadN X5.here hx rfl (hb hby d6_10) rfl ?_
    show Stp p e below T5 m 11 #[.val (.ref pr0), .val (.ref w_truth_pr0), .val (.int (8 : Int32)), .val (.int (1 : Int32)), .val (.int c0_w_truth_pr0)] [(.int (1 : Int32))] _
    refine XS.iloadN X5.here hx rfl (hb hby d6_11) rfl ?_
    show Stp p e below T5 m 12 #[.val (.ref pr0), .val (.ref w_truth_pr0), .val (.int (8 : Int32)), .val (.int (1 : Int32)), .val (.int c0_w_truth_pr0)] [(.int (8 : Int32)), (.int (1 : Int32))] _
    refine XS.icmpNo X5.here hx rfl (hb hby d6_12) rfl (tlt (by decide : (1 : Int32) < (8 : Int32))).2.1 ?_
    show Stp p e below T5 m 15 #[.val (.ref pr0), .val (.ref w_truth_pr0), .val (.int (8 : Int32)), .val (.int (1 : Int32)), .val (.int c0_w_truth_pr0)] [] _
    refine XS.aloadN X5.here hx rfl (hb hby d6_15) rfl rfl ?_
    show Stp p e below T5 m 16 #[.val (.ref pr0), .val (.ref w_truth_pr0), .val (.int (8 : Int32)), .val (.int (1 : Int32)), .val (.int c0_w_truth_pr0)] [(.ref w_truth_pr0)] _
    refine XS.iloadN X5.here hx rfl (hb hby d6_16) rfl ?_
    show Stp p e below T5 m 17 #[.val (.ref pr0), .val (.ref w_truth_pr0), .val (.int (8 : Int32)), .val (.int (1 : Int32)), .val (.int c0_w_truth_pr0)] [(.int (1 : Int32)), (.ref w_truth_pr0)] _
    refine X5.baloadBooleans hx (j := (1 : Int32)) (v := (.int c1_w_truth_pr0)) (by rw [e5]; exact Arc8.1) (State.isArrayOf_alike hZ.alike Arc8.2.1) Arc8.2.2 hin9 (Has.at Hc8 hin9 rfl) (g := (mkF m 17 #[.val (.ref pr0), .val (.ref w_truth_pr0), .val (.int (8 : Int32)), .val (.int (1 : Int32)), .val (.int c0_w_truth_pr0)] [(.int (1 : Int32)), (.ref w_truth_pr0)])) rfl rfl (hb hby d6_17) _ ?_
    show Stp p e below T5 m 18 #[.val (.ref pr0), .val (.ref w_truth_pr0), .val (.int (8 : Int32)), .val (.int (1 : Int32)), .val (.int c0_w_truth_pr0)] [(.int c1_w_truth_pr0)] _
    refine XS.istore X5.here hx rfl (hb hby d6_18) rfl (l' := #[.val (.ref pr0), .val (.ref w_truth_pr0), .val (.int (8 : Int32)), .val (.int (1 : Int32)), .val (.int c1_w_truth_pr0)]) rfl ?_
    show Stp p e below T5 m 20 #[.val (.ref pr0), .val (.ref w_truth_pr0), .val (.int (8 : Int32)), .val (.int (1 : Int32)), .val (.int c1_w_truth_pr0)] [] _
    refine XS.iload X5.here hx rfl (hb hby d6_20) rfl ?_
    show Stp p e below T5 m 22 #[.val (.ref pr0), .val (.ref w_truth_pr0), .val (.int (8 : Int32)), .val (.int (1 : Int32)), .val (.int c1_w_truth_pr0)] [(.int c1_w_truth_pr0)] _
    refine XS.aloadN X5.here hx rfl (hb hby d6_22) rfl rfl ?_
    show Stp p e below T5 m 23 #[.val (.ref pr0), .val (.ref w_truth_pr0), .val (.int (8 : Int32)), .val (.int (1 : Int32)), .val (.int c1_w_truth_pr0)] [(.ref pr0), (.int c1_w_truth_pr0)] _
    refine st10 _ ?_
    show Stp p e below T10 m 26 #[.val (.ref pr0), .val (.ref w_truth_pr0), .val (.int (8 : Int32)), .val (.int (1 : Int32)), .val (.int c1_w_truth_pr0)] [(.ref w_truth_pr0), (.int c1_w_truth_pr0)] _
    refine XS.iconst X10.here hx rfl (hb hby d6_26) ?_
    show Stp p e below T10 m 27 #[.val (.ref pr0), .val (.ref w_truth_pr0), .val (.int (8 : Int32)), .val (.int (1 : Int32)), .val (.int c1_w_truth_pr0)] [(.int (0 : Int32)), (.ref w_truth_pr0), (.int c1_w_truth_pr0)] _
    refine X10.baloadBooleans hx (j := (0 : Int32)) (v := (.int c0_w_truth_pr0)) (by rw [e10]; exact Arc11.1) (State.isArrayOf_alike hZ.alike Arc11.2.1) Arc11.2.2 hin12 (Has.at Hc11 hin12 rfl) (g := (mkF m 27 #[.val (.ref pr0), .val (.ref w_truth_pr0), .val (.int (8 : Int32)), .val (.int (1 : Int32)), .val (.int c1_w_truth_pr0)] [(.int (0 : Int32)), (.ref w_truth_pr0), (.int c1_w_truth_pr0)])) rfl rfl (hb hby d6_27) _ ?_
    show Stp p e below T10 m 28 #[.val (.ref pr0), .val (.ref w_truth_pr0), .val (.int (8 : Int32)), .val (.int (1 : Int32)), .val (.int c1_w_truth_pr0)] [(.int c0_w_truth_pr0), (.int c1_w_truth_pr0)] _
    refine XS.icmpYes X10.here hx rfl (pc0 := 28) (pc' := 33) rfl (hb hby d6_28) rfl (teq hc28_0).1 (by decide) (by decide) ?_
    show Stp p e below T10 m 33 #[.val (.ref pr0), .val (.ref w_truth_pr0), .val (.int (8 : Int32)), .val (.int (1 : Int32)), .val (.int c1_w_truth_pr0)] [] _
    refine XS.iinc X10.here hx rfl (hb hby d6_33) rfl (l' := #[.val (.ref pr0), .val (.ref w_truth_pr0), .val (.int (8 : Int32)), .val (.int (2 : Int32)), .val (.int c1_w_truth_pr0)]) rfl ?_
    show Stp p e below T10 m 36 #[.val (.ref pr0), .val (.ref w_truth_pr0), .val (.int (8 : Int32)), .val (.int (2 : Int32)), .val (.int c1_w_truth_pr0)] [] _
    refine XS.goto X10.here hx rfl (pc0 := 36) (pc' := 10) rfl (hb hby d6_36) (by decide) (by decide) ?_
    show Stp p e below T10 m 10 #[.val (.ref pr0), .val (.ref w_truth_pr0), .val (.int (8 : Int32)), .val (.int (2 : Int32)), .val (.int c1_w_truth_pr0)] [] _
    refine XS.iloadN X10.here hx rfl (hb hby d6_10) rfl ?_
    show Stp p e below T10 m 11 #[.val (.ref pr0), .val (.ref w_truth_pr0), .val (.int (8 : Int32)), .val (.int (2 : Int32)), .val (.int c1_w_truth_pr0)] [(.int (2 : Int32))] _
    refine XS.iloadN X10.here hx rfl (hb hby d6_11) rfl ?_
    show Stp p e below T10 m 12 #[.val (.ref pr0), .val (.ref w_truth_pr0), .val (.int (8 : Int32)), .val (.int (2 : Int32)), .val (.int c1_w_truth_pr0)] [(.int (8 : Int32)), (.int (2 : Int32))] _
    refine XS.icmpNo X10.here hx rfl (hb hby d6_12) rfl (tlt (by decide : (2 : Int32) < (8 : Int32))).2.1 ?_
    show Stp p e below T10 m 15 #[.val (.ref pr0), .val (.ref w_truth_pr0), .val (.int (8 : Int32)), .val (.int (2 : Int32)), .val (.int c1_w_truth_pr0)] [] _
    refine XS.aloadN X10.here hx rfl (hb hby d6_15) rfl rfl ?_
    show Stp p e below T10 m 16 #[.val (.ref pr0), .val (.ref w_truth_pr0), .val (.int (8 : Int32)), .val (.int (2 : Int32)), .val (.int c1_w_truth_pr0)] [(.ref w_truth_pr0)] _
    refine XS.iloadN X10.here hx rfl (hb hby d6_16) rfl ?_
    show Stp p e below T10 m 17 #[.val (.ref pr0), .val (.ref w_truth_pr0), .val (.int (8 : Int32)), .val (.int (2 : Int32)), .val (.int c1_w_truth_pr0)] [(.int (2 : Int32)), (.ref w_truth_pr0)] _
    refine X10.baloadBooleans hx (j := (2 : Int32)) (v := (.int c2_w_truth_pr0)) (by rw [e10]; exact Arc13.1) (State.isArrayOf_alike hZ.alike Arc13.2.1) Arc13.2.2 hin14 (Has.at Hc13 hin14 rfl) (g := (mkF m 17 #[.val (.ref pr0), .val (.ref w_truth_pr0), .val (.int (8 : Int32)), .val (.int (2 : Int32)), .val (.int c1_w_truth_pr0)] [(.int (2 : Int32)), (.ref w_truth_pr0)])) rfl rfl (hb hby d6_17) _ ?_
    show Stp p e below T10 m 18 #[.val (.ref pr0), .val (.ref w_truth_pr0), .val (.int (8 : Int32)), .val (.int (2 : Int32)), .val (.int c1_w_truth_pr0)] [(.int c2_w_truth_pr0)] _
    refine XS.istore X10.here hx rfl (hb hby d6_18) rfl (l' := #[.val (.ref pr0), .val (.ref w_truth_pr0), .val (.int (8 : Int32)), .val (.int (2 : Int32)), .val (.int c2_w_truth_pr0)]) rfl ?_
    show Stp p e below T10 m 20 #[.val (.ref pr0), .val (.ref w_truth_pr0), .val (.int (8 : Int32)), .val (.int (2 : Int32)), .val (.int c2_w_truth_pr0)] [] _
    refine XS.iload X10.here hx rfl (hb hby d6_20) rfl ?_
    show Stp p e below T10 m 22 #[.val (.ref pr0), .val (.ref w_truth_pr0), .val (.int (8 : Int32)), .val (.int (2 : Int32)), .val (.int c2_w_truth_pr0)] [(.int c2_w_truth_pr0)] _
    refine XS.aloadN X10.here hx rfl (hb hby d6_22) rfl rfl ?_
    show Stp p e below T10 m 23 #[.val (.ref pr0), .val (.ref w_truth_pr0), .val (.int (8 : Int32)), .val (.int (2 : Int32)), .val (.int c2_w_truth_pr0)] [(.ref pr0), (.int c2_w_truth_pr0)] _
    refine st15 _ ?_
    show Stp p e below T15 m 26 #[.val (.ref pr0), .val (.ref w_truth_pr0), .val (.int (8 : Int32)), .val (.int (2 : Int32)), .val (.int c2_w_truth_pr0)] [(.ref w_truth_pr0), (.int c2_w_truth_pr0)] _
    refine XS.iconst X15.here hx rfl (hb hby d6_26) ?_
    show Stp p e below T15 m 27 #[.val (.ref pr0), .val (.ref w_truth_pr0), .val (.int (8 : Int32)), .val (.int (2 : Int32)), .val (.int c2_w_truth_pr0)] [(.int (0 : Int32)), (.ref w_truth_pr0), (.int c2_w_truth_pr0)] _
    refine X15.baloadBooleans hx (j := (0 : Int32)) (v := (.int c0_w_truth_pr0)) (by rw [e15]; exact Arc16.1) (State.isArrayOf_alike hZ.alike Arc16.2.1) Arc16.2.2 hin17 (Has.at Hc16 hin17 rfl) (g := (mkF m 27 #[.val (.ref pr0), .val (.ref w_truth_pr0), .val (.int (8 : Int32)), .val (.int (2 : Int32)), .val (.int c2_w_truth_pr0)] [(.int (0 : Int32)), (.ref w_truth_pr0), (.int c2_w_truth_pr0)])) rfl rfl (hb hby d6_27) _ ?_
    show Stp p e below T15 m 28 #[.val (.ref pr0), .val (.ref w_truth_pr0), .val (.int (8 : Int32)), .val (.int (2 : Int32)), .val (.int c2_w_truth_pr0)] [(.int c0_w_truth_pr0), (.int c2_w_truth_pr0)] _
    refine XS.icmpYes X15.here hx rfl (pc0 := 28) (pc' := 33) rfl (hb hby d6_28) rfl (teq hc28_1).1 (by decide) (by decide) ?_
    show Stp p e below T15 m 33 #[.val (.ref pr0), .val (.ref w_truth_pr0), .val (.int (8 : Int32)), .val (.int (2 : Int32)), .val (.int c2_w_truth_pr0)] [] _
    refine XS.iinc X15.here hx rfl (hb hby d6_33) rfl (l' := #[.val (.ref pr0), .val (.ref w_truth_pr0), .val (.int (8 : Int32)), .val (.int (3 : Int32)), .val (.int c2_w_truth_pr0)]) rfl ?_
    show Stp p e below T15 m 36 #[.val (.ref pr0), .val (.ref w_truth_pr0), .val (.int (8 : Int32)), .val (.int (3 : Int32)), .val (.int c2_w_truth_pr0)] [] _
    refine XS.goto X15.here hx rfl (pc0 := 36) (pc' := 10) rfl (hb hby d6_36) (by decide) (by decide) ?_
    show Stp p e below T15 m 10 #[.val (.ref pr0), .val (.ref w_truth_pr0), .val (.int (8 : Int32)), .val (.int (3 : Int32)), .val (.int c2_w_truth_pr0)] [] _
    refine XS.iloadN X15.here hx rfl (hb hby d6_10) rfl ?_
    show Stp p e below T15 m 11 #[.val (.ref pr0), .val (.ref w_truth_pr0), .val (.int (8 : Int32)), .val (.int (3 : Int32)), .val (.int c2_w_truth_pr0)] [(.int (3 : Int32))] _
    refine XS.iloadN X15.here hx rfl (hb hby d6_11) rfl ?_
    show Stp p e below T15 m 12 #[.val (.ref pr0), .val (.ref w_truth_pr0), .val (.int (8 : Int32)), .val (.int (3 : Int32)), .val (.int c2_w_truth_pr0)] [(.int (8 : Int32)), (.int (3 : Int32))] _
    refine XS.icmpNo X15.here hx rfl (hb hby d6_12) rfl (tlt (by decide : (3 : Int32) < (8 : Int32))).2.1 ?_
    show Stp p e below T15 m 15 #[.val (.ref pr0), .val (.ref w_truth_pr0), .val (.int (8 : Int32)), .val (.int (3 : Int32)), .val (.int c2_w_truth_pr0)] [] _
    refine XS.aloadN X15.here hx rfl (hb hby d6_15) rfl rfl ?_
    show Stp p e below T15 m 16 #[.val (.ref pr0), .val (.ref w_truth_pr0), .val (.int (8 : Int32)), .val (.int (3 : Int32)), .val (.int c2_w_truth_pr0)] [(.ref w_truth_pr0)] _
    refine XS.iloadN X15.here hx rfl (hb hby d6_16) rfl ?_
    show Stp p e below T15 m 17 #[.val (.ref pr0), .val (.ref w_truth_pr0), .val (.int (8 : Int32)), .val (.int (3 : Int32)), .val (.int c2_w_truth_pr0)] [(.int (3 : Int32)), (.ref w_truth_pr0)] _
    refine X15.baloadBooleans hx (j := (3 : Int32)) (v := (.int c3_w_truth_pr0)) (by rw [e15]; exact Arc18.1) (State.isArrayOf_alike hZ.alike Arc18.2.1) Arc18.2.2 hin19 (Has.at Hc18 hin19 rfl) (g := (mkF m 17 #[.val (.ref pr0), .val (.ref w_truth_pr0), .val (.int (8 : Int32)), .val (.int (3 : Int32)), .val (.int c2_w_truth_pr0)] [(.int (3 : Int32)), (.ref w_truth_pr0)])) rfl rfl (hb hby d6_17) _ ?_
    show Stp p e below T15 m 18 #[.val (.ref pr0), .val (.ref w_truth_pr0), .val (.int (8 : Int32)), .val (.int (3 : Int32)), .val (.int c2_w_truth_pr0)] [(.int c3_w_truth_pr0)] _
    refine XS.istore X15.here hx rfl (hb hby d6_18) rfl (l' := #[.val (.ref pr0), .val (.ref w_truth_pr0), .val (.int (8 : Int32)), .val (.int (3 : Int32)), .val (.int c3_w_truth_pr0)]) rfl ?_
    show Stp p e below T15 m 20 #[.val (.ref pr0), .val (.ref w_truth_pr0), .val (.int (8 : Int32)), .val (.int (3 : Int32)), .val (.int c3_w_truth_pr0)] [] _
    refine XS.iload X15.here hx rfl (hb hby d6_20) rfl ?_
    show Stp p e below T15 m 22 #[.val (.ref pr0), .val (.ref w_truth_pr0), .val (.int (8 : Int32)), .val (.int (3 : Int32)), .val (.int c3_w_truth_pr0)] [(.int c3_w_truth_pr0)] _
    refine XS.aloadN X15.here hx rfl (hb hby d6_22) rfl rfl ?_
    show Stp p e below T15 m 23 #[.val (.ref pr0), .val (.ref w_truth_pr0), .val (.int (8 : Int32)), .val (.int (3 : Int32)), .val (.int c3_w_truth_pr0)] [(.ref pr0), (.int c3_w_truth_pr0)] _
    refine st20 _ ?_
    show Stp p e below T20 m 26 #[.val (.ref pr0), .val (.ref w_truth_pr0), .val (.int (8 : Int32)), .val (.int (3 : Int32)), .val (.int c3_w_truth_pr0)] [(.ref w_truth_pr0), (.int c3_w_truth_pr0)] _
    refine XS.iconst X20.here hx rfl (hb hby d6_26) ?_
    show Stp p e below T20 m 27 #[.val (.ref pr0), .val (.ref w_truth_pr0), .val (.int (8 : Int32)), .val (.int (3 : Int32)), .val (.int c3_w_truth_pr0)] [(.int (0 : Int32)), (.ref w_truth_pr0), (.int c3_w_truth_pr0)] _
    refine X20.baloadBooleans hx (j := (0 : Int32)) (v := (.int c0_w_truth_pr0)) (by rw [e20]; exact Arc21.1) (State.isArrayOf_alike hZ.alike Arc21.2.1) Arc21.2.2 hin22 (Has.at Hc21 hin22 rfl) (g := (mkF m 27 #[.val (.ref pr0), .val (.ref w_truth_pr0), .val (.int (8 : Int32)), .val (.int (3 : Int32)), .val (.int c3_w_truth_pr0)] [(.int (0 : Int32)), (.ref w_truth_pr0), (.int c3_w_truth_pr0)])) rfl rfl (hb hby d6_27) _ ?_
    show Stp p e below T20 m 28 #[.val (.ref pr0), .val (.ref w_truth_pr0), .val (.int (8 : Int32)), .val (.int (3 : Int32)), .val (.int c3_w_truth_pr0)] [(.int c0_w_truth_pr0), (.int c3_w_truth_pr0)] _
    refine XS.icmpYes X20.here hx rfl (pc0 := 28) (pc' := 33) rfl (hb hby d6_28) rfl (teq hc28_2).1 (by decide) (by decide) ?_
    show Stp p e below T20 m 33 #[.val (.ref pr0), .val (.ref w_truth_pr0), .val (.int (8 : Int32)), .val (.int (3 : Int32)), .val (.int c3_w_truth_pr0)] [] _
    refine XS.iinc X20.here hx rfl (hb hby d6_33) rfl (l' := #[.val (.ref pr0), .val (.ref w_truth_pr0), .val (.int (8 : Int32)), .val (.int (4 : Int32)), .val (.int c3_w_truth_pr0)]) rfl ?_
    show Stp p e below T20 m 36 #[.val (.ref pr0), .val (.ref w_truth_pr0), .val (.int (8 : Int32)), .val (.int (4 : Int32)), .val (.int c3_w_truth_pr0)] [] _
    refine XS.goto X20.here hx rfl (pc0 := 36) (pc' := 10) rfl (hb hby d6_36) (by decide) (by decide) ?_
    show Stp p e below T20 m 10 #[.val (.ref pr0), .val (.ref w_truth_pr0), .val (.int (8 : Int32)), .val (.int (4 : Int32)), .val (.int c3_w_truth_pr0)] [] _
    refine XS.iloadN X20.here hx rfl (hb hby d6_10) rfl ?_
    show Stp p e below T20 m 11 #[.val (.ref pr0), .val (.ref w_truth_pr0), .val (.int (8 : Int32)), .val (.int (4 : Int32)), .val (.int c3_w_truth_pr0)] [(.int (4 : Int32))] _
    refine XS.iloadN X20.here hx rfl (hb hby d6_11) rfl ?_
    show Stp p e below T20 m 12 #[.val (.ref pr0), .val (.ref w_truth_pr0), .val (.int (8 : Int32)), .val (.int (4 : Int32)), .val (.int c3_w_truth_pr0)] [(.int (8 : Int32)), (.int (4 : Int32))] _
    refine XS.icmpNo X20.here hx rfl (hb hby d6_12) rfl (tlt (by decide : (4 : Int32) < (8 : Int32))).2.1 ?_
    show Stp p e below T20 m 15 #[.val (.ref pr0), .val (.ref w_truth_pr0), .val (.int (8 : Int32)), .val (.int (4 : Int32)), .val (.int c3_w_truth_pr0)] [] _
    refine XS.aloadN X20.here hx rfl (hb hby d6_15) rfl rfl ?_
    show Stp p e below T20 m 16 #[.val (.ref pr0), .val (.ref w_truth_pr0), .val (.int (8 : Int32)), .val (.int (4 : Int32)), .val (.int c3_w_truth_pr0)] [(.ref w_truth_pr0)] _
    refine XS.iloadN X20.here hx rfl (hb hby d6_16) rfl ?_
    show Stp p e below T20 m 17 #[.val (.ref pr0), .val (.ref w_truth_pr0), .val (.int (8 : Int32)), .val (.int (4 : Int32)), .val (.int c3_w_truth_pr0)] [(.int (4 : Int32)), (.ref w_truth_pr0)] _
    refine X20.baloadBooleans hx (j := (4 : Int32)) (v := (.int c4_w_truth_pr0)) (by rw [e20]; exact Arc23.1) (State.isArrayOf_alike hZ.alike Arc23.2.1) Arc23.2.2 hin24 (Has.at Hc23 hin24 rfl) (g := (mkF m 17 #[.val (.ref pr0), .val (.ref w_truth_pr0), .val (.int (8 : Int32)), .val (.int (4 : Int32)), .val (.int c3_w_truth_pr0)] [(.int (4 : Int32)), (.ref w_truth_pr0)])) rfl rfl (hb hby d6_17) _ ?_
    show Stp p e below T20 m 18 #[.val (.ref pr0), .val (.ref w_truth_pr0), .val (.int (8 : Int32)), .val (.int (4 : Int32)), .val (.int c3_w_truth_pr0)] [(.int c4_w_truth_pr0)] _
    refine XS.istore X20.here hx rfl (hb hby d6_18) rfl (l' := #[.val (.ref pr0), .val (.ref w_truth_pr0), .val (.int (8 : Int32)), .val (.int (4 : Int32)), .val (.int c4_w_truth_pr0)]) rfl ?_
    show Stp p e below T20 m 20 #[.val (.ref pr0), .val (.ref w_truth_pr0), .val (.int (8 : Int32)), .val (.int (4 : Int32)), .val (.int c4_w_truth_pr0)] [] _
    refine XS.iload X20.here hx rfl (hb hby d6_20) rfl ?_
    show Stp p e below T20 m 22 #[.val (.ref pr0), .val (.ref w_truth_pr0), .val (.int (8 : Int32)), .val (.int (4 : Int32)), .val (.int c4_w_truth_pr0)] [(.int c4_w_truth_pr0)] _
    refine XS.aloadN X20.here hx rfl (hb hby d6_22) rfl rfl ?_
    show Stp p e below T20 m 23 #[.val (.ref pr0), .val (.ref w_truth_pr0), .val (.int (8 : Int32)), .val (.int (4 : Int32)), .val (.int c4_w_truth_pr0)] [(.ref pr0), (.int c4_w_truth_pr0)] _
    refine st25 _ ?_
    show Stp p e below T25 m 26 #[.val (.ref pr0), .val (.ref w_truth_pr0), .val (.int (8 : Int32)), .val (.int (4 : Int32)), .val (.int c4_w_truth_pr0)] [(.ref w_truth_pr0), (.int c4_w_truth_pr0)] _
    refine XS.iconst X25.here hx rfl (hb hby d6_26) ?_
    show Stp p e below T25 m 27 #[.val (.ref pr0), .val (.ref w_truth_pr0), .val (.int (8 : Int32)), .val (.int (4 : Int32)), .val (.int c4_w_truth_pr0)] [(.int (0 : Int32)), (.ref w_truth_pr0), (.int c4_w_truth_pr0)] _
    refine X25.baloadBooleans hx (j := (0 : Int32)) (v := (.int c0_w_truth_pr0)) (by rw [e25]; exact Arc26.1) (State.isArrayOf_alike hZ.alike Arc26.2.1) Arc26.2.2 hin27 (Has.at Hc26 hin27 rfl) (g := (mkF m 27 #[.val (.ref pr0), .val (.ref w_truth_pr0), .val (.int (8 : Int32)), .val (.int (4 : Int32)), .val (.int c4_w_truth_pr0)] [(.int (0 : Int32)), (.ref w_truth_pr0), (.int c4_w_truth_pr0)])) rfl rfl (hb hby d6_27) _ ?_
    show Stp p e below T25 m 28 #[.val (.ref pr0), .val (.ref w_truth_pr0), .val (.int (8 : Int32)), .val (.int (4 : Int32)), .val (.int c4_w_truth_pr0)] [(.int c0_w_truth_pr0), (.int c4_w_truth_pr0)] _
    refine XS.icmpYes X25.here hx rfl (pc0 := 28) (pc' := 33) rfl (hb hby d6_28) rfl (teq hc28_3).1 (by decide) (by decide) ?_
    show Stp p e below T25 m 33 #[.val (.ref pr0), .val (.ref w_truth_pr0), .val (.int (8 : Int32)), .val (.int (4 : Int32)), .val (.int c4_w_truth_pr0)] [] _
    refine XS.iinc X25.here hx rfl (hb hby d6_33) rfl (l' := #[.val (.ref pr0), .val (.ref w_truth_pr0), .val (.int (8 : Int32)), .val (.int (5 : Int32)), .val (.int c4_w_truth_pr0)]) rfl ?_
    show Stp p e below T25 m 36 #[.val (.ref pr0), .val (.ref w_truth_pr0), .val (.int (8 : Int32)), .val (.int (5 : Int32)), .val (.int c4_w_truth_pr0)] [] _
    refine XS.goto X25.here hx rfl (pc0 := 36) (pc' := 10) rfl (hb hby d6_36) (by decide) (by decide) ?_
    show Stp p e below T25 m 10 #[.val (.ref pr0), .val (.ref w_truth_pr0), .val (.int (8 : Int32)), .val (.int (5 : Int32)), .val (.int c4_w_truth_pr0)] [] _
    refine XS.iloadN X25.here hx rfl (hb hby d6_10) rfl ?_
    show Stp p e below T25 m 11 #[.val (.ref pr0), .val (.ref w_truth_pr0), .val (.int (8 : Int32)), .val (.int (5 : Int32)), .val (.int c4_w_truth_pr0)] [(.int (5 : Int32))] _
    refine XS.iloadN X25.here hx rfl (hb hby d6_11) rfl ?_
    show Stp p e below T25 m 12 #[.val (.ref pr0), .val (.ref w_truth_pr0), .val (.int (8 : Int32)), .val (.int (5 : Int32)), .val (.int c4_w_truth_pr0)] [(.int (8 : Int32)), (.int (5 : Int32))] _
    refine XS.icmpNo X25.here hx rfl (hb hby d6_12) rfl (tlt (by decide : (5 : Int32) < (8 : Int32))).2.1 ?_
    show Stp p e below T25 m 15 #[.val (.ref pr0), .val (.ref w_truth_pr0), .val (.int (8 : Int32)), .val (.int (5 : Int32)), .val (.int c4_w_truth_pr0)] [] _
    refine XS.aloadN X25.here hx rfl (hb hby d6_15) rfl rfl ?_
    show Stp p e below T25 m 16 #[.val (.ref pr0), .val (.ref w_truth_pr0), .val (.int (8 : Int32)), .val (.int (5 : Int32)), .val (.int c4_w_truth_pr0)] [(.ref w_truth_pr0)] _
    refine XS.iloadN X25.here hx rfl (hb hby d6_16) rfl ?_
    show Stp p e below T25 m 17 #[.val (.ref pr0), .val (.ref w_truth_pr0), .val (.int (8 : Int32)), .val (.int (5 : Int32)), .val (.int c4_w_truth_pr0)] [(.int (5 : Int32)), (.ref w_truth_pr0)] _
    refine X25.baloadBooleans hx (j := (5 : Int32)) (v := (.int c5_w_truth_pr0)) (by rw [e25]; exact Arc28.1) (State.isArrayOf_alike hZ.alike Arc28.2.1) Arc28.2.2 hin29 (Has.at Hc28 hin29 rfl) (g := (mkF m 17 #[.val (.ref pr0), .val (.ref w_truth_pr0), .val (.int (8 : Int32)), .val (.int (5 : Int32)), .val (.int c4_w_truth_pr0)] [(.int (5 : Int32)), (.ref w_truth_pr0)])) rfl rfl (hb hby d6_17) _ ?_
    show Stp p e below T25 m 18 #[.val (.ref pr0), .val (.ref w_truth_pr0), .val (.int (8 : Int32)), .val (.int (5 : Int32)), .val (.int c4_w_truth_pr0)] [(.int c5_w_truth_pr0)] _
    refine XS.istore X25.here hx rfl (hb hby d6_18) rfl (l' := #[.val (.ref pr0), .val (.ref w_truth_pr0), .val (.int (8 : Int32)), .val (.int (5 : Int32)), .val (.int c5_w_truth_pr0)]) rfl ?_
    show Stp p e below T25 m 20 #[.val (.ref pr0), .val (.ref w_truth_pr0), .val (.int (8 : Int32)), .val (.int (5 : Int32)), .val (.int c5_w_truth_pr0)] [] _
    refine XS.iload X25.here hx rfl (hb hby d6_20) rfl ?_
    show Stp p e below T25 m 22 #[.val (.ref pr0), .val (.ref w_truth_pr0), .val (.int (8 : Int32)), .val (.int (5 : Int32)), .val (.int c5_w_truth_pr0)] [(.int c5_w_truth_pr0)] _
    refine XS.aloadN X25.here hx rfl (hb hby d6_22) rfl rfl ?_
    show Stp p e below T25 m 23 #[.val (.ref pr0), .val (.ref w_truth_pr0), .val (.int (8 : Int32)), .val (.int (5 : Int32)), .val (.int c5_w_truth_pr0)] [(.ref pr0), (.int c5_w_truth_pr0)] _
    refine st30 _ ?_
    show Stp p e below T30 m 26 #[.val (.ref pr0), .val (.ref w_truth_pr0), .val (.int (8 : Int32)), .val (.int (5 : Int32)), .val (.int c5_w_truth_pr0)] [(.ref w_truth_pr0), (.int c5_w_truth_pr0)] _
    refine XS.iconst X30.here hx rfl (hb hby d6_26) ?_
    show Stp p e below T30 m 27 #[.val (.ref pr0), .val (.ref w_truth_pr0), .val (.int (8 : Int32)), .val (.int (5 : Int32)), .val (.int c5_w_truth_pr0)] [(.int (0 : Int32)), (.ref w_truth_pr0), (.int c5_w_truth_pr0)] _
    refine X30.baloadBooleans hx (j := (0 : Int32)) (v := (.int c0_w_truth_pr0)) (by rw [e30]; exact Arc31.1) (State.isArrayOf_alike hZ.alike Arc31.2.1) Arc31.2.2 hin32 (Has.at Hc31 hin32 rfl) (g := (mkF m 27 #[.val (.ref pr0), .val (.ref w_truth_pr0), .val (.int (8 : Int32)), .val (.int (5 : Int32)), .val (.int c5_w_truth_pr0)] [(.int (0 : Int32)), (.ref w_truth_pr0), (.int c5_w_truth_pr0)])) rfl rfl (hb hby d6_27) _ ?_
    show Stp p e below T30 m 28 #[.val (.ref pr0), .val (.ref w_truth_pr0), .val (.int (8 : Int32)), .val (.int (5 : Int32)), .val (.int c5_w_truth_pr0)] [(.int c0_w_truth_pr0), (.int c5_w_truth_pr0)] _
    refine XS.icmpYes X30.here hx rfl (pc0 := 28) (pc' := 33) rfl (hb hby d6_28) rfl (teq hc28_4).1 (by decide) (by decide) ?_
    show Stp p e below T30 m 33 #[.val (.ref pr0), .val (.ref w_truth_pr0), .val (.int (8 : Int32)), .val (.int (5 : Int32)), .val (.int c5_w_truth_pr0)] [] _
    refine XS.iinc X30.here hx rfl (hb hby d6_33) rfl (l' := #[.val (.ref pr0), .val (.ref w_truth_pr0), .val (.int (8 : Int32)), .val (.int (6 : Int32)), .val (.int c5_w_truth_pr0)]) rfl ?_
    show Stp p e below T30 m 36 #[.val (.ref pr0), .val (.ref w_truth_pr0), .val (.int (8 : Int32)), .val (.int (6 : Int32)), .val (.int c5_w_truth_pr0)] [] _
    refine XS.goto X30.here hx rfl (pc0 := 36) (pc' := 10) rfl (hb hby d6_36) (by decide) (by decide) ?_
    show Stp p e below T30 m 10 #[.val (.ref pr0), .val (.ref w_truth_pr0), .val (.int (8 : Int32)), .val (.int (6 : Int32)), .val (.int c5_w_truth_pr0)] [] _
    refine XS.iloadN X30.here hx rfl (hb hby d6_10) rfl ?_
    show Stp p e below T30 m 11 #[.val (.ref pr0), .val (.ref w_truth_pr0), .val (.int (8 : Int32)), .val (.int (6 : Int32)), .val (.int c5_w_truth_pr0)] [(.int (6 : Int32))] _
    refine XS.iloadN X30.here hx rfl (hb hby d6_11) rfl ?_
    show Stp p e below T30 m 12 #[.val (.ref pr0), .val (.ref w_truth_pr0), .val (.int (8 : Int32)), .val (.int (6 : Int32)), .val (.int c5_w_truth_pr0)] [(.int (8 : Int32)), (.int (6 : Int32))] _
    refine XS.icmpNo X30.here hx rfl (hb hby d6_12) rfl (tlt (by decide : (6 : Int32) < (8 : Int32))).2.1 ?_
    show Stp p e below T30 m 15 #[.val (.ref pr0), .val (.ref w_truth_pr0), .val (.int (8 : Int32)), .val (.int (6 : Int32)), .val (.int c5_w_truth_pr0)] [] _
    refine XS.aloadN X30.here hx rfl (hb hby d6_15) rfl rfl ?_
    show Stp p e below T30 m 16 #[.val (.ref pr0), .val (.ref w_truth_pr0), .val (.int (8 : Int32)), .val (.int (6 : Int32)), .val (.int c5_w_truth_pr0)] [(.ref w_truth_pr0)] _
    refine XS.iloadN X30.here hx rfl (hb hby d6_16) rfl ?_
    show Stp p e below T30 m 17 #[.val (.ref pr0), .val (.ref w_truth_pr0), .val (.int (8 : Int32)), .val (.int (6 : Int32)), .val (.int c5_w_truth_pr0)] [(.int (6 : Int32)), (.ref w_truth_pr0)] _
    refine X30.baloadBooleans hx (j := (6 : Int32)) (v := (.int c6_w_truth_pr0)) (by rw [e30]; exact Arc33.1) (State.isArrayOf_alike hZ.alike Arc33.2.1) Arc33.2.2 hin34 (Has.at Hc33 hin34 rfl) (g := (mkF m 17 #[.val (.ref pr0), .val (.ref w_truth_pr0), .val (.int (8 : Int32)), .val (.int (6 : Int32)), .val (.int c5_w_truth_pr0)] [(.int (6 : Int32)), (.ref w_truth_pr0)])) rfl rfl (hb hby d6_17) _ ?_
    show Stp p e below T30 m 18 #[.val (.ref pr0), .val (.ref w_truth_pr0), .val (.int (8 : Int32)), .val (.int (6 : Int32)), .val (.int c5_w_truth_pr0)] [(.int c6_w_truth_pr0)] _
    refine XS.istore X30.here hx rfl (hb hby d6_18) rfl (l' := #[.val (.ref pr0), .val (.ref w_truth_pr0), .val (.int (8 : Int32)), .val (.int (6 : Int32)), .val (.int c6_w_truth_pr0)]) rfl ?_
    show Stp p e below T30 m 20 #[.val (.ref pr0), .val (.ref w_truth_pr0), .val (.int (8 : Int32)), .val (.int (6 : Int32)), .val (.int c6_w_truth_pr0)] [] _
    refine XS.iload X30.here hx rfl (hb hby d6_20) rfl ?_
    show Stp p e below T30 m 22 #[.val (.ref pr0), .val (.ref w_truth_pr0), .val (.int (8 : Int32)), .val (.int (6 : Int32)), .val (.int c6_w_truth_pr0)] [(.int c6_w_truth_pr0)] _
    refine XS.aloadN X30.here hx rfl (hb hby d6_22) rfl rfl ?_
    show Stp p e below T30 m 23 #[.val (.ref pr0), .val (.ref w_truth_pr0), .val (.int (8 : Int32)), .val (.int (6 : Int32)), .val (.int c6_w_truth_pr0)] [(.ref pr0), (.int c6_w_truth_pr0)] _
    refine st35 _ ?_
    show Stp p e below T35 m 26 #[.val (.ref pr0), .val (.ref w_truth_pr0), .val (.int (8 : Int32)), .val (.int (6 : Int32)), .val (.int c6_w_truth_pr0)] [(.ref w_truth_pr0), (.int c6_w_truth_pr0)] _
    refine XS.iconst X35.here hx rfl (hb hby d6_26) ?_
    show Stp p e below T35 m 27 #[.val (.ref pr0), .val (.ref w_truth_pr0), .val (.int (8 : Int32)), .val (.int (6 : Int32)), .val (.int c6_w_truth_pr0)] [(.int (0 : Int32)), (.ref w_truth_pr0), (.int c6_w_truth_pr0)] _
    refine X35.baloadBooleans hx (j := (0 : Int32)) (v := (.int c0_w_truth_pr0)) (by rw [e35]; exact Arc36.1) (State.isArrayOf_alike hZ.alike Arc36.2.1) Arc36.2.2 hin37 (Has.at Hc36 hin37 rfl) (g := (mkF m 27 #[.val (.ref pr0), .val (.ref w_truth_pr0), .val (.int (8 : Int32)), .val (.int (6 : Int32)), .val (.int c6_w_truth_pr0)] [(.int (0 : Int32)), (.ref w_truth_pr0), (.int c6_w_truth_pr0)])) rfl rfl (hb hby d6_27) _ ?_
    show Stp p e below T35 m 28 #[.val (.ref pr0), .val (.ref w_truth_pr0), .val (.int (8 : Int32)), .val (.int (6 : Int32)), .val (.int c6_w_truth_pr0)] [(.int c0_w_truth_pr0), (.int c6_w_truth_pr0)] _
    refine XS.icmpNo X35.here hx rfl (hb hby d6_28) rfl (feq hc28_5).1 ?_
    show Stp p e below T35 m 31 #[.val (.ref pr0), .val (.ref w_truth_pr0), .val (.int (8 : Int32)), .val (.int (6 : Int32)), .val (.int c6_w_truth_pr0)] [] _
    refine XS.iconst X35.here hx rfl (hb hby d6_31) ?_
    show Stp p e below T35 m 32 #[.val (.ref pr0), .val (.ref w_truth_pr0), .val (.int (8 : Int32)), .val (.int (6 : Int32)), .val (.int c6_w_truth_pr0)] [(.int (0 : Int32))] _
    exact retN X35 hx (t := .boolean) Bd.returns (by simp) (hb hby d6_32) hr
  · show Q6_k3tttttf Z pr0 w_truth_pr0 kk_w_truth_pr0 c0_w_truth_pr0 c1_w_truth_pr0 c2_w_truth_pr0 c3_w_truth_pr0 c4_w_truth_pr0 c5_w_truth_pr0 c6_w_truth_pr0 c7_w_truth_pr0 h0 n0 _ T35.heap _
    rw [e35]
    exact ⟨rfl, N0, rfl⟩
def Q6_k3ttttf (Z : State) (pr0 : Addr) (w_truth_pr0 : Addr) (kk_w_truth_pr0 : ClassId) (c0_w_truth_pr0 : Int32) (c1_w_truth_pr0 : Int32) (c2_w_truth_pr0 : Int32) (c3_w_truth_pr0 : Int32) (c4_w_truth_pr0 : Int32) (c5_w_truth_pr0 : Int32) (c6_w_truth_pr0 : Int32) (c7_w_truth_pr0 : Int32) (h0 : Heap) (n0 : Nat) (v : Option Value) (h : Heap) (L : List Loc) : Prop := v = some (.int (0 : Int32)) ∧ Fr n0 L ∧ h = h0
set_option maxRecDepth 65536 in
set_option maxHeartbeats 40000000 in
theorem rm6_k3ttttf (l : Launch) (Z : State) (a0 : Array Value) (hw : ∀ d ∈ tables_1, d.before a0 Z = true) (ws : List Jvm.Cond) (pr0 : Addr) (w_truth_pr0 : Addr) (kk_w_truth_pr0 : ClassId) (c0_w_truth_pr0 : Int32) (c1_w_truth_pr0 : Int32) (c2_w_truth_pr0 : Int32) (c3_w_truth_pr0 : Int32) (c4_w_truth_pr0 : Int32) (c5_w_truth_pr0 : Int32) (c6_w_truth_pr0 : Int32) (c7_w_truth_pr0 : Int32) (h0 : Heap) (n0 : Nat) (Z0 : n0 ≤ h0.size) (O0 : Old Z n0 h0) (F_truth_pr0 : Fld Z h0 pr0 "com/example/gudl/gudl/GroundFactor" "truth" "[Z" (.ref w_truth_pr0)) (V_w_truth_pr0 : Arv Z h0 w_truth_pr0 kk_w_truth_pr0 .boolean (8 : Int32) [(.int c0_w_truth_pr0), (.int c1_w_truth_pr0), (.int c2_w_truth_pr0), (.int c3_w_truth_pr0), (.int c4_w_truth_pr0), (.int c5_w_truth_pr0), (.int c6_w_truth_pr0), (.int c7_w_truth_pr0)] (.int (0 : Int32))) (hc28_0 : c1_w_truth_pr0 = c0_w_truth_pr0) (hc28_1 : c2_w_truth_pr0 = c0_w_truth_pr0) (hc28_2 : c3_w_truth_pr0 = c0_w_truth_pr0) (hc28_3 : c4_w_truth_pr0 = c0_w_truth_pr0) (hc28_4 : ¬ (c5_w_truth_pr0 = c0_w_truth_pr0)) :
    MetFree l (⟨"com/example/gudl/gudl/GroundFactor", "isConstant", "()Z"⟩ : MethodName) (head1 (Jvm.Cond.code (⟨"com/example/gudl/gudl/GroundFactor", "isConstant", "()Z"⟩ : MethodName) prog_42_method_8_code 5 (some .boolean) :: ws) ({ frames := 0, cells := 0, slots := 0, locals := 0 } : Room)) (fun a U => a = #[(.ref pr0)] ∧ Z.Warmed39 U.vm ∧ U.heap = h0) (fun _ _ _ _ _ => True) (fun _ U o U' => ∃ v L, o = .returned v ∧ Q6_k3ttttf Z pr0 w_truth_pr0 kk_w_truth_pr0 c0_w_truth_pr0 c1_w_truth_pr0 c2_w_truth_pr0 c3_w_truth_pr0 c4_w_truth_pr0 c5_w_truth_pr0 c6_w_truth_pr0 c7_w_truth_pr0 h0 n0 v U'.heap L ∧ FrameEnd U o U' L ({ frames := 0, cells := 0, slots := 0, locals := 0 } : Room).cells ({ frames := 0, cells := 0, slots := 0, locals := 0 } : Room).slots) := by
  refine MetFree.of_bodySF (plainFor_of_name pn_6) hisR ?_
  intro p e s m args below meth c s₁ Bd hml0 hP hK
  obtain ⟨rfl, hZ, hh⟩ := hP
  have hx := Bd.exec
  have hby := Bd.bytes
  have hml : c.maxLocals = 5 := hml0
  have hown : s.vm.findClass "com/example/gudl/gudl/GroundFactor" = some m.cls := findClass_of_methodNamed Bd.named
  have hnm := (name_of_methodNamed Bd.named Bd.method).1
  have X0 : Stand p l e ({ frames := 0, cells := 0, slots := 0, locals := 0 } : Room) s m #[(.ref pr0)] below meth c s₁ [] 0 0 := Stand.of_body Bd
  have e0 : s₁.heap = h0 := by rw [← hh, Bd.state]; rfl
  have N0 := Fr.nil n0
  have pre0 : ∀ t, Steps p.tables e below (s₁.setTop (mkF m 0 #[.val (.ref pr0), .unset, .unset, .unset, .unset] [])) t → Steps p.tables e below (s₁.setTop (entryFrame m #[(.ref pr0)] 5)) t := fun t k => castTop (ef_6 m pr0) k
  obtain ⟨T1, X1, e1, st1⟩ := getF X0 hx hZ hown (host := "") (Or.inl (own_W hw 25 rfl)) Via.refl e0 F_truth_pr0 (g := (mkF m 1 #[.val (.ref pr0), .unset, .unset, .unset, .unset] [(.ref pr0)])) rfl rfl (hb hby d6_1)
  have V_c2 := V_w_truth_pr0
  obtain ⟨c2, Arc2, qc2, Sc2, Nc2, Hc2, Gc2⟩ := V_c2
  have V_c3 := V_w_truth_pr0
  obtain ⟨c3, Arc3, qc3, Sc3, Nc3, Hc3, Gc3⟩ := V_c3
  have hin4 : ¬ ((0 : Int32) < 0 ∨ c3.slots.size ≤ ((0 : Int32)).toNatClampNeg) := inb_of Sc3 ⟨by decide, by decide⟩
  obtain ⟨T5, X5, e5, st5⟩ := getF X1 hx hZ hown (host := "") (Or.inl (own_W hw 25 rfl)) Via.refl e1 F_truth_pr0 (g := (mkF m 23 #[.val (.ref pr0), .val (.ref w_truth_pr0), .val (.int (8 : Int32)), .val (.int (0 : Int32)), .val (.int c0_w_truth_pr0)] [(.ref pr0), (.int c0_w_truth_pr0)])) rfl rfl (hb hby d6_23)
  have V_c6 := V_w_truth_pr0
  obtain ⟨c6, Arc6, qc6, Sc6, Nc6, Hc6, Gc6⟩ := V_c6
  have hin7 : ¬ ((0 : Int32) < 0 ∨ c6.slots.size ≤ ((0 : Int32)).toNatClampNeg) := inb_of Sc6 ⟨by decide, by decide⟩
  have V_c8 := V_w_truth_pr0
  obtain ⟨c8, Arc8, qc8, Sc8, Nc8, Hc8, Gc8⟩ := V_c8
  have hin9 : ¬ ((1 : Int32) < 0 ∨ c8.slots.size ≤ ((1 : Int32)).toNatClampNeg) := inb_of Sc8 ⟨by decide, by decide⟩
  obtain ⟨T10, X10, e10, st10⟩ := getF X5 hx hZ hown (host := "") (Or.inl (own_W hw 25 rfl)) Via.refl e5 F_truth_pr0 (g := (mkF m 23 #[.val (.ref pr0), .val (.ref w_truth_pr0), .val (.int (8 : Int32)), .val (.int (1 : Int32)), .val (.int c1_w_truth_pr0)] [(.ref pr0), (.int c1_w_truth_pr0)])) rfl rfl (hb hby d6_23)
  have V_c11 := V_w_truth_pr0
  obtain ⟨c11, Arc11, qc11, Sc11, Nc11, Hc11, Gc11⟩ := V_c11
  have hin12 : ¬ ((0 : Int32) < 0 ∨ c11.slots.size ≤ ((0 : Int32)).toNatClampNeg) := inb_of Sc11 ⟨by decide, by decide⟩
  have V_c13 := V_w_truth_pr0
  obtain ⟨c13, Arc13, qc13, Sc13, Nc13, Hc13, Gc13⟩ := V_c13
  have hin14 : ¬ ((2 : Int32) < 0 ∨ c13.slots.size ≤ ((2 : Int32)).toNatClampNeg) := inb_of Sc13 ⟨by decide, by decide⟩
  obtain ⟨T15, X15, e15, st15⟩ := getF X10 hx hZ hown (host := "") (Or.inl (own_W hw 25 rfl)) Via.refl e10 F_truth_pr0 (g := (mkF m 23 #[.val (.ref pr0), .val (.ref w_truth_pr0), .val (.int (8 : Int32)), .val (.int (2 : Int32)), .val (.int c2_w_truth_pr0)] [(.ref pr0), (.int c2_w_truth_pr0)])) rfl rfl (hb hby d6_23)
  have V_c16 := V_w_truth_pr0
  obtain ⟨c16, Arc16, qc16, Sc16, Nc16, Hc16, Gc16⟩ := V_c16
  have hin17 : ¬ ((0 : Int32) < 0 ∨ c16.slots.size ≤ ((0 : Int32)).toNatClampNeg) := inb_of Sc16 ⟨by decide, by decide⟩
  have V_c18 := V_w_truth_pr0
  obtain ⟨c18, Arc18, qc18, Sc18, Nc18, Hc18, Gc18⟩ := V_c18
  have hin19 : ¬ ((3 : Int32) < 0 ∨ c18.slots.size ≤ ((3 : Int32)).toNatClampNeg) := inb_of Sc18 ⟨by decide, by decide⟩
  obtain ⟨T20, X20, e20, st20⟩ := getF X15 hx hZ hown (host := "") (Or.inl (own_W hw 25 rfl)) Via.refl e15 F_truth_pr0 (g := (mkF m 23 #[.val (.ref pr0), .val (.ref w_truth_pr0), .val (.int (8 : Int32)), .val (.int (3 : Int32)), .val (.int c3_w_truth_pr0)] [(.ref pr0), (.int c3_w_truth_pr0)])) rfl rfl (hb hby d6_23)
  have V_c21 := V_w_truth_pr0
  obtain ⟨c21, Arc21, qc21, Sc21, Nc21, Hc21, Gc21⟩ := V_c21
  have hin22 : ¬ ((0 : Int32) < 0 ∨ c21.slots.size ≤ ((0 : Int32)).toNatClampNeg) := inb_of Sc21 ⟨by decide, by decide⟩
  have V_c23 := V_w_truth_pr0
  obtain ⟨c23, Arc23, qc23, Sc23, Nc23, Hc23, Gc23⟩ := V_c23
  have hin24 : ¬ ((4 : Int32) < 0 ∨ c23.slots.size ≤ ((4 : Int32)).toNatClampNeg) := inb_of Sc23 ⟨by decide, by decide⟩
  obtain ⟨T25, X25, e25, st25⟩ := getF X20 hx hZ hown (host := "") (Or.inl (own_W hw 25 rfl)) Via.refl e20 F_truth_pr0 (g := (mkF m 23 #[.val (.ref pr0), .val (.ref w_truth_pr0), .val (.int (8 : Int32)), .val (.int (4 : Int32)), .val (.int c4_w_truth_pr0)] [(.ref pr0), (.int c4_w_truth_pr0)])) rfl rfl (hb hby d6_23)
  have V_c26 := V_w_truth_pr0
  obtain ⟨c26, Arc26, qc26, Sc26, Nc26, Hc26, Gc26⟩ := V_c26
  have hin27 : ¬ ((0 : Int32) < 0 ∨ c26.slots.size ≤ ((0 : Int32)).toNatClampNeg) := inb_of Sc26 ⟨by decide, by decide⟩
  have V_c28 := V_w_truth_pr0
  obtain ⟨c28, Arc28, qc28, Sc28, Nc28, Hc28, Gc28⟩ := V_c28
  have hin29 : ¬ ((5 : Int32) < 0 ∨ c28.slots.size ≤ ((5 : Int32)).toNatClampNeg) := inb_of Sc28 ⟨by decide, by decide⟩
  obtain ⟨T30, X30, e30, st30⟩ := getF X25 hx hZ hown (host := "") (Or.inl (own_W hw 25 rfl)) Via.refl e25 F_truth_pr0 (g := (mkF m 23 #[.val (.ref pr0), .val (.ref w_truth_pr0), .val (.int (8 : Int32)), .val (.int (5 : Int32)), .val (.int c5_w_truth_pr0)] [(.ref pr0), (.int c5_w_truth_pr0)])) rfl rfl (hb hby d6_23)
  have V_c31 := V_w_truth_pr0
  obtain ⟨c31, Arc31, qc31, Sc31, Nc31, Hc31, Gc31⟩ := V_c31
  have hin32 : ¬ ((0 : Int32) < 0 ∨ c31.slots.size ≤ ((0 : Int32)).toNatClampNeg) := inb_of Sc31 ⟨by decide, by decide⟩
  obtain ⟨fs, hr, hrun, hended, hW, hsame⟩ := X30.leave (v := some (.int (0 : Int32))) (fun h => by rw [Bd.returns] at h; cases h)
  refine ⟨_, _, pre0 _ ?_, hrun, hended, _, _, rfl, ?_, ⟨_, rfl⟩, hW, hsame.mono (by decide) (by decide)⟩
  · show Stp p e below s₁ m 0 #[.val (.ref pr0), .unset, .unset, .unset, .unset] [] _
    refine XS.aloadN X0.here hx rfl (hb hby d6_0) rfl rfl ?_
    show Stp p e below s₁ m 1 #[.val (.ref pr0), .unset, .unset, .unset, .unset] [(.ref pr0)] _
    refine st1 _ ?_
    show Stp p e below T1 m 4 #[.val (.ref pr0), .unset, .unset, .unset, .unset] [(.ref w_truth_pr0)] _
    refine XS.astoreN X1.here hx rfl (hb hby d6_4) rfl rfl (l' := #[.val (.ref pr0), .val (.ref w_truth_pr0), .unset, .unset, .unset]) rfl ?_
    show Stp p e below T1 m 5 #[.val (.ref pr0), .val (.ref w_truth_pr0), .unset, .unset, .unset] [] _
    refine XS.aloadN X1.here hx rfl (hb hby d6_5) rfl rfl ?_
    show Stp p e below T1 m 6 #[.val (.ref pr0), .val (.ref w_truth_pr0), .unset, .unset, .unset] [(.ref w_truth_pr0)] _
    refine X1.arraylength hx (by rw [e1]; exact Arc2.1) (State.isArrayOf_alike hZ.alike Arc2.2.1) (g := (mkF m 6 #[.val (.ref pr0), .val (.ref w_truth_pr0), .unset, .unset, .unset] [(.ref w_truth_pr0)])) rfl rfl (hb hby d6_6) _ ?_
    rw [len_of Sc2 Nc2]
    show Stp p e below T1 m 7 #[.val (.ref pr0), .val (.ref w_truth_pr0), .unset, .unset, .unset] [(.int (8 : Int32))] _
    refine XS.istoreN X1.here hx rfl (hb hby d6_7) rfl (l' := #[.val (.ref pr0), .val (.ref w_truth_pr0), .val (.int (8 : Int32)), .unset, .unset]) rfl ?_
    show Stp p e below T1 m 8 #[.val (.ref pr0), .val (.ref w_truth_pr0), .val (.int (8 : Int32)), .unset, .unset] [] _
    refine XS.iconst X1.here hx rfl (hb hby d6_8) ?_
    show Stp p e below T1 m 9 #[.val (.ref pr0), .val (.ref w_truth_pr0), .val (.int (8 : Int32)), .unset, .unset] [(.int (0 : Int32))] _
    refine XS.istoreN X1.here hx rfl (hb hby d6_9) rfl (l' := #[.val (.ref pr0), .val (.ref w_truth_pr0), .val (.int (8 : Int32)), .val (.int (0 : Int32)), .unset]) rfl ?_
    show Stp p e below T1 m 10 #[.val (.ref pr0), .val (.ref w_truth_pr0), .val (.int (8 : Int32)), .val (.int (0 : Int32)), .unset] [] _
    refine XS.iloadN X1.here hx rfl (hb hby d6_10) rfl ?_
    show Stp p e below T1 m 11 #[.val (.ref pr0), .val (.ref w_truth_pr0), .val (.int (8 : Int32)), .val (.int (0 : Int32)), .unset] [(.int (0 : Int32))] _
    refine XS.iloadN X1.here hx rfl (hb hby d6_11) rfl ?_
    show Stp p e below T1 m 12 #[.val (.ref pr0), .val (.ref w_truth_pr0), .val (.int (8 : Int32)), .val (.int (0 : Int32)), .unset] [(.int (8 : Int32)), (.int (0 : Int32))] _
    refine XS.icmpNo X1.here hx rfl (hb hby d6_12) rfl (tlt (by decide : (0 : Int32) < (8 : Int32))).2.1 ?_
    show Stp p e below T1 m 15 #[.val (.ref pr0), .val (.ref w_truth_pr0), .val (.int (8 : Int32)), .val (.int (0 : Int32)), .unset] [] _
    refine XS.aloadN X1.here hx rfl (hb hby d6_15) rfl rfl ?_
    show Stp p e below T1 m 16 #[.val (.ref pr0), .val (.ref w_truth_pr0), .val (.int (8 : Int32)), .val (.int (0 : Int32)), .unset] [(.ref w_truth_pr0)] _
    refine XS.iloadN X1.here hx rfl (hb hby d6_16) rfl ?_
    show Stp p e below T1 m 17 #[.val (.ref pr0), .val (.ref w_truth_pr0), .val (.int (8 : Int32)), .val (.int (0 : Int32)), .unset] [(.int (0 : Int32)), (.ref w_truth_pr0)] _
    refine X1.baloadBooleans hx (j := (0 : Int32)) (v := (.int c0_w_truth_pr0)) (by rw [e1]; exact Arc3.1) (State.isArrayOf_alike hZ.alike Arc3.2.1) Arc3.2.2 hin4 (Has.at Hc3 hin4 rfl) (g := (mkF m 17 #[.val (.ref pr0), .val (.ref w_truth_pr0), .val (.int (8 : Int32)), .val (.int (0 : Int32)), .unset] [(.int (0 : Int32)), (.ref w_truth_pr0)])) rfl rfl (hb hby d6_17) _ ?_
    show Stp p e below T1 m 18 #[.val (.ref pr0), .val (.ref w_truth_pr0), .val (.int (8 : Int32)), .val (.int (0 : Int32)), .unset] [(.int c0_w_truth_pr0)] _
    refine XS.istore X1.here hx rfl (hb hby d6_18) rfl (l' := #[.val (.ref pr0), .val (.ref w_truth_pr0), .val (.int (8 : Int32)), .val (.int (0 : Int32)), .val (.int c0_w_truth_pr0)]) rfl ?_
    show Stp p e below T1 m 20 #[.val (.ref pr0), .val (.ref w_truth_pr0), .val (.int (8 : Int32)), .val (.int (0 : Int32)), .val (.int c0_w_truth_pr0)] [] _
    refine XS.iload X1.here hx rfl (hb hby d6_20) rfl ?_
    show Stp p e below T1 m 22 #[.val (.ref pr0), .val (.ref w_truth_pr0), .val (.int (8 : Int32)), .val (.int (0 : Int32)), .val (.int c0_w_truth_pr0)] [(.int c0_w_truth_pr0)] _
    refine XS.aloadN X1.here hx rfl (hb hby d6_22) rfl rfl ?_
    show Stp p e below T1 m 23 #[.val (.ref pr0), .val (.ref w_truth_pr0), .val (.int (8 : Int32)), .val (.int (0 : Int32)), .val (.int c0_w_truth_pr0)] [(.ref pr0), (.int c0_w_truth_pr0)] _
    refine st5 _ ?_
    show Stp p e below T5 m 26 #[.val (.ref pr0), .val (.ref w_truth_pr0), .val (.int (8 : Int32)), .val (.int (0 : Int32)), .val (.int c0_w_truth_pr0)] [(.ref w_truth_pr0), (.int c0_w_truth_pr0)] _
    refine XS.iconst X5.here hx rfl (hb hby d6_26) ?_
    show Stp p e below T5 m 27 #[.val (.ref pr0), .val (.ref w_truth_pr0), .val (.int (8 : Int32)), .val (.int (0 : Int32)), .val (.int c0_w_truth_pr0)] [(.int (0 : Int32)), (.ref w_truth_pr0), (.int c0_w_truth_pr0)] _
    refine X5.baloadBooleans hx (j := (0 : Int32)) (v := (.int c0_w_truth_pr0)) (by rw [e5]; exact Arc6.1) (State.isArrayOf_alike hZ.alike Arc6.2.1) Arc6.2.2 hin7 (Has.at Hc6 hin7 rfl) (g := (mkF m 27 #[.val (.ref pr0), .val (.ref w_truth_pr0), .val (.int (8 : Int32)), .val (.int (0 : Int32)), .val (.int c0_w_truth_pr0)] [(.int (0 : Int32)), (.ref w_truth_pr0), (.int c0_w_truth_pr0)])) rfl rfl (hb hby d6_27) _ ?_
    show Stp p e below T5 m 28 #[.val (.ref pr0), .val (.ref w_truth_pr0), .val (.int (8 : Int32)), .val (.int (0 : Int32)), .val (.int c0_w_truth_pr0)] [(.int c0_w_truth_pr0), (.int c0_w_truth_pr0)] _
    refine XS.icmpYes X5.here hx rfl (pc0 := 28) (pc' := 33) rfl (hb hby d6_28) rfl (teq (rfl : c0_w_truth_pr0 = c0_w_truth_pr0)).1 (by decide) (by decide) ?_
    show Stp p e below T5 m 33 #[.val (.ref pr0), .val (.ref w_truth_pr0), .val (.int (8 : Int32)), .val (.int (0 : Int32)), .val (.int c0_w_truth_pr0)] [] _
    refine XS.iinc X5.here hx rfl (hb hby d6_33) rfl (l' := #[.val (.ref pr0), .val (.ref w_truth_pr0), .val (.int (8 : Int32)), .val (.int (1 : Int32)), .val (.int c0_w_truth_pr0)]) rfl ?_
    show Stp p e below T5 m 36 #[.val (.ref pr0), .val (.ref w_truth_pr0), .val (.int (8 : Int32)), .val (.int (1 : Int32)), .val (.int c0_w_truth_pr0)] [] _
    refine XS.goto X5.here hx rfl (pc0 := 36) (pc' := 10) rfl (hb hby d6_36) (by decide) (by decide) ?_
    show Stp p e below T5 m 10 #[.val (.ref pr0), .val (.ref w_truth_pr0), .val (.int (8 : Int32)), .val (.int (1 : Int32)), .val (.int c0_w_truth_pr0)] [] _
    refine XS.iloadN X5.here hx rfl (hb hby d6_10) rfl ?_
    show Stp p e below T5 m 11 #[.val (.ref pr0), .val (.ref w_truth_pr0), .val (.int (8 : Int32)), .val (.int (1 : Int32)), .val (.int c0_w_truth_pr0)] [(.int (1 : Int32))] _
    refine XS.iloadN X5.here hx rfl (hb hby d6_11) rfl ?_
    show Stp p e below T5 m 12 #[.val (.ref pr0), .val (.ref w_truth_pr0), .val (.int (8 : Int32)), .val (.int (1 : Int32)), .val (.int c0_w_truth_pr0)] [(.int (8 : Int32)), (.int (1 : Int32))] _
    refine XS.icmpNo X5.here hx rfl (hb hby d6_12) rfl (tlt (by decide : (1 : Int32) < (8 : Int32))).2.1 ?_
    show Stp p e below T5 m 15 #[.val (.ref pr0), .val (.ref w_truth_pr0), .val (.int (8 : Int32)), .val (.int (1 : Int32)), .val (.int c0_w_truth_pr0)] [] _
    refine XS.aloadN X5.here hx rfl (hb hby d6_15) rfl rfl ?_
    show Stp p e below T5 m 16 #[.val (.ref pr0), .val (.ref w_truth_pr0), .val (.int (8 : Int32)), .val (.int (1 : Int32)), .val (.int c0_w_truth_pr0)] [(.ref w_truth_pr0)] _
    refine XS.iloadN X5.here hx rfl (hb hby d6_16) rfl ?_
    show Stp p e below T5 m 17 #[.val (.ref pr0), .val (.ref w_truth_pr0), .val (.int (8 : Int32)), .val (.int (1 : Int32)), .val (.int c0_w_truth_pr0)] [(.int (1 : Int32)), (.ref w_truth_pr0)] _
    refine X5.baloadBooleans hx (j := (1 : Int32)) (v := (.int c1_w_truth_pr0)) (by rw [e5]; exact Arc8.1) (State.isArrayOf_alike hZ.alike Arc8.2.1) Arc8.2.2 hin9 (Has.at Hc8 hin9 rfl) (g := (mkF m 17 #[.val (.ref pr0), .val (.ref w_truth_pr0), .val (.int (8 : Int32)), .val (.int (1 : Int32)), .val (.int c0_w_truth_pr0)] [(.int (1 : Int32)), (.ref w_truth_pr0)])) rfl rfl (hb hby d6_17) _ ?_
    show Stp p e below T5 m 18 #[.val (.ref pr0), .val (.ref w_truth_pr0), .val (.int (8 : Int32)), .val (.int (1 : Int32)), .val (.int c0_w_truth_pr0)] [(.int c1_w_truth_pr0)] _
    refine XS.istore X5.here hx rfl (hb hby d6_18) rfl (l' := #[.val (.ref pr0), .val (.ref w_truth_pr0), .val (.int (8 : Int32)), .val (.int (1 : Int32)), .val (.int c1_w_truth_pr0)]) rfl ?_
    show Stp p e below T5 m 20 #[.val (.ref pr0), .val (.ref w_truth_pr0), .val (.int (8 : Int32)), .val (.int (1 : Int32)), .val (.int c1_w_truth_pr0)] [] _
    refine XS.iload X5.here hx rfl (hb hby d6_20) rfl ?_
    show Stp p e below T5 m 22 #[.val (.ref pr0), .val (.ref w_truth_pr0), .val (.int (8 : Int32)), .val (.int (1 : Int32)), .val (.int c1_w_truth_pr0)] [(.int c1_w_truth_pr0)] _
    refine XS.aloadN X5.here hx rfl (hb hby d6_22) rfl rfl ?_
    show Stp p e below T5 m 23 #[.val (.ref pr0), .val (.ref w_truth_pr0), .val (.int (8 : Int32)), .val (.int (1 : Int32)), .val (.int c1_w_truth_pr0)] [(.ref pr0), (.int c1_w_truth_pr0)] _
    refine st10 _ ?_
    show Stp p e below T10 m 26 #[.val (.ref pr0), .val (.ref w_truth_pr0), .val (.int (8 : Int32)), .val (.int (1 : Int32)), .val (.int c1_w_truth_pr0)] [(.ref w_truth_pr0), (.int c1_w_truth_pr0)] _
    refine XS.iconst X10.here hx rfl (hb hby d6_26) ?_
    show Stp p e below T10 m 27 #[.val (.ref pr0), .val (.ref w_truth_pr0), .val (.int (8 : Int32)), .val (.int (1 : Int32)), .val (.int c1_w_truth_pr0)] [(.int (0 : Int32)), (.ref w_truth_pr0), (.int c1_w_truth_pr0)] _
    refine X10.baloadBooleans hx (j := (0 : Int32)) (v := (.int c0_w_truth_pr0)) (by rw [e10]; exact Arc11.1) (State.isArrayOf_alike hZ.alike Arc11.2.1) Arc11.2.2 hin12 (Has.at Hc11 hin12 rfl) (g := (mkF m 27 #[.val (.ref pr0), .val (.ref w_truth_pr0), .val (.int (8 : Int32)), .val (.int (1 : Int32)), .val (.int c1_w_truth_pr0)] [(.int (0 : Int32)), (.ref w_truth_pr0), (.int c1_w_truth_pr0)])) rfl rfl (hb hby d6_27) _ ?_
    show Stp p e below T10 m 28 #[.val (.ref pr0), .val (.ref w_truth_pr0), .val (.int (8 : Int32)), .val (.int (1 : Int32)), .val (.int c1_w_truth_pr0)] [(.int c0_w_truth_pr0), (.int c1_w_truth_pr0)] _
    refine XS.icmpYes X10.here hx rfl (pc0 := 28) (pc' := 33) rfl (hb hby d6_28) rfl (teq hc28_0).1 (by decide) (by decide) ?_
    show Stp p e below T10 m 33 #[.val (.ref pr0), .val (.ref w_truth_pr0), .val (.int (8 : Int32)), .val (.int (1 : Int32)), .val (.int c1_w_truth_pr0)] [] _
    refine XS.iinc X10.here hx rfl (hb hby d6_33) rfl (l' := #[.val (.ref pr0), .val (.ref w_truth_pr0), .val (.int (8 : Int32)), .val (.int (2 : Int32)), .val (.int c1_w_truth_pr0)]) rfl ?_
    show Stp p e below T10 m 36 #[.val (.ref pr0), .val (.ref w_truth_pr0), .val (.int (8 : Int32)), .val (.int (2 : Int32)), .val (.int c1_w_truth_pr0)] [] _
    refine XS.goto X10.here hx rfl (pc0 := 36) (pc' := 10) rfl (hb hby d6_36) (by decide) (by decide) ?_
    show Stp p e below T10 m 10 #[.val (.ref pr0), .val (.ref w_truth_pr0), .val (.int (8 : Int32)), .val (.int (2 : Int32)), .val (.int c1_w_truth_pr0)] [] _
    refine XS.iloadN X10.here hx rfl (hb hby d6_10) rfl ?_
    show Stp p e below T10 m 11 #[.val (.ref pr0), .val (.ref w_truth_pr0), .val (.int (8 : Int32)), .val (.int (2 : Int32)), .val (.int c1_w_truth_pr0)] [(.int (2 : Int32))] _
    refine XS.iloadN X10.here hx rfl (hb hby d6_11) rfl ?_
    show Stp p e below T10 m 12 #[.val (.ref pr0), .val (.ref w_truth_pr0), .val (.int (8 : Int32)), .val (.int (2 : Int32)), .val (.int c1_w_truth_pr0)] [(.int (8 : Int32)), (.int (2 : Int32))] _
    refine XS.icmpNo X10.here hx rfl (hb hby d6_12) rfl (tlt (by decide : (2 : Int32) < (8 : Int32))).2.1 ?_
    show Stp p e below T10 m 15 #[.val (.ref pr0), .val (.ref w_truth_pr0), .val (.int (8 : Int32)), .val (.int (2 : Int32)), .val (.int c1_w_truth_pr0)] [] _
    refine XS.aloadN X10.here hx rfl (hb hby d6_15) rfl rfl ?_
    show Stp p e below T10 m 16 #[.val (.ref pr0), .val (.ref w_truth_pr0), .val (.int (8 : Int32)), .val (.int (2 : Int32)), .val (.int c1_w_truth_pr0)] [(.ref w_truth_pr0)] _
    refine XS.iloadN X10.here hx rfl (hb hby d6_16) rfl ?_
    show Stp p e below T10 m 17 #[.val (.ref pr0), .val (.ref w_truth_pr0), .val (.int (8 : Int32)), .val (.int (2 : Int32)), .val (.int c1_w_truth_pr0)] [(.int (2 : Int32)), (.ref w_truth_pr0)] _
    refine X10.baloadBooleans hx (j := (2 : Int32)) (v := (.int c2_w_truth_pr0)) (by rw [e10]; exact Arc13.1) (State.isArrayOf_alike hZ.alike Arc13.2.1) Arc13.2.2 hin14 (Has.at Hc13 hin14 rfl) (g := (mkF m 17 #[.val (.ref pr0), .val (.ref w_truth_pr0), .val (.int (8 : Int32)), .val (.int (2 : Int32)), .val (.int c1_w_truth_pr0)] [(.int (2 : Int32)), (.ref w_truth_pr0)])) rfl rfl (hb hby d6_17) _ ?_
    show Stp p e below T10 m 18 #[.val (.ref pr0), .val (.ref w_truth_pr0), .val (.int (8 : Int32)), .val (.int (2 : Int32)), .val (.int c1_w_truth_pr0)] [(.int c2_w_truth_pr0)] _
    refine XS.istore X10.here hx rfl (hb hby d6_18) rfl (l' := #[.val (.ref pr0), .val (.ref w_truth_pr0), .val (.int (8 : Int32)), .val (.int (2 : Int32)), .val (.int c2_w_truth_pr0)]) rfl ?_
    show Stp p e below T10 m 20 #[.val (.ref pr0), .val (.ref w_truth_pr0), .val (.int (8 : Int32)), .val (.int (2 : Int32)), .val (.int c2_w_truth_pr0)] [] _
    refine XS.iload X10.here hx rfl (hb hby d6_20) rfl ?_
    show Stp p e below T10 m 22 #[.val (.ref pr0), .val (.ref w_truth_pr0), .val (.int (8 : Int32)), .val (.int (2 : Int32)), .val (.int c2_w_truth_pr0)] [(.int c2_w_truth_pr0)] _
    refine XS.aloadN X10.here hx rfl (hb hby d6_22) rfl rfl ?_
    show Stp p e below T10 m 23 #[.val (.ref pr0), .val (.ref w_truth_pr0), .val (.int (8 : Int32)), .val (.int (2 : Int32)), .val (.int c2_w_truth_pr0)] [(.ref pr0), (.int c2_w_truth_pr0)] _
    refine st15 _ ?_
    show Stp p e below T15 m 26 #[.val (.ref pr0), .val (.ref w_truth_pr0), .val (.int (8 : Int32)), .val (.int (2 : Int32)), .val (.int c2_w_truth_pr0)] [(.ref w_truth_pr0), (.int c2_w_truth_pr0)] _
    refine XS.iconst X15.here hx rfl (hb hby d6_26) ?_
    show Stp p e below T15 m 27 #[.val (.ref pr0), .val (.ref w_truth_pr0), .val (.int (8 : Int32)), .val (.int (2 : Int32)), .val (.int c2_w_truth_pr0)] [(.int (0 : Int32)), (.ref w_truth_pr0), (.int c2_w_truth_pr0)] _
    refine X15.baloadBooleans hx (j := (0 : Int32)) (v := (.int c0_w_truth_pr0)) (by rw [e15]; exact Arc16.1) (State.isArrayOf_alike hZ.alike Arc16.2.1) Arc16.2.2 hin17 (Has.at Hc16 hin17 rfl) (g := (mkF m 27 #[.val (.ref pr0), .val (.ref w_truth_pr0), .val (.int (8 : Int32)), .val (.int (2 : Int32)), .val (.int c2_w_truth_pr0)] [(.int (0 : Int32)), (.ref w_truth_pr0), (.int c2_w_truth_pr0)])) rfl rfl (hb hby d6_27) _ ?_
    show Stp p e below T15 m 28 #[.val (.ref pr0), .val (.ref w_truth_pr0), .val (.int (8 : Int32)), .val (.int (2 : Int32)), .val (.int c2_w_truth_pr0)] [(.int c0_w_truth_pr0), (.int c2_w_truth_pr0)] _
    refine XS.icmpYes X15.here hx rfl (pc0 := 28) (pc' := 33) rfl (hb hby d6_28) rfl (teq hc28_1).1 (by decide) (by decide) ?_
    show Stp p e below T15 m 33 #[.val (.ref pr0), .val (.ref w_truth_pr0), .val (.int (8 : Int32)), .val (.int (2 : Int32)), .val (.int c2_w_truth_pr0)] [] _
    refine XS.iinc X15.here hx rfl (hb hby d6_33) rfl (l' := #[.val (.ref pr0), .val (.ref w_truth_pr0), .val (.int (8 : Int32)), .val (.int (3 : Int32)), .val (.int c2_w_truth_pr0)]) rfl ?_
    show Stp p e below T15 m 36 #[.val (.ref pr0), .val (.ref w_truth_pr0), .val (.int (8 : Int32)), .val (.int (3 : Int32)), .val (.int c2_w_truth_pr0)] [] _
    refine XS.goto X15.here hx rfl (pc0 := 36) (pc' := 10) rfl (hb hby d6_36) (by decide) (by decide) ?_
    show Stp p e below T15 m 10 #[.val (.ref pr0), .val (.ref w_truth_pr0), .val (.int (8 : Int32)), .val (.int (3 : Int32)), .val (.int c2_w_truth_pr0)] [] _
    refine XS.iloadN X15.here hx rfl (hb hby d6_10) rfl ?_
    show Stp p e below T15 m 11 #[.val (.ref pr0), .val (.ref w_truth_pr0), .val (.int (8 : Int32)), .val (.int (3 : Int32)), .val (.int c2_w_truth_pr0)] [(.int (3 : Int32))] _
    refine XS.iloadN X15.here hx rfl (hb hby d6_11) rfl ?_
    show Stp p e below T15 m 12 #[.val (.ref pr0), .val (.ref w_truth_pr0), .val (.int (8 : Int32)), .val (.int (3 : Int32)), .val (.int c2_w_truth_pr0)] [(.int (8 : Int32)), (.int (3 : Int32))] _
    refine XS.icmpNo X15.here hx rfl (hb hby d6_12) rfl (tlt (by decide : (3 : Int32) < (8 : Int32))).2.1 ?_
    show Stp p e below T15 m 15 #[.val (.ref pr0), .val (.ref w_truth_pr0), .val (.int (8 : Int32)), .val (.int (3 : Int32)), .val (.int c2_w_truth_pr0)] [] _
    refine XS.aloadN X15.here hx rfl (hb hby d6_15) rfl rfl ?_
    show Stp p e below T15 m 16 #[.val (.ref pr0), .val (.ref w_truth_pr0), .val (.int (8 : Int32)), .val (.int (3 : Int32)), .val (.int c2_w_truth_pr0)] [(.ref w_truth_pr0)] _
    refine XS.iloadN X15.here hx rfl (hb hby d6_16) rfl ?_
    show Stp p e below T15 m 17 #[.val (.ref pr0), .val (.ref w_truth_pr0), .val (.int (8 : Int32)), .val (.int (3 : Int32)), .val (.int c2_w_truth_pr0)] [(.int (3 : Int32)), (.ref w_truth_pr0)] _
    refine X15.baloadBooleans hx (j := (3 : Int32)) (v := (.int c3_w_truth_pr0)) (by rw [e15]; exact Arc18.1) (State.isArrayOf_alike hZ.alike Arc18.2.1) Arc18.2.2 hin19 (Has.at Hc18 hin19 rfl) (g := (mkF m 17 #[.val (.ref pr0), .val (.ref w_truth_pr0), .val (.int (8 : Int32)), .val (.int (3 : Int32)), .val (.int c2_w_truth_pr0)] [(.int (3 : Int32)), (.ref w_truth_pr0)])) rfl rfl (hb hby d6_17) _ ?_
    show Stp p e below T15 m 18 #[.val (.ref pr0), .val (.ref w_truth_pr0), .val (.int (8 : Int32)), .val (.int (3 : Int32)), .val (.int c2_w_truth_pr0)] [(.int c3_w_truth_pr0)] _
    refine XS.istore X15.here hx rfl (hb hby d6_18) rfl (l' := #[.val (.ref pr0), .val (.ref w_truth_pr0), .val (.int (8 : Int32)), .val (.int (3 : Int32)), .val (.int c3_w_truth_pr0)]) rfl ?_
    show Stp p e below T15 m 20 #[.val (.ref pr0), .val (.ref w_truth_pr0), .val (.int (8 : Int32)), .val (.int (3 : Int32)), .val (.int c3_w_truth_pr0)] [] _
    refine XS.iload X15.here hx rfl (hb hby d6_20) rfl ?_
    show Stp p e below T15 m 22 #[.val (.ref pr0), .val (.ref w_truth_pr0), .val (.int (8 : Int32)), .val (.int (3 : Int32)), .val (.int c3_w_truth_pr0)] [(.int c3_w_truth_pr0)] _
    refine XS.aloadN X15.here hx rfl (hb hby d6_22) rfl rfl ?_
    show Stp p e below T15 m 23 #[.val (.ref pr0), .val (.ref w_truth_pr0), .val (.int (8 : Int32)), .val (.int (3 : Int32)), .val (.int c3_w_truth_pr0)] [(.ref pr0), (.int c3_w_truth_pr0)] _
    refine st20 _ ?_
    show Stp p e below T20 m 26 #[.val (.ref pr0), .val (.ref w_truth_pr0), .val (.int (8 : Int32)), .val (.int (3 : Int32)), .val (.int c3_w_truth_pr0)] [(.ref w_truth_pr0), (.int c3_w_truth_pr0)] _
    refine XS.iconst X20.here hx rfl (hb hby d6_26) ?_
    show Stp p e below T20 m 27 #[.val (.ref pr0), .val (.ref w_truth_pr0), .val (.int (8 : Int32)), .val (.int (3 : Int32)), .val (.int c3_w_truth_pr0)] [(.int (0 : Int32)), (.ref w_truth_pr0), (.int c3_w_truth_pr0)] _
    refine X20.baloadBooleans hx (j := (0 : Int32)) (v := (.int c0_w_truth_pr0)) (by rw [e20]; exact Arc21.1) (State.isArrayOf_alike hZ.alike Arc21.2.1) Arc21.2.2 hin22 (Has.at Hc21 hin22 rfl) (g := (mkF m 27 #[.val (.ref pr0), .val (.ref w_truth_pr0), .val (.int (8 : Int32)), .val (.int (3 : Int32)), .val (.int c3_w_truth_pr0)] [(.int (0 : Int32)), (.ref w_truth_pr0), (.int c3_w_truth_pr0)])) rfl rfl (hb hby d6_27) _ ?_
    show Stp p e below T20 m 28 #[.val (.ref pr0), .val (.ref w_truth_pr0), .val (.int (8 : Int32)), .val (.int (3 : Int32)), .val (.int c3_w_truth_pr0)] [(.int c0_w_truth_pr0), (.int c3_w_truth_pr0)] _
    refine XS.icmpYes X20.here hx rfl (pc0 := 28) (pc' := 33) rfl (hb hby d6_28) rfl (teq hc28_2).1 (by decide) (by decide) ?_
    show Stp p e below T20 m 33 #[.val (.ref pr0), .val (.ref w_truth_pr0), .val (.int (8 : Int32)), .val (.int (3 : Int32)), .val (.int c3_w_truth_pr0)] [] _
    refine XS.iinc X20.here hx rfl (hb hby d6_33) rfl (l' := #[.val (.ref pr0), .val (.ref w_truth_pr0), .val (.int (8 : Int32)), .val (.int (4 : Int32)), .val (.int c3_w_truth_pr0)]) rfl ?_
    show Stp p e below T20 m 36 #[.val (.ref pr0), .val (.ref w_truth_pr0), .val (.int (8 : Int32)), .val (.int (4 : Int32)), .val (.int c3_w_truth_pr0)] [] _
    refine XS.goto X20.here hx rfl (pc0 := 36) (pc' := 10) rfl (hb hby d6_36) (by decide) (by decide) ?_
    show Stp p e below T20 m 10 #[.val (.ref pr0), .val (.ref w_truth_pr0), .val (.int (8 : Int32)), .val (.int (4 : Int32)), .val (.int c3_w_truth_pr0)] [] _
    refine XS.iloadN X20.here hx rfl (hb hby d6_10) rfl ?_
    show Stp p e below T20 m 11 #[.val (.ref pr0), .val (.ref w_truth_pr0), .val (.int (8 : Int32)), .val (.int (4 : Int32)), .val (.int c3_w_truth_pr0)] [(.int (4 : Int32))] _
    refine XS.iloadN X20.here hx rfl (hb hby d6_11) rfl ?_
    show Stp p e below T20 m 12 #[.val (.ref pr0), .val (.ref w_truth_pr0), .val (.int (8 : Int32)), .val (.int (4 : Int32)), .val (.int c3_w_truth_pr0)] [(.int (8 : Int32)), (.int (4 : Int32))] _
    refine XS.icmpNo X20.here hx rfl (hb hby d6_12) rfl (tlt (by decide : (4 : Int32) < (8 : Int32))).2.1 ?_
    show Stp p e below T20 m 15 #[.val (.ref pr0), .val (.ref w_truth_pr0), .val (.int (8 : Int32)), .val (.int (4 : Int32)), .val (.int c3_w_truth_pr0)] [] _
    refine XS.aloadN X20.here hx rfl (hb hby d6_15) rfl rfl ?_
    show Stp p e below T20 m 16 #[.val (.ref pr0), .val (.ref w_truth_pr0), .val (.int (8 : Int32)), .val (.int (4 : Int32)), .val (.int c3_w_truth_pr0)] [(.ref w_truth_pr0)] _
    refine XS.iloadN X20.here hx rfl (hb hby d6_16) rfl ?_
    show Stp p e below T20 m 17 #[.val (.ref pr0), .val (.ref w_truth_pr0), .val (.int (8 : Int32)), .val (.int (4 : Int32)), .val (.int c3_w_truth_pr0)] [(.int (4 : Int32)), (.ref w_truth_pr0)] _
    refine X20.baloadBooleans hx (j := (4 : Int32)) (v := (.int c4_w_truth_pr0)) (by rw [e20]; exact Arc23.1) (State.isArrayOf_alike hZ.alike Arc23.2.1) Arc23.2.2 hin24 (Has.at Hc23 hin24 rfl) (g := (mkF m 17 #[.val (.ref pr0), .val (.ref w_truth_pr0), .val (.int (8 : Int32)), .val (.int (4 : Int32)), .val (.int c3_w_truth_pr0)] [(.int (4 : Int32)), (.ref w_truth_pr0)])) rfl rfl (hb hby d6_17) _ ?_
    show Stp p e below T20 m 18 #[.val (.ref pr0), .val (.ref w_truth_pr0), .val (.int (8 : Int32)), .val (.int (4 : Int32)), .val (.int c3_w_truth_pr0)] [(.int c4_w_truth_pr0)] _
    refine XS.istore X20.here hx rfl (hb hby d6_18) rfl (l' := #[.val (.ref pr0), .val (.ref w_truth_pr0), .val (.int (8 : Int32)), .val (.int (4 : Int32)), .val (.int c4_w_truth_pr0)]) rfl ?_
    show Stp p e below T20 m 20 #[.val (.ref pr0), .val (.ref w_truth_pr0), .val (.int (8 : Int32)), .val (.int (4 : Int32)), .val (.int c4_w_truth_pr0)] [] _
    refine XS.iload X20.here hx rfl (hb hby d6_20) rfl ?_
    show Stp p e below T20 m 22 #[.val (.ref pr0), .val (.ref w_truth_pr0), .val (.int (8 : Int32)), .val (.int (4 : Int32)), .val (.int c4_w_truth_pr0)] [(.int c4_w_truth_pr0)] _
    refine XS.aloadN X20.here hx rfl (hb hby d6_22) rfl rfl ?_
    show Stp p e below T20 m 23 #[.val (.ref pr0), .val (.ref w_truth_pr0), .val (.int (8 : Int32)), .val (.int (4 : Int32)), .val (.int c4_w_truth_pr0)] [(.ref pr0), (.int c4_w_truth_pr0)] _
    refine st25 _ ?_
    show Stp p e below T25 m 26 #[.val (.ref pr0), .val (.ref w_truth_pr0), .val (.int (8 : Int32)), .val (.int (4 : Int32)), .val (.int c4_w_truth_pr0)] [(.ref w_truth_pr0), (.int c4_w_truth_pr0)] _
    refine XS.iconst X25.here hx rfl (hb hby d6_26) ?_
    show Stp p e below T25 m 27 #[.val (.ref pr0), .val (.ref w_truth_pr0), .val (.int (8 : Int32)), .val (.int (4 : Int32)), .val (.int c4_w_truth_pr0)] [(.int (0 : Int32)), (.ref w_truth_pr0), (.int c4_w_truth_pr0)] _
    refine X25.baloadBooleans hx (j := (0 : Int32)) (v := (.int c0_w_truth_pr0)) (by rw [e25]; exact Arc26.1) (State.isArrayOf_alike hZ.alike Arc26.2.1) Arc26.2.2 hin27 (Has.at Hc26 hin27 rfl) (g := (mkF m 27 #[.val (.ref pr0), .val (.ref w_truth_pr0), .val (.int (8 : Int32)), .val (.int (4 : Int32)), .val (.int c4_w_truth_pr0)] [(.int (0 : Int32)), (.ref w_truth_pr0), (.int c4_w_truth_pr0)])) rfl rfl (hb hby d6_27) _ ?_
    show Stp p e below T25 m 28 #[.val (.ref pr0), .val (.ref w_truth_pr0), .val (.int (8 : Int32)), .val (.int (4 : Int32)), .val (.int c4_w_truth_pr0)] [(.int c0_w_truth_pr0), (.int c4_w_truth_pr0)] _
    refine XS.icmpYes X25.here hx rfl (pc0 := 28) (pc' := 33) rfl (hb hby d6_28) rfl (teq hc28_3).1 (by decide) (by decide) ?_
    show Stp p e below T25 m 33 #[.val (.ref pr0), .val (.ref w_truth_pr0), .val (.int (8 : Int32)), .val (.int (4 : Int32)), .val (.int c4_w_truth_pr0)] [] _
    refine XS.iinc X25.here hx rfl (hb hby d6_33) rfl (l' := #[.val (.ref pr0), .val (.ref w_truth_pr0), .val (.int (8 : Int32)), .val (.int (5 : Int32)), .val (.int c4_w_truth_pr0)]) rfl ?_
    show Stp p e below T25 m 36 #[.val (.ref pr0), .val (.ref w_truth_pr0), .val (.int (8 : Int32)), .val (.int (5 : Int32)), .val (.int c4_w_truth_pr0)] [] _
    refine XS.goto X25.here hx rfl (pc0 := 36) (pc' := 10) rfl (hb hby d6_36) (by decide) (by decide) ?_
    show Stp p e below T25 m 10 #[.val (.ref pr0), .val (.ref w_truth_pr0), .val (.int (8 : Int32)), .val (.int (5 : Int32)), .val (.int c4_w_truth_pr0)] [] _
    refine XS.iloadN X25.here hx rfl (hb hby d6_10) rfl ?_
    show Stp p e below T25 m 11 #[.val (.ref pr0), .val (.ref w_truth_pr0), .val (.int (8 : Int32)), .val (.int (5 : Int32)), .val (.int c4_w_truth_pr0)] [(.int (5 : Int32))] _
    refine XS.iloadN X25.here hx rfl (hb hby d6_11) rfl ?_
    show Stp p e below T25 m 12 #[.val (.ref pr0), .val (.ref w_truth_pr0), .val (.int (8 : Int32)), .val (.int (5 : Int32)), .val (.int c4_w_truth_pr0)] [(.int (8 : Int32)), (.int (5 : Int32))] _
    refine XS.icmpNo X25.here hx rfl (hb hby d6_12) rfl (tlt (by decide : (5 : Int32) < (8 : Int32))).2.1 ?_
    show Stp p e below T25 m 15 #[.val (.ref pr0), .val (.ref w_truth_pr0), .val (.int (8 : Int32)), .val (.int (5 : Int32)), .val (.int c4_w_truth_pr0)] [] _
    refine XS.aloadN X25.here hx rfl (hb hby d6_15) rfl rfl ?_
    show Stp p e below T25 m 16 #[.val (.ref pr0), .val (.ref w_truth_pr0), .val (.int (8 : Int32)), .val (.int (5 : Int32)), .val (.int c4_w_truth_pr0)] [(.ref w_truth_pr0)] _
    refine XS.iloadN X25.here hx rfl (hb hby d6_16) rfl ?_
    show Stp p e below T25 m 17 #[.val (.ref pr0), .val (.ref w_truth_pr0), .val (.int (8 : Int32)), .val (.int (5 : Int32)), .val (.int c4_w_truth_pr0)] [(.int (5 : Int32)), (.ref w_truth_pr0)] _
    refine X25.baloadBooleans hx (j := (5 : Int32)) (v := (.int c5_w_truth_pr0)) (by rw [e25]; exact Arc28.1) (State.isArrayOf_alike hZ.alike Arc28.2.1) Arc28.2.2 hin29 (Has.at Hc28 hin29 rfl) (g := (mkF m 17 #[.val (.ref pr0), .val (.ref w_truth_pr0), .val (.int (8 : Int32)), .val (.int (5 : Int32)), .val (.int c4_w_truth_pr0)] [(.int (5 : Int32)), (.ref w_truth_pr0)])) rfl rfl (hb hby d6_17) _ ?_
    show Stp p e below T25 m 18 #[.val (.ref pr0), .val (.ref w_truth_pr0), .val (.int (8 : Int32)), .val (.int (5 : Int32)), .val (.int c4_w_truth_pr0)] [(.int c5_w_truth_pr0)] _
    refine XS.istore X25.here hx rfl (hb hby d6_18) rfl (l' := #[.val (.ref pr0), .val (.ref w_truth_pr0), .val (.int (8 : Int32)), .val (.int (5 : Int32)), .val (.int c5_w_truth_pr0)]) rfl ?_
    show Stp p e below T25 m 20 #[.val (.ref pr0), .val (.ref w_truth_pr0), .val (.int (8 : Int32)), .val (.int (5 : Int32)), .val (.int c5_w_truth_pr0)] [] _
    refine XS.iload X25.here hx rfl (hb hby d6_20) rfl ?_
    show Stp p e below T25 m 22 #[.val (.ref pr0), .val (.ref w_truth_pr0), .val (.int (8 : Int32)), .val (.int (5 : Int32)), .val (.int c5_w_truth_pr0)] [(.int c5_w_truth_pr0)] _
    refine XS.aloadN X25.here hx rfl (hb hby d6_22) rfl rfl ?_
    show Stp p e below T25 m 23 #[.val (.ref pr0), .val (.ref w_truth_pr0), .val (.int (8 : Int32)), .val (.int (5 : Int32)), .val (.int c5_w_truth_pr0)] [(.ref pr0), (.int c5_w_truth_pr0)] _
    refine st30 _ ?_
    show Stp p e below T30 m 26 #[.val (.ref pr0), .val (.ref w_truth_pr0), .val (.int (8 : Int32)), .val (.int (5 : Int32)), .val (.int c5_w_truth_pr0)] [(.ref w_truth_pr0), (.int c5_w_truth_pr0)] _
    refine XS.iconst X30.here hx rfl (hb hby d6_26) ?_
    show Stp p e below T30 m 27 #[.val (.ref pr0), .val (.ref w_truth_pr0), .val (.int (8 : Int32)), .val (.int (5 : Int32)), .val (.int c5_w_truth_pr0)] [(.int (0 : Int32)), (.ref w_truth_pr0), (.int c5_w_truth_pr0)] _
    refine X30.baloadBooleans hx (j := (0 : Int32)) (v := (.int c0_w_truth_pr0)) (by rw [e30]; exact Arc31.1) (State.isArrayOf_alike hZ.alike Arc31.2.1) Arc31.2.2 hin32 (Has.at Hc31 hin32 rfl) (g := (mkF m 27 #[.val (.ref pr0), .val (.ref w_truth_pr0), .val (.int (8 : Int32)), .val (.int (5 : Int32)), .val (.int c5_w_truth_pr0)] [(.int (0 : Int32)), (.ref w_truth_pr0), (.int c5_w_truth_pr0)])) rfl rfl (hb hby d6_27) _ ?_
    show Stp p e below T30 m 28 #[.val (.ref pr0), .val (.ref w_truth_pr0), .val (.int (8 : Int32)), .val (.int (5 : Int32)), .val (.int c5_w_truth_pr0)] [(.int c0_w_truth_pr0), (.int c5_w_truth_pr0)] _
    refine XS.icmpNo X30.here hx rfl (hb hby d6_28) rfl (feq hc28_4).1 ?_
    show Stp p e below T30 m 31 #[.val (.ref pr0), .val (.ref w_truth_pr0), .val (.int (8 : Int32)), .val (.int (5 : Int32)), .val (.int c5_w_truth_pr0)] [] _
    refine XS.iconst X30.here hx rfl (hb hby d6_31) ?_
    show Stp p e below T30 m 32 #[.val (.ref pr0), .val (.ref w_truth_pr0), .val (.int (8 : Int32)), .val (.int (5 : Int32)), .val (.int c5_w_truth_pr0)] [(.int (0 : Int32))] _
    exact retN X30 hx (t := .boolean) Bd.returns (by simp) (hb hby d6_32) hr
  · show Q6_k3ttttf Z pr0 w_truth_pr0 kk_w_truth_pr0 c0_w_truth_pr0 c1_w_truth_pr0 c2_w_truth_pr0 c3_w_truth_pr0 c4_w_truth_pr0 c5_w_truth_pr0 c6_w_truth_pr0 c7_w_truth_pr0 h0 n0 _ T30.heap _
    rw [e30]
    exact ⟨rfl, N0, rfl⟩
def Q6_k3tttf (Z : State) (pr0 : Addr) (w_truth_pr0 : Addr) (kk_w_truth_pr0 : ClassId) (c0_w_truth_pr0 : Int32) (c1_w_truth_pr0 : Int32) (c2_w_truth_pr0 : Int32) (c3_w_truth_pr0 : Int32) (c4_w_truth_pr0 : Int32) (c5_w_truth_pr0 : Int32) (c6_w_truth_pr0 : Int32) (c7_w_truth_pr0 : Int32) (h0 : Heap) (n0 : Nat) (v : Option Value) (h : Heap) (L : List Loc) : Prop := v = some (.int (0 : Int32)) ∧ Fr n0 L ∧ h = h0
set_option maxRecDepth 65536 in
set_option maxHeartbeats 40000000 in
theorem rm6_k3tttf (l : Launch) (Z : State) (a0 : Array Value) (hw : ∀ d ∈ tables_1, d.before a0 Z = true) (ws : List Jvm.Cond) (pr0 : Addr) (w_truth_pr0 : Addr) (kk_w_truth_pr0 : ClassId) (c0_w_truth_pr0 : Int32) (c1_w_truth_pr0 : Int32) (c2_w_truth_pr0 : Int32) (c3_w_truth_pr0 : Int32) (c4_w_truth_pr0 : Int32) (c5_w_truth_pr0 : Int32) (c6_w_truth_pr0 : Int32) (c7_w_truth_pr0 : Int32) (h0 : Heap) (n0 : Nat) (Z0 : n0 ≤ h0.size) (O0 : Old Z n0 h0) (F_truth_pr0 : Fld Z h0 pr0 "com/example/gudl/gudl/GroundFactor" "truth" "[Z" (.ref w_truth_pr0)) (V_w_truth_pr0 : Arv Z h0 w_truth_pr0 kk_w_truth_pr0 .boolean (8 : Int32) [(.int c0_w_truth_pr0), (.int c1_w_truth_pr0), (.int c2_w_truth_pr0), (.int c3_w_truth_pr0), (.int c4_w_truth_pr0), (.int c5_w_truth_pr0), (.int c6_w_truth_pr0), (.int c7_w_truth_pr0)] (.int (0 : Int32))) (hc28_0 : c1_w_truth_pr0 = c0_w_truth_pr0) (hc28_1 : c2_w_truth_pr0 = c0_w_truth_pr0) (hc28_2 : c3_w_truth_pr0 = c0_w_truth_pr0) (hc28_3 : ¬ (c4_w_truth_pr0 = c0_w_truth_pr0)) :
    MetFree l (⟨"com/example/gudl/gudl/GroundFactor", "isConstant", "()Z"⟩ : MethodName) (head1 (Jvm.Cond.code (⟨"com/example/gudl/gudl/GroundFactor", "isConstant", "()Z"⟩ : MethodName) prog_42_method_8_code 5 (some .boolean) :: ws) ({ frames := 0, cells := 0, slots := 0, locals := 0 } : Room)) (fun a U => a = #[(.ref pr0)] ∧ Z.Warmed39 U.vm ∧ U.heap = h0) (fun _ _ _ _ _ => True) (fun _ U o U' => ∃ v L, o = .returned v ∧ Q6_k3tttf Z pr0 w_truth_pr0 kk_w_truth_pr0 c0_w_truth_pr0 c1_w_truth_pr0 c2_w_truth_pr0 c3_w_truth_pr0 c4_w_truth_pr0 c5_w_truth_pr0 c6_w_truth_pr0 c7_w_truth_pr0 h0 n0 v U'.heap L ∧ FrameEnd U o U' L ({ frames := 0, cells := 0, slots := 0, locals := 0 } : Room).cells ({ frames := 0, cells := 0, slots := 0, locals := 0 } : Room).slots) := by
  refine MetFree.of_bodySF (plainFor_of_name pn_6) hisR ?_
  intro p e s m args below meth c s₁ Bd hml0 hP hK
  obtain ⟨rfl, hZ, hh⟩ := hP
  have hx := Bd.exec
  have hby := Bd.bytes
  have hml : c.maxLocals = 5 := hml0
  have hown : s.vm.findClass "com/example/gudl/gudl/GroundFactor" = some m.cls := findClass_of_methodNamed Bd.named
  have hnm := (name_of_methodNamed Bd.named Bd.method).1
  have X0 : Stand p l e ({ frames := 0, cells := 0, slots := 0, locals := 0 } : Room) s m #[(.ref pr0)] below meth c s₁ [] 0 0 := Stand.of_body Bd
  have e0 : s₁.heap = h0 := by rw [← hh, Bd.state]; rfl
  have N0 := Fr.nil n0
  have pre0 : ∀ t, Steps p.tables e below (s₁.setTop (mkF m 0 #[.val (.ref pr0), .unset, .unset, .unset, .unset] [])) t → Steps p.tables e below (s₁.setTop (entryFrame m #[(.ref pr0)] 5)) t := fun t k => castTop (ef_6 m pr0) k
  obtain ⟨T1, X1, e1, st1⟩ := getF X0 hx hZ hown (host := "") (Or.inl (own_W hw 25 rfl)) Via.refl e0 F_truth_pr0 (g := (mkF m 1 #[.val (.ref pr0), .unset, .unset, .unset, .unset] [(.ref pr0)])) rfl rfl (hb hby d6_1)
  have V_c2 := V_w_truth_pr0
  obtain ⟨c2, Arc2, qc2, Sc2, Nc2, Hc2, Gc2⟩ := V_c2
  have V_c3 := V_w_truth_pr0
  obtain ⟨c3, Arc3, qc3, Sc3, Nc3, Hc3, Gc3⟩ := V_c3
  have hin4 : ¬ ((0 : Int32) < 0 ∨ c3.slots.size ≤ ((0 : Int32)).toNatClampNeg) := inb_of Sc3 ⟨by decide, by decide⟩
  obtain ⟨T5, X5, e5, st5⟩ := getF X1 hx hZ hown (host := "") (Or.inl (own_W hw 25 rfl)) Via.refl e1 F_truth_pr0 (g := (mkF m 23 #[.val (.ref pr0), .val (.ref w_truth_pr0), .val (.int (8 : Int32)), .val (.int (0 : Int32)), .val (.int c0_w_truth_pr0)] [(.ref pr0), (.int c0_w_truth_pr0)])) rfl rfl (hb hby d6_23)
  have V_c6 := V_w_truth_pr0
  obtain ⟨c6, Arc6, qc6, Sc6, Nc6, Hc6, Gc6⟩ := V_c6
  have hin7 : ¬ ((0 : Int32) < 0 ∨ c6.slots.size ≤ ((0 : Int32)).toNatClampNeg) := inb_of Sc6 ⟨by decide, by decide⟩
  have V_c8 := V_w_truth_pr0
  obtain ⟨c8, Arc8, qc8, Sc8, Nc8, Hc8, Gc8⟩ := V_c8
  have hin9 : ¬ ((1 : Int32) < 0 ∨ c8.slots.size ≤ ((1 : Int32)).toNatClampNeg) := inb_of Sc8 ⟨by decide, by decide⟩
  obtain ⟨T10, X10, e10, st10⟩ := getF X5 hx hZ hown (host := "") (Or.inl (own_W hw 25 rfl)) Via.refl e5 F_truth_pr0 (g := (mkF m 23 #[.val (.ref pr0), .val (.ref w_truth_pr0), .val (.int (8 : Int32)), .val (.int (1 : Int32)), .val (.int c1_w_truth_pr0)] [(.ref pr0), (.int c1_w_truth_pr0)])) rfl rfl (hb hby d6_23)
  have V_c11 := V_w_truth_pr0
  obtain ⟨c11, Arc11, qc11, Sc11, Nc11, Hc11, Gc11⟩ := V_c11
  have hin12 : ¬ ((0 : Int32) < 0 ∨ c11.slots.size ≤ ((0 : Int32)).toNatClampNeg) := inb_of Sc11 ⟨by decide, by decide⟩
  have V_c13 := V_w_truth_pr0
  obtain ⟨c13, Arc13, qc13, Sc13, Nc13, Hc13, Gc13⟩ := V_c13
  have hin14 : ¬ ((2 : Int32) < 0 ∨ c13.slots.size ≤ ((2 : Int32)).toNatClampNeg) := inb_of Sc13 ⟨by decide, by decide⟩
  obtain ⟨T15, X15, e15, st15⟩ := getF X10 hx hZ hown (host := "") (Or.inl (own_W hw 25 rfl)) Via.refl e10 F_truth_pr0 (g := (mkF m 23 #[.val (.ref pr0), .val (.ref w_truth_pr0), .val (.int (8 : Int32)), .val (.int (2 : Int32)), .val (.int c2_w_truth_pr0)] [(.ref pr0), (.int c2_w_truth_pr0)])) rfl rfl (hb hby d6_23)
  have V_c16 := V_w_truth_pr0
  obtain ⟨c16, Arc16, qc16, Sc16, Nc16, Hc16, Gc16⟩ := V_c16
  have hin17 : ¬ ((0 : Int32) < 0 ∨ c16.slots.size ≤ ((0 : Int32)).toNatClampNeg) := inb_of Sc16 ⟨by decide, by decide⟩
  have V_c18 := V_w_truth_pr0
  obtain ⟨c18, Arc18, qc18, Sc18, Nc18, Hc18, Gc18⟩ := V_c18
  have hin19 : ¬ ((3 : Int32) < 0 ∨ c18.slots.size ≤ ((3 : Int32)).toNatClampNeg) := inb_of Sc18 ⟨by decide, by decide⟩
  obtain ⟨T20, X20, e20, st20⟩ := getF X15 hx hZ hown (host := "") (Or.inl (own_W hw 25 rfl)) Via.refl e15 F_truth_pr0 (g := (mkF m 23 #[.val (.ref pr0), .val (.ref w_truth_pr0), .val (.int (8 : Int32)), .val (.int (3 : Int32)), .val (.int c3_w_truth_pr0)] [(.ref pr0), (.int c3_w_truth_pr0)])) rfl rfl (hb hby d6_23)
  have V_c21 := V_w_truth_pr0
  obtain ⟨c21, Arc21, qc21, Sc21, Nc21, Hc21, Gc21⟩ := V_c21
  have hin22 : ¬ ((0 : Int32) < 0 ∨ c21.slots.size ≤ ((0 : Int32)).toNatClampNeg) := inb_of Sc21 ⟨by decide, by decide⟩
  have V_c23 := V_w_truth_pr0
  obtain ⟨c23, Arc23, qc23, Sc23, Nc23, Hc23, Gc23⟩ := V_c23
  have hin24 : ¬ ((4 : Int32) < 0 ∨ c23.slots.size ≤ ((4 : Int32)).toNatClampNeg) := inb_of Sc23 ⟨by decide, by decide⟩
  obtain ⟨T25, X25, e25, st25⟩ := getF X20 hx hZ hown (host := "") (Or.inl (own_W hw 25 rfl)) Via.refl e20 F_truth_pr0 (g := (mkF m 23 #[.val (.ref pr0), .val (.ref w_truth_pr0), .val (.int (8 : Int32)), .val (.int (4 : Int32)), .val (.int c4_w_truth_pr0)] [(.ref pr0), (.int c4_w_truth_pr0)])) rfl rfl (hb hby d6_23)
  have V_c26 := V_w_truth_pr0
  obtain ⟨c26, Arc26, qc26, Sc26, Nc26, Hc26, Gc26⟩ := V_c26
  have hin27 : ¬ ((0 : Int32) < 0 ∨ c26.slots.size ≤ ((0 : Int32)).toNatClampNeg) := inb_of Sc26 ⟨by decide, by decide⟩
  obtain ⟨fs, hr, hrun, hended, hW, hsame⟩ := X25.leave (v := some (.int (0 : Int32))) (fun h => by rw [Bd.returns] at h; cases h)
  refine ⟨_, _, pre0 _ ?_, hrun, hended, _, _, rfl, ?_, ⟨_, rfl⟩, hW, hsame.mono (by decide) (by decide)⟩
  · show Stp p e below s₁ m 0 #[.val (.ref pr0), .unset, .unset, .unset, .unset] [] _
    refine XS.aloadN X0.here hx rfl (hb hby d6_0) rfl rfl ?_
    show Stp p e below s₁ m 1 #[.val (.ref pr0), .unset, .unset, .unset, .unset] [(.ref pr0)] _
    refine st1 _ ?_
    show Stp p e below T1 m 4 #[.val (.ref pr0), .unset, .unset, .unset, .unset] [(.ref w_truth_pr0)] _
    refine XS.astoreN X1.here hx rfl (hb hby d6_4) rfl rfl (l' := #[.val (.ref pr0), .val (.ref w_truth_pr0), .unset, .unset, .unset]) rfl ?_
    show Stp p e below T1 m 5 #[.val (.ref pr0), .val (.ref w_truth_pr0), .unset, .unset, .unset] [] _
    refine XS.aloadN X1.here hx rfl (hb hby d6_5) rfl rfl ?_
    show Stp p e below T1 m 6 #[.val (.ref pr0), .val (.ref w_truth_pr0), .unset, .unset, .unset] [(.ref w_truth_pr0)] _
    refine X1.arraylength hx (by rw [e1]; exact Arc2.1) (State.isArrayOf_alike hZ.alike Arc2.2.1) (g := (mkF m 6 #[.val (.ref pr0), .val (.ref w_truth_pr0), .unset, .unset, .unset] [(.ref w_truth_pr0)])) rfl rfl (hb hby d6_6) _ ?_
    rw [len_of Sc2 Nc2]
    show Stp p e below T1 m 7 #[.val (.ref pr0), .val (.ref w_truth_pr0), .unset, .unset, .unset] [(.int (8 : Int32))] _
    refine XS.istoreN X1.here hx rfl (hb hby d6_7) rfl (l' := #[.val (.ref pr0), .val (.ref w_truth_pr0), .val (.int (8 : Int32)), .unset, .unset]) rfl ?_
    show Stp p e below T1 m 8 #[.val (.ref pr0), .val (.ref w_truth_pr0), .val (.int (8 : Int32)), .unset, .unset] [] _
    refine XS.iconst X1.here hx rfl (hb hby d6_8) ?_
    show Stp p e below T1 m 9 #[.val (.ref pr0), .val (.ref w_truth_pr0), .val (.int (8 : Int32)), .unset, .unset] [(.int (0 : Int32))] _
    refine XS.istoreN X1.here hx rfl (hb hby d6_9) rfl (l' := #[.val (.ref pr0), .val (.ref w_truth_pr0), .val (.int (8 : Int32)), .val (.int (0 : Int32)), .unset]) rfl ?_
    show Stp p e below T1 m 10 #[.val (.ref pr0), .val (.ref w_truth_pr0), .val (.int (8 : Int32)), .val (.int (0 : Int32)), .unset] [] _
    refine XS.iloadN X1.here hx rfl (hb hby d6_10) rfl ?_
    show Stp p e below T1 m 11 #[.val (.ref pr0), .val (.ref w_truth_pr0), .val (.int (8 : Int32)), .val (.int (0 : Int32)), .unset] [(.int (0 : Int32))] _
    refine XS.iloadN X1.here hx rfl (hb hby d6_11) rfl ?_
    show Stp p e below T1 m 12 #[.val (.ref pr0), .val (.ref w_truth_pr0), .val (.int (8 : Int32)), .val (.int (0 : Int32)), .unset] [(.int (8 : Int32)), (.int (0 : Int32))] _
    refine XS.icmpNo X1.here hx rfl (hb hby d6_12) rfl (tlt (by decide : (0 : Int32) < (8 : Int32))).2.1 ?_
    show Stp p e below T1 m 15 #[.val (.ref pr0), .val (.ref w_truth_pr0), .val (.int (8 : Int32)), .val (.int (0 : Int32)), .unset] [] _
    refine XS.aloadN X1.here hx rfl (hb hby d6_15) rfl rfl ?_
    show Stp p e below T1 m 16 #[.val (.ref pr0), .val (.ref w_truth_pr0), .val (.int (8 : Int32)), .val (.int (0 : Int32)), .unset] [(.ref w_truth_pr0)] _
    refine XS.iloadN X1.here hx rfl (hb hby d6_16) rfl ?_
    show Stp p e below T1 m 17 #[.val (.ref pr0), .val (.ref w_truth_pr0), .val (.int (8 : Int32)), .val (.int (0 : Int32)), .unset] [(.int (0 : Int32)), (.ref w_truth_pr0)] _
    refine X1.baloadBooleans hx (j := (0 : Int32)) (v := (.int c0_w_truth_pr0)) (by rw [e1]; exact Arc3.1) (State.isArrayOf_alike hZ.alike Arc3.2.1) Arc3.2.2 hin4 (Has.at Hc3 hin4 rfl) (g := (mkF m 17 #[.val (.ref pr0), .val (.ref w_truth_pr0), .val (.int (8 : Int32)), .val (.int (0 : Int32)), .unset] [(.int (0 : Int32)), (.ref w_truth_pr0)])) rfl rfl (hb hby d6_17) _ ?_
    show Stp p e below T1 m 18 #[.val (.ref pr0), .val (.ref w_truth_pr0), .val (.int (8 : Int32)), .val (.int (0 : Int32)), .unset] [(.int c0_w_truth_pr0)] _
    refine XS.istore X1.here hx rfl (hb hby d6_18) rfl (l' := #[.val (.ref pr0), .val (.ref w_truth_pr0), .val (.int (8 : Int32)), .val (.int (0 : Int32)), .val (.int c0_w_truth_pr0)]) rfl ?_
    show Stp p e below T1 m 20 #[.val (.ref pr0), .val (.ref w_truth_pr0), .val (.int (8 : Int32)), .val (.int (0 : Int32)), .val (.int c0_w_truth_pr0)] [] _
    refine XS.iload X1.here hx rfl (hb hby d6_20) rfl ?_
    show Stp p e below T1 m 22 #[.val (.ref pr0), .val (.ref w_truth_pr0), .val (.int (8 : Int32)), .val (.int (0 : Int32)), .val (.int c0_w_truth_pr0)] [(.int c0_w_truth_pr0)] _
    refine XS.aloadN X1.here hx rfl (hb hby d6_22) rfl rfl ?_
    show Stp p e below T1 m 23 #[.val (.ref pr0), .val (.ref w_truth_pr0), .val (.int (8 : Int32)), .val (.int (0 : Int32)), .val (.int c0_w_truth_pr0)] [(.ref pr0), (.int c0_w_truth_pr0)] _
    refine st5 _ ?_
    show Stp p e below T5 m 26 #[.val (.ref pr0), .val (.ref w_truth_pr0), .val (.int (8 : Int32)), .val (.int (0 : Int32)), .val (.int c0_w_truth_pr0)] [(.ref w_truth_pr0), (.int c0_w_truth_pr0)] _
    refine XS.iconst X5.here hx rfl (hb hby d6_26) ?_
    show Stp p e below T5 m 27 #[.val (.ref pr0), .val (.ref w_truth_pr0), .val (.int (8 : Int32)), .val (.int (0 : Int32)), .val (.int c0_w_truth_pr0)] [(.int (0 : Int32)), (.ref w_truth_pr0), (.int c0_w_truth_pr0)] _
    refine X5.baloadBooleans hx (j := (0 : Int32)) (v := (.int c0_w_truth_pr0)) (by rw [e5]; exact Arc6.1) (State.isArrayOf_alike hZ.alike Arc6.2.1) Arc6.2.2 hin7 (Has.at Hc6 hin7 rfl) (g := (mkF m 27 #[.val (.ref pr0), .val (.ref w_truth_pr0), .val (.int (8 : Int32)), .val (.int (0 : Int32)), .val (.int c0_w_truth_pr0)] [(.int (0 : Int32)), (.ref w_truth_pr0), (.int c0_w_truth_pr0)])) rfl rfl (hb hby d6_27) _ ?_
    show Stp p e below T5 m 28 #[.val (.ref pr0), .val (.ref w_truth_pr0), .val (.int (8 : Int32)), .val (.int (0 : Int32)), .val (.int c0_w_truth_pr0)] [(.int c0_w_truth_pr0), (.int c0_w_truth_pr0)] _
    refine XS.icmpYes X5.here hx rfl (pc0 := 28) (pc' := 33) rfl (hb hby d6_28) rfl (teq (rfl : c0_w_truth_pr0 = c0_w_truth_pr0)).1 (by decide) (by decide) ?_
    show Stp p e below T5 m 33 #[.val (.ref pr0), .val (.ref w_truth_pr0), .val (.int (8 : Int32)), .val (.int (0 : Int32)), .val (.int c0_w_truth_pr0)] [] _
    refine XS.iinc X5.here hx rfl (hb hby d6_33) rfl (l' := #[.val (.ref pr0), .val (.ref w_truth_pr0), .val (.int (8 : Int32)), .val (.int (1 : Int32)), .val (.int c0_w_truth_pr0)]) rfl ?_
    show Stp p e below T5 m 36 #[.val (.ref pr0), .val (.ref w_truth_pr0), .val (.int (8 : Int32)), .val (.int (1 : Int32)), .val (.int c0_w_truth_pr0)] [] _
    refine XS.goto X5.here hx rfl (pc0 := 36) (pc' := 10) rfl (hb hby d6_36) (by decide) (by decide) ?_
    show Stp p e below T5 m 10 #[.val (.ref pr0), .val (.ref w_truth_pr0), .val (.int (8 : Int32)), .val (.int (1 : Int32)), .val (.int c0_w_truth_pr0)] [] _
    refine XS.iloadN X5.here hx rfl (hb hby d6_10) rfl ?_
    show Stp p e below T5 m 11 #[.val (.ref pr0), .val (.ref w_truth_pr0), .val (.int (8 : Int32)), .val (.int (1 : Int32)), .val (.int c0_w_truth_pr0)] [(.int (1 : Int32))] _
    refine XS.iloadN X5.here hx rfl (hb hby d6_11) rfl ?_
    show Stp p e below T5 m 12 #[.val (.ref pr0), .val (.ref w_truth_pr0), .val (.int (8 : Int32)), .val (.int (1 : Int32)), .val (.int c0_w_truth_pr0)] [(.int (8 : Int32)), (.int (1 : Int32))] _
    refine XS.icmpNo X5.here hx rfl (hb hby d6_12) rfl (tlt (by decide : (1 : Int32) < (8 : Int32))).2.1 ?_
    show Stp p e below T5 m 15 #[.val (.ref pr0), .val (.ref w_truth_pr0), .val (.int (8 : Int32)), .val (.int (1 : Int32)), .val (.int c0_w_truth_pr0)] [] _
    refine XS.aloadN X5.here hx rfl (hb hby d6_15) rfl rfl ?_
    show Stp p e below T5 m 16 #[.val (.ref pr0), .val (.ref w_truth_pr0), .val (.int (8 : Int32)), .val (.int (1 : Int32)), .val (.int c0_w_truth_pr0)] [(.ref w_truth_pr0)] _
    refine XS.iloadN X5.here hx rfl (hb hby d6_16) rfl ?_
    show Stp p e below T5 m 17 #[.val (.ref pr0), .val (.ref w_truth_pr0), .val (.int (8 : Int32)), .val (.int (1 : Int32)), .val (.int c0_w_truth_pr0)] [(.int (1 : Int32)), (.ref w_truth_pr0)] _
    refine X5.baloadBooleans hx (j := (1 : Int32)) (v := (.int c1_w_truth_pr0)) (by rw [e5]; exact Arc8.1) (State.isArrayOf_alike hZ.alike Arc8.2.1) Arc8.2.2 hin9 (Has.at Hc8 hin9 rfl) (g := (mkF m 17 #[.val (.ref pr0), .val (.ref w_truth_pr0), .val (.int (8 : Int32)), .val (.int (1 : Int32)), .val (.int c0_w_truth_pr0)] [(.int (1 : Int32)), (.ref w_truth_pr0)])) rfl rfl (hb hby d6_17) _ ?_
    show Stp p e below T5 m 18 #[.val (.ref pr0), .val (.ref w_truth_pr0), .val (.int (8 : Int32)), .val (.int (1 : Int32)), .val (.int c0_w_truth_pr0)] [(.int c1_w_truth_pr0)] _
    refine XS.istore X5.here hx rfl (hb hby d6_18) rfl (l' := #[.val (.ref pr0), .val (.ref w_truth_pr0), .val (.int (8 : Int32)), .val (.int (1 : Int32)), .val (.int c1_w_truth_pr0)]) rfl ?_
    show Stp p e below T5 m 20 #[.val (.ref pr0), .val (.ref w_truth_pr0), .val (.int (8 : Int32)), .val (.int (1 : Int32)), .val (.int c1_w_truth_pr0)] [] _
    refine XS.iload X5.here hx rfl (hb hby d6_20) rfl ?_
    show Stp p e below T5 m 22 #[.val (.ref pr0), .val (.ref w_truth_pr0), .val (.int (8 : Int32)), .val (.int (1 : Int32)), .val (.int c1_w_truth_pr0)] [(.int c1_w_truth_pr0)] _
    refine XS.aloadN X5.here hx rfl (hb hby d6_22) rfl rfl ?_
    show Stp p e below T5 m 23 #[.val (.ref pr0), .val (.ref w_truth_pr0), .val (.int (8 : Int32)), .val (.int (1 : Int32)), .val (.int c1_w_truth_pr0)] [(.ref pr0), (.int c1_w_truth_pr0)] _
    refine st10 _ ?_
    show Stp p e below T10 m 26 #[.val (.ref pr0), .val (.ref w_truth_pr0), .val (.int (8 : Int32)), .val (.int (1 : Int32)), .val (.int c1_w_truth_pr0)] [(.ref w_truth_pr0), (.int c1_w_truth_pr0)] _
    refine XS.iconst X10.here hx rfl (hb hby d6_26) ?_
    show Stp p e below T10 m 27 #[.val (.ref pr0), .val (.ref w_truth_pr0), .val (.int (8 : Int32)), .val (.int (1 : Int32)), .val (.int c1_w_truth_pr0)] [(.int (0 : Int32)), (.ref w_truth_pr0), (.int c1_w_truth_pr0)] _
    refine X10.baloadBooleans hx (j := (0 : Int32)) (v := (.int c0_w_truth_pr0)) (by rw [e10]; exact Arc11.1) (State.isArrayOf_alike hZ.alike Arc11.2.1) Arc11.2.2 hin12 (Has.at Hc11 hin12 rfl) (g := (mkF m 27 #[.val (.ref pr0), .val (.ref w_truth_pr0), .val (.int (8 : Int32)), .val (.int (1 : Int32)), .val (.int c1_w_truth_pr0)] [(.int (0 : Int32)), (.ref w_truth_pr0), (.int c1_w_truth_pr0)])) rfl rfl (hb hby d6_27) _ ?_
    show Stp p e below T10 m 28 #[.val (.ref pr0), .val (.ref w_truth_pr0), .val (.int (8 : Int32)), .val (.int (1 : Int32)), .val (.int c1_w_truth_pr0)] [(.int c0_w_truth_pr0), (.int c1_w_truth_pr0)] _
    refine XS.icmpYes X10.here hx rfl (pc0 := 28) (pc' := 33) rfl (hb hby d6_28) rfl (teq hc28_0).1 (by decide) (by decide) ?_
    show Stp p e below T10 m 33 #[.val (.ref pr0), .val (.ref w_truth_pr0), .val (.int (8 : Int32)), .val (.int (1 : Int32)), .val (.int c1_w_truth_pr0)] [] _
    refine XS.iinc X10.here hx rfl (hb hby d6_33) rfl (l' := #[.val (.ref pr0), .val (.ref w_truth_pr0), .val (.int (8 : Int32)), .val (.int (2 : Int32)), .val (.int c1_w_truth_pr0)]) rfl ?_
    show Stp p e below T10 m 36 #[.val (.ref pr0), .val (.ref w_truth_pr0), .val (.int (8 : Int32)), .val (.int (2 : Int32)), .val (.int c1_w_truth_pr0)] [] _
    refine XS.goto X10.here hx rfl (pc0 := 36) (pc' := 10) rfl (hb hby d6_36) (by decide) (by decide) ?_
    show Stp p e below T10 m 10 #[.val (.ref pr0), .val (.ref w_truth_pr0), .val (.int (8 : Int32)), .val (.int (2 : Int32)), .val (.int c1_w_truth_pr0)] [] _
    refine XS.iloadN X10.here hx rfl (hb hby d6_10) rfl ?_
    show Stp p e below T10 m 11 #[.val (.ref pr0), .val (.ref w_truth_pr0), .val (.int (8 : Int32)), .val (.int (2 : Int32)), .val (.int c1_w_truth_pr0)] [(.int (2 : Int32))] _
    refine XS.iloadN X10.here hx rfl (hb hby d6_11) rfl ?_
    show Stp p e below T10 m 12 #[.val (.ref pr0), .val (.ref w_truth_pr0), .val (.int (8 : Int32)), .val (.int (2 : Int32)), .val (.int c1_w_truth_pr0)] [(.int (8 : Int32)), (.int (2 : Int32))] _
    refine XS.icmpNo X10.here hx rfl (hb hby d6_12) rfl (tlt (by decide : (2 : Int32) < (8 : Int32))).2.1 ?_
    show Stp p e below T10 m 15 #[.val (.ref pr0), .val (.ref w_truth_pr0), .val (.int (8 : Int32)), .val (.int (2 : Int32)), .val (.int c1_w_truth_pr0)] [] _
    refine XS.aloadN X10.here hx rfl (hb hby d6_15) rfl rfl ?_
    show Stp p e below T10 m 16 #[.val (.ref pr0), .val (.ref w_truth_pr0), .val (.int (8 : Int32)), .val (.int (2 : Int32)), .val (.int c1_w_truth_pr0)] [(.ref w_truth_pr0)] _
    refine XS.iloadN X10.here hx rfl (hb hby d6_16) rfl ?_
    show Stp p e below T10 m 17 #[.val (.ref pr0), .val (.ref w_truth_pr0), .val (.int (8 : Int32)), .val (.int (2 : Int32)), .val (.int c1_w_truth_pr0)] [(.int (2 : Int32)), (.ref w_truth_pr0)] _
    refine X10.baloadBooleans hx (j := (2 : Int32)) (v := (.int c2_w_truth_pr0)) (by rw [e10]; exact Arc13.1) (State.isArrayOf_alike hZ.alike Arc13.2.1) Arc13.2.2 hin14 (Has.at Hc13 hin14 rfl) (g := (mkF m 17 #[.val (.ref pr0), .val (.ref w_truth_pr0), .val (.int (8 : Int32)), .val (.int (2 : Int32)), .val (.int c1_w_truth_pr0)] [(.int (2 : Int32)), (.ref w_truth_pr0)])) rfl rfl (hb hby d6_17) _ ?_
    show Stp p e below T10 m 18 #[.val (.ref pr0), .val (.ref w_truth_pr0), .val (.int (8 : Int32)), .val (.int (2 : Int32)), .val (.int c1_w_truth_pr0)] [(.int c2_w_truth_pr0)] _
    refine XS.istore X10.here hx rfl (hb hby d6_18) rfl (l' := #[.val (.ref pr0), .val (.ref w_truth_pr0), .val (.int (8 : Int32)), .val (.int (2 : Int32)), .val (.int c2_w_truth_pr0)]) rfl ?_
    show Stp p e below T10 m 20 #[.val (.ref pr0), .val (.ref w_truth_pr0), .val (.int (8 : Int32)), .val (.int (2 : Int32)), .val (.int c2_w_truth_pr0)] [] _
    refine XS.iload X10.here hx rfl (hb hby d6_20) rfl ?_
    show Stp p e below T10 m 22 #[.val (.ref pr0), .val (.ref w_truth_pr0), .val (.int (8 : Int32)), .val (.int (2 : Int32)), .val (.int c2_w_truth_pr0)] [(.int c2_w_truth_pr0)] _
    refine XS.aloadN X10.here hx rfl (hb hby d6_22) rfl rfl ?_
    show Stp p e below T10 m 23 #[.val (.ref pr0), .val (.ref w_truth_pr0), .val (.int (8 : Int32)), .val (.int (2 : Int32)), .val (.int c2_w_truth_pr0)] [(.ref pr0), (.int c2_w_truth_pr0)] _
    refine st15 _ ?_
    show Stp p e below T15 m 26 #[.val (.ref pr0), .val (.ref w_truth_pr0), .val (.int (8 : Int32)), .val (.int (2 : Int32)), .val (.int c2_w_truth_pr0)] [(.ref w_truth_pr0), (.int c2_w_truth_pr0)] _
    refine XS.iconst X15.here hx rfl (hb hby d6_26) ?_
    show Stp p e below T15 m 27 #[.val (.ref pr0), .val (.ref w_truth_pr0), .val (.int (8 : Int32)), .val (.int (2 : Int32)), .val (.int c2_w_truth_pr0)] [(.int (0 : Int32)), (.ref w_truth_pr0), (.int c2_w_truth_pr0)] _
    refine X15.baloadBooleans hx (j := (0 : Int32)) (v := (.int c0_w_truth_pr0)) (by rw [e15]; exact Arc16.1) (State.isArrayOf_alike hZ.alike Arc16.2.1) Arc16.2.2 hin17 (Has.at Hc16 hin17 rfl) (g := (mkF m 27 #[.val (.ref pr0), .val (.ref w_truth_pr0), .val (.int (8 : Int32)), .val (.int (2 : Int32)), .val (.int c2_w_truth_pr0)] [(.int (0 : Int32)), (.ref w_truth_pr0), (.int c2_w_truth_pr0)])) rfl rfl (hb hby d6_27) _ ?_
    show Stp p e below T15 m 28 #[.val (.ref pr0), .val (.ref w_truth_pr0), .val (.int (8 : Int32)), .val (.int (2 : Int32)), .val (.int c2_w_truth_pr0)] [(.int c0_w_truth_pr0), (.int c2_w_truth_pr0)] _
    refine XS.icmpYes X15.here hx rfl (pc0 := 28) (pc' := 33) rfl (hb hby d6_28) rfl (teq hc28_1).1 (by decide) (by decide) ?_
    show Stp p e below T15 m 33 #[.val (.ref pr0), .val (.ref w_truth_pr0), .val (.int (8 : Int32)), .val (.int (2 : Int32)), .val (.int c2_w_truth_pr0)] [] _
    refine XS.iinc X15.here hx rfl (hb hby d6_33) rfl (l' := #[.val (.ref pr0), .val (.ref w_truth_pr0), .val (.int (8 : Int32)), .val (.int (3 : Int32)), .val (.int c2_w_truth_pr0)]) rfl ?_
    show Stp p e below T15 m 36 #[.val (.ref pr0), .val (.ref w_truth_pr0), .val (.int (8 : Int32)), .val (.int (3 : Int32)), .val (.int c2_w_truth_pr0)] [] _
    refine XS.goto X15.here hx rfl (pc0 := 36) (pc' := 10) rfl (hb hby d6_36) (by decide) (by decide) ?_
    show Stp p e below T15 m 10 #[.val (.ref pr0), .val (.ref w_truth_pr0), .val (.int (8 : Int32)), .val (.int (3 : Int32)), .val (.int c2_w_truth_pr0)] [] _
    refine XS.iloadN X15.here hx rfl (hb hby d6_10) rfl ?_
    show Stp p e below T15 m 11 #[.val (.ref pr0), .val (.ref w_truth_pr0), .val (.int (8 : Int32)), .val (.int (3 : Int32)), .val (.int c2_w_truth_pr0)] [(.int (3 : Int32))] _
    refine XS.iloadN X15.here hx rfl (hb hby d6_11) rfl ?_
    show Stp p e below T15 m 12 #[.val (.ref pr0), .val (.ref w_truth_pr0), .val (.int (8 : Int32)), .val (.int (3 : Int32)), .val (.int c2_w_truth_pr0)] [(.int (8 : Int32)), (.int (3 : Int32))] _
    refine XS.icmpNo X15.here hx rfl (hb hby d6_12) rfl (tlt (by decide : (3 : Int32) < (8 : Int32))).2.1 ?_
    show Stp p e below T15 m 15 #[.val (.ref pr0), .val (.ref w_truth_pr0), .val (.int (8 : Int32)), .val (.int (3 : Int32)), .val (.int c2_w_truth_pr0)] [] _
    refine XS.aloadN X15.here hx rfl (hb hby d6_15) rfl rfl ?_
    show Stp p e below T15 m 16 #[.val (.ref pr0), .val (.ref w_truth_pr0), .val (.int (8 : Int32)), .val (.int (3 : Int32)), .val (.int c2_w_truth_pr0)] [(.ref w_truth_pr0)] _
    refine XS.iloadN X15.here hx rfl (hb hby d6_16) rfl ?_
    show Stp p e below T15 m 17 #[.val (.ref pr0), .val (.ref w_truth_pr0), .val (.int (8 : Int32)), .val (.int (3 : Int32)), .val (.int c2_w_truth_pr0)] [(.int (3 : Int32)), (.ref w_truth_pr0)] _
    refine X15.baloadBooleans hx (j := (3 : Int32)) (v := (.int c3_w_truth_pr0)) (by rw [e15]; exact Arc18.1) (State.isArrayOf_alike hZ.alike Arc18.2.1) Arc18.2.2 hin19 (Has.at Hc18 hin19 rfl) (g := (mkF m 17 #[.val (.ref pr0), .val (.ref w_truth_pr0), .val (.int (8 : Int32)), .val (.int (3 : Int32)), .val (.int c2_w_truth_pr0)] [(.int (3 : Int32)), (.ref w_truth_pr0)])) rfl rfl (hb hby d6_17) _ ?_
    show Stp p e below T15 m 18 #[.val (.ref pr0), .val (.ref w_truth_pr0), .val (.int (8 : Int32)), .val (.int (3 : Int32)), .val (.int c2_w_truth_pr0)] [(.int c3_w_truth_pr0)] _
    refine XS.istore X15.here hx rfl (hb hby d6_18) rfl (l' := #[.val (.ref pr0), .val (.ref w_truth_pr0), .val (.int (8 : Int32)), .val (.int (3 : Int32)), .val (.int c3_w_truth_pr0)]) rfl ?_
    show Stp p e below T15 m 20 #[.val (.ref pr0), .val (.ref w_truth_pr0), .val (.int (8 : Int32)), .val (.int (3 : Int32)), .val (.int c3_w_truth_pr0)] [] _
    refine XS.iload X15.here hx rfl (hb hby d6_20) rfl ?_
    show Stp p e below T15 m 22 #[.val (.ref pr0), .val (.ref w_truth_pr0), .val (.int (8 : Int32)), .val (.int (3 : Int32)), .val (.int c3_w_truth_pr0)] [(.int c3_w_truth_pr0)] _
    refine XS.aloadN X15.here hx rfl (hb hby d6_22) rfl rfl ?_
    show Stp p e below T15 m 23 #[.val (.ref pr0), .val (.ref w_truth_pr0), .val (.int (8 : Int32)), .val (.int (3 : Int32)), .val (.int c3_w_truth_pr0)] [(.ref pr0), (.int c3_w_truth_pr0)] _
    refine st20 _ ?_
    show Stp p e below T20 m 26 #[.val (.ref pr0), .val (.ref w_truth_pr0), .val (.int (8 : Int32)), .val (.int (3 : Int32)), .val (.int c3_w_truth_pr0)] [(.ref w_truth_pr0), (.int c3_w_truth_pr0)] _
    refine XS.iconst X20.here hx rfl (hb hby d6_26) ?_
    show Stp p e below T20 m 27 #[.val (.ref pr0), .val (.ref w_truth_pr0), .val (.int (8 : Int32)), .val (.int (3 : Int32)), .val (.int c3_w_truth_pr0)] [(.int (0 : Int32)), (.ref w_truth_pr0), (.int c3_w_truth_pr0)] _
    refine X20.baloadBooleans hx (j := (0 : Int32)) (v := (.int c0_w_truth_pr0)) (by rw [e20]; exact Arc21.1) (State.isArrayOf_alike hZ.alike Arc21.2.1) Arc21.2.2 hin22 (Has.at Hc21 hin22 rfl) (g := (mkF m 27 #[.val (.ref pr0), .val (.ref w_truth_pr0), .val (.int (8 : Int32)), .val (.int (3 : Int32)), .val (.int c3_w_truth_pr0)] [(.int (0 : Int32)), (.ref w_truth_pr0), (.int c3_w_truth_pr0)])) rfl rfl (hb hby d6_27) _ ?_
    show Stp p e below T20 m 28 #[.val (.ref pr0), .val (.ref w_truth_pr0), .val (.int (8 : Int32)), .val (.int (3 : Int32)), .val (.int c3_w_truth_pr0)] [(.int c0_w_truth_pr0), (.int c3_w_truth_pr0)] _
    refine XS.icmpYes X20.here hx rfl (pc0 := 28) (pc' := 33) rfl (hb hby d6_28) rfl (teq hc28_2).1 (by decide) (by decide) ?_
    show Stp p e below T20 m 33 #[.val (.ref pr0), .val (.ref w_truth_pr0), .val (.int (8 : Int32)), .val (.int (3 : Int32)), .val (.int c3_w_truth_pr0)] [] _
    refine XS.iinc X20.here hx rfl (hb hby d6_33) rfl (l' := #[.val (.ref pr0), .val (.ref w_truth_pr0), .val (.int (8 : Int32)), .val (.int (4 : Int32)), .val (.int c3_w_truth_pr0)]) rfl ?_
    show Stp p e below T20 m 36 #[.val (.ref pr0), .val (.ref w_truth_pr0), .val (.int (8 : Int32)), .val (.int (4 : Int32)), .val (.int c3_w_truth_pr0)] [] _
    refine XS.goto X20.here hx rfl (pc0 := 36) (pc' := 10) rfl (hb hby d6_36) (by decide) (by decide) ?_
    show Stp p e below T20 m 10 #[.val (.ref pr0), .val (.ref w_truth_pr0), .val (.int (8 : Int32)), .val (.int (4 : Int32)), .val (.int c3_w_truth_pr0)] [] _
    refine XS.iloadN X20.here hx rfl (hb hby d6_10) rfl ?_
    show Stp p e below T20 m 11 #[.val (.ref pr0), .val (.ref w_truth_pr0), .val (.int (8 : Int32)), .val (.int (4 : Int32)), .val (.int c3_w_truth_pr0)] [(.int (4 : Int32))] _
    refine XS.iloadN X20.here hx rfl (hb hby d6_11) rfl ?_
    show Stp p e below T20 m 12 #[.val (.ref pr0), .val (.ref w_truth_pr0), .val (.int (8 : Int32)), .val (.int (4 : Int32)), .val (.int c3_w_truth_pr0)] [(.int (8 : Int32)), (.int (4 : Int32))] _
    refine XS.icmpNo X20.here hx rfl (hb hby d6_12) rfl (tlt (by decide : (4 : Int32) < (8 : Int32))).2.1 ?_
    show Stp p e below T20 m 15 #[.val (.ref pr0), .val (.ref w_truth_pr0), .val (.int (8 : Int32)), .val (.int (4 : Int32)), .val (.int c3_w_truth_pr0)] [] _
    refine XS.aloadN X20.here hx rfl (hb hby d6_15) rfl rfl ?_
    show Stp p e below T20 m 16 #[.val (.ref pr0), .val (.ref w_truth_pr0), .val (.int (8 : Int32)), .val (.int (4 : Int32)), .val (.int c3_w_truth_pr0)] [(.ref w_truth_pr0)] _
    refine XS.iloadN X20.here hx rfl (hb hby d6_16) rfl ?_
    show Stp p e below T20 m 17 #[.val (.ref pr0), .val (.ref w_truth_pr0), .val (.int (8 : Int32)), .val (.int (4 : Int32)), .val (.int c3_w_truth_pr0)] [(.int (4 : Int32)), (.ref w_truth_pr0)] _
    refine X20.baloadBooleans hx (j := (4 : Int32)) (v := (.int c4_w_truth_pr0)) (by rw [e20]; exact Arc23.1) (State.isArrayOf_alike hZ.alike Arc23.2.1) Arc23.2.2 hin24 (Has.at Hc23 hin24 rfl) (g := (mkF m 17 #[.val (.ref pr0), .val (.ref w_truth_pr0), .val (.int (8 : Int32)), .val (.int (4 : Int32)), .val (.int c3_w_truth_pr0)] [(.int (4 : Int32)), (.ref w_truth_pr0)])) rfl rfl (hb hby d6_17) _ ?_
    show Stp p e below T20 m 18 #[.val (.ref pr0), .val (.ref w_truth_pr0), .val (.int (8 : Int32)), .val (.int (4 : Int32)), .val (.int c3_w_truth_pr0)] [(.int c4_w_truth_pr0)] _
    refine XS.istore X20.here hx rfl (hb hby d6_18) rfl (l' := #[.val (.ref pr0), .val (.ref w_truth_pr0), .val (.int (8 : Int32)), .val (.int (4 : Int32)), .val (.int c4_w_truth_pr0)]) rfl ?_
    show Stp p e below T20 m 20 #[.val (.ref pr0), .val (.ref w_truth_pr0), .val (.int (8 : Int32)), .val (.int (4 : Int32)), .val (.int c4_w_truth_pr0)] [] _
    refine XS.iload X20.here hx rfl (hb hby d6_20) rfl ?_
    show Stp p e below T20 m 22 #[.val (.ref pr0), .val (.ref w_truth_pr0), .val (.int (8 : Int32)), .val (.int (4 : Int32)), .val (.int c4_w_truth_pr0)] [(.int c4_w_truth_pr0)] _
    refine XS.aloadN X20.here hx rfl (hb hby d6_22) rfl rfl ?_
    show Stp p e below T20 m 23 #[.val (.ref pr0), .val (.ref w_truth_pr0), .val (.int (8 : Int32)), .val (.int (4 : Int32)), .val (.int c4_w_truth_pr0)] [(.ref pr0), (.int c4_w_truth_pr0)] _
    refine st25 _ ?_
    show Stp p e below T25 m 26 #[.val (.ref pr0), .val (.ref w_truth_pr0), .val (.int (8 : Int32)), .val (.int (4 : Int32)), .val (.int c4_w_truth_pr0)] [(.ref w_truth_pr0), (.int c4_w_truth_pr0)] _
    refine XS.iconst X25.here hx rfl (hb hby d6_26) ?_
    show Stp p e below T25 m 27 #[.val (.ref pr0), .val (.ref w_truth_pr0), .val (.int (8 : Int32)), .val (.int (4 : Int32)), .val (.int c4_w_truth_pr0)] [(.int (0 : Int32)), (.ref w_truth_pr0), (.int c4_w_truth_pr0)] _
    refine X25.baloadBooleans hx (j := (0 : Int32)) (v := (.int c0_w_truth_pr0)) (by rw [e25]; exact Arc26.1) (State.isArrayOf_alike hZ.alike Arc26.2.1) Arc26.2.2 hin27 (Has.at Hc26 hin27 rfl) (g := (mkF m 27 #[.val (.ref pr0), .val (.ref w_truth_pr0), .val (.int (8 : Int32)), .val (.int (4 : Int32)), .val (.int c4_w_truth_pr0)] [(.int (0 : Int32)), (.ref w_truth_pr0), (.int c4_w_truth_pr0)])) rfl rfl (hb hby d6_27) _ ?_
    show Stp p e below T25 m 28 #[.val (.ref pr0), .val (.ref w_truth_pr0), .val (.int (8 : Int32)), .val (.int (4 : Int32)), .val (.int c4_w_truth_pr0)] [(.int c0_w_truth_pr0), (.int c4_w_truth_pr0)] _
    refine XS.icmpNo X25.here hx rfl (hb hby d6_28) rfl (feq hc28_3).1 ?_
    show Stp p e below T25 m 31 #[.val (.ref pr0), .val (.ref w_truth_pr0), .val (.int (8 : Int32)), .val (.int (4 : Int32)), .val (.int c4_w_truth_pr0)] [] _
    refine XS.iconst X25.here hx rfl (hb hby d6_31) ?_
    show Stp p e below T25 m 32 #[.val (.ref pr0), .val (.ref w_truth_pr0), .val (.int (8 : Int32)), .val (.int (4 : Int32)), .val (.int c4_w_truth_pr0)] [(.int (0 : Int32))] _
    exact retN X25 hx (t := .boolean) Bd.returns (by simp) (hb hby d6_32) hr
  · show Q6_k3tttf Z pr0 w_truth_pr0 kk_w_truth_pr0 c0_w_truth_pr0 c1_w_truth_pr0 c2_w_truth_pr0 c3_w_truth_pr0 c4_w_truth_pr0 c5_w_truth_pr0 c6_w_truth_pr0 c7_w_truth_pr0 h0 n0 _ T25.heap _
    rw [e25]
    exact ⟨rfl, N0, rfl⟩
def Q6_k3ttf (Z : State) (pr0 : Addr) (w_truth_pr0 : Addr) (kk_w_truth_pr0 : ClassId) (c0_w_truth_pr0 : Int32) (c1_w_truth_pr0 : Int32) (c2_w_truth_pr0 : Int32) (c3_w_truth_pr0 : Int32) (c4_w_truth_pr0 : Int32) (c5_w_truth_pr0 : Int32) (c6_w_truth_pr0 : Int32) (c7_w_truth_pr0 : Int32) (h0 : Heap) (n0 : Nat) (v : Option Value) (h : Heap) (L : List Loc) : Prop := v = some (.int (0 : Int32)) ∧ Fr n0 L ∧ h = h0
set_option maxRecDepth 65536 in
set_option maxHeartbeats 40000000 in
theorem rm6_k3ttf (l : Launch) (Z : State) (a0 : Array Value) (hw : ∀ d ∈ tables_1, d.before a0 Z = true) (ws : List Jvm.Cond) (pr0 : Addr) (w_truth_pr0 : Addr) (kk_w_truth_pr0 : ClassId) (c0_w_truth_pr0 : Int32) (c1_w_truth_pr0 : Int32) (c2_w_truth_pr0 : Int32) (c3_w_truth_pr0 : Int32) (c4_w_truth_pr0 : Int32) (c5_w_truth_pr0 : Int32) (c6_w_truth_pr0 : Int32) (c7_w_truth_pr0 : Int32) (h0 : Heap) (n0 : Nat) (Z0 : n0 ≤ h0.size) (O0 : Old Z n0 h0) (F_truth_pr0 : Fld Z h0 pr0 "com/example/gudl/gudl/GroundFactor" "truth" "[Z" (.ref w_truth_pr0)) (V_w_truth_pr0 : Arv Z h0 w_truth_pr0 kk_w_truth_pr0 .boolean (8 : Int32) [(.int c0_w_truth_pr0), (.int c1_w_truth_pr0), (.int c2_w_truth_pr0), (.int c3_w_truth_pr0), (.int c4_w_truth_pr0), (.int c5_w_truth_pr0), (.int c6_w_truth_pr0), (.int c7_w_truth_pr0)] (.int (0 : Int32))) (hc28_0 : c1_w_truth_pr0 = c0_w_truth_pr0) (hc28_1 : c2_w_truth_pr0 = c0_w_truth_pr0) (hc28_2 : ¬ (c3_w_truth_pr0 = c0_w_truth_pr0)) :
    MetFree l (⟨"com/example/gudl/gudl/GroundFactor", "isConstant", "()Z"⟩ : MethodName) (head1 (Jvm.Cond.code (⟨"com/example/gudl/gudl/GroundFactor", "isConstant", "()Z"⟩ : MethodName) prog_42_method_8_code 5 (some .boolean) :: ws) ({ frames := 0, cells := 0, slots := 0, locals := 0 } : Room)) (fun a U => a = #[(.ref pr0)] ∧ Z.Warmed39 U.vm ∧ U.heap = h0) (fun _ _ _ _ _ => True) (fun _ U o U' => ∃ v L, o = .returned v ∧ Q6_k3ttf Z pr0 w_truth_pr0 kk_w_truth_pr0 c0_w_truth_pr0 c1_w_truth_pr0 c2_w_truth_pr0 c3_w_truth_pr0 c4_w_truth_pr0 c5_w_truth_pr0 c6_w_truth_pr0 c7_w_truth_pr0 h0 n0 v U'.heap L ∧ FrameEnd U o U' L ({ frames := 0, cells := 0, slots := 0, locals := 0 } : Room).cells ({ frames := 0, cells := 0, slots := 0, locals := 0 } : Room).slots) := by
  refine MetFree.of_bodySF (plainFor_of_name pn_6) hisR ?_
  intro p e s m args below meth c s₁ Bd hml0 hP hK
  obtain ⟨rfl, hZ, hh⟩ := hP
  have hx := Bd.exec
  have hby := Bd.bytes
  have hml : c.maxLocals = 5 := hml0
  have hown : s.vm.findClass "com/example/gudl/gudl/GroundFactor" = some m.cls := findClass_of_methodNamed Bd.named
  have hnm := (name_of_methodNamed Bd.named Bd.method).1
  have X0 : Stand p l e ({ frames := 0, cells := 0, slots := 0, locals := 0 } : Room) s m #[(.ref pr0)] below meth c s₁ [] 0 0 := Stand.of_body Bd
  have e0 : s₁.heap = h0 := by rw [← hh, Bd.state]; rfl
  have N0 := Fr.nil n0
  have pre0 : ∀ t, Steps p.tables e below (s₁.setTop (mkF m 0 #[.val (.ref pr0), .unset, .unset, .unset, .unset] [])) t → Steps p.tables e below (s₁.setTop (entryFrame m #[(.ref pr0)] 5)) t := fun t k => castTop (ef_6 m pr0) k
  obtain ⟨T1, X1, e1, st1⟩ := getF X0 hx hZ hown (host := "") (Or.inl (own_W hw 25 rfl)) Via.refl e0 F_truth_pr0 (g := (mkF m 1 #[.val (.ref pr0), .unset, .unset, .unset, .unset] [(.ref pr0)])) rfl rfl (hb hby d6_1)
  have V_c2 := V_w_truth_pr0
  obtain ⟨c2, Arc2, qc2, Sc2, Nc2, Hc2, Gc2⟩ := V_c2
  have V_c3 := V_w_truth_pr0
  obtain ⟨c3, Arc3, qc3, Sc3, Nc3, Hc3, Gc3⟩ := V_c3
  have hin4 : ¬ ((0 : Int32) < 0 ∨ c3.slots.size ≤ ((0 : Int32)).toNatClampNeg) := inb_of Sc3 ⟨by decide, by decide⟩
  obtain ⟨T5, X5, e5, st5⟩ := getF X1 hx hZ hown (host := "") (Or.inl (own_W hw 25 rfl)) Via.refl e1 F_truth_pr0 (g := (mkF m 23 #[.val (.ref pr0), .val (.ref w_truth_pr0), .val (.int (8 : Int32)), .val (.int (0 : Int32)), .val (.int c0_w_truth_pr0)] [(.ref pr0), (.int c0_w_truth_pr0)])) rfl rfl (hb hby d6_23)
  have V_c6 := V_w_truth_pr0
  obtain ⟨c6, Arc6, qc6, Sc6, Nc6, Hc6, Gc6⟩ := V_c6
  have hin7 : ¬ ((0 : Int32) < 0 ∨ c6.slots.size ≤ ((0 : Int32)).toNatClampNeg) := inb_of Sc6 ⟨by decide, by decide⟩
  have V_c8 := V_w_truth_pr0
  obtain ⟨c8, Arc8, qc8, Sc8, Nc8, Hc8, Gc8⟩ := V_c8
  have hin9 : ¬ ((1 : Int32) < 0 ∨ c8.slots.size ≤ ((1 : Int32)).toNatClampNeg) := inb_of Sc8 ⟨by decide, by decide⟩
  obtain ⟨T10, X10, e10, st10⟩ := getF X5 hx hZ hown (host := "") (Or.inl (own_W hw 25 rfl)) Via.refl e5 F_truth_pr0 (g := (mkF m 23 #[.val (.ref pr0), .val (.ref w_truth_pr0), .val (.int (8 : Int32)), .val (.int (1 : Int32)), .val (.int c1_w_truth_pr0)] [(.ref pr0), (.int c1_w_truth_pr0)])) rfl rfl (hb hby d6_23)
  have V_c11 := V_w_truth_pr0
  obtain ⟨c11, Arc11, qc11, Sc11, Nc11, Hc11, Gc11⟩ := V_c11
  have hin12 : ¬ ((0 : Int32) < 0 ∨ c11.slots.size ≤ ((0 : Int32)).toNatClampNeg) := inb_of Sc11 ⟨by decide, by decide⟩
  have V_c13 := V_w_truth_pr0
  obtain ⟨c13, Arc13, qc13, Sc13, Nc13, Hc13, Gc13⟩ := V_c13
  have hin14 : ¬ ((2 : Int32) < 0 ∨ c13.slots.size ≤ ((2 : Int32)).toNatClampNeg) := inb_of Sc13 ⟨by decide, by decide⟩
  obtain ⟨T15, X15, e15, st15⟩ := getF X10 hx hZ hown (host := "") (Or.inl (own_W hw 25 rfl)) Via.refl e10 F_truth_pr0 (g := (mkF m 23 #[.val (.ref pr0), .val (.ref w_truth_pr0), .val (.int (8 : Int32)), .val (.int (2 : Int32)), .val (.int c2_w_truth_pr0)] [(.ref pr0), (.int c2_w_truth_pr0)])) rfl rfl (hb hby d6_23)
  have V_c16 := V_w_truth_pr0
  obtain ⟨c16, Arc16, qc16, Sc16, Nc16, Hc16, Gc16⟩ := V_c16
  have hin17 : ¬ ((0 : Int32) < 0 ∨ c16.slots.size ≤ ((0 : Int32)).toNatClampNeg) := inb_of Sc16 ⟨by decide, by decide⟩
  have V_c18 := V_w_truth_pr0
  obtain ⟨c18, Arc18, qc18, Sc18, Nc18, Hc18, Gc18⟩ := V_c18
  have hin19 : ¬ ((3 : Int32) < 0 ∨ c18.slots.size ≤ ((3 : Int32)).toNatClampNeg) := inb_of Sc18 ⟨by decide, by decide⟩
  obtain ⟨T20, X20, e20, st20⟩ := getF X15 hx hZ hown (host := "") (Or.inl (own_W hw 25 rfl)) Via.refl e15 F_truth_pr0 (g := (mkF m 23 #[.val (.ref pr0), .val (.ref w_truth_pr0), .val (.int (8 : Int32)), .val (.int (3 : Int32)), .val (.int c3_w_truth_pr0)] [(.ref pr0), (.int c3_w_truth_pr0)])) rfl rfl (hb hby d6_23)
  have V_c21 := V_w_truth_pr0
  obtain ⟨c21, Arc21, qc21, Sc21, Nc21, Hc21, Gc21⟩ := V_c21
  have hin22 : ¬ ((0 : Int32) < 0 ∨ c21.slots.size ≤ ((0 : Int32)).toNatClampNeg) := inb_of Sc21 ⟨by decide, by decide⟩
  obtain ⟨fs, hr, hrun, hended, hW, hsame⟩ := X20.leave (v := some (.int (0 : Int32))) (fun h => by rw [Bd.returns] at h; cases h)
  refine ⟨_, _, pre0 _ ?_, hrun, hended, _, _, rfl, ?_, ⟨_, rfl⟩, hW, hsame.mono (by decide) (by decide)⟩
  · show Stp p e below s₁ m 0 #[.val (.ref pr0), .unset, .unset, .unset, .unset] [] _
    refine XS.aloadN X0.here hx rfl (hb hby d6_0) rfl rfl ?_
    show Stp p e below s₁ m 1 #[.val (.ref pr0), .unset, .unset, .unset, .unset] [(.ref pr0)] _
    refine st1 _ ?_
    show Stp p e below T1 m 4 #[.val (.ref pr0), .unset, .unset, .unset, .unset] [(.ref w_truth_pr0)] _
    refine XS.astoreN X1.here hx rfl (hb hby d6_4) rfl rfl (l' := #[.val (.ref pr0), .val (.ref w_truth_pr0), .unset, .unset, .unset]) rfl ?_
    show Stp p e below T1 m 5 #[.val (.ref pr0), .val (.ref w_truth_pr0), .unset, .unset, .unset] [] _
    refine XS.aloadN X1.here hx rfl (hb hby d6_5) rfl rfl ?_
    show Stp p e below T1 m 6 #[.val (.ref pr0), .val (.ref w_truth_pr0), .unset, .unset, .unset] [(.ref w_truth_pr0)] _
    refine X1.arraylength hx (by rw [e1]; exact Arc2.1) (State.isArrayOf_alike hZ.alike Arc2.2.1) (g := (mkF m 6 #[.val (.ref pr0), .val (.ref w_truth_pr0), .unset, .unset, .unset] [(.ref w_truth_pr0)])) rfl rfl (hb hby d6_6) _ ?_
    rw [len_of Sc2 Nc2]
    show Stp p e below T1 m 7 #[.val (.ref pr0), .val (.ref w_truth_pr0), .unset, .unset, .unset] [(.int (8 : Int32))] _
    refine XS.istoreN X1.here hx rfl (hb hby d6_7) rfl (l' := #[.val (.ref pr0), .val (.ref w_truth_pr0), .val (.int (8 : Int32)), .unset, .unset]) rfl ?_
    show Stp p e below T1 m 8 #[.val (.ref pr0), .val (.ref w_truth_pr0), .val (.int (8 : Int32)), .unset, .unset] [] _
    refine XS.iconst X1.here hx rfl (hb hby d6_8) ?_
    show Stp p e below T1 m 9 #[.val (.ref pr0), .val (.ref w_truth_pr0), .val (.int (8 : Int32)), .unset, .unset] [(.int (0 : Int32))] _
    refine XS.istoreN X1.here hx rfl (hb hby d6_9) rfl (l' := #[.val (.ref pr0), .val (.ref w_truth_pr0), .val (.int (8 : Int32)), .val (.int (0 : Int32)), .unset]) rfl ?_
    show Stp p e below T1 m 10 #[.val (.ref pr0), .val (.ref w_truth_pr0), .val (.int (8 : Int32)), .val (.int (0 : Int32)), .unset] [] _
    refine XS.iloadN X1.here hx rfl (hb hby d6_10) rfl ?_
    show Stp p e below T1 m 11 #[.val (.ref pr0), .val (.ref w_truth_pr0), .val (.int (8 : Int32)), .val (.int (0 : Int32)), .unset] [(.int (0 : Int32))] _
    refine XS.iloadN X1.here hx rfl (hb hby d6_11) rfl ?_
    show Stp p e below T1 m 12 #[.val (.ref pr0), .val (.ref w_truth_pr0), .val (.int (8 : Int32)), .val (.int (0 : Int32)), .unset] [(.int (8 : Int32)), (.int (0 : Int32))] _
    refine XS.icmpNo X1.here hx rfl (hb hby d6_12) rfl (tlt (by decide : (0 : Int32) < (8 : Int32))).2.1 ?_
    show Stp p e below T1 m 15 #[.val (.ref pr0), .val (.ref w_truth_pr0), .val (.int (8 : Int32)), .val (.int (0 : Int32)), .unset] [] _
    refine XS.aloadN X1.here hx rfl (hb hby d6_15) rfl rfl ?_
    show Stp p e below T1 m 16 #[.val (.ref pr0), .val (.ref w_truth_pr0), .val (.int (8 : Int32)), .val (.int (0 : Int32)), .unset] [(.ref w_truth_pr0)] _
    refine XS.iloadN X1.here hx rfl (hb hby d6_16) rfl ?_
    show Stp p e below T1 m 17 #[.val (.ref pr0), .val (.ref w_truth_pr0), .val (.int (8 : Int32)), .val (.int (0 : Int32)), .unset] [(.int (0 : Int32)), (.ref w_truth_pr0)] _
    refine X1.baloadBooleans hx (j := (0 : Int32)) (v := (.int c0_w_truth_pr0)) (by rw [e1]; exact Arc3.1) (State.isArrayOf_alike hZ.alike Arc3.2.1) Arc3.2.2 hin4 (Has.at Hc3 hin4 rfl) (g := (mkF m 17 #[.val (.ref pr0), .val (.ref w_truth_pr0), .val (.int (8 : Int32)), .val (.int (0 : Int32)), .unset] [(.int (0 : Int32)), (.ref w_truth_pr0)])) rfl rfl (hb hby d6_17) _ ?_
    show Stp p e below T1 m 18 #[.val (.ref pr0), .val (.ref w_truth_pr0), .val (.int (8 : Int32)), .val (.int (0 : Int32)), .unset] [(.int c0_w_truth_pr0)] _
    refine XS.istore X1.here hx rfl (hb hby d6_18) rfl (l' := #[.val (.ref pr0), .val (.ref w_truth_pr0), .val (.int (8 : Int32)), .val (.int (0 : Int32)), .val (.int c0_w_truth_pr0)]) rfl ?_
    show Stp p e below T1 m 20 #[.val (.ref pr0), .val (.ref w_truth_pr0), .val (.int (8 : Int32)), .val (.int (0 : Int32)), .val (.int c0_w_truth_pr0)] [] _
    refine XS.iload X1.here hx rfl (hb hby d6_20) rfl ?_
    show Stp p e below T1 m 22 #[.val (.ref pr0), .val (.ref w_truth_pr0), .val (.int (8 : Int32)), .val (.int (0 : Int32)), .val (.int c0_w_truth_pr0)] [(.int c0_w_truth_pr0)] _
    refine XS.aloadN X1.here hx rfl (hb hby d6_22) rfl rfl ?_
    show Stp p e below T1 m 23 #[.val (.ref pr0), .val (.ref w_truth_pr0), .val (.int (8 : Int32)), .val (.int (0 : Int32)), .val (.int c0_w_truth_pr0)] [(.ref pr0), (.int c0_w_truth_pr0)] _
    refine st5 _ ?_
    show Stp p e below T5 m 26 #[.val (.ref pr0), .val (.ref w_truth_pr0), .val (.int (8 : Int32)), .val (.int (0 : Int32)), .val (.int c0_w_truth_pr0)] [(.ref w_truth_pr0), (.int c0_w_truth_pr0)] _
    refine XS.iconst X5.here hx rfl (hb hby d6_26) ?_
    show Stp p e below T5 m 27 #[.val (.ref pr0), .val (.ref w_truth_pr0), .val (.int (8 : Int32)), .val (.int (0 : Int32)), .val (.int c0_w_truth_pr0)] [(.int (0 : Int32)), (.ref w_truth_pr0), (.int c0_w_truth_pr0)] _
    refine X5.baloadBooleans hx (j := (0 : Int32)) (v := (.int c0_w_truth_pr0)) (by rw [e5]; exact Arc6.1) (State.isArrayOf_alike hZ.alike Arc6.2.1) Arc6.2.2 hin7 (Has.at Hc6 hin7 rfl) (g := (mkF m 27 #[.val (.ref pr0), .val (.ref w_truth_pr0), .val (.int (8 : Int32)), .val (.int (0 : Int32)), .val (.int c0_w_truth_pr0)] [(.int (0 : Int32)), (.ref w_truth_pr0), (.int c0_w_truth_pr0)])) rfl rfl (hb hby d6_27) _ ?_
    show Stp p e below T5 m 28 #[.val (.ref pr0), .val (.ref w_truth_pr0), .val (.int (8 : Int32)), .val (.int (0 : Int32)), .val (.int c0_w_truth_pr0)] [(.int c0_w_truth_pr0), (.int c0_w_truth_pr0)] _
    refine XS.icmpYes X5.here hx rfl (pc0 := 28) (pc' := 33) rfl (hb hby d6_28) rfl (teq (rfl : c0_w_truth_pr0 = c0_w_truth_pr0)).1 (by decide) (by decide) ?_
    show Stp p e below T5 m 33 #[.val (.ref pr0), .val (.ref w_truth_pr0), .val (.int (8 : Int32)), .val (.int (0 : Int32)), .val (.int c0_w_truth_pr0)] [] _
    refine XS.iinc X5.here hx rfl (hb hby d6_33) rfl (l' := #[.val (.ref pr0), .val (.ref w_truth_pr0), .val (.int (8 : Int32)), .val (.int (1 : Int32)), .val (.int c0_w_truth_pr0)]) rfl ?_
    show Stp p e below T5 m 36 #[.val (.ref pr0), .val (.ref w_truth_pr0), .val (.int (8 : Int32)), .val (.int (1 : Int32)), .val (.int c0_w_truth_pr0)] [] _
    refine XS.goto X5.here hx rfl (pc0 := 36) (pc' := 10) rfl (hb hby d6_36) (by decide) (by decide) ?_
    show Stp p e below T5 m 10 #[.val (.ref pr0), .val (.ref w_truth_pr0), .val (.int (8 : Int32)), .val (.int (1 : Int32)), .val (.int c0_w_truth_pr0)] [] _
    refine XS.iloadN X5.here hx rfl (hb hby d6_10) rfl ?_
    show Stp p e below T5 m 11 #[.val (.ref pr0), .val (.ref w_truth_pr0), .val (.int (8 : Int32)), .val (.int (1 : Int32)), .val (.int c0_w_truth_pr0)] [(.int (1 : Int32))] _
    refine XS.iloadN X5.here hx rfl (hb hby d6_11) rfl ?_
    show Stp p e below T5 m 12 #[.val (.ref pr0), .val (.ref w_truth_pr0), .val (.int (8 : Int32)), .val (.int (1 : Int32)), .val (.int c0_w_truth_pr0)] [(.int (8 : Int32)), (.int (1 : Int32))] _
    refine XS.icmpNo X5.here hx rfl (hb hby d6_12) rfl (tlt (by decide : (1 : Int32) < (8 : Int32))).2.1 ?_
    show Stp p e below T5 m 15 #[.val (.ref pr0), .val (.ref w_truth_pr0), .val (.int (8 : Int32)), .val (.int (1 : Int32)), .val (.int c0_w_truth_pr0)] [] _
    refine XS.aloadN X5.here hx rfl (hb hby d6_15) rfl rfl ?_
    show Stp p e below T5 m 16 #[.val (.ref pr0), .val (.ref w_truth_pr0), .val (.int (8 : Int32)), .val (.int (1 : Int32)), .val (.int c0_w_truth_pr0)] [(.ref w_truth_pr0)] _
    refine XS.iloadN X5.here hx rfl (hb hby d6_16) rfl ?_
    show Stp p e below T5 m 17 #[.val (.ref pr0), .val (.ref w_truth_pr0), .val (.int (8 : Int32)), .val (.int (1 : Int32)), .val (.int c0_w_truth_pr0)] [(.int (1 : Int32)), (.ref w_truth_pr0)] _
    refine X5.baloadBooleans hx (j := (1 : Int32)) (v := (.int c1_w_truth_pr0)) (by rw [e5]; exact Arc8.1) (State.isArrayOf_alike hZ.alike Arc8.2.1) Arc8.2.2 hin9 (Has.at Hc8 hin9 rfl) (g := (mkF m 17 #[.val (.ref pr0), .val (.ref w_truth_pr0), .val (.int (8 : Int32)), .val (.int (1 : Int32)), .val (.int c0_w_truth_pr0)] [(.int (1 : Int32)), (.ref w_truth_pr0)])) rfl rfl (hb hby d6_17) _ ?_
    show Stp p e below T5 m 18 #[.val (.ref pr0), .val (.ref w_truth_pr0), .val (.int (8 : Int32)), .val (.int (1 : Int32)), .val (.int c0_w_truth_pr0)] [(.int c1_w_truth_pr0)] _
    refine XS.istore X5.here hx rfl (hb hby d6_18) rfl (l' := #[.val (.ref pr0), .val (.ref w_truth_pr0), .val (.int (8 : Int32)), .val (.int (1 : Int32)), .val (.int c1_w_truth_pr0)]) rfl ?_
    show Stp p e below T5 m 20 #[.val (.ref pr0), .val (.ref w_truth_pr0), .val (.int (8 : Int32)), .val (.int (1 : Int32)), .val (.int c1_w_truth_pr0)] [] _
    refine XS.iload X5.here hx rfl (hb hby d6_20) rfl ?_
    show Stp p e below T5 m 22 #[.val (.ref pr0), .val (.ref w_truth_pr0), .val (.int (8 : Int32)), .val (.int (1 : Int32)), .val (.int c1_w_truth_pr0)] [(.int c1_w_truth_pr0)] _
    refine XS.aloadN X5.here hx rfl (hb hby d6_22) rfl rfl ?_
    show Stp p e below T5 m 23 #[.val (.ref pr0), .val (.ref w_truth_pr0), .val (.int (8 : Int32)), .val (.int (1 : Int32)), .val (.int c1_w_truth_pr0)] [(.ref pr0), (.int c1_w_truth_pr0)] _
    refine st10 _ ?_
    show Stp p e below T10 m 26 #[.val (.ref pr0), .val (.ref w_truth_pr0), .val (.int (8 : Int32)), .val (.int (1 : Int32)), .val (.int c1_w_truth_pr0)] [(.ref w_truth_pr0), (.int c1_w_truth_pr0)] _
    refine XS.iconst X10.here hx rfl (hb hby d6_26) ?_
    show Stp p e below T10 m 27 #[.val (.ref pr0), .val (.ref w_truth_pr0), .val (.int (8 : Int32)), .val (.int (1 : Int32)), .val (.int c1_w_truth_pr0)] [(.int (0 : Int32)), (.ref w_truth_pr0), (.int c1_w_truth_pr0)] _
    refine X10.baloadBooleans hx (j := (0 : Int32)) (v := (.int c0_w_truth_pr0)) (by rw [e10]; exact Arc11.1) (State.isArrayOf_alike hZ.alike Arc11.2.1) Arc11.2.2 hin12 (Has.at Hc11 hin12 rfl) (g := (mkF m 27 #[.val (.ref pr0), .val (.ref w_truth_pr0), .val (.int (8 : Int32)), .val (.int (1 : Int32)), .val (.int c1_w_truth_pr0)] [(.int (0 : Int32)), (.ref w_truth_pr0), (.int c1_w_truth_pr0)])) rfl rfl (hb hby d6_27) _ ?_
    show Stp p e below T10 m 28 #[.val (.ref pr0), .val (.ref w_truth_pr0), .val (.int (8 : Int32)), .val (.int (1 : Int32)), .val (.int c1_w_truth_pr0)] [(.int c0_w_truth_pr0), (.int c1_w_truth_pr0)] _
    refine XS.icmpYes X10.here hx rfl (pc0 := 28) (pc' := 33) rfl (hb hby d6_28) rfl (teq hc28_0).1 (by decide) (by decide) ?_
    show Stp p e below T10 m 33 #[.val (.ref pr0), .val (.ref w_truth_pr0), .val (.int (8 : Int32)), .val (.int (1 : Int32)), .val (.int c1_w_truth_pr0)] [] _
    refine XS.iinc X10.here hx rfl (hb hby d6_33) rfl (l' := #[.val (.ref pr0), .val (.ref w_truth_pr0), .val (.int (8 : Int32)), .val (.int (2 : Int32)), .val (.int c1_w_truth_pr0)]) rfl ?_
    show Stp p e below T10 m 36 #[.val (.ref pr0), .val (.ref w_truth_pr0), .val (.int (8 : Int32)), .val (.int (2 : Int32)), .val (.int c1_w_truth_pr0)] [] _
    refine XS.goto X10.here hx rfl (pc0 := 36) (pc' := 10) rfl (hb hby d6_36) (by decide) (by decide) ?_
    show Stp p e below T10 m 10 #[.val (.ref pr0), .val (.ref w_truth_pr0), .val (.int (8 : Int32)), .val (.int (2 : Int32)), .val (.int c1_w_truth_pr0)] [] _
    refine XS.iloadN X10.here hx rfl (hb hby d6_10) rfl ?_
    show Stp p e below T10 m 11 #[.val (.ref pr0), .val (.ref w_truth_pr0), .val (.int (8 : Int32)), .val (.int (2 : Int32)), .val (.int c1_w_truth_pr0)] [(.int (2 : Int32))] _
    refine XS.iloadN X10.here hx rfl (hb hby d6_11) rfl ?_
    show Stp p e below T10 m 12 #[.val (.ref pr0), .val (.ref w_truth_pr0), .val (.int (8 : Int32)), .val (.int (2 : Int32)), .val (.int c1_w_truth_pr0)] [(.int (8 : Int32)), (.int (2 : Int32))] _
    refine XS.icmpNo X10.here hx rfl (hb hby d6_12) rfl (tlt (by decide : (2 : Int32) < (8 : Int32))).2.1 ?_
    show Stp p e below T10 m 15 #[.val (.ref pr0), .val (.ref w_truth_pr0), .val (.int (8 : Int32)), .val (.int (2 : Int32)), .val (.int c1_w_truth_pr0)] [] _
    refine XS.aloadN X10.here hx rfl (hb hby d6_15) rfl rfl ?_
    show Stp p e below T10 m 16 #[.val (.ref pr0), .val (.ref w_truth_pr0), .val (.int (8 : Int32)), .val (.int (2 : Int32)), .val (.int c1_w_truth_pr0)] [(.ref w_truth_pr0)] _
    refine XS.iloadN X10.here hx rfl (hb hby d6_16) rfl ?_
    show Stp p e below T10 m 17 #[.val (.ref pr0), .val (.ref w_truth_pr0), .val (.int (8 : Int32)), .val (.int (2 : Int32)), .val (.int c1_w_truth_pr0)] [(.int (2 : Int32)), (.ref w_truth_pr0)] _
    refine X10.baloadBooleans hx (j := (2 : Int32)) (v := (.int c2_w_truth_pr0)) (by rw [e10]; exact Arc13.1) (State.isArrayOf_alike hZ.alike Arc13.2.1) Arc13.2.2 hin14 (Has.at Hc13 hin14 rfl) (g := (mkF m 17 #[.val (.ref pr0), .val (.ref w_truth_pr0), .val (.int (8 : Int32)), .val (.int (2 : Int32)), .val (.int c1_w_truth_pr0)] [(.int (2 : Int32)), (.ref w_truth_pr0)])) rfl rfl (hb hby d6_17) _ ?_
    show Stp p e below T10 m 18 #[.val (.ref pr0), .val (.ref w_truth_pr0), .val (.int (8 : Int32)), .val (.int (2 : Int32)), .val (.int c1_w_truth_pr0)] [(.int c2_w_truth_pr0)] _
    refine XS.istore X10.here hx rfl (hb hby d6_18) rfl (l' := #[.val (.ref pr0), .val (.ref w_truth_pr0), .val (.int (8 : Int32)), .val (.int (2 : Int32)), .val (.int c2_w_truth_pr0)]) rfl ?_
    show Stp p e below T10 m 20 #[.val (.ref pr0), .val (.ref w_truth_pr0), .val (.int (8 : Int32)), .val (.int (2 : Int32)), .val (.int c2_w_truth_pr0)] [] _
    refine XS.iload X10.here hx rfl (hb hby d6_20) rfl ?_
    show Stp p e below T10 m 22 #[.val (.ref pr0), .val (.ref w_truth_pr0), .val (.int (8 : Int32)), .val (.int (2 : Int32)), .val (.int c2_w_truth_pr0)] [(.int c2_w_truth_pr0)] _
    refine XS.aloadN X10.here hx rfl (hb hby d6_22) rfl rfl ?_
    show Stp p e below T10 m 23 #[.val (.ref pr0), .val (.ref w_truth_pr0), .val (.int (8 : Int32)), .val (.int (2 : Int32)), .val (.int c2_w_truth_pr0)] [(.ref pr0), (.int c2_w_truth_pr0)] _
    refine st15 _ ?_
    show Stp p e below T15 m 26 #[.val (.ref pr0), .val (.ref w_truth_pr0), .val (.int (8 : Int32)), .val (.int (2 : Int32)), .val (.int c2_w_truth_pr0)] [(.ref w_truth_pr0), (.int c2_w_truth_pr0)] _
    refine XS.iconst X15.here hx rfl (hb hby d6_26) ?_
    show Stp p e below T15 m 27 #[.val (.ref pr0), .val (.ref w_truth_pr0), .val (.int (8 : Int32)), .val (.int (2 : Int32)), .val (.int c2_w_truth_pr0)] [(.int (0 : Int32)), (.ref w_truth_pr0), (.int c2_w_truth_pr0)] _
    refine X15.baloadBooleans hx (j := (0 : Int32)) (v := (.int c0_w_truth_pr0)) (by rw [e15]; exact Arc16.1) (State.isArrayOf_alike hZ.alike Arc16.2.1) Arc16.2.2 hin17 (Has.at Hc16 hin17 rfl) (g := (mkF m 27 #[.val (.ref pr0), .val (.ref w_truth_pr0), .val (.int (8 : Int32)), .val (.int (2 : Int32)), .val (.int c2_w_truth_pr0)] [(.int (0 : Int32)), (.ref w_truth_pr0), (.int c2_w_truth_pr0)])) rfl rfl (hb hby d6_27) _ ?_
    show Stp p e below T15 m 28 #[.val (.ref pr0), .val (.ref w_truth_pr0), .val (.int (8 : Int32)), .val (.int (2 : Int32)), .val (.int c2_w_truth_pr0)] [(.int c0_w_truth_pr0), (.int c2_w_truth_pr0)] _
    refine XS.icmpYes X15.here hx rfl (pc0 := 28) (pc' := 33) rfl (hb hby d6_28) rfl (teq hc28_1).1 (by decide) (by decide) ?_
    show Stp p e below T15 m 33 #[.val (.ref pr0), .val (.ref w_truth_pr0), .val (.int (8 : Int32)), .val (.int (2 : Int32)), .val (.int c2_w_truth_pr0)] [] _
    refine XS.iinc X15.here hx rfl (hb hby d6_33) rfl (l' := #[.val (.ref pr0), .val (.ref w_truth_pr0), .val (.int (8 : Int32)), .val (.int (3 : Int32)), .val (.int c2_w_truth_pr0)]) rfl ?_
    show Stp p e below T15 m 36 #[.val (.ref pr0), .val (.ref w_truth_pr0), .val (.int (8 : Int32)), .val (.int (3 : Int32)), .val (.int c2_w_truth_pr0)] [] _
    refine XS.goto X15.here hx rfl (pc0 := 36) (pc' := 10) rfl (hb hby d6_36) (by decide) (by decide) ?_
    show Stp p e below T15 m 10 #[.val (.ref pr0), .val (.ref w_truth_pr0), .val (.int (8 : Int32)), .val (.int (3 : Int32)), .val (.int c2_w_truth_pr0)] [] _
    refine XS.iloadN X15.here hx rfl (hb hby d6_10) rfl ?_
    show Stp p e below T15 m 11 #[.val (.ref pr0), .val (.ref w_truth_pr0), .val (.int (8 : Int32)), .val (.int (3 : Int32)), .val (.int c2_w_truth_pr0)] [(.int (3 : Int32))] _
    refine XS.iloadN X15.here hx rfl (hb hby d6_11) rfl ?_
    show Stp p e below T15 m 12 #[.val (.ref pr0), .val (.ref w_truth_pr0), .val (.int (8 : Int32)), .val (.int (3 : Int32)), .val (.int c2_w_truth_pr0)] [(.int (8 : Int32)), (.int (3 : Int32))] _
    refine XS.icmpNo X15.here hx rfl (hb hby d6_12) rfl (tlt (by decide : (3 : Int32) < (8 : Int32))).2.1 ?_
    show Stp p e below T15 m 15 #[.val (.ref pr0), .val (.ref w_truth_pr0), .val (.int (8 : Int32)), .val (.int (3 : Int32)), .val (.int c2_w_truth_pr0)] [] _
    refine XS.aloadN X15.here hx rfl (hb hby d6_15) rfl rfl ?_
    show Stp p e below T15 m 16 #[.val (.ref pr0), .val (.ref w_truth_pr0), .val (.int (8 : Int32)), .val (.int (3 : Int32)), .val (.int c2_w_truth_pr0)] [(.ref w_truth_pr0)] _
    refine XS.iloadN X15.here hx rfl (hb hby d6_16) rfl ?_
    show Stp p e below T15 m 17 #[.val (.ref pr0), .val (.ref w_truth_pr0), .val (.int (8 : Int32)), .val (.int (3 : Int32)), .val (.int c2_w_truth_pr0)] [(.int (3 : Int32)), (.ref w_truth_pr0)] _
    refine X15.baloadBooleans hx (j := (3 : Int32)) (v := (.int c3_w_truth_pr0)) (by rw [e15]; exact Arc18.1) (State.isArrayOf_alike hZ.alike Arc18.2.1) Arc18.2.2 hin19 (Has.at Hc18 hin19 rfl) (g := (mkF m 17 #[.val (.ref pr0), .val (.ref w_truth_pr0), .val (.int (8 : Int32)), .val (.int (3 : Int32)), .val (.int c2_w_truth_pr0)] [(.int (3 : Int32)), (.ref w_truth_pr0)])) rfl rfl (hb hby d6_17) _ ?_
    show Stp p e below T15 m 18 #[.val (.ref pr0), .val (.ref w_truth_pr0), .val (.int (8 : Int32)), .val (.int (3 : Int32)), .val (.int c2_w_truth_pr0)] [(.int c3_w_truth_pr0)] _
    refine XS.istore X15.here hx rfl (hb hby d6_18) rfl (l' := #[.val (.ref pr0), .val (.ref w_truth_pr0), .val (.int (8 : Int32)), .val (.int (3 : Int32)), .val (.int c3_w_truth_pr0)]) rfl ?_
    show Stp p e below T15 m 20 #[.val (.ref pr0), .val (.ref w_truth_pr0), .val (.int (8 : Int32)), .val (.int (3 : Int32)), .val (.int c3_w_truth_pr0)] [] _
    refine XS.iload X15.here hx rfl (hb hby d6_20) rfl ?_
    show Stp p e below T15 m 22 #[.val (.ref pr0), .val (.ref w_truth_pr0), .val (.int (8 : Int32)), .val (.int (3 : Int32)), .val (.int c3_w_truth_pr0)] [(.int c3_w_truth_pr0)] _
    refine XS.aloadN X15.here hx rfl (hb hby d6_22) rfl rfl ?_
    show Stp p e below T15 m 23 #[.val (.ref pr0), .val (.ref w_truth_pr0), .val (.int (8 : Int32)), .val (.int (3 : Int32)), .val (.int c3_w_truth_pr0)] [(.ref pr0), (.int c3_w_truth_pr0)] _
    refine st20 _ ?_
    show Stp p e below T20 m 26 #[.val (.ref pr0), .val (.ref w_truth_pr0), .val (.int (8 : Int32)), .val (.int (3 : Int32)), .val (.int c3_w_truth_pr0)] [(.ref w_truth_pr0), (.int c3_w_truth_pr0)] _
    refine XS.iconst X20.here hx rfl (hb hby d6_26) ?_
    show Stp p e below T20 m 27 #[.val (.ref pr0), .val (.ref w_truth_pr0), .val (.int (8 : Int32)), .val (.int (3 : Int32)), .val (.int c3_w_truth_pr0)] [(.int (0 : Int32)), (.ref w_truth_pr0), (.int c3_w_truth_pr0)] _
    refine X20.baloadBooleans hx (j := (0 : Int32)) (v := (.int c0_w_truth_pr0)) (by rw [e20]; exact Arc21.1) (State.isArrayOf_alike hZ.alike Arc21.2.1) Arc21.2.2 hin22 (Has.at Hc21 hin22 rfl) (g := (mkF m 27 #[.val (.ref pr0), .val (.ref w_truth_pr0), .val (.int (8 : Int32)), .val (.int (3 : Int32)), .val (.int c3_w_truth_pr0)] [(.int (0 : Int32)), (.ref w_truth_pr0), (.int c3_w_truth_pr0)])) rfl rfl (hb hby d6_27) _ ?_
    show Stp p e below T20 m 28 #[.val (.ref pr0), .val (.ref w_truth_pr0), .val (.int (8 : Int32)), .val (.int (3 : Int32)), .val (.int c3_w_truth_pr0)] [(.int c0_w_truth_pr0), (.int c3_w_truth_pr0)] _
    refine XS.icmpNo X20.here hx rfl (hb hby d6_28) rfl (feq hc28_2).1 ?_
    show Stp p e below T20 m 31 #[.val (.ref pr0), .val (.ref w_truth_pr0), .val (.int (8 : Int32)), .val (.int (3 : Int32)), .val (.int c3_w_truth_pr0)] [] _
    refine XS.iconst X20.here hx rfl (hb hby d6_31) ?_
    show Stp p e below T20 m 32 #[.val (.ref pr0), .val (.ref w_truth_pr0), .val (.int (8 : Int32)), .val (.int (3 : Int32)), .val (.int c3_w_truth_pr0)] [(.int (0 : Int32))] _
    exact retN X20 hx (t := .boolean) Bd.returns (by simp) (hb hby d6_32) hr
  · show Q6_k3ttf Z pr0 w_truth_pr0 kk_w_truth_pr0 c0_w_truth_pr0 c1_w_truth_pr0 c2_w_truth_pr0 c3_w_truth_pr0 c4_w_truth_pr0 c5_w_truth_pr0 c6_w_truth_pr0 c7_w_truth_pr0 h0 n0 _ T20.heap _
    rw [e20]
    exact ⟨rfl, N0, rfl⟩
def Q6_k3tf (Z : State) (pr0 : Addr) (w_truth_pr0 : Addr) (kk_w_truth_pr0 : ClassId) (c0_w_truth_pr0 : Int32) (c1_w_truth_pr0 : Int32) (c2_w_truth_pr0 : Int32) (c3_w_truth_pr0 : Int32) (c4_w_truth_pr0 : Int32) (c5_w_truth_pr0 : Int32) (c6_w_truth_pr0 : Int32) (c7_w_truth_pr0 : Int32) (h0 : Heap) (n0 : Nat) (v : Option Value) (h : Heap) (L : List Loc) : Prop := v = some (.int (0 : Int32)) ∧ Fr n0 L ∧ h = h0
set_option maxRecDepth 65536 in
set_option maxHeartbeats 40000000 in
theorem rm6_k3tf (l : Launch) (Z : State) (a0 : Array Value) (hw : ∀ d ∈ tables_1, d.before a0 Z = true) (ws : List Jvm.Cond) (pr0 : Addr) (w_truth_pr0 : Addr) (kk_w_truth_pr0 : ClassId) (c0_w_truth_pr0 : Int32) (c1_w_truth_pr0 : Int32) (c2_w_truth_pr0 : Int32) (c3_w_truth_pr0 : Int32) (c4_w_truth_pr0 : Int32) (c5_w_truth_pr0 : Int32) (c6_w_truth_pr0 : Int32) (c7_w_truth_pr0 : Int32) (h0 : Heap) (n0 : Nat) (Z0 : n0 ≤ h0.size) (O0 : Old Z n0 h0) (F_truth_pr0 : Fld Z h0 pr0 "com/example/gudl/gudl/GroundFactor" "truth" "[Z" (.ref w_truth_pr0)) (V_w_truth_pr0 : Arv Z h0 w_truth_pr0 kk_w_truth_pr0 .boolean (8 : Int32) [(.int c0_w_truth_pr0), (.int c1_w_truth_pr0), (.int c2_w_truth_pr0), (.int c3_w_truth_pr0), (.int c4_w_truth_pr0), (.int c5_w_truth_pr0), (.int c6_w_truth_pr0), (.int c7_w_truth_pr0)] (.int (0 : Int32))) (hc28_0 : c1_w_truth_pr0 = c0_w_truth_pr0) (hc28_1 : ¬ (c2_w_truth_pr0 = c0_w_truth_pr0)) :
    MetFree l (⟨"com/example/gudl/gudl/GroundFactor", "isConstant", "()Z"⟩ : MethodName) (head1 (Jvm.Cond.code (⟨"com/example/gudl/gudl/GroundFactor", "isConstant", "()Z"⟩ : MethodName) prog_42_method_8_code 5 (some .boolean) :: ws) ({ frames := 0, cells := 0, slots := 0, locals := 0 } : Room)) (fun a U => a = #[(.ref pr0)] ∧ Z.Warmed39 U.vm ∧ U.heap = h0) (fun _ _ _ _ _ => True) (fun _ U o U' => ∃ v L, o = .returned v ∧ Q6_k3tf Z pr0 w_truth_pr0 kk_w_truth_pr0 c0_w_truth_pr0 c1_w_truth_pr0 c2_w_truth_pr0 c3_w_truth_pr0 c4_w_truth_pr0 c5_w_truth_pr0 c6_w_truth_pr0 c7_w_truth_pr0 h0 n0 v U'.heap L ∧ FrameEnd U o U' L ({ frames := 0, cells := 0, slots := 0, locals := 0 } : Room).cells ({ frames := 0, cells := 0, slots := 0, locals := 0 } : Room).slots) := by
  refine MetFree.of_bodySF (plainFor_of_name pn_6) hisR ?_
  intro p e s m args below meth c s₁ Bd hml0 hP hK
  obtain ⟨rfl, hZ, hh⟩ := hP
  have hx := Bd.exec
  have hby := Bd.bytes
  have hml : c.maxLocals = 5 := hml0
  have hown : s.vm.findClass "com/example/gudl/gudl/GroundFactor" = some m.cls := findClass_of_methodNamed Bd.named
  have hnm := (name_of_methodNamed Bd.named Bd.method).1
  have X0 : Stand p l e ({ frames := 0, cells := 0, slots := 0, locals := 0 } : Room) s m #[(.ref pr0)] below meth c s₁ [] 0 0 := Stand.of_body Bd
  have e0 : s₁.heap = h0 := by rw [← hh, Bd.state]; rfl
  have N0 := Fr.nil n0
  have pre0 : ∀ t, Steps p.tables e below (s₁.setTop (mkF m 0 #[.val (.ref pr0), .unset, .unset, .unset, .unset] [])) t → Steps p.tables e below (s₁.setTop (entryFrame m #[(.ref pr0)] 5)) t := fun t k => castTop (ef_6 m pr0) k
  obtain ⟨T1, X1, e1, st1⟩ := getF X0 hx hZ hown (host := "") (Or.inl (own_W hw 25 rfl)) Via.refl e0 F_truth_pr0 (g := (mkF m 1 #[.val (.ref pr0), .unset, .unset, .unset, .unset] [(.ref pr0)])) rfl rfl (hb hby d6_1)
  have V_c2 := V_w_truth_pr0
  obtain ⟨c2, Arc2, qc2, Sc2, Nc2, Hc2, Gc2⟩ := V_c2
  have V_c3 := V_w_truth_pr0
  obtain ⟨c3, Arc3, qc3, Sc3, Nc3, Hc3, Gc3⟩ := V_c3
  have hin4 : ¬ ((0 : Int32) < 0 ∨ c3.slots.size ≤ ((0 : Int32)).toNatClampNeg) := inb_of Sc3 ⟨by decide, by decide⟩
  obtain ⟨T5, X5, e5, st5⟩ := getF X1 hx hZ hown (host := "") (Or.inl (own_W hw 25 rfl)) Via.refl e1 F_truth_pr0 (g := (mkF m 23 #[.val (.ref pr0), .val (.ref w_truth_pr0), .val (.int (8 : Int32)), .val (.int (0 : Int32)), .val (.int c0_w_truth_pr0)] [(.ref pr0), (.int c0_w_truth_pr0)])) rfl rfl (hb hby d6_23)
  have V_c6 := V_w_truth_pr0
  obtain ⟨c6, Arc6, qc6, Sc6, Nc6, Hc6, Gc6⟩ := V_c6
  have hin7 : ¬ ((0 : Int32) < 0 ∨ c6.slots.size ≤ ((0 : Int32)).toNatClampNeg) := inb_of Sc6 ⟨by decide, by decide⟩
  have V_c8 := V_w_truth_pr0
  obtain ⟨c8, Arc8, qc8, Sc8, Nc8, Hc8, Gc8⟩ := V_c8
  have hin9 : ¬ ((1 : Int32) < 0 ∨ c8.slots.size ≤ ((1 : Int32)).toNatClampNeg) := inb_of Sc8 ⟨by decide, by decide⟩
  obtain ⟨T10, X10, e10, st10⟩ := getF X5 hx hZ hown (host := "") (Or.inl (own_W hw 25 rfl)) Via.refl e5 F_truth_pr0 (g := (mkF m 23 #[.val (.ref pr0), .val (.ref w_truth_pr0), .val (.int (8 : Int32)), .val (.int (1 : Int32)), .val (.int c1_w_truth_pr0)] [(.ref pr0), (.int c1_w_truth_pr0)])) rfl rfl (hb hby d6_23)
  have V_c11 := V_w_truth_pr0
  obtain ⟨c11, Arc11, qc11, Sc11, Nc11, Hc11, Gc11⟩ := V_c11
  have hin12 : ¬ ((0 : Int32) < 0 ∨ c11.slots.size ≤ ((0 : Int32)).toNatClampNeg) := inb_of Sc11 ⟨by decide, by decide⟩
  have V_c13 := V_w_truth_pr0
  obtain ⟨c13, Arc13, qc13, Sc13, Nc13, Hc13, Gc13⟩ := V_c13
  have hin14 : ¬ ((2 : Int32) < 0 ∨ c13.slots.size ≤ ((2 : Int32)).toNatClampNeg) := inb_of Sc13 ⟨by decide, by decide⟩
  obtain ⟨T15, X15, e15, st15⟩ := getF X10 hx hZ hown (host := "") (Or.inl (own_W hw 25 rfl)) Via.refl e10 F_truth_pr0 (g := (mkF m 23 #[.val (.ref pr0), .val (.ref w_truth_pr0), .val (.int (8 : Int32)), .val (.int (2 : Int32)), .val (.int c2_w_truth_pr0)] [(.ref pr0), (.int c2_w_truth_pr0)])) rfl rfl (hb hby d6_23)
  have V_c16 := V_w_truth_pr0
  obtain ⟨c16, Arc16, qc16, Sc16, Nc16, Hc16, Gc16⟩ := V_c16
  have hin17 : ¬ ((0 : Int32) < 0 ∨ c16.slots.size ≤ ((0 : Int32)).toNatClampNeg) := inb_of Sc16 ⟨by decide, by decide⟩
  obtain ⟨fs, hr, hrun, hended, hW, hsame⟩ := X15.leave (v := some (.int (0 : Int32))) (fun h => by rw [Bd.returns] at h; cases h)
  refine ⟨_, _, pre0 _ ?_, hrun, hended, _, _, rfl, ?_, ⟨_, rfl⟩, hW, hsame.mono (by decide) (by decide)⟩
  · show Stp p e below s₁ m 0 #[.val (.ref pr0), .unset, .unset, .unset, .unset] [] _
    refine XS.aloadN X0.here hx rfl (hb hby d6_0) rfl rfl ?_
    show Stp p e below s₁ m 1 #[.val (.ref pr0), .unset, .unset, .unset, .unset] [(.ref pr0)] _
    refine st1 _ ?_
    show Stp p e below T1 m 4 #[.val (.ref pr0), .unset, .unset, .unset, .unset] [(.ref w_truth_pr0)] _
    refine XS.astoreN X1.here hx rfl (hb hby d6_4) rfl rfl (l' := #[.val (.ref pr0), .val (.ref w_truth_pr0), .unset, .unset, .unset]) rfl ?_
    show Stp p e below T1 m 5 #[.val (.ref pr0), .val (.ref w_truth_pr0), .unset, .unset, .unset] [] _
    refine XS.aloadN X1.here hx rfl (hb hby d6_5) rfl rfl ?_
    show Stp p e below T1 m 6 #[.val (.ref pr0), .val (.ref w_truth_pr0), .unset, .unset, .unset] [(.ref w_truth_pr0)] _
    refine X1.arraylength hx (by rw [e1]; exact Arc2.1) (State.isArrayOf_alike hZ.alike Arc2.2.1) (g := (mkF m 6 #[.val (.ref pr0), .val (.ref w_truth_pr0), .unset, .unset, .unset] [(.ref w_truth_pr0)])) rfl rfl (hb hby d6_6) _ ?_
    rw [len_of Sc2 Nc2]
    show Stp p e below T1 m 7 #[.val (.ref pr0), .val (.ref w_truth_pr0), .unset, .unset, .unset] [(.int (8 : Int32))] _
    refine XS.istoreN X1.here hx rfl (hb hby d6_7) rfl (l' := #[.val (.ref pr0), .val (.ref w_truth_pr0), .val (.int (8 : Int32)), .unset, .unset]) rfl ?_
    show Stp p e below T1 m 8 #[.val (.ref pr0), .val (.ref w_truth_pr0), .val (.int (8 : Int32)), .unset, .unset] [] _
    refine XS.iconst X1.here hx rfl (hb hby d6_8) ?_
    show Stp p e below T1 m 9 #[.val (.ref pr0), .val (.ref w_truth_pr0), .val (.int (8 : Int32)), .unset, .unset] [(.int (0 : Int32))] _
    refine XS.istoreN X1.here hx rfl (hb hby d6_9) rfl (l' := #[.val (.ref pr0), .val (.ref w_truth_pr0), .val (.int (8 : Int32)), .val (.int (0 : Int32)), .unset]) rfl ?_
    show Stp p e below T1 m 10 #[.val (.ref pr0), .val (.ref w_truth_pr0), .val (.int (8 : Int32)), .val (.int (0 : Int32)), .unset] [] _
    refine XS.iloadN X1.here hx rfl (hb hby d6_10) rfl ?_
    show Stp p e below T1 m 11 #[.val (.ref pr0), .val (.ref w_truth_pr0), .val (.int (8 : Int32)), .val (.int (0 : Int32)), .unset] [(.int (0 : Int32))] _
    refine XS.iloadN X1.here hx rfl (hb hby d6_11) rfl ?_
    show Stp p e below T1 m 12 #[.val (.ref pr0), .val (.ref w_truth_pr0), .val (.int (8 : Int32)), .val (.int (0 : Int32)), .unset] [(.int (8 : Int32)), (.int (0 : Int32))] _
    refine XS.icmpNo X1.here hx rfl (hb hby d6_12) rfl (tlt (by decide : (0 : Int32) < (8 : Int32))).2.1 ?_
    show Stp p e below T1 m 15 #[.val (.ref pr0), .val (.ref w_truth_pr0), .val (.int (8 : Int32)), .val (.int (0 : Int32)), .unset] [] _
    refine XS.aloadN X1.here hx rfl (hb hby d6_15) rfl rfl ?_
    show Stp p e below T1 m 16 #[.val (.ref pr0), .val (.ref w_truth_pr0), .val (.int (8 : Int32)), .val (.int (0 : Int32)), .unset] [(.ref w_truth_pr0)] _
    refine XS.iloadN X1.here hx rfl (hb hby d6_16) rfl ?_
    show Stp p e below T1 m 17 #[.val (.ref pr0), .val (.ref w_truth_pr0), .val (.int (8 : Int32)), .val (.int (0 : Int32)), .unset] [(.int (0 : Int32)), (.ref w_truth_pr0)] _
    refine X1.baloadBooleans hx (j := (0 : Int32)) (v := (.int c0_w_truth_pr0)) (by rw [e1]; exact Arc3.1) (State.isArrayOf_alike hZ.alike Arc3.2.1) Arc3.2.2 hin4 (Has.at Hc3 hin4 rfl) (g := (mkF m 17 #[.val (.ref pr0), .val (.ref w_truth_pr0), .val (.int (8 : Int32)), .val (.int (0 : Int32)), .unset] [(.int (0 : Int32)), (.ref w_truth_pr0)])) rfl rfl (hb hby d6_17) _ ?_
    show Stp p e below T1 m 18 #[.val (.ref pr0), .val (.ref w_truth_pr0), .val (.int (8 : Int32)), .val (.int (0 : Int32)), .unset] [(.int c0_w_truth_pr0)] _
    refine XS.istore X1.here hx rfl (hb hby d6_18) rfl (l' := #[.val (.ref pr0), .val (.ref w_truth_pr0), .val (.int (8 : Int32)), .val (.int (0 : Int32)), .val (.int c0_w_truth_pr0)]) rfl ?_
    show Stp p e below T1 m 20 #[.val (.ref pr0), .val (.ref w_truth_pr0), .val (.int (8 : Int32)), .val (.int (0 : Int32)), .val (.int c0_w_truth_pr0)] [] _
    refine XS.iload X1.here hx rfl (hb hby d6_20) rfl ?_
    show Stp p e below T1 m 22 #[.val (.ref pr0), .val (.ref w_truth_pr0), .val (.int (8 : Int32)), .val (.int (0 : Int32)), .val (.int c0_w_truth_pr0)] [(.int c0_w_truth_pr0)] _
    refine XS.aloadN X1.here hx rfl (hb hby d6_22) rfl rfl ?_
    show Stp p e below T1 m 23 #[.val (.ref pr0), .val (.ref w_truth_pr0), .val (.int (8 : Int32)), .val (.int (0 : Int32)), .val (.int c0_w_truth_pr0)] [(.ref pr0), (.int c0_w_truth_pr0)] _
    refine st5 _ ?_
    show Stp p e below T5 m 26 #[.val (.ref pr0), .val (.ref w_truth_pr0), .val (.int (8 : Int32)), .val (.int (0 : Int32)), .val (.int c0_w_truth_pr0)] [(.ref w_truth_pr0), (.int c0_w_truth_pr0)] _
    refine XS.iconst X5.here hx rfl (hb hby d6_26) ?_
    show Stp p e below T5 m 27 #[.val (.ref pr0), .val (.ref w_truth_pr0), .val (.int (8 : Int32)), .val (.int (0 : Int32)), .val (.int c0_w_truth_pr0)] [(.int (0 : Int32)), (.ref w_truth_pr0), (.int c0_w_truth_pr0)] _
    refine X5.baloadBooleans hx (j := (0 : Int32)) (v := (.int c0_w_truth_pr0)) (by rw [e5]; exact Arc6.1) (State.isArrayOf_alike hZ.alike Arc6.2.1) Arc6.2.2 hin7 (Has.at Hc6 hin7 rfl) (g := (mkF m 27 #[.val (.ref pr0), .val (.ref w_truth_pr0), .val (.int (8 : Int32)), .val (.int (0 : Int32)), .val (.int c0_w_truth_pr0)] [(.int (0 : Int32)), (.ref w_truth_pr0), (.int c0_w_truth_pr0)])) rfl rfl (hb hby d6_27) _ ?_
    show Stp p e below T5 m 28 #[.val (.ref pr0), .val (.ref w_truth_pr0), .val (.int (8 : Int32)), .val (.int (0 : Int32)), .val (.int c0_w_truth_pr0)] [(.int c0_w_truth_pr0), (.int c0_w_truth_pr0)] _
    refine XS.icmpYes X5.here hx rfl (pc0 := 28) (pc' := 33) rfl (hb hby d6_28) rfl (teq (rfl : c0_w_truth_pr0 = c0_w_truth_pr0)).1 (by decide) (by decide) ?_
    show Stp p e below T5 m 33 #[.val (.ref pr0), .val (.ref w_truth_pr0), .val (.int (8 : Int32)), .val (.int (0 : Int32)), .val (.int c0_w_truth_pr0)] [] _
    refine XS.iinc X5.here hx rfl (hb hby d6_33) rfl (l' := #[.val (.ref pr0), .val (.ref w_truth_pr0), .val (.int (8 : Int32)), .val (.int (1 : Int32)), .val (.int c0_w_truth_pr0)]) rfl ?_
    show Stp p e below T5 m 36 #[.val (.ref pr0), .val (.ref w_truth_pr0), .val (.int (8 : Int32)), .val (.int (1 : Int32)), .val (.int c0_w_truth_pr0)] [] _
    refine XS.goto X5.here hx rfl (pc0 := 36) (pc' := 10) rfl (hb hby d6_36) (by decide) (by decide) ?_
    show Stp p e below T5 m 10 #[.val (.ref pr0), .val (.ref w_truth_pr0), .val (.int (8 : Int32)), .val (.int (1 : Int32)), .val (.int c0_w_truth_pr0)] [] _
    refine XS.iloadN X5.here hx rfl (hb hby d6_10) rfl ?_
    show Stp p e below T5 m 11 #[.val (.ref pr0), .val (.ref w_truth_pr0), .val (.int (8 : Int32)), .val (.int (1 : Int32)), .val (.int c0_w_truth_pr0)] [(.int (1 : Int32))] _
    refine XS.iloadN X5.here hx rfl (hb hby d6_11) rfl ?_
    show Stp p e below T5 m 12 #[.val (.ref pr0), .val (.ref w_truth_pr0), .val (.int (8 : Int32)), .val (.int (1 : Int32)), .val (.int c0_w_truth_pr0)] [(.int (8 : Int32)), (.int (1 : Int32))] _
    refine XS.icmpNo X5.here hx rfl (hb hby d6_12) rfl (tlt (by decide : (1 : Int32) < (8 : Int32))).2.1 ?_
    show Stp p e below T5 m 15 #[.val (.ref pr0), .val (.ref w_truth_pr0), .val (.int (8 : Int32)), .val (.int (1 : Int32)), .val (.int c0_w_truth_pr0)] [] _
    refine XS.aloadN X5.here hx rfl (hb hby d6_15) rfl rfl ?_
    show Stp p e below T5 m 16 #[.val (.ref pr0), .val (.ref w_truth_pr0), .val (.int (8 : Int32)), .val (.int (1 : Int32)), .val (.int c0_w_truth_pr0)] [(.ref w_truth_pr0)] _
    refine XS.iloadN X5.here hx rfl (hb hby d6_16) rfl ?_
    show Stp p e below T5 m 17 #[.val (.ref pr0), .val (.ref w_truth_pr0), .val (.int (8 : Int32)), .val (.int (1 : Int32)), .val (.int c0_w_truth_pr0)] [(.int (1 : Int32)), (.ref w_truth_pr0)] _
    refine X5.baloadBooleans hx (j := (1 : Int32)) (v := (.int c1_w_truth_pr0)) (by rw [e5]; exact Arc8.1) (State.isArrayOf_alike hZ.alike Arc8.2.1) Arc8.2.2 hin9 (Has.at Hc8 hin9 rfl) (g := (mkF m 17 #[.val (.ref pr0), .val (.ref w_truth_pr0), .val (.int (8 : Int32)), .val (.int (1 : Int32)), .val (.int c0_w_truth_pr0)] [(.int (1 : Int32)), (.ref w_truth_pr0)])) rfl rfl (hb hby d6_17) _ ?_
    show Stp p e below T5 m 18 #[.val (.ref pr0), .val (.ref w_truth_pr0), .val (.int (8 : Int32)), .val (.int (1 : Int32)), .val (.int c0_w_truth_pr0)] [(.int c1_w_truth_pr0)] _
    refine XS.istore X5.here hx rfl (hb hby d6_18) rfl (l' := #[.val (.ref pr0), .val (.ref w_truth_pr0), .val (.int (8 : Int32)), .val (.int (1 : Int32)), .val (.int c1_w_truth_pr0)]) rfl ?_
    show Stp p e below T5 m 20 #[.val (.ref pr0), .val (.ref w_truth_pr0), .val (.int (8 : Int32)), .val (.int (1 : Int32)), .val (.int c1_w_truth_pr0)] [] _
    refine XS.iload X5.here hx rfl (hb hby d6_20) rfl ?_
    show Stp p e below T5 m 22 #[.val (.ref pr0), .val (.ref w_truth_pr0), .val (.int (8 : Int32)), .val (.int (1 : Int32)), .val (.int c1_w_truth_pr0)] [(.int c1_w_truth_pr0)] _
    refine XS.aloadN X5.here hx rfl (hb hby d6_22) rfl rfl ?_
    show Stp p e below T5 m 23 #[.val (.ref pr0), .val (.ref w_truth_pr0), .val (.int (8 : Int32)), .val (.int (1 : Int32)), .val (.int c1_w_truth_pr0)] [(.ref pr0), (.int c1_w_truth_pr0)] _
    refine st10 _ ?_
    show Stp p e below T10 m 26 #[.val (.ref pr0), .val (.ref w_truth_pr0), .val (.int (8 : Int32)), .val (.int (1 : Int32)), .val (.int c1_w_truth_pr0)] [(.ref w_truth_pr0), (.int c1_w_truth_pr0)] _
    refine XS.iconst X10.here hx rfl (hb hby d6_26) ?_
    show Stp p e below T10 m 27 #[.val (.ref pr0), .val (.ref w_truth_pr0), .val (.int (8 : Int32)), .val (.int (1 : Int32)), .val (.int c1_w_truth_pr0)] [(.int (0 : Int32)), (.ref w_truth_pr0), (.int c1_w_truth_pr0)] _
    refine X10.baloadBooleans hx (j := (0 : Int32)) (v := (.int c0_w_truth_pr0)) (by rw [e10]; exact Arc11.1) (State.isArrayOf_alike hZ.alike Arc11.2.1) Arc11.2.2 hin12 (Has.at Hc11 hin12 rfl) (g := (mkF m 27 #[.val (.ref pr0), .val (.ref w_truth_pr0), .val (.int (8 : Int32)), .val (.int (1 : Int32)), .val (.int c1_w_truth_pr0)] [(.int (0 : Int32)), (.ref w_truth_pr0), (.int c1_w_truth_pr0)])) rfl rfl (hb hby d6_27) _ ?_
    show Stp p e below T10 m 28 #[.val (.ref pr0), .val (.ref w_truth_pr0), .val (.int (8 : Int32)), .val (.int (1 : Int32)), .val (.int c1_w_truth_pr0)] [(.int c0_w_truth_pr0), (.int c1_w_truth_pr0)] _
    refine XS.icmpYes X10.here hx rfl (pc0 := 28) (pc' := 33) rfl (hb hby d6_28) rfl (teq hc28_0).1 (by decide) (by decide) ?_
    show Stp p e below T10 m 33 #[.val (.ref pr0), .val (.ref w_truth_pr0), .val (.int (8 : Int32)), .val (.int (1 : Int32)), .val (.int c1_w_truth_pr0)] [] _
    refine XS.iinc X10.here hx rfl (hb hby d6_33) rfl (l' := #[.val (.ref pr0), .val (.ref w_truth_pr0), .val (.int (8 : Int32)), .val (.int (2 : Int32)), .val (.int c1_w_truth_pr0)]) rfl ?_
    show Stp p e below T10 m 36 #[.val (.ref pr0), .val (.ref w_truth_pr0), .val (.int (8 : Int32)), .val (.int (2 : Int32)), .val (.int c1_w_truth_pr0)] [] _
    refine XS.goto X10.here hx rfl (pc0 := 36) (pc' := 10) rfl (hb hby d6_36) (by decide) (by decide) ?_
    show Stp p e below T10 m 10 #[.val (.ref pr0), .val (.ref w_truth_pr0), .val (.int (8 : Int32)), .val (.int (2 : Int32)), .val (.int c1_w_truth_pr0)] [] _
    refine XS.iloadN X10.here hx rfl (hb hby d6_10) rfl ?_
    show Stp p e below T10 m 11 #[.val (.ref pr0), .val (.ref w_truth_pr0), .val (.int (8 : Int32)), .val (.int (2 : Int32)), .val (.int c1_w_truth_pr0)] [(.int (2 : Int32))] _
    refine XS.iloadN X10.here hx rfl (hb hby d6_11) rfl ?_
    show Stp p e below T10 m 12 #[.val (.ref pr0), .val (.ref w_truth_pr0), .val (.int (8 : Int32)), .val (.int (2 : Int32)), .val (.int c1_w_truth_pr0)] [(.int (8 : Int32)), (.int (2 : Int32))] _
    refine XS.icmpNo X10.here hx rfl (hb hby d6_12) rfl (tlt (by decide : (2 : Int32) < (8 : Int32))).2.1 ?_
    show Stp p e below T10 m 15 #[.val (.ref pr0), .val (.ref w_truth_pr0), .val (.int (8 : Int32)), .val (.int (2 : Int32)), .val (.int c1_w_truth_pr0)] [] _
    refine XS.aloadN X10.here hx rfl (hb hby d6_15) rfl rfl ?_
    show Stp p e below T10 m 16 #[.val (.ref pr0), .val (.ref w_truth_pr0), .val (.int (8 : Int32)), .val (.int (2 : Int32)), .val (.int c1_w_truth_pr0)] [(.ref w_truth_pr0)] _
    refine XS.iloadN X10.here hx rfl (hb hby d6_16) rfl ?_
    show Stp p e below T10 m 17 #[.val (.ref pr0), .val (.ref w_truth_pr0), .val (.int (8 : Int32)), .val (.int (2 : Int32)), .val (.int c1_w_truth_pr0)] [(.int (2 : Int32)), (.ref w_truth_pr0)] _
    refine X10.baloadBooleans hx (j := (2 : Int32)) (v := (.int c2_w_truth_pr0)) (by rw [e10]; exact Arc13.1) (State.isArrayOf_alike hZ.alike Arc13.2.1) Arc13.2.2 hin14 (Has.at Hc13 hin14 rfl) (g := (mkF m 17 #[.val (.ref pr0), .val (.ref w_truth_pr0), .val (.int (8 : Int32)), .val (.int (2 : Int32)), .val (.int c1_w_truth_pr0)] [(.int (2 : Int32)), (.ref w_truth_pr0)])) rfl rfl (hb hby d6_17) _ ?_
    show Stp p e below T10 m 18 #[.val (.ref pr0), .val (.ref w_truth_pr0), .val (.int (8 : Int32)), .val (.int (2 : Int32)), .val (.int c1_w_truth_pr0)] [(.int c2_w_truth_pr0)] _
    refine XS.istore X10.here hx rfl (hb hby d6_18) rfl (l' := #[.val (.ref pr0), .val (.ref w_truth_pr0), .val (.int (8 : Int32)), .val (.int (2 : Int32)), .val (.int c2_w_truth_pr0)]) rfl ?_
    show Stp p e below T10 m 20 #[.val (.ref pr0), .val (.ref w_truth_pr0), .val (.int (8 : Int32)), .val (.int (2 : Int32)), .val (.int c2_w_truth_pr0)] [] _
    refine XS.iload X10.here hx rfl (hb hby d6_20) rfl ?_
    show Stp p e below T10 m 22 #[.val (.ref pr0), .val (.ref w_truth_pr0), .val (.int (8 : Int32)), .val (.int (2 : Int32)), .val (.int c2_w_truth_pr0)] [(.int c2_w_truth_pr0)] _
    refine XS.aloadN X10.here hx rfl (hb hby d6_22) rfl rfl ?_
    show Stp p e below T10 m 23 #[.val (.ref pr0), .val (.ref w_truth_pr0), .val (.int (8 : Int32)), .val (.int (2 : Int32)), .val (.int c2_w_truth_pr0)] [(.ref pr0), (.int c2_w_truth_pr0)] _
    refine st15 _ ?_
    show Stp p e below T15 m 26 #[.val (.ref pr0), .val (.ref w_truth_pr0), .val (.int (8 : Int32)), .val (.int (2 : Int32)), .val (.int c2_w_truth_pr0)] [(.ref w_truth_pr0), (.int c2_w_truth_pr0)] _
    refine XS.iconst X15.here hx rfl (hb hby d6_26) ?_
    show Stp p e below T15 m 27 #[.val (.ref pr0), .val (.ref w_truth_pr0), .val (.int (8 : Int32)), .val (.int (2 : Int32)), .val (.int c2_w_truth_pr0)] [(.int (0 : Int32)), (.ref w_truth_pr0), (.int c2_w_truth_pr0)] _
    refine X15.baloadBooleans hx (j := (0 : Int32)) (v := (.int c0_w_truth_pr0)) (by rw [e15]; exact Arc16.1) (State.isArrayOf_alike hZ.alike Arc16.2.1) Arc16.2.2 hin17 (Has.at Hc16 hin17 rfl) (g := (mkF m 27 #[.val (.ref pr0), .val (.ref w_truth_pr0), .val (.int (8 : Int32)), .val (.int (2 : Int32)), .val (.int c2_w_truth_pr0)] [(.int (0 : Int32)), (.ref w_truth_pr0), (.int c2_w_truth_pr0)])) rfl rfl (hb hby d6_27) _ ?_
    show Stp p e below T15 m 28 #[.val (.ref pr0), .val (.ref w_truth_pr0), .val (.int (8 : Int32)), .val (.int (2 : Int32)), .val (.int c2_w_truth_pr0)] [(.int c0_w_truth_pr0), (.int c2_w_truth_pr0)] _
    refine XS.icmpNo X15.here hx rfl (hb hby d6_28) rfl (feq hc28_1).1 ?_
    show Stp p e below T15 m 31 #[.val (.ref pr0), .val (.ref w_truth_pr0), .val (.int (8 : Int32)), .val (.int (2 : Int32)), .val (.int c2_w_truth_pr0)] [] _
    refine XS.iconst X15.here hx rfl (hb hby d6_31) ?_
    show Stp p e below T15 m 32 #[.val (.ref pr0), .val (.ref w_truth_pr0), .val (.int (8 : Int32)), .val (.int (2 : Int32)), .val (.int c2_w_truth_pr0)] [(.int (0 : Int32))] _
    exact retN X15 hx (t := .boolean) Bd.returns (by simp) (hb hby d6_32) hr
  · show Q6_k3tf Z pr0 w_truth_pr0 kk_w_truth_pr0 c0_w_truth_pr0 c1_w_truth_pr0 c2_w_truth_pr0 c3_w_truth_pr0 c4_w_truth_pr0 c5_w_truth_pr0 c6_w_truth_pr0 c7_w_truth_pr0 h0 n0 _ T15.heap _
    rw [e15]
    exact ⟨rfl, N0, rfl⟩
def Q6_k3f (Z : State) (pr0 : Addr) (w_truth_pr0 : Addr) (kk_w_truth_pr0 : ClassId) (c0_w_truth_pr0 : Int32) (c1_w_truth_pr0 : Int32) (c2_w_truth_pr0 : Int32) (c3_w_truth_pr0 : Int32) (c4_w_truth_pr0 : Int32) (c5_w_truth_pr0 : Int32) (c6_w_truth_pr0 : Int32) (c7_w_truth_pr0 : Int32) (h0 : Heap) (n0 : Nat) (v : Option Value) (h : Heap) (L : List Loc) : Prop := v = some (.int (0 : Int32)) ∧ Fr n0 L ∧ h = h0
set_option maxRecDepth 65536 in
set_option maxHeartbeats 40000000 in
theorem rm6_k3f (l : Launch) (Z : State) (a0 : Array Value) (hw : ∀ d ∈ tables_1, d.before a0 Z = true) (ws : List Jvm.Cond) (pr0 : Addr) (w_truth_pr0 : Addr) (kk_w_truth_pr0 : ClassId) (c0_w_truth_pr0 : Int32) (c1_w_truth_pr0 : Int32) (c2_w_truth_pr0 : Int32) (c3_w_truth_pr0 : Int32) (c4_w_truth_pr0 : Int32) (c5_w_truth_pr0 : Int32) (c6_w_truth_pr0 : Int32) (c7_w_truth_pr0 : Int32) (h0 : Heap) (n0 : Nat) (Z0 : n0 ≤ h0.size) (O0 : Old Z n0 h0) (F_truth_pr0 : Fld Z h0 pr0 "com/example/gudl/gudl/GroundFactor" "truth" "[Z" (.ref w_truth_pr0)) (V_w_truth_pr0 : Arv Z h0 w_truth_pr0 kk_w_truth_pr0 .boolean (8 : Int32) [(.int c0_w_truth_pr0), (.int c1_w_truth_pr0), (.int c2_w_truth_pr0), (.int c3_w_truth_pr0), (.int c4_w_truth_pr0), (.int c5_w_truth_pr0), (.int c6_w_truth_pr0), (.int c7_w_truth_pr0)] (.int (0 : Int32))) (hc28_0 : ¬ (c1_w_truth_pr0 = c0_w_truth_pr0)) :
    MetFree l (⟨"com/example/gudl/gudl/GroundFactor", "isConstant", "()Z"⟩ : MethodName) (head1 (Jvm.Cond.code (⟨"com/example/gudl/gudl/GroundFactor", "isConstant", "()Z"⟩ : MethodName) prog_42_method_8_code 5 (some .boolean) :: ws) ({ frames := 0, cells := 0, slots := 0, locals := 0 } : Room)) (fun a U => a = #[(.ref pr0)] ∧ Z.Warmed39 U.vm ∧ U.heap = h0) (fun _ _ _ _ _ => True) (fun _ U o U' => ∃ v L, o = .returned v ∧ Q6_k3f Z pr0 w_truth_pr0 kk_w_truth_pr0 c0_w_truth_pr0 c1_w_truth_pr0 c2_w_truth_pr0 c3_w_truth_pr0 c4_w_truth_pr0 c5_w_truth_pr0 c6_w_truth_pr0 c7_w_truth_pr0 h0 n0 v U'.heap L ∧ FrameEnd U o U' L ({ frames := 0, cells := 0, slots := 0, locals := 0 } : Room).cells ({ frames := 0, cells := 0, slots := 0, locals := 0 } : Room).slots) := by
  refine MetFree.of_bodySF (plainFor_of_name pn_6) hisR ?_
  intro p e s m args below meth c s₁ Bd hml0 hP hK
  obtain ⟨rfl, hZ, hh⟩ := hP
  have hx := Bd.exec
  have hby := Bd.bytes
  have hml : c.maxLocals = 5 := hml0
  have hown : s.vm.findClass "com/example/gudl/gudl/GroundFactor" = some m.cls := findClass_of_methodNamed Bd.named
  have hnm := (name_of_methodNamed Bd.named Bd.method).1
  have X0 : Stand p l e ({ frames := 0, cells := 0, slots := 0, locals := 0 } : Room) s m #[(.ref pr0)] below meth c s₁ [] 0 0 := Stand.of_body Bd
  have e0 : s₁.heap = h0 := by rw [← hh, Bd.state]; rfl
  have N0 := Fr.nil n0
  have pre0 : ∀ t, Steps p.tables e below (s₁.setTop (mkF m 0 #[.val (.ref pr0), .unset, .unset, .unset, .unset] [])) t → Steps p.tables e below (s₁.setTop (entryFrame m #[(.ref pr0)] 5)) t := fun t k => castTop (ef_6 m pr0) k
  obtain ⟨T1, X1, e1, st1⟩ := getF X0 hx hZ hown (host := "") (Or.inl (own_W hw 25 rfl)) Via.refl e0 F_truth_pr0 (g := (mkF m 1 #[.val (.ref pr0), .unset, .unset, .unset, .unset] [(.ref pr0)])) rfl rfl (hb hby d6_1)
  have V_c2 := V_w_truth_pr0
  obtain ⟨c2, Arc2, qc2, Sc2, Nc2, Hc2, Gc2⟩ := V_c2
  have V_c3 := V_w_truth_pr0
  obtain ⟨c3, Arc3, qc3, Sc3, Nc3, Hc3, Gc3⟩ := V_c3
  have hin4 : ¬ ((0 : Int32) < 0 ∨ c3.slots.size ≤ ((0 : Int32)).toNatClampNeg) := inb_of Sc3 ⟨by decide, by decide⟩
  obtain ⟨T5, X5, e5, st5⟩ := getF X1 hx hZ hown (host := "") (Or.inl (own_W hw 25 rfl)) Via.refl e1 F_truth_pr0 (g := (mkF m 23 #[.val (.ref pr0), .val (.ref w_truth_pr0), .val (.int (8 : Int32)), .val (.int (0 : Int32)), .val (.int c0_w_truth_pr0)] [(.ref pr0), (.int c0_w_truth_pr0)])) rfl rfl (hb hby d6_23)
  have V_c6 := V_w_truth_pr0
  obtain ⟨c6, Arc6, qc6, Sc6, Nc6, Hc6, Gc6⟩ := V_c6
  have hin7 : ¬ ((0 : Int32) < 0 ∨ c6.slots.size ≤ ((0 : Int32)).toNatClampNeg) := inb_of Sc6 ⟨by decide, by decide⟩
  have V_c8 := V_w_truth_pr0
  obtain ⟨c8, Arc8, qc8, Sc8, Nc8, Hc8, Gc8⟩ := V_c8
  have hin9 : ¬ ((1 : Int32) < 0 ∨ c8.slots.size ≤ ((1 : Int32)).toNatClampNeg) := inb_of Sc8 ⟨by decide, by decide⟩
  obtain ⟨T10, X10, e10, st10⟩ := getF X5 hx hZ hown (host := "") (Or.inl (own_W hw 25 rfl)) Via.refl e5 F_truth_pr0 (g := (mkF m 23 #[.val (.ref pr0), .val (.ref w_truth_pr0), .val (.int (8 : Int32)), .val (.int (1 : Int32)), .val (.int c1_w_truth_pr0)] [(.ref pr0), (.int c1_w_truth_pr0)])) rfl rfl (hb hby d6_23)
  have V_c11 := V_w_truth_pr0
  obtain ⟨c11, Arc11, qc11, Sc11, Nc11, Hc11, Gc11⟩ := V_c11
  have hin12 : ¬ ((0 : Int32) < 0 ∨ c11.slots.size ≤ ((0 : Int32)).toNatClampNeg) := inb_of Sc11 ⟨by decide, by decide⟩
  obtain ⟨fs, hr, hrun, hended, hW, hsame⟩ := X10.leave (v := some (.int (0 : Int32))) (fun h => by rw [Bd.returns] at h; cases h)
  refine ⟨_, _, pre0 _ ?_, hrun, hended, _, _, rfl, ?_, ⟨_, rfl⟩, hW, hsame.mono (by decide) (by decide)⟩
  · show Stp p e below s₁ m 0 #[.val (.ref pr0), .unset, .unset, .unset, .unset] [] _
    refine XS.aloadN X0.here hx rfl (hb hby d6_0) rfl rfl ?_
    show Stp p e below s₁ m 1 #[.val (.ref pr0), .unset, .unset, .unset, .unset] [(.ref pr0)] _
    refine st1 _ ?_
    show Stp p e below T1 m 4 #[.val (.ref pr0), .unset, .unset, .unset, .unset] [(.ref w_truth_pr0)] _
    refine XS.astoreN X1.here hx rfl (hb hby d6_4) rfl rfl (l' := #[.val (.ref pr0), .val (.ref w_truth_pr0), .unset, .unset, .unset]) rfl ?_
    show Stp p e below T1 m 5 #[.val (.ref pr0), .val (.ref w_truth_pr0), .unset, .unset, .unset] [] _
    refine XS.aloadN X1.here hx rfl (hb hby d6_5) rfl rfl ?_
    show Stp p e below T1 m 6 #[.val (.ref pr0), .val (.ref w_truth_pr0), .unset, .unset, .unset] [(.ref w_truth_pr0)] _
    refine X1.arraylength hx (by rw [e1]; exact Arc2.1) (State.isArrayOf_alike hZ.alike Arc2.2.1) (g := (mkF m 6 #[.val (.ref pr0), .val (.ref w_truth_pr0), .unset, .unset, .unset] [(.ref w_truth_pr0)])) rfl rfl (hb hby d6_6) _ ?_
    rw [len_of Sc2 Nc2]
    show Stp p e below T1 m 7 #[.val (.ref pr0), .val (.ref w_truth_pr0), .unset, .unset, .unset] [(.int (8 : Int32))] _
    refine XS.istoreN X1.here hx rfl (hb hby d6_7) rfl (l' := #[.val (.ref pr0), .val (.ref w_truth_pr0), .val (.int (8 : Int32)), .unset, .unset]) rfl ?_
    show Stp p e below T1 m 8 #[.val (.ref pr0), .val (.ref w_truth_pr0), .val (.int (8 : Int32)), .unset, .unset] [] _
    refine XS.iconst X1.here hx rfl (hb hby d6_8) ?_
    show Stp p e below T1 m 9 #[.val (.ref pr0), .val (.ref w_truth_pr0), .val (.int (8 : Int32)), .unset, .unset] [(.int (0 : Int32))] _
    refine XS.istoreN X1.here hx rfl (hb hby d6_9) rfl (l' := #[.val (.ref pr0), .val (.ref w_truth_pr0), .val (.int (8 : Int32)), .val (.int (0 : Int32)), .unset]) rfl ?_
    show Stp p e below T1 m 10 #[.val (.ref pr0), .val (.ref w_truth_pr0), .val (.int (8 : Int32)), .val (.int (0 : Int32)), .unset] [] _
    refine XS.iloadN X1.here hx rfl (hb hby d6_10) rfl ?_
    show Stp p e below T1 m 11 #[.val (.ref pr0), .val (.ref w_truth_pr0), .val (.int (8 : Int32)), .val (.int (0 : Int32)), .unset] [(.int (0 : Int32))] _
    refine XS.iloadN X1.here hx rfl (hb hby d6_11) rfl ?_
    show Stp p e below T1 m 12 #[.val (.ref pr0), .val (.ref w_truth_pr0), .val (.int (8 : Int32)), .val (.int (0 : Int32)), .unset] [(.int (8 : Int32)), (.int (0 : Int32))] _
    refine XS.icmpNo X1.here hx rfl (hb hby d6_12) rfl (tlt (by decide : (0 : Int32) < (8 : Int32))).2.1 ?_
    show Stp p e below T1 m 15 #[.val (.ref pr0), .val (.ref w_truth_pr0), .val (.int (8 : Int32)), .val (.int (0 : Int32)), .unset] [] _
    refine XS.aloadN X1.here hx rfl (hb hby d6_15) rfl rfl ?_
    show Stp p e below T1 m 16 #[.val (.ref pr0), .val (.ref w_truth_pr0), .val (.int (8 : Int32)), .val (.int (0 : Int32)), .unset] [(.ref w_truth_pr0)] _
    refine XS.iloadN X1.here hx rfl (hb hby d6_16) rfl ?_
    show Stp p e below T1 m 17 #[.val (.ref pr0), .val (.ref w_truth_pr0), .val (.int (8 : Int32)), .val (.int (0 : Int32)), .unset] [(.int (0 : Int32)), (.ref w_truth_pr0)] _
    refine X1.baloadBooleans hx (j := (0 : Int32)) (v := (.int c0_w_truth_pr0)) (by rw [e1]; exact Arc3.1) (State.isArrayOf_alike hZ.alike Arc3.2.1) Arc3.2.2 hin4 (Has.at Hc3 hin4 rfl) (g := (mkF m 17 #[.val (.ref pr0), .val (.ref w_truth_pr0), .val (.int (8 : Int32)), .val (.int (0 : Int32)), .unset] [(.int (0 : Int32)), (.ref w_truth_pr0)])) rfl rfl (hb hby d6_17) _ ?_
    show Stp p e below T1 m 18 #[.val (.ref pr0), .val (.ref w_truth_pr0), .val (.int (8 : Int32)), .val (.int (0 : Int32)), .unset] [(.int c0_w_truth_pr0)] _
    refine XS.istore X1.here hx rfl (hb hby d6_18) rfl (l' := #[.val (.ref pr0), .val (.ref w_truth_pr0), .val (.int (8 : Int32)), .val (.int (0 : Int32)), .val (.int c0_w_truth_pr0)]) rfl ?_
    show Stp p e below T1 m 20 #[.val (.ref pr0), .val (.ref w_truth_pr0), .val (.int (8 : Int32)), .val (.int (0 : Int32)), .val (.int c0_w_truth_pr0)] [] _
    refine XS.iload X1.here hx rfl (hb hby d6_20) rfl ?_
    show Stp p e below T1 m 22 #[.val (.ref pr0), .val (.ref w_truth_pr0), .val (.int (8 : Int32)), .val (.int (0 : Int32)), .val (.int c0_w_truth_pr0)] [(.int c0_w_truth_pr0)] _
    refine XS.aloadN X1.here hx rfl (hb hby d6_22) rfl rfl ?_
    show Stp p e below T1 m 23 #[.val (.ref pr0), .val (.ref w_truth_pr0), .val (.int (8 : Int32)), .val (.int (0 : Int32)), .val (.int c0_w_truth_pr0)] [(.ref pr0), (.int c0_w_truth_pr0)] _
    refine st5 _ ?_
    show Stp p e below T5 m 26 #[.val (.ref pr0), .val (.ref w_truth_pr0), .val (.int (8 : Int32)), .val (.int (0 : Int32)), .val (.int c0_w_truth_pr0)] [(.ref w_truth_pr0), (.int c0_w_truth_pr0)] _
    refine XS.iconst X5.here hx rfl (hb hby d6_26) ?_
    show Stp p e below T5 m 27 #[.val (.ref pr0), .val (.ref w_truth_pr0), .val (.int (8 : Int32)), .val (.int (0 : Int32)), .val (.int c0_w_truth_pr0)] [(.int (0 : Int32)), (.ref w_truth_pr0), (.int c0_w_truth_pr0)] _
    refine X5.baloadBooleans hx (j := (0 : Int32)) (v := (.int c0_w_truth_pr0)) (by rw [e5]; exact Arc6.1) (State.isArrayOf_alike hZ.alike Arc6.2.1) Arc6.2.2 hin7 (Has.at Hc6 hin7 rfl) (g := (mkF m 27 #[.val (.ref pr0), .val (.ref w_truth_pr0), .val (.int (8 : Int32)), .val (.int (0 : Int32)), .val (.int c0_w_truth_pr0)] [(.int (0 : Int32)), (.ref w_truth_pr0), (.int c0_w_truth_pr0)])) rfl rfl (hb hby d6_27) _ ?_
    show Stp p e below T5 m 28 #[.val (.ref pr0), .val (.ref w_truth_pr0), .val (.int (8 : Int32)), .val (.int (0 : Int32)), .val (.int c0_w_truth_pr0)] [(.int c0_w_truth_pr0), (.int c0_w_truth_pr0)] _
    refine XS.icmpYes X5.here hx rfl (pc0 := 28) (pc' := 33) rfl (hb hby d6_28) rfl (teq (rfl : c0_w_truth_pr0 = c0_w_truth_pr0)).1 (by decide) (by decide) ?_
    show Stp p e below T5 m 33 #[.val (.ref pr0), .val (.ref w_truth_pr0), .val (.int (8 : Int32)), .val (.int (0 : Int32)), .val (.int c0_w_truth_pr0)] [] _
    refine XS.iinc X5.here hx rfl (hb hby d6_33) rfl (l' := #[.val (.ref pr0), .val (.ref w_truth_pr0), .val (.int (8 : Int32)), .val (.int (1 : Int32)), .val (.int c0_w_truth_pr0)]) rfl ?_
    show Stp p e below T5 m 36 #[.val (.ref pr0), .val (.ref w_truth_pr0), .val (.int (8 : Int32)), .val (.int (1 : Int32)), .val (.int c0_w_truth_pr0)] [] _
    refine XS.goto X5.here hx rfl (pc0 := 36) (pc' := 10) rfl (hb hby d6_36) (by decide) (by decide) ?_
    show Stp p e below T5 m 10 #[.val (.ref pr0), .val (.ref w_truth_pr0), .val (.int (8 : Int32)), .val (.int (1 : Int32)), .val (.int c0_w_truth_pr0)] [] _
    refine XS.iloadN X5.here hx rfl (hb hby d6_10) rfl ?_
    show Stp p e below T5 m 11 #[.val (.ref pr0), .val (.ref w_truth_pr0), .val (.int (8 : Int32)), .val (.int (1 : Int32)), .val (.int c0_w_truth_pr0)] [(.int (1 : Int32))] _
    refine XS.iloadN X5.here hx rfl (hb hby d6_11) rfl ?_
    show Stp p e below T5 m 12 #[.val (.ref pr0), .val (.ref w_truth_pr0), .val (.int (8 : Int32)), .val (.int (1 : Int32)), .val (.int c0_w_truth_pr0)] [(.int (8 : Int32)), (.int (1 : Int32))] _
    refine XS.icmpNo X5.here hx rfl (hb hby d6_12) rfl (tlt (by decide : (1 : Int32) < (8 : Int32))).2.1 ?_
    show Stp p e below T5 m 15 #[.val (.ref pr0), .val (.ref w_truth_pr0), .val (.int (8 : Int32)), .val (.int (1 : Int32)), .val (.int c0_w_truth_pr0)] [] _
    refine XS.aloadN X5.here hx rfl (hb hby d6_15) rfl rfl ?_
    show Stp p e below T5 m 16 #[.val (.ref pr0), .val (.ref w_truth_pr0), .val (.int (8 : Int32)), .val (.int (1 : Int32)), .val (.int c0_w_truth_pr0)] [(.ref w_truth_pr0)] _
    refine XS.iloadN X5.here hx rfl (hb hby d6_16) rfl ?_
    show Stp p e below T5 m 17 #[.val (.ref pr0), .val (.ref w_truth_pr0), .val (.int (8 : Int32)), .val (.int (1 : Int32)), .val (.int c0_w_truth_pr0)] [(.int (1 : Int32)), (.ref w_truth_pr0)] _
    refine X5.baloadBooleans hx (j := (1 : Int32)) (v := (.int c1_w_truth_pr0)) (by rw [e5]; exact Arc8.1) (State.isArrayOf_alike hZ.alike Arc8.2.1) Arc8.2.2 hin9 (Has.at Hc8 hin9 rfl) (g := (mkF m 17 #[.val (.ref pr0), .val (.ref w_truth_pr0), .val (.int (8 : Int32)), .val (.int (1 : Int32)), .val (.int c0_w_truth_pr0)] [(.int (1 : Int32)), (.ref w_truth_pr0)])) rfl rfl (hb hby d6_17) _ ?_
    show Stp p e below T5 m 18 #[.val (.ref pr0), .val (.ref w_truth_pr0), .val (.int (8 : Int32)), .val (.int (1 : Int32)), .val (.int c0_w_truth_pr0)] [(.int c1_w_truth_pr0)] _
    refine XS.istore X5.here hx rfl (hb hby d6_18) rfl (l' := #[.val (.ref pr0), .val (.ref w_truth_pr0), .val (.int (8 : Int32)), .val (.int (1 : Int32)), .val (.int c1_w_truth_pr0)]) rfl ?_
    show Stp p e below T5 m 20 #[.val (.ref pr0), .val (.ref w_truth_pr0), .val (.int (8 : Int32)), .val (.int (1 : Int32)), .val (.int c1_w_truth_pr0)] [] _
    refine XS.iload X5.here hx rfl (hb hby d6_20) rfl ?_
    show Stp p e below T5 m 22 #[.val (.ref pr0), .val (.ref w_truth_pr0), .val (.int (8 : Int32)), .val (.int (1 : Int32)), .val (.int c1_w_truth_pr0)] [(.int c1_w_truth_pr0)] _
    refine XS.aloadN X5.here hx rfl (hb hby d6_22) rfl rfl ?_
    show Stp p e below T5 m 23 #[.val (.ref pr0), .val (.ref w_truth_pr0), .val (.int (8 : Int32)), .val (.int (1 : Int32)), .val (.int c1_w_truth_pr0)] [(.ref pr0), (.int c1_w_truth_pr0)] _
    refine st10 _ ?_
    show Stp p e below T10 m 26 #[.val (.ref pr0), .val (.ref w_truth_pr0), .val (.int (8 : Int32)), .val (.int (1 : Int32)), .val (.int c1_w_truth_pr0)] [(.ref w_truth_pr0), (.int c1_w_truth_pr0)] _
    refine XS.iconst X10.here hx rfl (hb hby d6_26) ?_
    show Stp p e below T10 m 27 #[.val (.ref pr0), .val (.ref w_truth_pr0), .val (.int (8 : Int32)), .val (.int (1 : Int32)), .val (.int c1_w_truth_pr0)] [(.int (0 : Int32)), (.ref w_truth_pr0), (.int c1_w_truth_pr0)] _
    refine X10.baloadBooleans hx (j := (0 : Int32)) (v := (.int c0_w_truth_pr0)) (by rw [e10]; exact Arc11.1) (State.isArrayOf_alike hZ.alike Arc11.2.1) Arc11.2.2 hin12 (Has.at Hc11 hin12 rfl) (g := (mkF m 27 #[.val (.ref pr0), .val (.ref w_truth_pr0), .val (.int (8 : Int32)), .val (.int (1 : Int32)), .val (.int c1_w_truth_pr0)] [(.int (0 : Int32)), (.ref w_truth_pr0), (.int c1_w_truth_pr0)])) rfl rfl (hb hby d6_27) _ ?_
    show Stp p e below T10 m 28 #[.val (.ref pr0), .val (.ref w_truth_pr0), .val (.int (8 : Int32)), .val (.int (1 : Int32)), .val (.int c1_w_truth_pr0)] [(.int c0_w_truth_pr0), (.int c1_w_truth_pr0)] _
    refine XS.icmpNo X10.here hx rfl (hb hby d6_28) rfl (feq hc28_0).1 ?_
    show Stp p e below T10 m 31 #[.val (.ref pr0), .val (.ref w_truth_pr0), .val (.int (8 : Int32)), .val (.int (1 : Int32)), .val (.int c1_w_truth_pr0)] [] _
    refine XS.iconst X10.here hx rfl (hb hby d6_31) ?_
    show Stp p e below T10 m 32 #[.val (.ref pr0), .val (.ref w_truth_pr0), .val (.int (8 : Int32)), .val (.int (1 : Int32)), .val (.int c1_w_truth_pr0)] [(.int (0 : Int32))] _
    exact retN X10 hx (t := .boolean) Bd.returns (by simp) (hb hby d6_32) hr
  · show Q6_k3f Z pr0 w_truth_pr0 kk_w_truth_pr0 c0_w_truth_pr0 c1_w_truth_pr0 c2_w_truth_pr0 c3_w_truth_pr0 c4_w_truth_pr0 c5_w_truth_pr0 c6_w_truth_pr0 c7_w_truth_pr0 h0 n0 _ T10.heap _
    rw [e10]
    exact ⟨rfl, N0, rfl⟩
def own_ic3 (c0_w_truth_pr0 : Int32) (c1_w_truth_pr0 : Int32) (c2_w_truth_pr0 : Int32) (c3_w_truth_pr0 : Int32) (c4_w_truth_pr0 : Int32) (c5_w_truth_pr0 : Int32) (c6_w_truth_pr0 : Int32) (c7_w_truth_pr0 : Int32) : Int32 := (if c1_w_truth_pr0 = c0_w_truth_pr0 then (if c2_w_truth_pr0 = c0_w_truth_pr0 then (if c3_w_truth_pr0 = c0_w_truth_pr0 then (if c4_w_truth_pr0 = c0_w_truth_pr0 then (if c5_w_truth_pr0 = c0_w_truth_pr0 then (if c6_w_truth_pr0 = c0_w_truth_pr0 then (if c7_w_truth_pr0 = c0_w_truth_pr0 then (1 : Int32) else (0 : Int32)) else (0 : Int32)) else (0 : Int32)) else (0 : Int32)) else (0 : Int32)) else (0 : Int32)) else (0 : Int32))
def Q6k3 (Z : State) (pr0 : Addr) (w_truth_pr0 : Addr) (kk_w_truth_pr0 : ClassId) (c0_w_truth_pr0 : Int32) (c1_w_truth_pr0 : Int32) (c2_w_truth_pr0 : Int32) (c3_w_truth_pr0 : Int32) (c4_w_truth_pr0 : Int32) (c5_w_truth_pr0 : Int32) (c6_w_truth_pr0 : Int32) (c7_w_truth_pr0 : Int32) (h0 : Heap) (n0 : Nat) (v : Option Value) (h : Heap) (L : List Loc) : Prop := v = some (.int (own_ic3 c0_w_truth_pr0 c1_w_truth_pr0 c2_w_truth_pr0 c3_w_truth_pr0 c4_w_truth_pr0 c5_w_truth_pr0 c6_w_truth_pr0 c7_w_truth_pr0)) ∧ Fr n0 L ∧ h = h0
set_option maxRecDepth 65536 in
theorem rm6k3 (l : Launch) (Z : State) (a0 : Array Value) (hw : ∀ d ∈ tables_1, d.before a0 Z = true) (ws : List Jvm.Cond) (pr0 : Addr) (w_truth_pr0 : Addr) (kk_w_truth_pr0 : ClassId) (c0_w_truth_pr0 : Int32) (c1_w_truth_pr0 : Int32) (c2_w_truth_pr0 : Int32) (c3_w_truth_pr0 : Int32) (c4_w_truth_pr0 : Int32) (c5_w_truth_pr0 : Int32) (c6_w_truth_pr0 : Int32) (c7_w_truth_pr0 : Int32) (h0 : Heap) (n0 : Nat) (Z0 : n0 ≤ h0.size) (O0 : Old Z n0 h0) (F_truth_pr0 : Fld Z h0 pr0 "com/example/gudl/gudl/GroundFactor" "truth" "[Z" (.ref w_truth_pr0)) (V_w_truth_pr0 : Arv Z h0 w_truth_pr0 kk_w_truth_pr0 .boolean (8 : Int32) [(.int c0_w_truth_pr0), (.int c1_w_truth_pr0), (.int c2_w_truth_pr0), (.int c3_w_truth_pr0), (.int c4_w_truth_pr0), (.int c5_w_truth_pr0), (.int c6_w_truth_pr0), (.int c7_w_truth_pr0)] (.int (0 : Int32))) :
    MetFree l (⟨"com/example/gudl/gudl/GroundFactor", "isConstant", "()Z"⟩ : MethodName) (head1 (Jvm.Cond.code (⟨"com/example/gudl/gudl/GroundFactor", "isConstant", "()Z"⟩ : MethodName) prog_42_method_8_code 5 (some .boolean) :: ws) ({ frames := 0, cells := 0, slots := 0, locals := 0 } : Room)) (fun a U => a = #[(.ref pr0)] ∧ Z.Warmed39 U.vm ∧ U.heap = h0) (fun _ _ _ _ _ => True) (fun _ U o U' => ∃ v L, o = .returned v ∧ Q6k3 Z pr0 w_truth_pr0 kk_w_truth_pr0 c0_w_truth_pr0 c1_w_truth_pr0 c2_w_truth_pr0 c3_w_truth_pr0 c4_w_truth_pr0 c5_w_truth_pr0 c6_w_truth_pr0 c7_w_truth_pr0 h0 n0 v U'.heap L ∧ FrameEnd U o U' L ({ frames := 0, cells := 0, slots := 0, locals := 0 } : Room).cells ({ frames := 0, cells := 0, slots := 0, locals := 0 } : Room).slots) := by
  by_cases H1 : c1_w_truth_pr0 = c0_w_truth_pr0
  · by_cases H2 : c2_w_truth_pr0 = c0_w_truth_pr0
    · by_cases H3 : c3_w_truth_pr0 = c0_w_truth_pr0
      · by_cases H4 : c4_w_truth_pr0 = c0_w_truth_pr0
        · by_cases H5 : c5_w_truth_pr0 = c0_w_truth_pr0
          · by_cases H6 : c6_w_truth_pr0 = c0_w_truth_pr0
            · by_cases H7 : c7_w_truth_pr0 = c0_w_truth_pr0
              · have e : (own_ic3 c0_w_truth_pr0 c1_w_truth_pr0 c2_w_truth_pr0 c3_w_truth_pr0 c4_w_truth_pr0 c5_w_truth_pr0 c6_w_truth_pr0 c7_w_truth_pr0) = (1 : Int32) := by unfold own_ic3; rw [if_pos H1, if_pos H2, if_pos H3, if_pos H4, if_pos H5, if_pos H6, if_pos H7]
                show MetFree l (⟨"com/example/gudl/gudl/GroundFactor", "isConstant", "()Z"⟩ : MethodName) (head1 (Jvm.Cond.code (⟨"com/example/gudl/gudl/GroundFactor", "isConstant", "()Z"⟩ : MethodName) prog_42_method_8_code 5 (some .boolean) :: ws) ({ frames := 0, cells := 0, slots := 0, locals := 0 } : Room)) (fun a U => a = #[(.ref pr0)] ∧ Z.Warmed39 U.vm ∧ U.heap = h0) (fun _ _ _ _ _ => True) (fun _ U o U' => ∃ v L, o = .returned v ∧ (v = some (.int (own_ic3 c0_w_truth_pr0 c1_w_truth_pr0 c2_w_truth_pr0 c3_w_truth_pr0 c4_w_truth_pr0 c5_w_truth_pr0 c6_w_truth_pr0 c7_w_truth_pr0)) ∧ Fr n0 L ∧ U'.heap = h0) ∧ FrameEnd U o U' L ({ frames := 0, cells := 0, slots := 0, locals := 0 } : Room).cells ({ frames := 0, cells := 0, slots := 0, locals := 0 } : Room).slots)
                rw [e]
                exact rm6_k3ttttttt l Z a0 hw ws pr0 w_truth_pr0 kk_w_truth_pr0 c0_w_truth_pr0 c1_w_truth_pr0 c2_w_truth_pr0 c3_w_truth_pr0 c4_w_truth_pr0 c5_w_truth_pr0 c6_w_truth_pr0 c7_w_truth_pr0 h0 n0 Z0 O0 F_truth_pr0 V_w_truth_pr0 H1 H2 H3 H4 H5 H6 H7
              · have e : (own_ic3 c0_w_truth_pr0 c1_w_truth_pr0 c2_w_truth_pr0 c3_w_truth_pr0 c4_w_truth_pr0 c5_w_truth_pr0 c6_w_truth_pr0 c7_w_truth_pr0) = (0 : Int32) := by unfold own_ic3; rw [if_pos H1, if_pos H2, if_pos H3, if_pos H4, if_pos H5, if_pos H6, if_neg H7]
                show MetFree l (⟨"com/example/gudl/gudl/GroundFactor", "isConstant", "()Z"⟩ : MethodName) (head1 (Jvm.Cond.code (⟨"com/example/gudl/gudl/GroundFactor", "isConstant", "()Z"⟩ : MethodName) prog_42_method_8_code 5 (some .boolean) :: ws) ({ frames := 0, cells := 0, slots := 0, locals := 0 } : Room)) (fun a U => a = #[(.ref pr0)] ∧ Z.Warmed39 U.vm ∧ U.heap = h0) (fun _ _ _ _ _ => True) (fun _ U o U' => ∃ v L, o = .returned v ∧ (v = some (.int (own_ic3 c0_w_truth_pr0 c1_w_truth_pr0 c2_w_truth_pr0 c3_w_truth_pr0 c4_w_truth_pr0 c5_w_truth_pr0 c6_w_truth_pr0 c7_w_truth_pr0)) ∧ Fr n0 L ∧ U'.heap = h0) ∧ FrameEnd U o U' L ({ frames := 0, cells := 0, slots := 0, locals := 0 } : Room).cells ({ frames := 0, cells := 0, slots := 0, locals := 0 } : Room).slots)
                rw [e]
                exact rm6_k3ttttttf l Z a0 hw ws pr0 w_truth_pr0 kk_w_truth_pr0 c0_w_truth_pr0 c1_w_truth_pr0 c2_w_truth_pr0 c3_w_truth_pr0 c4_w_truth_pr0 c5_w_truth_pr0 c6_w_truth_pr0 c7_w_truth_pr0 h0 n0 Z0 O0 F_truth_pr0 V_w_truth_pr0 H1 H2 H3 H4 H5 H6 H7
            · have e : (own_ic3 c0_w_truth_pr0 c1_w_truth_pr0 c2_w_truth_pr0 c3_w_truth_pr0 c4_w_truth_pr0 c5_w_truth_pr0 c6_w_truth_pr0 c7_w_truth_pr0) = (0 : Int32) := by unfold own_ic3; rw [if_pos H1, if_pos H2, if_pos H3, if_pos H4, if_pos H5, if_neg H6]
              show MetFree l (⟨"com/example/gudl/gudl/GroundFactor", "isConstant", "()Z"⟩ : MethodName) (head1 (Jvm.Cond.code (⟨"com/example/gudl/gudl/GroundFactor", "isConstant", "()Z"⟩ : MethodName) prog_42_method_8_code 5 (some .boolean) :: ws) ({ frames := 0, cells := 0, slots := 0, locals := 0 } : Room)) (fun a U => a = #[(.ref pr0)] ∧ Z.Warmed39 U.vm ∧ U.heap = h0) (fun _ _ _ _ _ => True) (fun _ U o U' => ∃ v L, o = .returned v ∧ (v = some (.int (own_ic3 c0_w_truth_pr0 c1_w_truth_pr0 c2_w_truth_pr0 c3_w_truth_pr0 c4_w_truth_pr0 c5_w_truth_pr0 c6_w_truth_pr0 c7_w_truth_pr0)) ∧ Fr n0 L ∧ U'.heap = h0) ∧ FrameEnd U o U' L ({ frames := 0, cells := 0, slots := 0, locals := 0 } : Room).cells ({ frames := 0, cells := 0, slots := 0, locals := 0 } : Room).slots)
              rw [e]
              exact rm6_k3tttttf l Z a0 hw ws pr0 w_truth_pr0 kk_w_truth_pr0 c0_w_truth_pr0 c1_w_truth_pr0 c2_w_truth_pr0 c3_w_truth_pr0 c4_w_truth_pr0 c5_w_truth_pr0 c6_w_truth_pr0 c7_w_truth_pr0 h0 n0 Z0 O0 F_truth_pr0 V_w_truth_pr0 H1 H2 H3 H4 H5 H6
          · have e : (own_ic3 c0_w_truth_pr0 c1_w_truth_pr0 c2_w_truth_pr0 c3_w_truth_pr0 c4_w_truth_pr0 c5_w_truth_pr0 c6_w_truth_pr0 c7_w_truth_pr0) = (0 : Int32) := by unfold own_ic3; rw [if_pos H1, if_pos H2, if_pos H3, if_pos H4, if_neg H5]
            show MetFree l (⟨"com/example/gudl/gudl/GroundFactor", "isConstant", "()Z"⟩ : MethodName) (head1 (Jvm.Cond.code (⟨"com/example/gudl/gudl/GroundFactor", "isConstant", "()Z"⟩ : MethodName) prog_42_method_8_code 5 (some .boolean) :: ws) ({ frames := 0, cells := 0, slots := 0, locals := 0 } : Room)) (fun a U => a = #[(.ref pr0)] ∧ Z.Warmed39 U.vm ∧ U.heap = h0) (fun _ _ _ _ _ => True) (fun _ U o U' => ∃ v L, o = .returned v ∧ (v = some (.int (own_ic3 c0_w_truth_pr0 c1_w_truth_pr0 c2_w_truth_pr0 c3_w_truth_pr0 c4_w_truth_pr0 c5_w_truth_pr0 c6_w_truth_pr0 c7_w_truth_pr0)) ∧ Fr n0 L ∧ U'.heap = h0) ∧ FrameEnd U o U' L ({ frames := 0, cells := 0, slots := 0, locals := 0 } : Room).cells ({ frames := 0, cells := 0, slots := 0, locals := 0 } : Room).slots)
            rw [e]
            exact rm6_k3ttttf l Z a0 hw ws pr0 w_truth_pr0 kk_w_truth_pr0 c0_w_truth_pr0 c1_w_truth_pr0 c2_w_truth_pr0 c3_w_truth_pr0 c4_w_truth_pr0 c5_w_truth_pr0 c6_w_truth_pr0 c7_w_truth_pr0 h0 n0 Z0 O0 F_truth_pr0 V_w_truth_pr0 H1 H2 H3 H4 H5
        · have e : (own_ic3 c0_w_truth_pr0 c1_w_truth_pr0 c2_w_truth_pr0 c3_w_truth_pr0 c4_w_truth_pr0 c5_w_truth_pr0 c6_w_truth_pr0 c7_w_truth_pr0) = (0 : Int32) := by unfold own_ic3; rw [if_pos H1, if_pos H2, if_pos H3, if_neg H4]
          show MetFree l (⟨"com/example/gudl/gudl/GroundFactor", "isConstant", "()Z"⟩ : MethodName) (head1 (Jvm.Cond.code (⟨"com/example/gudl/gudl/GroundFactor", "isConstant", "()Z"⟩ : MethodName) prog_42_method_8_code 5 (some .boolean) :: ws) ({ frames := 0, cells := 0, slots := 0, locals := 0 } : Room)) (fun a U => a = #[(.ref pr0)] ∧ Z.Warmed39 U.vm ∧ U.heap = h0) (fun _ _ _ _ _ => True) (fun _ U o U' => ∃ v L, o = .returned v ∧ (v = some (.int (own_ic3 c0_w_truth_pr0 c1_w_truth_pr0 c2_w_truth_pr0 c3_w_truth_pr0 c4_w_truth_pr0 c5_w_truth_pr0 c6_w_truth_pr0 c7_w_truth_pr0)) ∧ Fr n0 L ∧ U'.heap = h0) ∧ FrameEnd U o U' L ({ frames := 0, cells := 0, slots := 0, locals := 0 } : Room).cells ({ frames := 0, cells := 0, slots := 0, locals := 0 } : Room).slots)
          rw [e]
          exact rm6_k3tttf l Z a0 hw ws pr0 w_truth_pr0 kk_w_truth_pr0 c0_w_truth_pr0 c1_w_truth_pr0 c2_w_truth_pr0 c3_w_truth_pr0 c4_w_truth_pr0 c5_w_truth_pr0 c6_w_truth_pr0 c7_w_truth_pr0 h0 n0 Z0 O0 F_truth_pr0 V_w_truth_pr0 H1 H2 H3 H4
      · have e : (own_ic3 c0_w_truth_pr0 c1_w_truth_pr0 c2_w_truth_pr0 c3_w_truth_pr0 c4_w_truth_pr0 c5_w_truth_pr0 c6_w_truth_pr0 c7_w_truth_pr0) = (0 : Int32) := by unfold own_ic3; rw [if_pos H1, if_pos H2, if_neg H3]
        show MetFree l (⟨"com/example/gudl/gudl/GroundFactor", "isConstant", "()Z"⟩ : MethodName) (head1 (Jvm.Cond.code (⟨"com/example/gudl/gudl/GroundFactor", "isConstant", "()Z"⟩ : MethodName) prog_42_method_8_code 5 (some .boolean) :: ws) ({ frames := 0, cells := 0, slots := 0, locals := 0 } : Room)) (fun a U => a = #[(.ref pr0)] ∧ Z.Warmed39 U.vm ∧ U.heap = h0) (fun _ _ _ _ _ => True) (fun _ U o U' => ∃ v L, o = .returned v ∧ (v = some (.int (own_ic3 c0_w_truth_pr0 c1_w_truth_pr0 c2_w_truth_pr0 c3_w_truth_pr0 c4_w_truth_pr0 c5_w_truth_pr0 c6_w_truth_pr0 c7_w_truth_pr0)) ∧ Fr n0 L ∧ U'.heap = h0) ∧ FrameEnd U o U' L ({ frames := 0, cells := 0, slots := 0, locals := 0 } : Room).cells ({ frames := 0, cells := 0, slots := 0, locals := 0 } : Room).slots)
        rw [e]
        exact rm6_k3ttf l Z a0 hw ws pr0 w_truth_pr0 kk_w_truth_pr0 c0_w_truth_pr0 c1_w_truth_pr0 c2_w_truth_pr0 c3_w_truth_pr0 c4_w_truth_pr0 c5_w_truth_pr0 c6_w_truth_pr0 c7_w_truth_pr0 h0 n0 Z0 O0 F_truth_pr0 V_w_truth_pr0 H1 H2 H3
    · have e : (own_ic3 c0_w_truth_pr0 c1_w_truth_pr0 c2_w_truth_pr0 c3_w_truth_pr0 c4_w_truth_pr0 c5_w_truth_pr0 c6_w_truth_pr0 c7_w_truth_pr0) = (0 : Int32) := by unfold own_ic3; rw [if_pos H1, if_neg H2]
      show MetFree l (⟨"com/example/gudl/gudl/GroundFactor", "isConstant", "()Z"⟩ : MethodName) (head1 (Jvm.Cond.code (⟨"com/example/gudl/gudl/GroundFactor", "isConstant", "()Z"⟩ : MethodName) prog_42_method_8_code 5 (some .boolean) :: ws) ({ frames := 0, cells := 0, slots := 0, locals := 0 } : Room)) (fun a U => a = #[(.ref pr0)] ∧ Z.Warmed39 U.vm ∧ U.heap = h0) (fun _ _ _ _ _ => True) (fun _ U o U' => ∃ v L, o = .returned v ∧ (v = some (.int (own_ic3 c0_w_truth_pr0 c1_w_truth_pr0 c2_w_truth_pr0 c3_w_truth_pr0 c4_w_truth_pr0 c5_w_truth_pr0 c6_w_truth_pr0 c7_w_truth_pr0)) ∧ Fr n0 L ∧ U'.heap = h0) ∧ FrameEnd U o U' L ({ frames := 0, cells := 0, slots := 0, locals := 0 } : Room).cells ({ frames := 0, cells := 0, slots := 0, locals := 0 } : Room).slots)
      rw [e]
      exact rm6_k3tf l Z a0 hw ws pr0 w_truth_pr0 kk_w_truth_pr0 c0_w_truth_pr0 c1_w_truth_pr0 c2_w_truth_pr0 c3_w_truth_pr0 c4_w_truth_pr0 c5_w_truth_pr0 c6_w_truth_pr0 c7_w_truth_pr0 h0 n0 Z0 O0 F_truth_pr0 V_w_truth_pr0 H1 H2
  · have e : (own_ic3 c0_w_truth_pr0 c1_w_truth_pr0 c2_w_truth_pr0 c3_w_truth_pr0 c4_w_truth_pr0 c5_w_truth_pr0 c6_w_truth_pr0 c7_w_truth_pr0) = (0 : Int32) := by unfold own_ic3; rw [if_neg H1]
    show MetFree l (⟨"com/example/gudl/gudl/GroundFactor", "isConstant", "()Z"⟩ : MethodName) (head1 (Jvm.Cond.code (⟨"com/example/gudl/gudl/GroundFactor", "isConstant", "()Z"⟩ : MethodName) prog_42_method_8_code 5 (some .boolean) :: ws) ({ frames := 0, cells := 0, slots := 0, locals := 0 } : Room)) (fun a U => a = #[(.ref pr0)] ∧ Z.Warmed39 U.vm ∧ U.heap = h0) (fun _ _ _ _ _ => True) (fun _ U o U' => ∃ v L, o = .returned v ∧ (v = some (.int (own_ic3 c0_w_truth_pr0 c1_w_truth_pr0 c2_w_truth_pr0 c3_w_truth_pr0 c4_w_truth_pr0 c5_w_truth_pr0 c6_w_truth_pr0 c7_w_truth_pr0)) ∧ Fr n0 L ∧ U'.heap = h0) ∧ FrameEnd U o U' L ({ frames := 0, cells := 0, slots := 0, locals := 0 } : Room).cells ({ frames := 0, cells := 0, slots := 0, locals := 0 } : Room).slots)
    rw [e]
    exact rm6_k3f l Z a0 hw ws pr0 w_truth_pr0 kk_w_truth_pr0 c0_w_truth_pr0 c1_w_truth_pr0 c2_w_truth_pr0 c3_w_truth_pr0 c4_w_truth_pr0 c5_w_truth_pr0 c6_w_truth_pr0 c7_w_truth_pr0 h0 n0 Z0 O0 F_truth_pr0 V_w_truth_pr0 H1
theorem pd_0 : parseMethodDescriptor "(II)[Z" = some ⟨[.int, .int], some (.array .boolean)⟩ := by decide +kernel
theorem pd_2 : parseMethodDescriptor "(II)[I" = some ⟨[.int, .int], some (.array .int)⟩ := by decide +kernel
theorem pd_3 : parseMethodDescriptor "(D[I[Z)V" = some ⟨[.double, (.array .int), (.array .boolean)], none⟩ := by decide +kernel
theorem pd_5 : parseMethodDescriptor "()Z" = some ⟨[], some .boolean⟩ := by decide +kernel
theorem own_one {p : Int32} (h : ¬ p &&& (1 : Int32) = (0 : Int32)) : p &&& (1 : Int32) = (1 : Int32) := by
  rw [own_tw p 0 1 rfl] at *
  generalize p.toBitVec.getLsbD 0 = x at *
  revert x
  decide
set_option maxRecDepth 65536 in
set_option maxHeartbeats 4000000 in
theorem own_e0 (p : Int32) : own_ic0 = if p &&& (1 : Int32) = (0 : Int32) then (1 : Int32) else if p &&& (1 : Int32) = (1 : Int32) then (1 : Int32) else (0 : Int32) := by
  rw [own_tw p 0 1 rfl]
  generalize p.toBitVec.getLsbD 0 = x0
  revert x0
  decide +kernel
set_option maxRecDepth 65536 in
set_option maxHeartbeats 4000000 in
theorem own_e1 (p : Int32) : (own_ic1 (nar .boolean (own_bt p (0 : Int32))) (nar .boolean (own_bt p (1 : Int32)))) = if p &&& (3 : Int32) = (0 : Int32) then (1 : Int32) else if p &&& (3 : Int32) = (3 : Int32) then (1 : Int32) else (0 : Int32) := by
  unfold own_bt
  rw [own_m2, own_tw p 0 1 rfl, own_tw p 1 2 rfl, own_bi p 0 0 rfl (by decide), own_bi p 1 1 rfl (by decide)]
  generalize p.toBitVec.getLsbD 0 = x0
  generalize p.toBitVec.getLsbD 1 = x1
  revert x0 x1
  decide +kernel
set_option maxRecDepth 65536 in
set_option maxHeartbeats 4000000 in
theorem own_e2 (p : Int32) : (own_ic2 (nar .boolean (own_bt p (0 : Int32))) (nar .boolean (own_bt p (1 : Int32))) (nar .boolean (own_bt p (2 : Int32))) (nar .boolean (own_bt p (3 : Int32)))) = if p &&& (15 : Int32) = (0 : Int32) then (1 : Int32) else if p &&& (15 : Int32) = (15 : Int32) then (1 : Int32) else (0 : Int32) := by
  unfold own_bt
  rw [own_m4, own_tw p 0 1 rfl, own_tw p 1 2 rfl, own_tw p 2 4 rfl, own_tw p 3 8 rfl, own_bi p 0 0 rfl (by decide), own_bi p 1 1 rfl (by decide), own_bi p 2 2 rfl (by decide), own_bi p 3 3 rfl (by decide)]
  generalize p.toBitVec.getLsbD 0 = x0
  generalize p.toBitVec.getLsbD 1 = x1
  generalize p.toBitVec.getLsbD 2 = x2
  generalize p.toBitVec.getLsbD 3 = x3
  revert x0 x1 x2 x3
  decide +kernel
set_option maxRecDepth 65536 in
set_option maxHeartbeats 4000000 in
theorem own_e3 (p : Int32) : (own_ic3 (nar .boolean (own_bt p (0 : Int32))) (nar .boolean (own_bt p (1 : Int32))) (nar .boolean (own_bt p (2 : Int32))) (nar .boolean (own_bt p (3 : Int32))) (nar .boolean (own_bt p (4 : Int32))) (nar .boolean (own_bt p (5 : Int32))) (nar .boolean (own_bt p (6 : Int32))) (nar .boolean (own_bt p (7 : Int32)))) = if p &&& (255 : Int32) = (0 : Int32) then (1 : Int32) else if p &&& (255 : Int32) = (255 : Int32) then (1 : Int32) else (0 : Int32) := by
  unfold own_bt
  rw [own_m8, own_tw p 0 1 rfl, own_tw p 1 2 rfl, own_tw p 2 4 rfl, own_tw p 3 8 rfl, own_tw p 4 16 rfl, own_tw p 5 32 rfl, own_tw p 6 64 rfl, own_tw p 7 128 rfl, own_bi p 0 0 rfl (by decide), own_bi p 1 1 rfl (by decide), own_bi p 2 2 rfl (by decide), own_bi p 3 3 rfl (by decide), own_bi p 4 4 rfl (by decide), own_bi p 5 5 rfl (by decide), own_bi p 6 6 rfl (by decide), own_bi p 7 7 rfl (by decide)]
  generalize p.toBitVec.getLsbD 0 = x0
  generalize p.toBitVec.getLsbD 1 = x1
  generalize p.toBitVec.getLsbD 2 = x2
  generalize p.toBitVec.getLsbD 3 = x3
  generalize p.toBitVec.getLsbD 4 = x4
  generalize p.toBitVec.getLsbD 5 = x5
  generalize p.toBitVec.getLsbD 6 = x6
  generalize p.toBitVec.getLsbD 7 = x7
  revert x0 x1 x2 x3 x4 x5 x6 x7
  decide +kernel
theorem pn_0 : plainName "com/example/gudl/gudl/GroundFactorIsConstantPinLaw" = true := by first | (simp [plainName, overriddenIn]; done) | decide +kernel
theorem ef_0 (m : MethodId) (pi1 : Int32) (pi2 : Int32) (pi3 : Int32) (pi4 : Int32) : entryFrame m #[(.int pi1), (.int pi2), (.int pi3), (.int pi4)] maxLocals = mkF m 0 #[.val (.int pi1), .val (.int pi2), .val (.int pi3), .val (.int pi4), .unset, .unset, .unset, .unset, .unset, .unset, .unset, .unset, .unset, .unset] [] := by first | (simp [entryFrame, mkF, argsToLocals, Value.category, maxLocals]; done) | rfl
def Q0 (v : Option Value) (L : List Loc) (n0 : Nat) : Prop := v = some (.int (1 : Int32)) ∧ Fr n0 L
set_option maxRecDepth 65536 in
set_option maxHeartbeats 40000000 in
theorem rm0_tt (l : Launch) (Z : State) (a0 : Array Value) (hw : ∀ d ∈ tables_1, d.before a0 Z = true) (ws : List Jvm.Cond) (pi1 : Int32) (pi2 : Int32) (pi3 : Int32) (pi4 : Int32) (h0 : Heap) (n0 : Nat) (Z0 : n0 ≤ h0.size) (O0 : Old Z n0 h0) (hc3_0 : (pi1 &&& (3 : Int32)) = (0 : Int32)) (hc27_1 : (pi2 &&& (1 : Int32)) = (0 : Int32)) :
    MetFree l x (head1 (Jvm.Cond.code x code maxLocals ret :: ws) room_1) (fun a U => a = #[(.int pi1), (.int pi2), (.int pi3), (.int pi4)] ∧ Z.Warmed39 U.vm ∧ U.heap = h0) (fun _ _ _ _ _ => True) (fun _ U o U' => ∃ v L, o = .returned v ∧ Q0 v L n0 ∧ FrameEnd U o U' L room_1.cells room_1.slots) := by
  refine MetFree.of_bodySF (plainFor_of_name pn_0) hisR ?_
  intro p e s m args below meth c s₁ Bd hml0 hP hK
  obtain ⟨rfl, hZ, hh⟩ := hP
  have hx := Bd.exec
  have hby := Bd.bytes
  have hml : c.maxLocals = 14 := hml0
  have hown : s.vm.findClass "com/example/gudl/gudl/GroundFactorIsConstantPinLaw" = some m.cls := findClass_of_methodNamed Bd.named
  have hnm := (name_of_methodNamed Bd.named Bd.method).1
  have X0 : Stand p l e room_1 s m #[(.int pi1), (.int pi2), (.int pi3), (.int pi4)] below meth c s₁ [] 0 0 := Stand.of_body Bd
  have e0 : s₁.heap = h0 := by rw [← hh, Bd.state]; rfl
  have N0 := Fr.nil n0
  have pre0 : ∀ t, Steps p.tables e below (s₁.setTop (mkF m 0 #[.val (.int pi1), .val (.int pi2), .val (.int pi3), .val (.int pi4), .unset, .unset, .unset, .unset, .unset, .unset, .unset, .unset, .unset, .unset] [])) t → Steps p.tables e below (s₁.setTop (entryFrame m #[(.int pi1), (.int pi2), (.int pi3), (.int pi4)] maxLocals)) t := fun t k => castTop (ef_0 m pi1 pi2 pi3 pi4) k
  obtain ⟨_, _, ⟨T1, L1, k1, n1⟩, -, X1, ⟨Lc1, hQ1, l1, y1, z1⟩, st1⟩ := Jvm.LawKit.callS X0 hx (y := (⟨"com/example/gudl/gudl/GroundFactorIsConstantPinLaw", "truthArray", "(II)[Z"⟩ : MethodName)) hown (mvT hZ (own_W hw 0 rfl)) (mvT hZ (own_W hw 1 rfl)) (mvT hZ (own_W hw 2 rfl)) (mvT hZ (own_W hw 3 rfl)) (by decide) (backOf (W := 0) (rm1_0 l Z a0 hw [] (0 : Int32) pi2 h0 n0 Z0 O0 rfl) hZ (own_W hw 3 rfl) (own_W hw 2 rfl) (by decide) (by decide)) (g := (mkF m 47 #[.val (.int pi1), .val (.int pi2), .val (.int pi3), .val (.int pi4), .val (.int (0 : Int32)), .val (.int (1 : Int32)), .val (.int (1 : Int32)), .val (.int (pi2 &&& (1 : Int32))), .val (.int (1 : Int32)), .unset, .unset, .unset, .unset, .unset] [(.int pi2), (.int (0 : Int32))])) rfl (by rw [hml]; rfl) (argsL := [(.int (0 : Int32)), (.int pi2)]) (rest := []) (lenOf pd_0 rfl) rfl (by show 2 * 0 + _ ≤ _; exact Nat.le_of_eq rfl) (hb hby at_47) (fun _ _ => ⟨rfl, e0, (by decide : 0 + 1 ≤ _), (by decide : 0 + 1 ≤ _)⟩)
  dsimp only [Pt.U, Pt.locs, Pt.cells, Pt.slots] at X1 l1 y1 z1 st1 hQ1
  subst l1 y1 z1
  obtain ⟨b1, b1_1, rfl, N1q, K1, qf1_0, qf1_1⟩ := hQ1
  have N1 := Fr.app N0 N1q
  have z3 := Nat.le_trans Z0 K1.1
  have o4 := O0.keep K1 all0
  obtain ⟨_, _, ⟨T2, L2, k2, n2⟩, -, X2, ⟨Lc2, hQ2, l2, y2, z2⟩, st2⟩ := Jvm.LawKit.callS X1 hx (y := (⟨"com/example/gudl/gudl/GroundFactorIsConstantPinLaw", "atomArray", "(II)[I"⟩ : MethodName)) hown (mvT hZ (own_W hw 8 rfl)) (mvT hZ (own_W hw 9 rfl)) (mvT hZ (own_W hw 2 rfl)) (mvT hZ (own_W hw 10 rfl)) (by decide) (backOf (W := 0) (rm3_0 l Z a0 hw [] (0 : Int32) pi3 T1.heap n0 z3 o4 rfl) hZ (own_W hw 10 rfl) (own_W hw 2 rfl) (by decide) (by decide)) (g := (mkF m 55 #[.val (.int pi1), .val (.int pi2), .val (.int pi3), .val (.int pi4), .val (.int (0 : Int32)), .val (.int (1 : Int32)), .val (.int (1 : Int32)), .val (.int (pi2 &&& (1 : Int32))), .val (.int (1 : Int32)), .val (.ref b1), .unset, .unset, .unset, .unset] [(.int pi3), (.int (0 : Int32))])) rfl (by rw [hml]; rfl) (argsL := [(.int (0 : Int32)), (.int pi3)]) (rest := []) (lenOf pd_2 rfl) rfl (by show 2 * 0 + _ ≤ _; exact Nat.le_of_eq rfl) (hb hby at_55) (fun _ _ => ⟨rfl, rfl, (by decide : 1 + 1 ≤ _), (by decide : 1 + 0 ≤ _)⟩)
  dsimp only [Pt.U, Pt.locs, Pt.cells, Pt.slots] at X2 l2 y2 z2 st2 hQ2
  subst l2 y2 z2
  obtain ⟨b2, b2_1, rfl, N2q, K2, qf2_0, qf2_1⟩ := hQ2
  have N2 := Fr.app N1 N2q
  obtain ⟨T5, h5, X5, e5, E5, A5, D5, -, st5⟩ := newO X2 hx hZ hown (own_W hw 12 rfl) (own_W hw 13 rfl) (own_W hw 14 rfl) rfl (g := (mkF m 65 #[.val (.int pi1), .val (.int pi2), .val (.int pi3), .val (.int pi4), .val (.int (0 : Int32)), .val (.int (1 : Int32)), .val (.int (1 : Int32)), .val (.int (pi2 &&& (1 : Int32))), .val (.int (1 : Int32)), .val (.ref b1), .val (.ref b2), .val (.double (FP.i2d (pi4.toInt16.toInt32))), .second, .unset] [])) rfl (hb hby at_65) (by decide) (by decide)
  obtain ⟨b5, g5⟩ : ∃ z, z = T2.heap.size := ⟨_, rfl⟩
  rw [← g5] at A5 D5 st5
  have F_value_b5 : Fld Z h5 b5 "com/example/gudl/gudl/GroundFactor" "value" "D" (.double (0 : UInt64)) := D5 (Or.inr (own_W hw 22 rfl)) (ty := .double) (by decide)
  have F_atoms_b5 : Fld Z h5 b5 "com/example/gudl/gudl/GroundFactor" "atoms" "[I" .null := D5 (Or.inr (own_W hw 24 rfl)) (ty := (.array .int)) (by decide)
  have F_truth_b5 : Fld Z h5 b5 "com/example/gudl/gudl/GroundFactor" "truth" "[Z" .null := D5 (Or.inr (own_W hw 26 rfl)) (ty := (.array .boolean)) (by decide)
  have f6 := qf2_1.ext E5
  have f7 := qf1_1.keep K2 nin0
  have f8 := f7.ext E5
  have z9 := Nat.le_trans z3 K2.1
  have g_b5 : n0 ≤ b5 := Nat.le_trans z9 (Nat.le_of_eq g5.symm)
  have z11 := Nat.le_trans z9 E5.1
  have o12 := o4.keep K2 all0
  have o13 := o12.ext E5
  obtain ⟨_, _, ⟨T10, L10, k10, n10⟩, -, X10, ⟨Lc10, hQ10, l10, y10, z10⟩, st10⟩ := X5.specialBack hx (y := (⟨"com/example/gudl/gudl/GroundFactor", "<init>", "(D[I[Z)V"⟩ : MethodName)) rfl hown (mvT hZ (own_W hw 15 rfl)) (mvT hZ (own_W hw 16 rfl)) (mvT hZ (own_W hw 17 rfl)) (by decide) (backOf (W := 1) (rm4_0 l Z a0 hw [] b5 (FP.i2d (pi4.toInt16.toInt32)) b2 b1 b2_1 b1_1 (nar .boolean (own_bt pi2 (0 : Int32))) (.double (0 : UInt64)) .null .null h5 n0 z11 o13 f6 f8 A5 F_value_b5 g_b5 F_atoms_b5 F_truth_b5) hZ (own_W hw 17 rfl) (own_W hw 14 rfl) (by decide) (by decide)) (g := (mkF m 75 #[.val (.int pi1), .val (.int pi2), .val (.int pi3), .val (.int pi4), .val (.int (0 : Int32)), .val (.int (1 : Int32)), .val (.int (1 : Int32)), .val (.int (pi2 &&& (1 : Int32))), .val (.int (1 : Int32)), .val (.ref b1), .val (.ref b2), .val (.double (FP.i2d (pi4.toInt16.toInt32))), .second, .unset] [(.ref b1), (.ref b2), (.double (FP.i2d (pi4.toInt16.toInt32))), (.ref b5), (.ref b5)])) rfl (by rw [hml]; rfl) (Steps.refl _) (a := b5) (argsL := [(.double (FP.i2d (pi4.toInt16.toInt32))), (.ref b2), (.ref b1)]) (rest := [(.ref b5)]) (lenOf pd_3 rfl) rfl (by show 2 * 0 + _ ≤ _; exact Nat.le_of_eq rfl) (hb hby at_75) (fun _ _ => ⟨rfl, e5, (by decide : 3 + 0 ≤ _), (by decide : 4 + 0 ≤ _)⟩)
  dsimp only [Pt.U, Pt.locs, Pt.cells, Pt.slots] at X10 l10 y10 z10 st10 hQ10
  subst l10 y10 z10
  obtain ⟨rfl, N10q, K10, qf10_0, qf10_1, qf10_2, qf10_3⟩ := hQ10
  have N10 := Fr.app N2 N10q
  have f14 := f8.keep K10 (ninS (Nat.ne_of_lt (Nat.lt_of_lt_of_le f7.lt (Nat.le_of_eq g5.symm))) nin0)
  have z16 := Nat.le_trans z11 K10.1
  have o17 := o13.keep K10 (allS g_b5 all0)
  obtain ⟨cq15, kq15, q15a, q15b, q15c⟩ := isOf hZ rfl qf10_0
  obtain ⟨_, _, ⟨T15, L15, k15, n15⟩, -, X15, ⟨Lc15, hQ15, l15, y15, z15⟩, st15⟩ := X10.virtualBack hx (y := (⟨"com/example/gudl/gudl/GroundFactor", "isConstant", "()Z"⟩ : MethodName)) (z := (⟨"com/example/gudl/gudl/GroundFactor", "isConstant", "()Z"⟩ : MethodName)) hown (mvT hZ (own_W hw 27 rfl)) (mvT hZ (own_W hw 28 rfl)) (notFace_of_selects (args := #[]) (mvT hZ (own_W hw 30 rfl))) (mvT hZ (own_W hw 30 rfl)) (mvT hZ (own_W hw 29 rfl)) (by decide) (backOf (W := 0) (rm6k0 l Z a0 hw [] b5 b1 b1_1 (nar .boolean (own_bt pi2 (0 : Int32))) T10.heap n0 z16 o17 qf10_3 f14) hZ (own_W hw 31 rfl) (own_W hw 14 rfl) (by decide) (by decide)) q15a q15c (g := (mkF m 82 #[.val (.int pi1), .val (.int pi2), .val (.int pi3), .val (.int pi4), .val (.int (0 : Int32)), .val (.int (1 : Int32)), .val (.int (1 : Int32)), .val (.int (pi2 &&& (1 : Int32))), .val (.int (1 : Int32)), .val (.ref b1), .val (.ref b2), .val (.double (FP.i2d (pi4.toInt16.toInt32))), .second, .val (.ref b5)] [(.ref b5)])) rfl (by rw [hml]; rfl) (Steps.refl _) (argsL := []) (rest := []) (lenOf pd_5 rfl) rfl (by show 2 * 0 + _ ≤ _; exact Nat.le_of_eq rfl) (hb hby at_82) (fun _ _ => ⟨rfl, rfl, (by decide : 3 + 0 ≤ _), (by decide : 4 + 0 ≤ _)⟩)
  dsimp only [Pt.U, Pt.locs, Pt.cells, Pt.slots] at X15 l15 y15 z15 st15 hQ15
  subst l15 y15 z15
  obtain ⟨rfl, N15q, eq15⟩ := hQ15
  have N15 := Fr.app N10 N15q
  obtain ⟨fs, hr, hrun, hended, hW, hsame⟩ := X15.leave (v := some (.int (1 : Int32))) (fun h => by rw [Bd.returns] at h; cases h)
  refine ⟨_, _, pre0 _ ?_, hrun, hended, _, _, rfl, ?_, ⟨_, rfl⟩, hW, hsame.mono (by decide) (by decide)⟩
  · show Stp p e below s₁ m 0 #[.val (.int pi1), .val (.int pi2), .val (.int pi3), .val (.int pi4), .unset, .unset, .unset, .unset, .unset, .unset, .unset, .unset, .unset, .unset] [] _
    refine XS.iloadN X0.here hx rfl (hb hby at_0) rfl ?_
    show Stp p e below s₁ m 1 #[.val (.int pi1), .val (.int pi2), .val (.int pi3), .val (.int pi4), .unset, .unset, .unset, .unset, .unset, .unset, .unset, .unset, .unset, .unset] [(.int pi1)] _
    refine XS.iconst X0.here hx rfl (hb hby at_1) ?_
    show Stp p e below s₁ m 2 #[.val (.int pi1), .val (.int pi2), .val (.int pi3), .val (.int pi4), .unset, .unset, .unset, .unset, .unset, .unset, .unset, .unset, .unset, .unset] [(.int (3 : Int32)), (.int pi1)] _
    refine XS.iand X0.here hx rfl (hb hby at_2) rfl ?_
    show Stp p e below s₁ m 3 #[.val (.int pi1), .val (.int pi2), .val (.int pi3), .val (.int pi4), .unset, .unset, .unset, .unset, .unset, .unset, .unset, .unset, .unset, .unset] [(.int (pi1 &&& (3 : Int32)))] _
    refine XS.istore X0.here hx rfl (hb hby at_3) rfl (l' := #[.val (.int pi1), .val (.int pi2), .val (.int pi3), .val (.int pi4), .val (.int (pi1 &&& (3 : Int32))), .unset, .unset, .unset, .unset, .unset, .unset, .unset, .unset, .unset]) rfl ?_
    show Stp p e below s₁ m 5 #[.val (.int pi1), .val (.int pi2), .val (.int pi3), .val (.int pi4), .val (.int (pi1 &&& (3 : Int32))), .unset, .unset, .unset, .unset, .unset, .unset, .unset, .unset, .unset] [] _
    rw [show (pi1 &&& (3 : Int32)) = (0 : Int32) from hc3_0]
    show Stp p e below s₁ m 5 #[.val (.int pi1), .val (.int pi2), .val (.int pi3), .val (.int pi4), .val (.int (0 : Int32)), .unset, .unset, .unset, .unset, .unset, .unset, .unset, .unset, .unset] [] _
    refine XS.iconst X0.here hx rfl (hb hby at_5) ?_
    show Stp p e below s₁ m 6 #[.val (.int pi1), .val (.int pi2), .val (.int pi3), .val (.int pi4), .val (.int (0 : Int32)), .unset, .unset, .unset, .unset, .unset, .unset, .unset, .unset, .unset] [(.int (1 : Int32))] _
    refine XS.iload X0.here hx rfl (hb hby at_6) rfl ?_
    show Stp p e below s₁ m 8 #[.val (.int pi1), .val (.int pi2), .val (.int pi3), .val (.int pi4), .val (.int (0 : Int32)), .unset, .unset, .unset, .unset, .unset, .unset, .unset, .unset, .unset] [(.int (0 : Int32)), (.int (1 : Int32))] _
    refine XS.ishl X0.here hx rfl (hb hby at_8) rfl ?_
    show Stp p e below s₁ m 9 #[.val (.int pi1), .val (.int pi2), .val (.int pi3), .val (.int pi4), .val (.int (0 : Int32)), .unset, .unset, .unset, .unset, .unset, .unset, .unset, .unset, .unset] [(.int (1 : Int32))] _
    refine XS.istore X0.here hx rfl (hb hby at_9) rfl (l' := #[.val (.int pi1), .val (.int pi2), .val (.int pi3), .val (.int pi4), .val (.int (0 : Int32)), .val (.int (1 : Int32)), .unset, .unset, .unset, .unset, .unset, .unset, .unset, .unset]) rfl ?_
    show Stp p e below s₁ m 11 #[.val (.int pi1), .val (.int pi2), .val (.int pi3), .val (.int pi4), .val (.int (0 : Int32)), .val (.int (1 : Int32)), .unset, .unset, .unset, .unset, .unset, .unset, .unset, .unset] [] _
    refine XS.iconst X0.here hx rfl (hb hby at_11) ?_
    show Stp p e below s₁ m 12 #[.val (.int pi1), .val (.int pi2), .val (.int pi3), .val (.int pi4), .val (.int (0 : Int32)), .val (.int (1 : Int32)), .unset, .unset, .unset, .unset, .unset, .unset, .unset, .unset] [(.int (1 : Int32))] _
    refine XS.iload X0.here hx rfl (hb hby at_12) rfl ?_
    show Stp p e below s₁ m 14 #[.val (.int pi1), .val (.int pi2), .val (.int pi3), .val (.int pi4), .val (.int (0 : Int32)), .val (.int (1 : Int32)), .unset, .unset, .unset, .unset, .unset, .unset, .unset, .unset] [(.int (1 : Int32)), (.int (1 : Int32))] _
    refine XS.ishl X0.here hx rfl (hb hby at_14) rfl ?_
    show Stp p e below s₁ m 15 #[.val (.int pi1), .val (.int pi2), .val (.int pi3), .val (.int pi4), .val (.int (0 : Int32)), .val (.int (1 : Int32)), .unset, .unset, .unset, .unset, .unset, .unset, .unset, .unset] [(.int (2 : Int32))] _
    refine XS.iconst X0.here hx rfl (hb hby at_15) ?_
    show Stp p e below s₁ m 16 #[.val (.int pi1), .val (.int pi2), .val (.int pi3), .val (.int pi4), .val (.int (0 : Int32)), .val (.int (1 : Int32)), .unset, .unset, .unset, .unset, .unset, .unset, .unset, .unset] [(.int (1 : Int32)), (.int (2 : Int32))] _
    refine XS.isub X0.here hx rfl (hb hby at_16) rfl ?_
    show Stp p e below s₁ m 17 #[.val (.int pi1), .val (.int pi2), .val (.int pi3), .val (.int pi4), .val (.int (0 : Int32)), .val (.int (1 : Int32)), .unset, .unset, .unset, .unset, .unset, .unset, .unset, .unset] [(.int (1 : Int32))] _
    refine XS.istore X0.here hx rfl (hb hby at_17) rfl (l' := #[.val (.int pi1), .val (.int pi2), .val (.int pi3), .val (.int pi4), .val (.int (0 : Int32)), .val (.int (1 : Int32)), .val (.int (1 : Int32)), .unset, .unset, .unset, .unset, .unset, .unset, .unset]) rfl ?_
    show Stp p e below s₁ m 19 #[.val (.int pi1), .val (.int pi2), .val (.int pi3), .val (.int pi4), .val (.int (0 : Int32)), .val (.int (1 : Int32)), .val (.int (1 : Int32)), .unset, .unset, .unset, .unset, .unset, .unset, .unset] [] _
    refine XS.iloadN X0.here hx rfl (hb hby at_19) rfl ?_
    show Stp p e below s₁ m 20 #[.val (.int pi1), .val (.int pi2), .val (.int pi3), .val (.int pi4), .val (.int (0 : Int32)), .val (.int (1 : Int32)), .val (.int (1 : Int32)), .unset, .unset, .unset, .unset, .unset, .unset, .unset] [(.int pi2)] _
    refine XS.iload X0.here hx rfl (hb hby at_20) rfl ?_
    show Stp p e below s₁ m 22 #[.val (.int pi1), .val (.int pi2), .val (.int pi3), .val (.int pi4), .val (.int (0 : Int32)), .val (.int (1 : Int32)), .val (.int (1 : Int32)), .unset, .unset, .unset, .unset, .unset, .unset, .unset] [(.int (1 : Int32)), (.int pi2)] _
    refine XS.iand X0.here hx rfl (hb hby at_22) rfl ?_
    show Stp p e below s₁ m 23 #[.val (.int pi1), .val (.int pi2), .val (.int pi3), .val (.int pi4), .val (.int (0 : Int32)), .val (.int (1 : Int32)), .val (.int (1 : Int32)), .unset, .unset, .unset, .unset, .unset, .unset, .unset] [(.int (pi2 &&& (1 : Int32)))] _
    refine XS.istore X0.here hx rfl (hb hby at_23) rfl (l' := #[.val (.int pi1), .val (.int pi2), .val (.int pi3), .val (.int pi4), .val (.int (0 : Int32)), .val (.int (1 : Int32)), .val (.int (1 : Int32)), .val (.int (pi2 &&& (1 : Int32))), .unset, .unset, .unset, .unset, .unset, .unset]) rfl ?_
    show Stp p e below s₁ m 25 #[.val (.int pi1), .val (.int pi2), .val (.int pi3), .val (.int pi4), .val (.int (0 : Int32)), .val (.int (1 : Int32)), .val (.int (1 : Int32)), .val (.int (pi2 &&& (1 : Int32))), .unset, .unset, .unset, .unset, .unset, .unset] [] _
    refine XS.iload X0.here hx rfl (hb hby at_25) rfl ?_
    show Stp p e below s₁ m 27 #[.val (.int pi1), .val (.int pi2), .val (.int pi3), .val (.int pi4), .val (.int (0 : Int32)), .val (.int (1 : Int32)), .val (.int (1 : Int32)), .val (.int (pi2 &&& (1 : Int32))), .unset, .unset, .unset, .unset, .unset, .unset] [(.int (pi2 &&& (1 : Int32)))] _
    refine XS.ifYes X0.here hx rfl (pc0 := 27) (pc' := 37) rfl (hb hby at_27) rfl ((if0 _ _).trans (teq hc27_1).1) (by decide) (by decide) ?_
    show Stp p e below s₁ m 37 #[.val (.int pi1), .val (.int pi2), .val (.int pi3), .val (.int pi4), .val (.int (0 : Int32)), .val (.int (1 : Int32)), .val (.int (1 : Int32)), .val (.int (pi2 &&& (1 : Int32))), .unset, .unset, .unset, .unset, .unset, .unset] [] _
    refine XS.iconst X0.here hx rfl (hb hby at_37) ?_
    show Stp p e below s₁ m 38 #[.val (.int pi1), .val (.int pi2), .val (.int pi3), .val (.int pi4), .val (.int (0 : Int32)), .val (.int (1 : Int32)), .val (.int (1 : Int32)), .val (.int (pi2 &&& (1 : Int32))), .unset, .unset, .unset, .unset, .unset, .unset] [(.int (1 : Int32))] _
    refine XS.goto X0.here hx rfl (pc0 := 38) (pc' := 42) rfl (hb hby at_38) (by decide) (by decide) ?_
    show Stp p e below s₁ m 42 #[.val (.int pi1), .val (.int pi2), .val (.int pi3), .val (.int pi4), .val (.int (0 : Int32)), .val (.int (1 : Int32)), .val (.int (1 : Int32)), .val (.int (pi2 &&& (1 : Int32))), .unset, .unset, .unset, .unset, .unset, .unset] [(.int (1 : Int32))] _
    refine XS.istore X0.here hx rfl (hb hby at_42) rfl (l' := #[.val (.int pi1), .val (.int pi2), .val (.int pi3), .val (.int pi4), .val (.int (0 : Int32)), .val (.int (1 : Int32)), .val (.int (1 : Int32)), .val (.int (pi2 &&& (1 : Int32))), .val (.int (1 : Int32)), .unset, .unset, .unset, .unset, .unset]) rfl ?_
    show Stp p e below s₁ m 44 #[.val (.int pi1), .val (.int pi2), .val (.int pi3), .val (.int pi4), .val (.int (0 : Int32)), .val (.int (1 : Int32)), .val (.int (1 : Int32)), .val (.int (pi2 &&& (1 : Int32))), .val (.int (1 : Int32)), .unset, .unset, .unset, .unset, .unset] [] _
    refine XS.iload X0.here hx rfl (hb hby at_44) rfl ?_
    show Stp p e below s₁ m 46 #[.val (.int pi1), .val (.int pi2), .val (.int pi3), .val (.int pi4), .val (.int (0 : Int32)), .val (.int (1 : Int32)), .val (.int (1 : Int32)), .val (.int (pi2 &&& (1 : Int32))), .val (.int (1 : Int32)), .unset, .unset, .unset, .unset, .unset] [(.int (0 : Int32))] _
    refine XS.iloadN X0.here hx rfl (hb hby at_46) rfl ?_
    show Stp p e below s₁ m 47 #[.val (.int pi1), .val (.int pi2), .val (.int pi3), .val (.int pi4), .val (.int (0 : Int32)), .val (.int (1 : Int32)), .val (.int (1 : Int32)), .val (.int (pi2 &&& (1 : Int32))), .val (.int (1 : Int32)), .unset, .unset, .unset, .unset, .unset] [(.int pi2), (.int (0 : Int32))] _
    refine st1 _ ?_
    show Stp p e below T1 m 50 #[.val (.int pi1), .val (.int pi2), .val (.int pi3), .val (.int pi4), .val (.int (0 : Int32)), .val (.int (1 : Int32)), .val (.int (1 : Int32)), .val (.int (pi2 &&& (1 : Int32))), .val (.int (1 : Int32)), .unset, .unset, .unset, .unset, .unset] [(.ref b1)] _
    refine XS.astore X1.here hx rfl (hb hby at_50) rfl rfl (l' := #[.val (.int pi1), .val (.int pi2), .val (.int pi3), .val (.int pi4), .val (.int (0 : Int32)), .val (.int (1 : Int32)), .val (.int (1 : Int32)), .val (.int (pi2 &&& (1 : Int32))), .val (.int (1 : Int32)), .val (.ref b1), .unset, .unset, .unset, .unset]) rfl ?_
    show Stp p e below T1 m 52 #[.val (.int pi1), .val (.int pi2), .val (.int pi3), .val (.int pi4), .val (.int (0 : Int32)), .val (.int (1 : Int32)), .val (.int (1 : Int32)), .val (.int (pi2 &&& (1 : Int32))), .val (.int (1 : Int32)), .val (.ref b1), .unset, .unset, .unset, .unset] [] _
    refine XS.iload X1.here hx rfl (hb hby at_52) rfl ?_
    show Stp p e below T1 m 54 #[.val (.int pi1), .val (.int pi2), .val (.int pi3), .val (.int pi4), .val (.int (0 : Int32)), .val (.int (1 : Int32)), .val (.int (1 : Int32)), .val (.int (pi2 &&& (1 : Int32))), .val (.int (1 : Int32)), .val (.ref b1), .unset, .unset, .unset, .unset] [(.int (0 : Int32))] _
    refine XS.iloadN X1.here hx rfl (hb hby at_54) rfl ?_
    show Stp p e below T1 m 55 #[.val (.int pi1), .val (.int pi2), .val (.int pi3), .val (.int pi4), .val (.int (0 : Int32)), .val (.int (1 : Int32)), .val (.int (1 : Int32)), .val (.int (pi2 &&& (1 : Int32))), .val (.int (1 : Int32)), .val (.ref b1), .unset, .unset, .unset, .unset] [(.int pi3), (.int (0 : Int32))] _
    refine st2 _ ?_
    show Stp p e below T2 m 58 #[.val (.int pi1), .val (.int pi2), .val (.int pi3), .val (.int pi4), .val (.int (0 : Int32)), .val (.int (1 : Int32)), .val (.int (1 : Int32)), .val (.int (pi2 &&& (1 : Int32))), .val (.int (1 : Int32)), .val (.ref b1), .unset, .unset, .unset, .unset] [(.ref b2)] _
    refine XS.astore X2.here hx rfl (hb hby at_58) rfl rfl (l' := #[.val (.int pi1), .val (.int pi2), .val (.int pi3), .val (.int pi4), .val (.int (0 : Int32)), .val (.int (1 : Int32)), .val (.int (1 : Int32)), .val (.int (pi2 &&& (1 : Int32))), .val (.int (1 : Int32)), .val (.ref b1), .val (.ref b2), .unset, .unset, .unset]) rfl ?_
    show Stp p e below T2 m 60 #[.val (.int pi1), .val (.int pi2), .val (.int pi3), .val (.int pi4), .val (.int (0 : Int32)), .val (.int (1 : Int32)), .val (.int (1 : Int32)), .val (.int (pi2 &&& (1 : Int32))), .val (.int (1 : Int32)), .val (.ref b1), .val (.ref b2), .unset, .unset, .unset] [] _
    refine XS.iloadN X2.here hx rfl (hb hby at_60) rfl ?_
    show Stp p e below T2 m 61 #[.val (.int pi1), .val (.int pi2), .val (.int pi3), .val (.int pi4), .val (.int (0 : Int32)), .val (.int (1 : Int32)), .val (.int (1 : Int32)), .val (.int (pi2 &&& (1 : Int32))), .val (.int (1 : Int32)), .val (.ref b1), .val (.ref b2), .unset, .unset, .unset] [(.int pi4)] _
    refine XS.i2s X2.here hx rfl (hb hby at_61) rfl ?_
    show Stp p e below T2 m 62 #[.val (.int pi1), .val (.int pi2), .val (.int pi3), .val (.int pi4), .val (.int (0 : Int32)), .val (.int (1 : Int32)), .val (.int (1 : Int32)), .val (.int (pi2 &&& (1 : Int32))), .val (.int (1 : Int32)), .val (.ref b1), .val (.ref b2), .unset, .unset, .unset] [(.int (pi4.toInt16.toInt32))] _
    refine XS.i2dS X2.here hx rfl (hb hby at_62) rfl rfl ?_
    show Stp p e below T2 m 63 #[.val (.int pi1), .val (.int pi2), .val (.int pi3), .val (.int pi4), .val (.int (0 : Int32)), .val (.int (1 : Int32)), .val (.int (1 : Int32)), .val (.int (pi2 &&& (1 : Int32))), .val (.int (1 : Int32)), .val (.ref b1), .val (.ref b2), .unset, .unset, .unset] [(.double (FP.i2d (pi4.toInt16.toInt32)))] _
    refine XS.dstore X2.here hx rfl (hb hby at_63) rfl (l' := #[.val (.int pi1), .val (.int pi2), .val (.int pi3), .val (.int pi4), .val (.int (0 : Int32)), .val (.int (1 : Int32)), .val (.int (1 : Int32)), .val (.int (pi2 &&& (1 : Int32))), .val (.int (1 : Int32)), .val (.ref b1), .val (.ref b2), .val (.double (FP.i2d (pi4.toInt16.toInt32))), .second, .unset]) rfl ?_
    show Stp p e below T2 m 65 #[.val (.int pi1), .val (.int pi2), .val (.int pi3), .val (.int pi4), .val (.int (0 : Int32)), .val (.int (1 : Int32)), .val (.int (1 : Int32)), .val (.int (pi2 &&& (1 : Int32))), .val (.int (1 : Int32)), .val (.ref b1), .val (.ref b2), .val (.double (FP.i2d (pi4.toInt16.toInt32))), .second, .unset] [] _
    refine st5 _ ?_
    show Stp p e below T5 m 68 #[.val (.int pi1), .val (.int pi2), .val (.int pi3), .val (.int pi4), .val (.int (0 : Int32)), .val (.int (1 : Int32)), .val (.int (1 : Int32)), .val (.int (pi2 &&& (1 : Int32))), .val (.int (1 : Int32)), .val (.ref b1), .val (.ref b2), .val (.double (FP.i2d (pi4.toInt16.toInt32))), .second, .unset] [(.ref b5)] _
    refine XS.dup X5.here hx rfl (hb hby at_68) rfl rfl ?_
    show Stp p e below T5 m 69 #[.val (.int pi1), .val (.int pi2), .val (.int pi3), .val (.int pi4), .val (.int (0 : Int32)), .val (.int (1 : Int32)), .val (.int (1 : Int32)), .val (.int (pi2 &&& (1 : Int32))), .val (.int (1 : Int32)), .val (.ref b1), .val (.ref b2), .val (.double (FP.i2d (pi4.toInt16.toInt32))), .second, .unset] [(.ref b5), (.ref b5)] _
    refine XS.dload X5.here hx rfl (hb hby at_69) rfl ?_
    show Stp p e below T5 m 71 #[.val (.int pi1), .val (.int pi2), .val (.int pi3), .val (.int pi4), .val (.int (0 : Int32)), .val (.int (1 : Int32)), .val (.int (1 : Int32)), .val (.int (pi2 &&& (1 : Int32))), .val (.int (1 : Int32)), .val (.ref b1), .val (.ref b2), .val (.double (FP.i2d (pi4.toInt16.toInt32))), .second, .unset] [(.double (FP.i2d (pi4.toInt16.toInt32))), (.ref b5), (.ref b5)] _
    refine XS.aload X5.here hx rfl (hb hby at_71) rfl rfl ?_
    show Stp p e below T5 m 73 #[.val (.int pi1), .val (.int pi2), .val (.int pi3), .val (.int pi4), .val (.int (0 : Int32)), .val (.int (1 : Int32)), .val (.int (1 : Int32)), .val (.int (pi2 &&& (1 : Int32))), .val (.int (1 : Int32)), .val (.ref b1), .val (.ref b2), .val (.double (FP.i2d (pi4.toInt16.toInt32))), .second, .unset] [(.ref b2), (.double (FP.i2d (pi4.toInt16.toInt32))), (.ref b5), (.ref b5)] _
    refine XS.aload X5.here hx rfl (hb hby at_73) rfl rfl ?_
    show Stp p e below T5 m 75 #[.val (.int pi1), .val (.int pi2), .val (.int pi3), .val (.int pi4), .val (.int (0 : Int32)), .val (.int (1 : Int32)), .val (.int (1 : Int32)), .val (.int (pi2 &&& (1 : Int32))), .val (.int (1 : Int32)), .val (.ref b1), .val (.ref b2), .val (.double (FP.i2d (pi4.toInt16.toInt32))), .second, .unset] [(.ref b1), (.ref b2), (.double (FP.i2d (pi4.toInt16.toInt32))), (.ref b5), (.ref b5)] _
    refine st10.trans ?_
    show Stp p e below T10 m 78 #[.val (.int pi1), .val (.int pi2), .val (.int pi3), .val (.int pi4), .val (.int (0 : Int32)), .val (.int (1 : Int32)), .val (.int (1 : Int32)), .val (.int (pi2 &&& (1 : Int32))), .val (.int (1 : Int32)), .val (.ref b1), .val (.ref b2), .val (.double (FP.i2d (pi4.toInt16.toInt32))), .second, .unset] [(.ref b5)] _
    refine XS.astore X10.here hx rfl (hb hby at_78) rfl rfl (l' := #[.val (.int pi1), .val (.int pi2), .val (.int pi3), .val (.int pi4), .val (.int (0 : Int32)), .val (.int (1 : Int32)), .val (.int (1 : Int32)), .val (.int (pi2 &&& (1 : Int32))), .val (.int (1 : Int32)), .val (.ref b1), .val (.ref b2), .val (.double (FP.i2d (pi4.toInt16.toInt32))), .second, .val (.ref b5)]) rfl ?_
    show Stp p e below T10 m 80 #[.val (.int pi1), .val (.int pi2), .val (.int pi3), .val (.int pi4), .val (.int (0 : Int32)), .val (.int (1 : Int32)), .val (.int (1 : Int32)), .val (.int (pi2 &&& (1 : Int32))), .val (.int (1 : Int32)), .val (.ref b1), .val (.ref b2), .val (.double (FP.i2d (pi4.toInt16.toInt32))), .second, .val (.ref b5)] [] _
    refine XS.aload X10.here hx rfl (hb hby at_80) rfl rfl ?_
    show Stp p e below T10 m 82 #[.val (.int pi1), .val (.int pi2), .val (.int pi3), .val (.int pi4), .val (.int (0 : Int32)), .val (.int (1 : Int32)), .val (.int (1 : Int32)), .val (.int (pi2 &&& (1 : Int32))), .val (.int (1 : Int32)), .val (.ref b1), .val (.ref b2), .val (.double (FP.i2d (pi4.toInt16.toInt32))), .second, .val (.ref b5)] [(.ref b5)] _
    refine st15.trans ?_
    show Stp p e below T15 m 85 #[.val (.int pi1), .val (.int pi2), .val (.int pi3), .val (.int pi4), .val (.int (0 : Int32)), .val (.int (1 : Int32)), .val (.int (1 : Int32)), .val (.int (pi2 &&& (1 : Int32))), .val (.int (1 : Int32)), .val (.ref b1), .val (.ref b2), .val (.double (FP.i2d (pi4.toInt16.toInt32))), .second, .val (.ref b5)] [(.int own_ic0)] _
    refine XS.iload X15.here hx rfl (hb hby at_85) rfl ?_
    show Stp p e below T15 m 87 #[.val (.int pi1), .val (.int pi2), .val (.int pi3), .val (.int pi4), .val (.int (0 : Int32)), .val (.int (1 : Int32)), .val (.int (1 : Int32)), .val (.int (pi2 &&& (1 : Int32))), .val (.int (1 : Int32)), .val (.ref b1), .val (.ref b2), .val (.double (FP.i2d (pi4.toInt16.toInt32))), .second, .val (.ref b5)] [(.int (1 : Int32)), (.int own_ic0)] _
    refine XS.icmpNo X15.here hx rfl (hb hby at_87) rfl (teq ((own_e0 pi2).trans (if_pos hc27_1))).2 ?_
    show Stp p e below T15 m 90 #[.val (.int pi1), .val (.int pi2), .val (.int pi3), .val (.int pi4), .val (.int (0 : Int32)), .val (.int (1 : Int32)), .val (.int (1 : Int32)), .val (.int (pi2 &&& (1 : Int32))), .val (.int (1 : Int32)), .val (.ref b1), .val (.ref b2), .val (.double (FP.i2d (pi4.toInt16.toInt32))), .second, .val (.ref b5)] [] _
    refine XS.iconst X15.here hx rfl (hb hby at_90) ?_
    show Stp p e below T15 m 91 #[.val (.int pi1), .val (.int pi2), .val (.int pi3), .val (.int pi4), .val (.int (0 : Int32)), .val (.int (1 : Int32)), .val (.int (1 : Int32)), .val (.int (pi2 &&& (1 : Int32))), .val (.int (1 : Int32)), .val (.ref b1), .val (.ref b2), .val (.double (FP.i2d (pi4.toInt16.toInt32))), .second, .val (.ref b5)] [(.int (1 : Int32))] _
    refine XS.goto X15.here hx rfl (pc0 := 91) (pc' := 95) rfl (hb hby at_91) (by decide) (by decide) ?_
    show Stp p e below T15 m 95 #[.val (.int pi1), .val (.int pi2), .val (.int pi3), .val (.int pi4), .val (.int (0 : Int32)), .val (.int (1 : Int32)), .val (.int (1 : Int32)), .val (.int (pi2 &&& (1 : Int32))), .val (.int (1 : Int32)), .val (.ref b1), .val (.ref b2), .val (.double (FP.i2d (pi4.toInt16.toInt32))), .second, .val (.ref b5)] [(.int (1 : Int32))] _
    exact retN X15 hx (t := .boolean) Bd.returns (by simp) (hb hby at_95) hr
  · exact ⟨rfl, N15⟩
set_option maxRecDepth 65536 in
set_option maxHeartbeats 40000000 in
theorem rm0_tf (l : Launch) (Z : State) (a0 : Array Value) (hw : ∀ d ∈ tables_1, d.before a0 Z = true) (ws : List Jvm.Cond) (pi1 : Int32) (pi2 : Int32) (pi3 : Int32) (pi4 : Int32) (h0 : Heap) (n0 : Nat) (Z0 : n0 ≤ h0.size) (O0 : Old Z n0 h0) (hc3_0 : (pi1 &&& (3 : Int32)) = (0 : Int32)) (hc27_1 : ¬ ((pi2 &&& (1 : Int32)) = (0 : Int32))) :
    MetFree l x (head1 (Jvm.Cond.code x code maxLocals ret :: ws) room_1) (fun a U => a = #[(.int pi1), (.int pi2), (.int pi3), (.int pi4)] ∧ Z.Warmed39 U.vm ∧ U.heap = h0) (fun _ _ _ _ _ => True) (fun _ U o U' => ∃ v L, o = .returned v ∧ Q0 v L n0 ∧ FrameEnd U o U' L room_1.cells room_1.slots) := by
  refine MetFree.of_bodySF (plainFor_of_name pn_0) hisR ?_
  intro p e s m args below meth c s₁ Bd hml0 hP hK
  obtain ⟨rfl, hZ, hh⟩ := hP
  have hx := Bd.exec
  have hby := Bd.bytes
  have hml : c.maxLocals = 14 := hml0
  have hown : s.vm.findClass "com/example/gudl/gudl/GroundFactorIsConstantPinLaw" = some m.cls := findClass_of_methodNamed Bd.named
  have hnm := (name_of_methodNamed Bd.named Bd.method).1
  have X0 : Stand p l e room_1 s m #[(.int pi1), (.int pi2), (.int pi3), (.int pi4)] below meth c s₁ [] 0 0 := Stand.of_body Bd
  have e0 : s₁.heap = h0 := by rw [← hh, Bd.state]; rfl
  have N0 := Fr.nil n0
  have pre0 : ∀ t, Steps p.tables e below (s₁.setTop (mkF m 0 #[.val (.int pi1), .val (.int pi2), .val (.int pi3), .val (.int pi4), .unset, .unset, .unset, .unset, .unset, .unset, .unset, .unset, .unset, .unset] [])) t → Steps p.tables e below (s₁.setTop (entryFrame m #[(.int pi1), (.int pi2), (.int pi3), (.int pi4)] maxLocals)) t := fun t k => castTop (ef_0 m pi1 pi2 pi3 pi4) k
  obtain ⟨_, _, ⟨T1, L1, k1, n1⟩, -, X1, ⟨Lc1, hQ1, l1, y1, z1⟩, st1⟩ := Jvm.LawKit.callS X0 hx (y := (⟨"com/example/gudl/gudl/GroundFactorIsConstantPinLaw", "truthArray", "(II)[Z"⟩ : MethodName)) hown (mvT hZ (own_W hw 0 rfl)) (mvT hZ (own_W hw 1 rfl)) (mvT hZ (own_W hw 2 rfl)) (mvT hZ (own_W hw 3 rfl)) (by decide) (backOf (W := 0) (rm1_0 l Z a0 hw [] (0 : Int32) pi2 h0 n0 Z0 O0 rfl) hZ (own_W hw 3 rfl) (own_W hw 2 rfl) (by decide) (by decide)) (g := (mkF m 47 #[.val (.int pi1), .val (.int pi2), .val (.int pi3), .val (.int pi4), .val (.int (0 : Int32)), .val (.int (1 : Int32)), .val (.int (1 : Int32)), .val (.int (pi2 &&& (1 : Int32))), .val (.int (1 : Int32)), .unset, .unset, .unset, .unset, .unset] [(.int pi2), (.int (0 : Int32))])) rfl (by rw [hml]; rfl) (argsL := [(.int (0 : Int32)), (.int pi2)]) (rest := []) (lenOf pd_0 rfl) rfl (by show 2 * 0 + _ ≤ _; exact Nat.le_of_eq rfl) (hb hby at_47) (fun _ _ => ⟨rfl, e0, (by decide : 0 + 1 ≤ _), (by decide : 0 + 1 ≤ _)⟩)
  dsimp only [Pt.U, Pt.locs, Pt.cells, Pt.slots] at X1 l1 y1 z1 st1 hQ1
  subst l1 y1 z1
  obtain ⟨b1, b1_1, rfl, N1q, K1, qf1_0, qf1_1⟩ := hQ1
  have N1 := Fr.app N0 N1q
  have z3 := Nat.le_trans Z0 K1.1
  have o4 := O0.keep K1 all0
  obtain ⟨_, _, ⟨T2, L2, k2, n2⟩, -, X2, ⟨Lc2, hQ2, l2, y2, z2⟩, st2⟩ := Jvm.LawKit.callS X1 hx (y := (⟨"com/example/gudl/gudl/GroundFactorIsConstantPinLaw", "atomArray", "(II)[I"⟩ : MethodName)) hown (mvT hZ (own_W hw 8 rfl)) (mvT hZ (own_W hw 9 rfl)) (mvT hZ (own_W hw 2 rfl)) (mvT hZ (own_W hw 10 rfl)) (by decide) (backOf (W := 0) (rm3_0 l Z a0 hw [] (0 : Int32) pi3 T1.heap n0 z3 o4 rfl) hZ (own_W hw 10 rfl) (own_W hw 2 rfl) (by decide) (by decide)) (g := (mkF m 55 #[.val (.int pi1), .val (.int pi2), .val (.int pi3), .val (.int pi4), .val (.int (0 : Int32)), .val (.int (1 : Int32)), .val (.int (1 : Int32)), .val (.int (pi2 &&& (1 : Int32))), .val (.int (1 : Int32)), .val (.ref b1), .unset, .unset, .unset, .unset] [(.int pi3), (.int (0 : Int32))])) rfl (by rw [hml]; rfl) (argsL := [(.int (0 : Int32)), (.int pi3)]) (rest := []) (lenOf pd_2 rfl) rfl (by show 2 * 0 + _ ≤ _; exact Nat.le_of_eq rfl) (hb hby at_55) (fun _ _ => ⟨rfl, rfl, (by decide : 1 + 1 ≤ _), (by decide : 1 + 0 ≤ _)⟩)
  dsimp only [Pt.U, Pt.locs, Pt.cells, Pt.slots] at X2 l2 y2 z2 st2 hQ2
  subst l2 y2 z2
  obtain ⟨b2, b2_1, rfl, N2q, K2, qf2_0, qf2_1⟩ := hQ2
  have N2 := Fr.app N1 N2q
  obtain ⟨T5, h5, X5, e5, E5, A5, D5, -, st5⟩ := newO X2 hx hZ hown (own_W hw 12 rfl) (own_W hw 13 rfl) (own_W hw 14 rfl) rfl (g := (mkF m 65 #[.val (.int pi1), .val (.int pi2), .val (.int pi3), .val (.int pi4), .val (.int (0 : Int32)), .val (.int (1 : Int32)), .val (.int (1 : Int32)), .val (.int (pi2 &&& (1 : Int32))), .val (.int (1 : Int32)), .val (.ref b1), .val (.ref b2), .val (.double (FP.i2d (pi4.toInt16.toInt32))), .second, .unset] [])) rfl (hb hby at_65) (by decide) (by decide)
  obtain ⟨b5, g5⟩ : ∃ z, z = T2.heap.size := ⟨_, rfl⟩
  rw [← g5] at A5 D5 st5
  have F_value_b5 : Fld Z h5 b5 "com/example/gudl/gudl/GroundFactor" "value" "D" (.double (0 : UInt64)) := D5 (Or.inr (own_W hw 22 rfl)) (ty := .double) (by decide)
  have F_atoms_b5 : Fld Z h5 b5 "com/example/gudl/gudl/GroundFactor" "atoms" "[I" .null := D5 (Or.inr (own_W hw 24 rfl)) (ty := (.array .int)) (by decide)
  have F_truth_b5 : Fld Z h5 b5 "com/example/gudl/gudl/GroundFactor" "truth" "[Z" .null := D5 (Or.inr (own_W hw 26 rfl)) (ty := (.array .boolean)) (by decide)
  have f6 := qf2_1.ext E5
  have f7 := qf1_1.keep K2 nin0
  have f8 := f7.ext E5
  have z9 := Nat.le_trans z3 K2.1
  have g_b5 : n0 ≤ b5 := Nat.le_trans z9 (Nat.le_of_eq g5.symm)
  have z11 := Nat.le_trans z9 E5.1
  have o12 := o4.keep K2 all0
  have o13 := o12.ext E5
  obtain ⟨_, _, ⟨T10, L10, k10, n10⟩, -, X10, ⟨Lc10, hQ10, l10, y10, z10⟩, st10⟩ := X5.specialBack hx (y := (⟨"com/example/gudl/gudl/GroundFactor", "<init>", "(D[I[Z)V"⟩ : MethodName)) rfl hown (mvT hZ (own_W hw 15 rfl)) (mvT hZ (own_W hw 16 rfl)) (mvT hZ (own_W hw 17 rfl)) (by decide) (backOf (W := 1) (rm4_0 l Z a0 hw [] b5 (FP.i2d (pi4.toInt16.toInt32)) b2 b1 b2_1 b1_1 (nar .boolean (own_bt pi2 (0 : Int32))) (.double (0 : UInt64)) .null .null h5 n0 z11 o13 f6 f8 A5 F_value_b5 g_b5 F_atoms_b5 F_truth_b5) hZ (own_W hw 17 rfl) (own_W hw 14 rfl) (by decide) (by decide)) (g := (mkF m 75 #[.val (.int pi1), .val (.int pi2), .val (.int pi3), .val (.int pi4), .val (.int (0 : Int32)), .val (.int (1 : Int32)), .val (.int (1 : Int32)), .val (.int (pi2 &&& (1 : Int32))), .val (.int (1 : Int32)), .val (.ref b1), .val (.ref b2), .val (.double (FP.i2d (pi4.toInt16.toInt32))), .second, .unset] [(.ref b1), (.ref b2), (.double (FP.i2d (pi4.toInt16.toInt32))), (.ref b5), (.ref b5)])) rfl (by rw [hml]; rfl) (Steps.refl _) (a := b5) (argsL := [(.double (FP.i2d (pi4.toInt16.toInt32))), (.ref b2), (.ref b1)]) (rest := [(.ref b5)]) (lenOf pd_3 rfl) rfl (by show 2 * 0 + _ ≤ _; exact Nat.le_of_eq rfl) (hb hby at_75) (fun _ _ => ⟨rfl, e5, (by decide : 3 + 0 ≤ _), (by decide : 4 + 0 ≤ _)⟩)
  dsimp only [Pt.U, Pt.locs, Pt.cells, Pt.slots] at X10 l10 y10 z10 st10 hQ10
  subst l10 y10 z10
  obtain ⟨rfl, N10q, K10, qf10_0, qf10_1, qf10_2, qf10_3⟩ := hQ10
  have N10 := Fr.app N2 N10q
  have f14 := f8.keep K10 (ninS (Nat.ne_of_lt (Nat.lt_of_lt_of_le f7.lt (Nat.le_of_eq g5.symm))) nin0)
  have z16 := Nat.le_trans z11 K10.1
  have o17 := o13.keep K10 (allS g_b5 all0)
  obtain ⟨cq15, kq15, q15a, q15b, q15c⟩ := isOf hZ rfl qf10_0
  obtain ⟨_, _, ⟨T15, L15, k15, n15⟩, -, X15, ⟨Lc15, hQ15, l15, y15, z15⟩, st15⟩ := X10.virtualBack hx (y := (⟨"com/example/gudl/gudl/GroundFactor", "isConstant", "()Z"⟩ : MethodName)) (z := (⟨"com/example/gudl/gudl/GroundFactor", "isConstant", "()Z"⟩ : MethodName)) hown (mvT hZ (own_W hw 27 rfl)) (mvT hZ (own_W hw 28 rfl)) (notFace_of_selects (args := #[]) (mvT hZ (own_W hw 30 rfl))) (mvT hZ (own_W hw 30 rfl)) (mvT hZ (own_W hw 29 rfl)) (by decide) (backOf (W := 0) (rm6k0 l Z a0 hw [] b5 b1 b1_1 (nar .boolean (own_bt pi2 (0 : Int32))) T10.heap n0 z16 o17 qf10_3 f14) hZ (own_W hw 31 rfl) (own_W hw 14 rfl) (by decide) (by decide)) q15a q15c (g := (mkF m 82 #[.val (.int pi1), .val (.int pi2), .val (.int pi3), .val (.int pi4), .val (.int (0 : Int32)), .val (.int (1 : Int32)), .val (.int (1 : Int32)), .val (.int (pi2 &&& (1 : Int32))), .val (.int (1 : Int32)), .val (.ref b1), .val (.ref b2), .val (.double (FP.i2d (pi4.toInt16.toInt32))), .second, .val (.ref b5)] [(.ref b5)])) rfl (by rw [hml]; rfl) (Steps.refl _) (argsL := []) (rest := []) (lenOf pd_5 rfl) rfl (by show 2 * 0 + _ ≤ _; exact Nat.le_of_eq rfl) (hb hby at_82) (fun _ _ => ⟨rfl, rfl, (by decide : 3 + 0 ≤ _), (by decide : 4 + 0 ≤ _)⟩)
  dsimp only [Pt.U, Pt.locs, Pt.cells, Pt.slots] at X15 l15 y15 z15 st15 hQ15
  subst l15 y15 z15
  obtain ⟨rfl, N15q, eq15⟩ := hQ15
  have N15 := Fr.app N10 N15q
  obtain ⟨fs, hr, hrun, hended, hW, hsame⟩ := X15.leave (v := some (.int (1 : Int32))) (fun h => by rw [Bd.returns] at h; cases h)
  refine ⟨_, _, pre0 _ ?_, hrun, hended, _, _, rfl, ?_, ⟨_, rfl⟩, hW, hsame.mono (by decide) (by decide)⟩
  · show Stp p e below s₁ m 0 #[.val (.int pi1), .val (.int pi2), .val (.int pi3), .val (.int pi4), .unset, .unset, .unset, .unset, .unset, .unset, .unset, .unset, .unset, .unset] [] _
    refine XS.iloadN X0.here hx rfl (hb hby at_0) rfl ?_
    show Stp p e below s₁ m 1 #[.val (.int pi1), .val (.int pi2), .val (.int pi3), .val (.int pi4), .unset, .unset, .unset, .unset, .unset, .unset, .unset, .unset, .unset, .unset] [(.int pi1)] _
    refine XS.iconst X0.here hx rfl (hb hby at_1) ?_
    show Stp p e below s₁ m 2 #[.val (.int pi1), .val (.int pi2), .val (.int pi3), .val (.int pi4), .unset, .unset, .unset, .unset, .unset, .unset, .unset, .unset, .unset, .unset] [(.int (3 : Int32)), (.int pi1)] _
    refine XS.iand X0.here hx rfl (hb hby at_2) rfl ?_
    show Stp p e below s₁ m 3 #[.val (.int pi1), .val (.int pi2), .val (.int pi3), .val (.int pi4), .unset, .unset, .unset, .unset, .unset, .unset, .unset, .unset, .unset, .unset] [(.int (pi1 &&& (3 : Int32)))] _
    refine XS.istore X0.here hx rfl (hb hby at_3) rfl (l' := #[.val (.int pi1), .val (.int pi2), .val (.int pi3), .val (.int pi4), .val (.int (pi1 &&& (3 : Int32))), .unset, .unset, .unset, .unset, .unset, .unset, .unset, .unset, .unset]) rfl ?_
    show Stp p e below s₁ m 5 #[.val (.int pi1), .val (.int pi2), .val (.int pi3), .val (.int pi4), .val (.int (pi1 &&& (3 : Int32))), .unset, .unset, .unset, .unset, .unset, .unset, .unset, .unset, .unset] [] _
    rw [show (pi1 &&& (3 : Int32)) = (0 : Int32) from hc3_0]
    show Stp p e below s₁ m 5 #[.val (.int pi1), .val (.int pi2), .val (.int pi3), .val (.int pi4), .val (.int (0 : Int32)), .unset, .unset, .unset, .unset, .unset, .unset, .unset, .unset, .unset] [] _
    refine XS.iconst X0.here hx rfl (hb hby at_5) ?_
    show Stp p e below s₁ m 6 #[.val (.int pi1), .val (.int pi2), .val (.int pi3), .val (.int pi4), .val (.int (0 : Int32)), .unset, .unset, .unset, .unset, .unset, .unset, .unset, .unset, .unset] [(.int (1 : Int32))] _
    refine XS.iload X0.here hx rfl (hb hby at_6) rfl ?_
    show Stp p e below s₁ m 8 #[.val (.int pi1), .val (.int pi2), .val (.int pi3), .val (.int pi4), .val (.int (0 : Int32)), .unset, .unset, .unset, .unset, .unset, .unset, .unset, .unset, .unset] [(.int (0 : Int32)), (.int (1 : Int32))] _
    refine XS.ishl X0.here hx rfl (hb hby at_8) rfl ?_
    show Stp p e below s₁ m 9 #[.val (.int pi1), .val (.int pi2), .val (.int pi3), .val (.int pi4), .val (.int (0 : Int32)), .unset, .unset, .unset, .unset, .unset, .unset, .unset, .unset, .unset] [(.int (1 : Int32))] _
    refine XS.istore X0.here hx rfl (hb hby at_9) rfl (l' := #[.val (.int pi1), .val (.int pi2), .val (.int pi3), .val (.int pi4), .val (.int (0 : Int32)), .val (.int (1 : Int32)), .unset, .unset, .unset, .unset, .unset, .unset, .unset, .unset]) rfl ?_
    show Stp p e below s₁ m 11 #[.val (.int pi1), .val (.int pi2), .val (.int pi3), .val (.int pi4), .val (.int (0 : Int32)), .val (.int (1 : Int32)), .unset, .unset, .unset, .unset, .unset, .unset, .unset, .unset] [] _
    refine XS.iconst X0.here hx rfl (hb hby at_11) ?_
    show Stp p e below s₁ m 12 #[.val (.int pi1), .val (.int pi2), .val (.int pi3), .val (.int pi4), .val (.int (0 : Int32)), .val (.int (1 : Int32)), .unset, .unset, .unset, .unset, .unset, .unset, .unset, .unset] [(.int (1 : Int32))] _
    refine XS.iload X0.here hx rfl (hb hby at_12) rfl ?_
    show Stp p e below s₁ m 14 #[.val (.int pi1), .val (.int pi2), .val (.int pi3), .val (.int pi4), .val (.int (0 : Int32)), .val (.int (1 : Int32)), .unset, .unset, .unset, .unset, .unset, .unset, .unset, .unset] [(.int (1 : Int32)), (.int (1 : Int32))] _
    refine XS.ishl X0.here hx rfl (hb hby at_14) rfl ?_
    show Stp p e below s₁ m 15 #[.val (.int pi1), .val (.int pi2), .val (.int pi3), .val (.int pi4), .val (.int (0 : Int32)), .val (.int (1 : Int32)), .unset, .unset, .unset, .unset, .unset, .unset, .unset, .unset] [(.int (2 : Int32))] _
    refine XS.iconst X0.here hx rfl (hb hby at_15) ?_
    show Stp p e below s₁ m 16 #[.val (.int pi1), .val (.int pi2), .val (.int pi3), .val (.int pi4), .val (.int (0 : Int32)), .val (.int (1 : Int32)), .unset, .unset, .unset, .unset, .unset, .unset, .unset, .unset] [(.int (1 : Int32)), (.int (2 : Int32))] _
    refine XS.isub X0.here hx rfl (hb hby at_16) rfl ?_
    show Stp p e below s₁ m 17 #[.val (.int pi1), .val (.int pi2), .val (.int pi3), .val (.int pi4), .val (.int (0 : Int32)), .val (.int (1 : Int32)), .unset, .unset, .unset, .unset, .unset, .unset, .unset, .unset] [(.int (1 : Int32))] _
    refine XS.istore X0.here hx rfl (hb hby at_17) rfl (l' := #[.val (.int pi1), .val (.int pi2), .val (.int pi3), .val (.int pi4), .val (.int (0 : Int32)), .val (.int (1 : Int32)), .val (.int (1 : Int32)), .unset, .unset, .unset, .unset, .unset, .unset, .unset]) rfl ?_
    show Stp p e below s₁ m 19 #[.val (.int pi1), .val (.int pi2), .val (.int pi3), .val (.int pi4), .val (.int (0 : Int32)), .val (.int (1 : Int32)), .val (.int (1 : Int32)), .unset, .unset, .unset, .unset, .unset, .unset, .unset] [] _
    refine XS.iloadN X0.here hx rfl (hb hby at_19) rfl ?_
    show Stp p e below s₁ m 20 #[.val (.int pi1), .val (.int pi2), .val (.int pi3), .val (.int pi4), .val (.int (0 : Int32)), .val (.int (1 : Int32)), .val (.int (1 : Int32)), .unset, .unset, .unset, .unset, .unset, .unset, .unset] [(.int pi2)] _
    refine XS.iload X0.here hx rfl (hb hby at_20) rfl ?_
    show Stp p e below s₁ m 22 #[.val (.int pi1), .val (.int pi2), .val (.int pi3), .val (.int pi4), .val (.int (0 : Int32)), .val (.int (1 : Int32)), .val (.int (1 : Int32)), .unset, .unset, .unset, .unset, .unset, .unset, .unset] [(.int (1 : Int32)), (.int pi2)] _
    refine XS.iand X0.here hx rfl (hb hby at_22) rfl ?_
    show Stp p e below s₁ m 23 #[.val (.int pi1), .val (.int pi2), .val (.int pi3), .val (.int pi4), .val (.int (0 : Int32)), .val (.int (1 : Int32)), .val (.int (1 : Int32)), .unset, .unset, .unset, .unset, .unset, .unset, .unset] [(.int (pi2 &&& (1 : Int32)))] _
    refine XS.istore X0.here hx rfl (hb hby at_23) rfl (l' := #[.val (.int pi1), .val (.int pi2), .val (.int pi3), .val (.int pi4), .val (.int (0 : Int32)), .val (.int (1 : Int32)), .val (.int (1 : Int32)), .val (.int (pi2 &&& (1 : Int32))), .unset, .unset, .unset, .unset, .unset, .unset]) rfl ?_
    show Stp p e below s₁ m 25 #[.val (.int pi1), .val (.int pi2), .val (.int pi3), .val (.int pi4), .val (.int (0 : Int32)), .val (.int (1 : Int32)), .val (.int (1 : Int32)), .val (.int (pi2 &&& (1 : Int32))), .unset, .unset, .unset, .unset, .unset, .unset] [] _
    refine XS.iload X0.here hx rfl (hb hby at_25) rfl ?_
    show Stp p e below s₁ m 27 #[.val (.int pi1), .val (.int pi2), .val (.int pi3), .val (.int pi4), .val (.int (0 : Int32)), .val (.int (1 : Int32)), .val (.int (1 : Int32)), .val (.int (pi2 &&& (1 : Int32))), .unset, .unset, .unset, .unset, .unset, .unset] [(.int (pi2 &&& (1 : Int32)))] _
    refine XS.ifNo X0.here hx rfl (hb hby at_27) rfl ((if0 _ _).trans (feq hc27_1).1) ?_
    show Stp p e below s₁ m 30 #[.val (.int pi1), .val (.int pi2), .val (.int pi3), .val (.int pi4), .val (.int (0 : Int32)), .val (.int (1 : Int32)), .val (.int (1 : Int32)), .val (.int (pi2 &&& (1 : Int32))), .unset, .unset, .unset, .unset, .unset, .unset] [] _
    refine XS.iload X0.here hx rfl (hb hby at_30) rfl ?_
    show Stp p e below s₁ m 32 #[.val (.int pi1), .val (.int pi2), .val (.int pi3), .val (.int pi4), .val (.int (0 : Int32)), .val (.int (1 : Int32)), .val (.int (1 : Int32)), .val (.int (pi2 &&& (1 : Int32))), .unset, .unset, .unset, .unset, .unset, .unset] [(.int (pi2 &&& (1 : Int32)))] _
    refine XS.iload X0.here hx rfl (hb hby at_32) rfl ?_
    show Stp p e below s₁ m 34 #[.val (.int pi1), .val (.int pi2), .val (.int pi3), .val (.int pi4), .val (.int (0 : Int32)), .val (.int (1 : Int32)), .val (.int (1 : Int32)), .val (.int (pi2 &&& (1 : Int32))), .unset, .unset, .unset, .unset, .unset, .unset] [(.int (1 : Int32)), (.int (pi2 &&& (1 : Int32)))] _
    refine XS.icmpNo X0.here hx rfl (hb hby at_34) rfl (teq (own_one hc27_1)).2 ?_
    show Stp p e below s₁ m 37 #[.val (.int pi1), .val (.int pi2), .val (.int pi3), .val (.int pi4), .val (.int (0 : Int32)), .val (.int (1 : Int32)), .val (.int (1 : Int32)), .val (.int (pi2 &&& (1 : Int32))), .unset, .unset, .unset, .unset, .unset, .unset] [] _
    refine XS.iconst X0.here hx rfl (hb hby at_37) ?_
    show Stp p e below s₁ m 38 #[.val (.int pi1), .val (.int pi2), .val (.int pi3), .val (.int pi4), .val (.int (0 : Int32)), .val (.int (1 : Int32)), .val (.int (1 : Int32)), .val (.int (pi2 &&& (1 : Int32))), .unset, .unset, .unset, .unset, .unset, .unset] [(.int (1 : Int32))] _
    refine XS.goto X0.here hx rfl (pc0 := 38) (pc' := 42) rfl (hb hby at_38) (by decide) (by decide) ?_
    show Stp p e below s₁ m 42 #[.val (.int pi1), .val (.int pi2), .val (.int pi3), .val (.int pi4), .val (.int (0 : Int32)), .val (.int (1 : Int32)), .val (.int (1 : Int32)), .val (.int (pi2 &&& (1 : Int32))), .unset, .unset, .unset, .unset, .unset, .unset] [(.int (1 : Int32))] _
    refine XS.istore X0.here hx rfl (hb hby at_42) rfl (l' := #[.val (.int pi1), .val (.int pi2), .val (.int pi3), .val (.int pi4), .val (.int (0 : Int32)), .val (.int (1 : Int32)), .val (.int (1 : Int32)), .val (.int (pi2 &&& (1 : Int32))), .val (.int (1 : Int32)), .unset, .unset, .unset, .unset, .unset]) rfl ?_
    show Stp p e below s₁ m 44 #[.val (.int pi1), .val (.int pi2), .val (.int pi3), .val (.int pi4), .val (.int (0 : Int32)), .val (.int (1 : Int32)), .val (.int (1 : Int32)), .val (.int (pi2 &&& (1 : Int32))), .val (.int (1 : Int32)), .unset, .unset, .unset, .unset, .unset] [] _
    refine XS.iload X0.here hx rfl (hb hby at_44) rfl ?_
    show Stp p e below s₁ m 46 #[.val (.int pi1), .val (.int pi2), .val (.int pi3), .val (.int pi4), .val (.int (0 : Int32)), .val (.int (1 : Int32)), .val (.int (1 : Int32)), .val (.int (pi2 &&& (1 : Int32))), .val (.int (1 : Int32)), .unset, .unset, .unset, .unset, .unset] [(.int (0 : Int32))] _
    refine XS.iloadN X0.here hx rfl (hb hby at_46) rfl ?_
    show Stp p e below s₁ m 47 #[.val (.int pi1), .val (.int pi2), .val (.int pi3), .val (.int pi4), .val (.int (0 : Int32)), .val (.int (1 : Int32)), .val (.int (1 : Int32)), .val (.int (pi2 &&& (1 : Int32))), .val (.int (1 : Int32)), .unset, .unset, .unset, .unset, .unset] [(.int pi2), (.int (0 : Int32))] _
    refine st1 _ ?_
    show Stp p e below T1 m 50 #[.val (.int pi1), .val (.int pi2), .val (.int pi3), .val (.int pi4), .val (.int (0 : Int32)), .val (.int (1 : Int32)), .val (.int (1 : Int32)), .val (.int (pi2 &&& (1 : Int32))), .val (.int (1 : Int32)), .unset, .unset, .unset, .unset, .unset] [(.ref b1)] _
    refine XS.astore X1.here hx rfl (hb hby at_50) rfl rfl (l' := #[.val (.int pi1), .val (.int pi2), .val (.int pi3), .val (.int pi4), .val (.int (0 : Int32)), .val (.int (1 : Int32)), .val (.int (1 : Int32)), .val (.int (pi2 &&& (1 : Int32))), .val (.int (1 : Int32)), .val (.ref b1), .unset, .unset, .unset, .unset]) rfl ?_
    show Stp p e below T1 m 52 #[.val (.int pi1), .val (.int pi2), .val (.int pi3), .val (.int pi4), .val (.int (0 : Int32)), .val (.int (1 : Int32)), .val (.int (1 : Int32)), .val (.int (pi2 &&& (1 : Int32))), .val (.int (1 : Int32)), .val (.ref b1), .unset, .unset, .unset, .unset] [] _
    refine XS.iload X1.here hx rfl (hb hby at_52) rfl ?_
    show Stp p e below T1 m 54 #[.val (.int pi1), .val (.int pi2), .val (.int pi3), .val (.int pi4), .val (.int (0 : Int32)), .val (.int (1 : Int32)), .val (.int (1 : Int32)), .val (.int (pi2 &&& (1 : Int32))), .val (.int (1 : Int32)), .val (.ref b1), .unset, .unset, .unset, .unset] [(.int (0 : Int32))] _
    refine XS.iloadN X1.here hx rfl (hb hby at_54) rfl ?_
    show Stp p e below T1 m 55 #[.val (.int pi1), .val (.int pi2), .val (.int pi3), .val (.int pi4), .val (.int (0 : Int32)), .val (.int (1 : Int32)), .val (.int (1 : Int32)), .val (.int (pi2 &&& (1 : Int32))), .val (.int (1 : Int32)), .val (.ref b1), .unset, .unset, .unset, .unset] [(.int pi3), (.int (0 : Int32))] _
    refine st2 _ ?_
    show Stp p e below T2 m 58 #[.val (.int pi1), .val (.int pi2), .val (.int pi3), .val (.int pi4), .val (.int (0 : Int32)), .val (.int (1 : Int32)), .val (.int (1 : Int32)), .val (.int (pi2 &&& (1 : Int32))), .val (.int (1 : Int32)), .val (.ref b1), .unset, .unset, .unset, .unset] [(.ref b2)] _
    refine XS.astore X2.here hx rfl (hb hby at_58) rfl rfl (l' := #[.val (.int pi1), .val (.int pi2), .val (.int pi3), .val (.int pi4), .val (.int (0 : Int32)), .val (.int (1 : Int32)), .val (.int (1 : Int32)), .val (.int (pi2 &&& (1 : Int32))), .val (.int (1 : Int32)), .val (.ref b1), .val (.ref b2), .unset, .unset, .unset]) rfl ?_
    show Stp p e below T2 m 60 #[.val (.int pi1), .val (.int pi2), .val (.int pi3), .val (.int pi4), .val (.int (0 : Int32)), .val (.int (1 : Int32)), .val (.int (1 : Int32)), .val (.int (pi2 &&& (1 : Int32))), .val (.int (1 : Int32)), .val (.ref b1), .val (.ref b2), .unset, .unset, .unset] [] _
    refine XS.iloadN X2.here hx rfl (hb hby at_60) rfl ?_
    show Stp p e below T2 m 61 #[.val (.int pi1), .val (.int pi2), .val (.int pi3), .val (.int pi4), .val (.int (0 : Int32)), .val (.int (1 : Int32)), .val (.int (1 : Int32)), .val (.int (pi2 &&& (1 : Int32))), .val (.int (1 : Int32)), .val (.ref b1), .val (.ref b2), .unset, .unset, .unset] [(.int pi4)] _
    refine XS.i2s X2.here hx rfl (hb hby at_61) rfl ?_
    show Stp p e below T2 m 62 #[.val (.int pi1), .val (.int pi2), .val (.int pi3), .val (.int pi4), .val (.int (0 : Int32)), .val (.int (1 : Int32)), .val (.int (1 : Int32)), .val (.int (pi2 &&& (1 : Int32))), .val (.int (1 : Int32)), .val (.ref b1), .val (.ref b2), .unset, .unset, .unset] [(.int (pi4.toInt16.toInt32))] _
    refine XS.i2dS X2.here hx rfl (hb hby at_62) rfl rfl ?_
    show Stp p e below T2 m 63 #[.val (.int pi1), .val (.int pi2), .val (.int pi3), .val (.int pi4), .val (.int (0 : Int32)), .val (.int (1 : Int32)), .val (.int (1 : Int32)), .val (.int (pi2 &&& (1 : Int32))), .val (.int (1 : Int32)), .val (.ref b1), .val (.ref b2), .unset, .unset, .unset] [(.double (FP.i2d (pi4.toInt16.toInt32)))] _
    refine XS.dstore X2.here hx rfl (hb hby at_63) rfl (l' := #[.val (.int pi1), .val (.int pi2), .val (.int pi3), .val (.int pi4), .val (.int (0 : Int32)), .val (.int (1 : Int32)), .val (.int (1 : Int32)), .val (.int (pi2 &&& (1 : Int32))), .val (.int (1 : Int32)), .val (.ref b1), .val (.ref b2), .val (.double (FP.i2d (pi4.toInt16.toInt32))), .second, .unset]) rfl ?_
    show Stp p e below T2 m 65 #[.val (.int pi1), .val (.int pi2), .val (.int pi3), .val (.int pi4), .val (.int (0 : Int32)), .val (.int (1 : Int32)), .val (.int (1 : Int32)), .val (.int (pi2 &&& (1 : Int32))), .val (.int (1 : Int32)), .val (.ref b1), .val (.ref b2), .val (.double (FP.i2d (pi4.toInt16.toInt32))), .second, .unset] [] _
    refine st5 _ ?_
    show Stp p e below T5 m 68 #[.val (.int pi1), .val (.int pi2), .val (.int pi3), .val (.int pi4), .val (.int (0 : Int32)), .val (.int (1 : Int32)), .val (.int (1 : Int32)), .val (.int (pi2 &&& (1 : Int32))), .val (.int (1 : Int32)), .val (.ref b1), .val (.ref b2), .val (.double (FP.i2d (pi4.toInt16.toInt32))), .second, .unset] [(.ref b5)] _
    refine XS.dup X5.here hx rfl (hb hby at_68) rfl rfl ?_
    show Stp p e below T5 m 69 #[.val (.int pi1), .val (.int pi2), .val (.int pi3), .val (.int pi4), .val (.int (0 : Int32)), .val (.int (1 : Int32)), .val (.int (1 : Int32)), .val (.int (pi2 &&& (1 : Int32))), .val (.int (1 : Int32)), .val (.ref b1), .val (.ref b2), .val (.double (FP.i2d (pi4.toInt16.toInt32))), .second, .unset] [(.ref b5), (.ref b5)] _
    refine XS.dload X5.here hx rfl (hb hby at_69) rfl ?_
    show Stp p e below T5 m 71 #[.val (.int pi1), .val (.int pi2), .val (.int pi3), .val (.int pi4), .val (.int (0 : Int32)), .val (.int (1 : Int32)), .val (.int (1 : Int32)), .val (.int (pi2 &&& (1 : Int32))), .val (.int (1 : Int32)), .val (.ref b1), .val (.ref b2), .val (.double (FP.i2d (pi4.toInt16.toInt32))), .second, .unset] [(.double (FP.i2d (pi4.toInt16.toInt32))), (.ref b5), (.ref b5)] _
    refine XS.aload X5.here hx rfl (hb hby at_71) rfl rfl ?_
    show Stp p e below T5 m 73 #[.val (.int pi1), .val (.int pi2), .val (.int pi3), .val (.int pi4), .val (.int (0 : Int32)), .val (.int (1 : Int32)), .val (.int (1 : Int32)), .val (.int (pi2 &&& (1 : Int32))), .val (.int (1 : Int32)), .val (.ref b1), .val (.ref b2), .val (.double (FP.i2d (pi4.toInt16.toInt32))), .second, .unset] [(.ref b2), (.double (FP.i2d (pi4.toInt16.toInt32))), (.ref b5), (.ref b5)] _
    refine XS.aload X5.here hx rfl (hb hby at_73) rfl rfl ?_
    show Stp p e below T5 m 75 #[.val (.int pi1), .val (.int pi2), .val (.int pi3), .val (.int pi4), .val (.int (0 : Int32)), .val (.int (1 : Int32)), .val (.int (1 : Int32)), .val (.int (pi2 &&& (1 : Int32))), .val (.int (1 : Int32)), .val (.ref b1), .val (.ref b2), .val (.double (FP.i2d (pi4.toInt16.toInt32))), .second, .unset] [(.ref b1), (.ref b2), (.double (FP.i2d (pi4.toInt16.toInt32))), (.ref b5), (.ref b5)] _
    refine st10.trans ?_
    show Stp p e below T10 m 78 #[.val (.int pi1), .val (.int pi2), .val (.int pi3), .val (.int pi4), .val (.int (0 : Int32)), .val (.int (1 : Int32)), .val (.int (1 : Int32)), .val (.int (pi2 &&& (1 : Int32))), .val (.int (1 : Int32)), .val (.ref b1), .val (.ref b2), .val (.double (FP.i2d (pi4.toInt16.toInt32))), .second, .unset] [(.ref b5)] _
    refine XS.astore X10.here hx rfl (hb hby at_78) rfl rfl (l' := #[.val (.int pi1), .val (.int pi2), .val (.int pi3), .val (.int pi4), .val (.int (0 : Int32)), .val (.int (1 : Int32)), .val (.int (1 : Int32)), .val (.int (pi2 &&& (1 : Int32))), .val (.int (1 : Int32)), .val (.ref b1), .val (.ref b2), .val (.double (FP.i2d (pi4.toInt16.toInt32))), .second, .val (.ref b5)]) rfl ?_
    show Stp p e below T10 m 80 #[.val (.int pi1), .val (.int pi2), .val (.int pi3), .val (.int pi4), .val (.int (0 : Int32)), .val (.int (1 : Int32)), .val (.int (1 : Int32)), .val (.int (pi2 &&& (1 : Int32))), .val (.int (1 : Int32)), .val (.ref b1), .val (.ref b2), .val (.double (FP.i2d (pi4.toInt16.toInt32))), .second, .val (.ref b5)] [] _
    refine XS.aload X10.here hx rfl (hb hby at_80) rfl rfl ?_
    show Stp p e below T10 m 82 #[.val (.int pi1), .val (.int pi2), .val (.int pi3), .val (.int pi4), .val (.int (0 : Int32)), .val (.int (1 : Int32)), .val (.int (1 : Int32)), .val (.int (pi2 &&& (1 : Int32))), .val (.int (1 : Int32)), .val (.ref b1), .val (.ref b2), .val (.double (FP.i2d (pi4.toInt16.toInt32))), .second, .val (.ref b5)] [(.ref b5)] _
    refine st15.trans ?_
    show Stp p e below T15 m 85 #[.val (.int pi1), .val (.int pi2), .val (.int pi3), .val (.int pi4), .val (.int (0 : Int32)), .val (.int (1 : Int32)), .val (.int (1 : Int32)), .val (.int (pi2 &&& (1 : Int32))), .val (.int (1 : Int32)), .val (.ref b1), .val (.ref b2), .val (.double (FP.i2d (pi4.toInt16.toInt32))), .second, .val (.ref b5)] [(.int own_ic0)] _
    refine XS.iload X15.here hx rfl (hb hby at_85) rfl ?_
    show Stp p e below T15 m 87 #[.val (.int pi1), .val (.int pi2), .val (.int pi3), .val (.int pi4), .val (.int (0 : Int32)), .val (.int (1 : Int32)), .val (.int (1 : Int32)), .val (.int (pi2 &&& (1 : Int32))), .val (.int (1 : Int32)), .val (.ref b1), .val (.ref b2), .val (.double (FP.i2d (pi4.toInt16.toInt32))), .second, .val (.ref b5)] [(.int (1 : Int32)), (.int own_ic0)] _
    refine XS.icmpNo X15.here hx rfl (hb hby at_87) rfl (teq ((own_e0 pi2).trans ((if_neg hc27_1).trans (if_pos (own_one hc27_1))))).2 ?_
    show Stp p e below T15 m 90 #[.val (.int pi1), .val (.int pi2), .val (.int pi3), .val (.int pi4), .val (.int (0 : Int32)), .val (.int (1 : Int32)), .val (.int (1 : Int32)), .val (.int (pi2 &&& (1 : Int32))), .val (.int (1 : Int32)), .val (.ref b1), .val (.ref b2), .val (.double (FP.i2d (pi4.toInt16.toInt32))), .second, .val (.ref b5)] [] _
    refine XS.iconst X15.here hx rfl (hb hby at_90) ?_
    show Stp p e below T15 m 91 #[.val (.int pi1), .val (.int pi2), .val (.int pi3), .val (.int pi4), .val (.int (0 : Int32)), .val (.int (1 : Int32)), .val (.int (1 : Int32)), .val (.int (pi2 &&& (1 : Int32))), .val (.int (1 : Int32)), .val (.ref b1), .val (.ref b2), .val (.double (FP.i2d (pi4.toInt16.toInt32))), .second, .val (.ref b5)] [(.int (1 : Int32))] _
    refine XS.goto X15.here hx rfl (pc0 := 91) (pc' := 95) rfl (hb hby at_91) (by decide) (by decide) ?_
    show Stp p e below T15 m 95 #[.val (.int pi1), .val (.int pi2), .val (.int pi3), .val (.int pi4), .val (.int (0 : Int32)), .val (.int (1 : Int32)), .val (.int (1 : Int32)), .val (.int (pi2 &&& (1 : Int32))), .val (.int (1 : Int32)), .val (.ref b1), .val (.ref b2), .val (.double (FP.i2d (pi4.toInt16.toInt32))), .second, .val (.ref b5)] [(.int (1 : Int32))] _
    exact retN X15 hx (t := .boolean) Bd.returns (by simp) (hb hby at_95) hr
  · exact ⟨rfl, N15⟩
set_option maxRecDepth 65536 in
set_option maxHeartbeats 40000000 in
theorem rm0_ftt (l : Launch) (Z : State) (a0 : Array Value) (hw : ∀ d ∈ tables_1, d.before a0 Z = true) (ws : List Jvm.Cond) (pi1 : Int32) (pi2 : Int32) (pi3 : Int32) (pi4 : Int32) (h0 : Heap) (n0 : Nat) (Z0 : n0 ≤ h0.size) (O0 : Old Z n0 h0) (hc3_0 : ¬ ((pi1 &&& (3 : Int32)) = (0 : Int32))) (hc3_1 : (pi1 &&& (3 : Int32)) = (1 : Int32)) (hc27_2 : (pi2 &&& (3 : Int32)) = (0 : Int32)) :
    MetFree l x (head1 (Jvm.Cond.code x code maxLocals ret :: ws) room_1) (fun a U => a = #[(.int pi1), (.int pi2), (.int pi3), (.int pi4)] ∧ Z.Warmed39 U.vm ∧ U.heap = h0) (fun _ _ _ _ _ => True) (fun _ U o U' => ∃ v L, o = .returned v ∧ Q0 v L n0 ∧ FrameEnd U o U' L room_1.cells room_1.slots) := by
  refine MetFree.of_bodySF (plainFor_of_name pn_0) hisR ?_
  intro p e s m args below meth c s₁ Bd hml0 hP hK
  obtain ⟨rfl, hZ, hh⟩ := hP
  have hx := Bd.exec
  have hby := Bd.bytes
  have hml : c.maxLocals = 14 := hml0
  have hown : s.vm.findClass "com/example/gudl/gudl/GroundFactorIsConstantPinLaw" = some m.cls := findClass_of_methodNamed Bd.named
  have hnm := (name_of_methodNamed Bd.named Bd.method).1
  have X0 : Stand p l e room_1 s m #[(.int pi1), (.int pi2), (.int pi3), (.int pi4)] below meth c s₁ [] 0 0 := Stand.of_body Bd
  have e0 : s₁.heap = h0 := by rw [← hh, Bd.state]; rfl
  have N0 := Fr.nil n0
  have pre0 : ∀ t, Steps p.tables e below (s₁.setTop (mkF m 0 #[.val (.int pi1), .val (.int pi2), .val (.int pi3), .val (.int pi4), .unset, .unset, .unset, .unset, .unset, .unset, .unset, .unset, .unset, .unset] [])) t → Steps p.tables e below (s₁.setTop (entryFrame m #[(.int pi1), (.int pi2), (.int pi3), (.int pi4)] maxLocals)) t := fun t k => castTop (ef_0 m pi1 pi2 pi3 pi4) k
  obtain ⟨_, _, ⟨T1, L1, k1, n1⟩, -, X1, ⟨Lc1, hQ1, l1, y1, z1⟩, st1⟩ := Jvm.LawKit.callS X0 hx (y := (⟨"com/example/gudl/gudl/GroundFactorIsConstantPinLaw", "truthArray", "(II)[Z"⟩ : MethodName)) hown (mvT hZ (own_W hw 0 rfl)) (mvT hZ (own_W hw 1 rfl)) (mvT hZ (own_W hw 2 rfl)) (mvT hZ (own_W hw 3 rfl)) (by decide) (backOf (W := 0) (rm1_1 l Z a0 hw [] (1 : Int32) pi2 h0 n0 Z0 O0 (by decide) rfl) hZ (own_W hw 3 rfl) (own_W hw 2 rfl) (by decide) (by decide)) (g := (mkF m 47 #[.val (.int pi1), .val (.int pi2), .val (.int pi3), .val (.int pi4), .val (.int (1 : Int32)), .val (.int (2 : Int32)), .val (.int (3 : Int32)), .val (.int (pi2 &&& (3 : Int32))), .val (.int (1 : Int32)), .unset, .unset, .unset, .unset, .unset] [(.int pi2), (.int (1 : Int32))])) rfl (by rw [hml]; rfl) (argsL := [(.int (1 : Int32)), (.int pi2)]) (rest := []) (lenOf pd_0 rfl) rfl (by show 2 * 0 + _ ≤ _; exact Nat.le_of_eq rfl) (hb hby at_47) (fun _ _ => ⟨rfl, e0, (by decide : 0 + 1 ≤ _), (by decide : 0 + 2 ≤ _)⟩)
  dsimp only [Pt.U, Pt.locs, Pt.cells, Pt.slots] at X1 l1 y1 z1 st1 hQ1
  subst l1 y1 z1
  obtain ⟨b1, b1_1, rfl, N1q, K1, qf1_0, qf1_1⟩ := hQ1
  have N1 := Fr.app N0 N1q
  have z3 := Nat.le_trans Z0 K1.1
  have o4 := O0.keep K1 all0
  obtain ⟨_, _, ⟨T2, L2, k2, n2⟩, -, X2, ⟨Lc2, hQ2, l2, y2, z2⟩, st2⟩ := Jvm.LawKit.callS X1 hx (y := (⟨"com/example/gudl/gudl/GroundFactorIsConstantPinLaw", "atomArray", "(II)[I"⟩ : MethodName)) hown (mvT hZ (own_W hw 8 rfl)) (mvT hZ (own_W hw 9 rfl)) (mvT hZ (own_W hw 2 rfl)) (mvT hZ (own_W hw 10 rfl)) (by decide) (backOf (W := 0) (rm3_1 l Z a0 hw [] (1 : Int32) pi3 T1.heap n0 z3 o4 (by decide) rfl) hZ (own_W hw 10 rfl) (own_W hw 2 rfl) (by decide) (by decide)) (g := (mkF m 55 #[.val (.int pi1), .val (.int pi2), .val (.int pi3), .val (.int pi4), .val (.int (1 : Int32)), .val (.int (2 : Int32)), .val (.int (3 : Int32)), .val (.int (pi2 &&& (3 : Int32))), .val (.int (1 : Int32)), .val (.ref b1), .unset, .unset, .unset, .unset] [(.int pi3), (.int (1 : Int32))])) rfl (by rw [hml]; rfl) (argsL := [(.int (1 : Int32)), (.int pi3)]) (rest := []) (lenOf pd_2 rfl) rfl (by show 2 * 0 + _ ≤ _; exact Nat.le_of_eq rfl) (hb hby at_55) (fun _ _ => ⟨rfl, rfl, (by decide : 1 + 1 ≤ _), (by decide : 2 + 1 ≤ _)⟩)
  dsimp only [Pt.U, Pt.locs, Pt.cells, Pt.slots] at X2 l2 y2 z2 st2 hQ2
  subst l2 y2 z2
  obtain ⟨b2, b2_1, rfl, N2q, K2, qf2_0, qf2_1⟩ := hQ2
  have N2 := Fr.app N1 N2q
  obtain ⟨T5, h5, X5, e5, E5, A5, D5, -, st5⟩ := newO X2 hx hZ hown (own_W hw 12 rfl) (own_W hw 13 rfl) (own_W hw 14 rfl) rfl (g := (mkF m 65 #[.val (.int pi1), .val (.int pi2), .val (.int pi3), .val (.int pi4), .val (.int (1 : Int32)), .val (.int (2 : Int32)), .val (.int (3 : Int32)), .val (.int (pi2 &&& (3 : Int32))), .val (.int (1 : Int32)), .val (.ref b1), .val (.ref b2), .val (.double (FP.i2d (pi4.toInt16.toInt32))), .second, .unset] [])) rfl (hb hby at_65) (by decide) (by decide)
  obtain ⟨b5, g5⟩ : ∃ z, z = T2.heap.size := ⟨_, rfl⟩
  rw [← g5] at A5 D5 st5
  have F_value_b5 : Fld Z h5 b5 "com/example/gudl/gudl/GroundFactor" "value" "D" (.double (0 : UInt64)) := D5 (Or.inr (own_W hw 22 rfl)) (ty := .double) (by decide)
  have F_atoms_b5 : Fld Z h5 b5 "com/example/gudl/gudl/GroundFactor" "atoms" "[I" .null := D5 (Or.inr (own_W hw 24 rfl)) (ty := (.array .int)) (by decide)
  have F_truth_b5 : Fld Z h5 b5 "com/example/gudl/gudl/GroundFactor" "truth" "[Z" .null := D5 (Or.inr (own_W hw 26 rfl)) (ty := (.array .boolean)) (by decide)
  have f6 := qf2_1.ext E5
  have f7 := qf1_1.keep K2 nin0
  have f8 := f7.ext E5
  have z9 := Nat.le_trans z3 K2.1
  have g_b5 : n0 ≤ b5 := Nat.le_trans z9 (Nat.le_of_eq g5.symm)
  have z11 := Nat.le_trans z9 E5.1
  have o12 := o4.keep K2 all0
  have o13 := o12.ext E5
  obtain ⟨_, _, ⟨T10, L10, k10, n10⟩, -, X10, ⟨Lc10, hQ10, l10, y10, z10⟩, st10⟩ := X5.specialBack hx (y := (⟨"com/example/gudl/gudl/GroundFactor", "<init>", "(D[I[Z)V"⟩ : MethodName)) rfl hown (mvT hZ (own_W hw 15 rfl)) (mvT hZ (own_W hw 16 rfl)) (mvT hZ (own_W hw 17 rfl)) (by decide) (backOf (W := 1) (rm4_1 l Z a0 hw [] b5 (FP.i2d (pi4.toInt16.toInt32)) b2 b1 b2_1 pi3 b1_1 (nar .boolean (own_bt pi2 (0 : Int32))) (nar .boolean (own_bt pi2 (1 : Int32))) (.double (0 : UInt64)) .null .null h5 n0 z11 o13 f6 f8 A5 F_value_b5 g_b5 F_atoms_b5 F_truth_b5) hZ (own_W hw 17 rfl) (own_W hw 14 rfl) (by decide) (by decide)) (g := (mkF m 75 #[.val (.int pi1), .val (.int pi2), .val (.int pi3), .val (.int pi4), .val (.int (1 : Int32)), .val (.int (2 : Int32)), .val (.int (3 : Int32)), .val (.int (pi2 &&& (3 : Int32))), .val (.int (1 : Int32)), .val (.ref b1), .val (.ref b2), .val (.double (FP.i2d (pi4.toInt16.toInt32))), .second, .unset] [(.ref b1), (.ref b2), (.double (FP.i2d (pi4.toInt16.toInt32))), (.ref b5), (.ref b5)])) rfl (by rw [hml]; rfl) (Steps.refl _) (a := b5) (argsL := [(.double (FP.i2d (pi4.toInt16.toInt32))), (.ref b2), (.ref b1)]) (rest := [(.ref b5)]) (lenOf pd_3 rfl) rfl (by show 2 * 0 + _ ≤ _; exact Nat.le_of_eq rfl) (hb hby at_75) (fun _ _ => ⟨rfl, e5, (by decide : 3 + 0 ≤ _), (by decide : 6 + 0 ≤ _)⟩)
  dsimp only [Pt.U, Pt.locs, Pt.cells, Pt.slots] at X10 l10 y10 z10 st10 hQ10
  subst l10 y10 z10
  obtain ⟨rfl, N10q, K10, qf10_0, qf10_1, qf10_2, qf10_3⟩ := hQ10
  have N10 := Fr.app N2 N10q
  have f14 := f8.keep K10 (ninS (Nat.ne_of_lt (Nat.lt_of_lt_of_le f7.lt (Nat.le_of_eq g5.symm))) nin0)
  have z16 := Nat.le_trans z11 K10.1
  have o17 := o13.keep K10 (allS g_b5 all0)
  obtain ⟨cq15, kq15, q15a, q15b, q15c⟩ := isOf hZ rfl qf10_0
  obtain ⟨_, _, ⟨T15, L15, k15, n15⟩, -, X15, ⟨Lc15, hQ15, l15, y15, z15⟩, st15⟩ := X10.virtualBack hx (y := (⟨"com/example/gudl/gudl/GroundFactor", "isConstant", "()Z"⟩ : MethodName)) (z := (⟨"com/example/gudl/gudl/GroundFactor", "isConstant", "()Z"⟩ : MethodName)) hown (mvT hZ (own_W hw 27 rfl)) (mvT hZ (own_W hw 28 rfl)) (notFace_of_selects (args := #[]) (mvT hZ (own_W hw 30 rfl))) (mvT hZ (own_W hw 30 rfl)) (mvT hZ (own_W hw 29 rfl)) (by decide) (backOf (W := 0) (rm6k1 l Z a0 hw [] b5 b1 b1_1 (nar .boolean (own_bt pi2 (0 : Int32))) (nar .boolean (own_bt pi2 (1 : Int32))) T10.heap n0 z16 o17 qf10_3 f14) hZ (own_W hw 31 rfl) (own_W hw 14 rfl) (by decide) (by decide)) q15a q15c (g := (mkF m 82 #[.val (.int pi1), .val (.int pi2), .val (.int pi3), .val (.int pi4), .val (.int (1 : Int32)), .val (.int (2 : Int32)), .val (.int (3 : Int32)), .val (.int (pi2 &&& (3 : Int32))), .val (.int (1 : Int32)), .val (.ref b1), .val (.ref b2), .val (.double (FP.i2d (pi4.toInt16.toInt32))), .second, .val (.ref b5)] [(.ref b5)])) rfl (by rw [hml]; rfl) (Steps.refl _) (argsL := []) (rest := []) (lenOf pd_5 rfl) rfl (by show 2 * 0 + _ ≤ _; exact Nat.le_of_eq rfl) (hb hby at_82) (fun _ _ => ⟨rfl, rfl, (by decide : 3 + 0 ≤ _), (by decide : 6 + 0 ≤ _)⟩)
  dsimp only [Pt.U, Pt.locs, Pt.cells, Pt.slots] at X15 l15 y15 z15 st15 hQ15
  subst l15 y15 z15
  obtain ⟨rfl, N15q, eq15⟩ := hQ15
  have N15 := Fr.app N10 N15q
  obtain ⟨fs, hr, hrun, hended, hW, hsame⟩ := X15.leave (v := some (.int (1 : Int32))) (fun h => by rw [Bd.returns] at h; cases h)
  refine ⟨_, _, pre0 _ ?_, hrun, hended, _, _, rfl, ?_, ⟨_, rfl⟩, hW, hsame.mono (by decide) (by decide)⟩
  · show Stp p e below s₁ m 0 #[.val (.int pi1), .val (.int pi2), .val (.int pi3), .val (.int pi4), .unset, .unset, .unset, .unset, .unset, .unset, .unset, .unset, .unset, .unset] [] _
    refine XS.iloadN X0.here hx rfl (hb hby at_0) rfl ?_
    show Stp p e below s₁ m 1 #[.val (.int pi1), .val (.int pi2), .val (.int pi3), .val (.int pi4), .unset, .unset, .unset, .unset, .unset, .unset, .unset, .unset, .unset, .unset] [(.int pi1)] _
    refine XS.iconst X0.here hx rfl (hb hby at_1) ?_
    show Stp p e below s₁ m 2 #[.val (.int pi1), .val (.int pi2), .val (.int pi3), .val (.int pi4), .unset, .unset, .unset, .unset, .unset, .unset, .unset, .unset, .unset, .unset] [(.int (3 : Int32)), (.int pi1)] _
    refine XS.iand X0.here hx rfl (hb hby at_2) rfl ?_
    show Stp p e below s₁ m 3 #[.val (.int pi1), .val (.int pi2), .val (.int pi3), .val (.int pi4), .unset, .unset, .unset, .unset, .unset, .unset, .unset, .unset, .unset, .unset] [(.int (pi1 &&& (3 : Int32)))] _
    refine XS.istore X0.here hx rfl (hb hby at_3) rfl (l' := #[.val (.int pi1), .val (.int pi2), .val (.int pi3), .val (.int pi4), .val (.int (pi1 &&& (3 : Int32))), .unset, .unset, .unset, .unset, .unset, .unset, .unset, .unset, .unset]) rfl ?_
    show Stp p e below s₁ m 5 #[.val (.int pi1), .val (.int pi2), .val (.int pi3), .val (.int pi4), .val (.int (pi1 &&& (3 : Int32))), .unset, .unset, .unset, .unset, .unset, .unset, .unset, .unset, .unset] [] _
    rw [show (pi1 &&& (3 : Int32)) = (1 : Int32) from hc3_1]
    show Stp p e below s₁ m 5 #[.val (.int pi1), .val (.int pi2), .val (.int pi3), .val (.int pi4), .val (.int (1 : Int32)), .unset, .unset, .unset, .unset, .unset, .unset, .unset, .unset, .unset] [] _
    refine XS.iconst X0.here hx rfl (hb hby at_5) ?_
    show Stp p e below s₁ m 6 #[.val (.int pi1), .val (.int pi2), .val (.int pi3), .val (.int pi4), .val (.int (1 : Int32)), .unset, .unset, .unset, .unset, .unset, .unset, .unset, .unset, .unset] [(.int (1 : Int32))] _
    refine XS.iload X0.here hx rfl (hb hby at_6) rfl ?_
    show Stp p e below s₁ m 8 #[.val (.int pi1), .val (.int pi2), .val (.int pi3), .val (.int pi4), .val (.int (1 : Int32)), .unset, .unset, .unset, .unset, .unset, .unset, .unset, .unset, .unset] [(.int (1 : Int32)), (.int (1 : Int32))] _
    refine XS.ishl X0.here hx rfl (hb hby at_8) rfl ?_
    show Stp p e below s₁ m 9 #[.val (.int pi1), .val (.int pi2), .val (.int pi3), .val (.int pi4), .val (.int (1 : Int32)), .unset, .unset, .unset, .unset, .unset, .unset, .unset, .unset, .unset] [(.int (2 : Int32))] _
    refine XS.istore X0.here hx rfl (hb hby at_9) rfl (l' := #[.val (.int pi1), .val (.int pi2), .val (.int pi3), .val (.int pi4), .val (.int (1 : Int32)), .val (.int (2 : Int32)), .unset, .unset, .unset, .unset, .unset, .unset, .unset, .unset]) rfl ?_
    show Stp p e below s₁ m 11 #[.val (.int pi1), .val (.int pi2), .val (.int pi3), .val (.int pi4), .val (.int (1 : Int32)), .val (.int (2 : Int32)), .unset, .unset, .unset, .unset, .unset, .unset, .unset, .unset] [] _
    refine XS.iconst X0.here hx rfl (hb hby at_11) ?_
    show Stp p e below s₁ m 12 #[.val (.int pi1), .val (.int pi2), .val (.int pi3), .val (.int pi4), .val (.int (1 : Int32)), .val (.int (2 : Int32)), .unset, .unset, .unset, .unset, .unset, .unset, .unset, .unset] [(.int (1 : Int32))] _
    refine XS.iload X0.here hx rfl (hb hby at_12) rfl ?_
    show Stp p e below s₁ m 14 #[.val (.int pi1), .val (.int pi2), .val (.int pi3), .val (.int pi4), .val (.int (1 : Int32)), .val (.int (2 : Int32)), .unset, .unset, .unset, .unset, .unset, .unset, .unset, .unset] [(.int (2 : Int32)), (.int (1 : Int32))] _
    refine XS.ishl X0.here hx rfl (hb hby at_14) rfl ?_
    show Stp p e below s₁ m 15 #[.val (.int pi1), .val (.int pi2), .val (.int pi3), .val (.int pi4), .val (.int (1 : Int32)), .val (.int (2 : Int32)), .unset, .unset, .unset, .unset, .unset, .unset, .unset, .unset] [(.int (4 : Int32))] _
    refine XS.iconst X0.here hx rfl (hb hby at_15) ?_
    show Stp p e below s₁ m 16 #[.val (.int pi1), .val (.int pi2), .val (.int pi3), .val (.int pi4), .val (.int (1 : Int32)), .val (.int (2 : Int32)), .unset, .unset, .unset, .unset, .unset, .unset, .unset, .unset] [(.int (1 : Int32)), (.int (4 : Int32))] _
    refine XS.isub X0.here hx rfl (hb hby at_16) rfl ?_
    show Stp p e below s₁ m 17 #[.val (.int pi1), .val (.int pi2), .val (.int pi3), .val (.int pi4), .val (.int (1 : Int32)), .val (.int (2 : Int32)), .unset, .unset, .unset, .unset, .unset, .unset, .unset, .unset] [(.int (3 : Int32))] _
    refine XS.istore X0.here hx rfl (hb hby at_17) rfl (l' := #[.val (.int pi1), .val (.int pi2), .val (.int pi3), .val (.int pi4), .val (.int (1 : Int32)), .val (.int (2 : Int32)), .val (.int (3 : Int32)), .unset, .unset, .unset, .unset, .unset, .unset, .unset]) rfl ?_
    show Stp p e below s₁ m 19 #[.val (.int pi1), .val (.int pi2), .val (.int pi3), .val (.int pi4), .val (.int (1 : Int32)), .val (.int (2 : Int32)), .val (.int (3 : Int32)), .unset, .unset, .unset, .unset, .unset, .unset, .unset] [] _
    refine XS.iloadN X0.here hx rfl (hb hby at_19) rfl ?_
    show Stp p e below s₁ m 20 #[.val (.int pi1), .val (.int pi2), .val (.int pi3), .val (.int pi4), .val (.int (1 : Int32)), .val (.int (2 : Int32)), .val (.int (3 : Int32)), .unset, .unset, .unset, .unset, .unset, .unset, .unset] [(.int pi2)] _
    refine XS.iload X0.here hx rfl (hb hby at_20) rfl ?_
    show Stp p e below s₁ m 22 #[.val (.int pi1), .val (.int pi2), .val (.int pi3), .val (.int pi4), .val (.int (1 : Int32)), .val (.int (2 : Int32)), .val (.int (3 : Int32)), .unset, .unset, .unset, .unset, .unset, .unset, .unset] [(.int (3 : Int32)), (.int pi2)] _
    refine XS.iand X0.here hx rfl (hb hby at_22) rfl ?_
    show Stp p e below s₁ m 23 #[.val (.int pi1), .val (.int pi2), .val (.int pi3), .val (.int pi4), .val (.int (1 : Int32)), .val (.int (2 : Int32)), .val (.int (3 : Int32)), .unset, .unset, .unset, .unset, .unset, .unset, .unset] [(.int (pi2 &&& (3 : Int32)))] _
    refine XS.istore X0.here hx rfl (hb hby at_23) rfl (l' := #[.val (.int pi1), .val (.int pi2), .val (.int pi3), .val (.int pi4), .val (.int (1 : Int32)), .val (.int (2 : Int32)), .val (.int (3 : Int32)), .val (.int (pi2 &&& (3 : Int32))), .unset, .unset, .unset, .unset, .unset, .unset]) rfl ?_
    show Stp p e below s₁ m 25 #[.val (.int pi1), .val (.int pi2), .val (.int pi3), .val (.int pi4), .val (.int (1 : Int32)), .val (.int (2 : Int32)), .val (.int (3 : Int32)), .val (.int (pi2 &&& (3 : Int32))), .unset, .unset, .unset, .unset, .unset, .unset] [] _
    refine XS.iload X0.here hx rfl (hb hby at_25) rfl ?_
    show Stp p e below s₁ m 27 #[.val (.int pi1), .val (.int pi2), .val (.int pi3), .val (.int pi4), .val (.int (1 : Int32)), .val (.int (2 : Int32)), .val (.int (3 : Int32)), .val (.int (pi2 &&& (3 : Int32))), .unset, .unset, .unset, .unset, .unset, .unset] [(.int (pi2 &&& (3 : Int32)))] _
    refine XS.ifYes X0.here hx rfl (pc0 := 27) (pc' := 37) rfl (hb hby at_27) rfl ((if0 _ _).trans (teq hc27_2).1) (by decide) (by decide) ?_
    show Stp p e below s₁ m 37 #[.val (.int pi1), .val (.int pi2), .val (.int pi3), .val (.int pi4), .val (.int (1 : Int32)), .val (.int (2 : Int32)), .val (.int (3 : Int32)), .val (.int (pi2 &&& (3 : Int32))), .unset, .unset, .unset, .unset, .unset, .unset] [] _
    refine XS.iconst X0.here hx rfl (hb hby at_37) ?_
    show Stp p e below s₁ m 38 #[.val (.int pi1), .val (.int pi2), .val (.int pi3), .val (.int pi4), .val (.int (1 : Int32)), .val (.int (2 : Int32)), .val (.int (3 : Int32)), .val (.int (pi2 &&& (3 : Int32))), .unset, .unset, .unset, .unset, .unset, .unset] [(.int (1 : Int32))] _
    refine XS.goto X0.here hx rfl (pc0 := 38) (pc' := 42) rfl (hb hby at_38) (by decide) (by decide) ?_
    show Stp p e below s₁ m 42 #[.val (.int pi1), .val (.int pi2), .val (.int pi3), .val (.int pi4), .val (.int (1 : Int32)), .val (.int (2 : Int32)), .val (.int (3 : Int32)), .val (.int (pi2 &&& (3 : Int32))), .unset, .unset, .unset, .unset, .unset, .unset] [(.int (1 : Int32))] _
    refine XS.istore X0.here hx rfl (hb hby at_42) rfl (l' := #[.val (.int pi1), .val (.int pi2), .val (.int pi3), .val (.int pi4), .val (.int (1 : Int32)), .val (.int (2 : Int32)), .val (.int (3 : Int32)), .val (.int (pi2 &&& (3 : Int32))), .val (.int (1 : Int32)), .unset, .unset, .unset, .unset, .unset]) rfl ?_
    show Stp p e below s₁ m 44 #[.val (.int pi1), .val (.int pi2), .val (.int pi3), .val (.int pi4), .val (.int (1 : Int32)), .val (.int (2 : Int32)), .val (.int (3 : Int32)), .val (.int (pi2 &&& (3 : Int32))), .val (.int (1 : Int32)), .unset, .unset, .unset, .unset, .unset] [] _
    refine XS.iload X0.here hx rfl (hb hby at_44) rfl ?_
    show Stp p e below s₁ m 46 #[.val (.int pi1), .val (.int pi2), .val (.int pi3), .val (.int pi4), .val (.int (1 : Int32)), .val (.int (2 : Int32)), .val (.int (3 : Int32)), .val (.int (pi2 &&& (3 : Int32))), .val (.int (1 : Int32)), .unset, .unset, .unset, .unset, .unset] [(.int (1 : Int32))] _
    refine XS.iloadN X0.here hx rfl (hb hby at_46) rfl ?_
    show Stp p e below s₁ m 47 #[.val (.int pi1), .val (.int pi2), .val (.int pi3), .val (.int pi4), .val (.int (1 : Int32)), .val (.int (2 : Int32)), .val (.int (3 : Int32)), .val (.int (pi2 &&& (3 : Int32))), .val (.int (1 : Int32)), .unset, .unset, .unset, .unset, .unset] [(.int pi2), (.int (1 : Int32))] _
    refine st1 _ ?_
    show Stp p e below T1 m 50 #[.val (.int pi1), .val (.int pi2), .val (.int pi3), .val (.int pi4), .val (.int (1 : Int32)), .val (.int (2 : Int32)), .val (.int (3 : Int32)), .val (.int (pi2 &&& (3 : Int32))), .val (.int (1 : Int32)), .unset, .unset, .unset, .unset, .unset] [(.ref b1)] _
    refine XS.astore X1.here hx rfl (hb hby at_50) rfl rfl (l' := #[.val (.int pi1), .val (.int pi2), .val (.int pi3), .val (.int pi4), .val (.int (1 : Int32)), .val (.int (2 : Int32)), .val (.int (3 : Int32)), .val (.int (pi2 &&& (3 : Int32))), .val (.int (1 : Int32)), .val (.ref b1), .unset, .unset, .unset, .unset]) rfl ?_
    show Stp p e below T1 m 52 #[.val (.int pi1), .val (.int pi2), .val (.int pi3), .val (.int pi4), .val (.int (1 : Int32)), .val (.int (2 : Int32)), .val (.int (3 : Int32)), .val (.int (pi2 &&& (3 : Int32))), .val (.int (1 : Int32)), .val (.ref b1), .unset, .unset, .unset, .unset] [] _
    refine XS.iload X1.here hx rfl (hb hby at_52) rfl ?_
    show Stp p e below T1 m 54 #[.val (.int pi1), .val (.int pi2), .val (.int pi3), .val (.int pi4), .val (.int (1 : Int32)), .val (.int (2 : Int32)), .val (.int (3 : Int32)), .val (.int (pi2 &&& (3 : Int32))), .val (.int (1 : Int32)), .val (.ref b1), .unset, .unset, .unset, .unset] [(.int (1 : Int32))] _
    refine XS.iloadN X1.here hx rfl (hb hby at_54) rfl ?_
    show Stp p e below T1 m 55 #[.val (.int pi1), .val (.int pi2), .val (.int pi3), .val (.int pi4), .val (.int (1 : Int32)), .val (.int (2 : Int32)), .val (.int (3 : Int32)), .val (.int (pi2 &&& (3 : Int32))), .val (.int (1 : Int32)), .val (.ref b1), .unset, .unset, .unset, .unset] [(.int pi3), (.int (1 : Int32))] _
    refine st2 _ ?_
    show Stp p e below T2 m 58 #[.val (.int pi1), .val (.int pi2), .val (.int pi3), .val (.int pi4), .val (.int (1 : Int32)), .val (.int (2 : Int32)), .val (.int (3 : Int32)), .val (.int (pi2 &&& (3 : Int32))), .val (.int (1 : Int32)), .val (.ref b1), .unset, .unset, .unset, .unset] [(.ref b2)] _
    refine XS.astore X2.here hx rfl (hb hby at_58) rfl rfl (l' := #[.val (.int pi1), .val (.int pi2), .val (.int pi3), .val (.int pi4), .val (.int (1 : Int32)), .val (.int (2 : Int32)), .val (.int (3 : Int32)), .val (.int (pi2 &&& (3 : Int32))), .val (.int (1 : Int32)), .val (.ref b1), .val (.ref b2), .unset, .unset, .unset]) rfl ?_
    show Stp p e below T2 m 60 #[.val (.int pi1), .val (.int pi2), .val (.int pi3), .val (.int pi4), .val (.int (1 : Int32)), .val (.int (2 : Int32)), .val (.int (3 : Int32)), .val (.int (pi2 &&& (3 : Int32))), .val (.int (1 : Int32)), .val (.ref b1), .val (.ref b2), .unset, .unset, .unset] [] _
    refine XS.iloadN X2.here hx rfl (hb hby at_60) rfl ?_
    show Stp p e below T2 m 61 #[.val (.int pi1), .val (.int pi2), .val (.int pi3), .val (.int pi4), .val (.int (1 : Int32)), .val (.int (2 : Int32)), .val (.int (3 : Int32)), .val (.int (pi2 &&& (3 : Int32))), .val (.int (1 : Int32)), .val (.ref b1), .val (.ref b2), .unset, .unset, .unset] [(.int pi4)] _
    refine XS.i2s X2.here hx rfl (hb hby at_61) rfl ?_
    show Stp p e below T2 m 62 #[.val (.int pi1), .val (.int pi2), .val (.int pi3), .val (.int pi4), .val (.int (1 : Int32)), .val (.int (2 : Int32)), .val (.int (3 : Int32)), .val (.int (pi2 &&& (3 : Int32))), .val (.int (1 : Int32)), .val (.ref b1), .val (.ref b2), .unset, .unset, .unset] [(.int (pi4.toInt16.toInt32))] _
    refine XS.i2dS X2.here hx rfl (hb hby at_62) rfl rfl ?_
    show Stp p e below T2 m 63 #[.val (.int pi1), .val (.int pi2), .val (.int pi3), .val (.int pi4), .val (.int (1 : Int32)), .val (.int (2 : Int32)), .val (.int (3 : Int32)), .val (.int (pi2 &&& (3 : Int32))), .val (.int (1 : Int32)), .val (.ref b1), .val (.ref b2), .unset, .unset, .unset] [(.double (FP.i2d (pi4.toInt16.toInt32)))] _
    refine XS.dstore X2.here hx rfl (hb hby at_63) rfl (l' := #[.val (.int pi1), .val (.int pi2), .val (.int pi3), .val (.int pi4), .val (.int (1 : Int32)), .val (.int (2 : Int32)), .val (.int (3 : Int32)), .val (.int (pi2 &&& (3 : Int32))), .val (.int (1 : Int32)), .val (.ref b1), .val (.ref b2), .val (.double (FP.i2d (pi4.toInt16.toInt32))), .second, .unset]) rfl ?_
    show Stp p e below T2 m 65 #[.val (.int pi1), .val (.int pi2), .val (.int pi3), .val (.int pi4), .val (.int (1 : Int32)), .val (.int (2 : Int32)), .val (.int (3 : Int32)), .val (.int (pi2 &&& (3 : Int32))), .val (.int (1 : Int32)), .val (.ref b1), .val (.ref b2), .val (.double (FP.i2d (pi4.toInt16.toInt32))), .second, .unset] [] _
    refine st5 _ ?_
    show Stp p e below T5 m 68 #[.val (.int pi1), .val (.int pi2), .val (.int pi3), .val (.int pi4), .val (.int (1 : Int32)), .val (.int (2 : Int32)), .val (.int (3 : Int32)), .val (.int (pi2 &&& (3 : Int32))), .val (.int (1 : Int32)), .val (.ref b1), .val (.ref b2), .val (.double (FP.i2d (pi4.toInt16.toInt32))), .second, .unset] [(.ref b5)] _
    refine XS.dup X5.here hx rfl (hb hby at_68) rfl rfl ?_
    show Stp p e below T5 m 69 #[.val (.int pi1), .val (.int pi2), .val (.int pi3), .val (.int pi4), .val (.int (1 : Int32)), .val (.int (2 : Int32)), .val (.int (3 : Int32)), .val (.int (pi2 &&& (3 : Int32))), .val (.int (1 : Int32)), .val (.ref b1), .val (.ref b2), .val (.double (FP.i2d (pi4.toInt16.toInt32))), .second, .unset] [(.ref b5), (.ref b5)] _
    refine XS.dload X5.here hx rfl (hb hby at_69) rfl ?_
    show Stp p e below T5 m 71 #[.val (.int pi1), .val (.int pi2), .val (.int pi3), .val (.int pi4), .val (.int (1 : Int32)), .val (.int (2 : Int32)), .val (.int (3 : Int32)), .val (.int (pi2 &&& (3 : Int32))), .val (.int (1 : Int32)), .val (.ref b1), .val (.ref b2), .val (.double (FP.i2d (pi4.toInt16.toInt32))), .second, .unset] [(.double (FP.i2d (pi4.toInt16.toInt32))), (.ref b5), (.ref b5)] _
    refine XS.aload X5.here hx rfl (hb hby at_71) rfl rfl ?_
    show Stp p e below T5 m 73 #[.val (.int pi1), .val (.int pi2), .val (.int pi3), .val (.int pi4), .val (.int (1 : Int32)), .val (.int (2 : Int32)), .val (.int (3 : Int32)), .val (.int (pi2 &&& (3 : Int32))), .val (.int (1 : Int32)), .val (.ref b1), .val (.ref b2), .val (.double (FP.i2d (pi4.toInt16.toInt32))), .second, .unset] [(.ref b2), (.double (FP.i2d (pi4.toInt16.toInt32))), (.ref b5), (.ref b5)] _
    refine XS.aload X5.here hx rfl (hb hby at_73) rfl rfl ?_
    show Stp p e below T5 m 75 #[.val (.int pi1), .val (.int pi2), .val (.int pi3), .val (.int pi4), .val (.int (1 : Int32)), .val (.int (2 : Int32)), .val (.int (3 : Int32)), .val (.int (pi2 &&& (3 : Int32))), .val (.int (1 : Int32)), .val (.ref b1), .val (.ref b2), .val (.double (FP.i2d (pi4.toInt16.toInt32))), .second, .unset] [(.ref b1), (.ref b2), (.double (FP.i2d (pi4.toInt16.toInt32))), (.ref b5), (.ref b5)] _
    refine st10.trans ?_
    show Stp p e below T10 m 78 #[.val (.int pi1), .val (.int pi2), .val (.int pi3), .val (.int pi4), .val (.int (1 : Int32)), .val (.int (2 : Int32)), .val (.int (3 : Int32)), .val (.int (pi2 &&& (3 : Int32))), .val (.int (1 : Int32)), .val (.ref b1), .val (.ref b2), .val (.double (FP.i2d (pi4.toInt16.toInt32))), .second, .unset] [(.ref b5)] _
    refine XS.astore X10.here hx rfl (hb hby at_78) rfl rfl (l' := #[.val (.int pi1), .val (.int pi2), .val (.int pi3), .val (.int pi4), .val (.int (1 : Int32)), .val (.int (2 : Int32)), .val (.int (3 : Int32)), .val (.int (pi2 &&& (3 : Int32))), .val (.int (1 : Int32)), .val (.ref b1), .val (.ref b2), .val (.double (FP.i2d (pi4.toInt16.toInt32))), .second, .val (.ref b5)]) rfl ?_
    show Stp p e below T10 m 80 #[.val (.int pi1), .val (.int pi2), .val (.int pi3), .val (.int pi4), .val (.int (1 : Int32)), .val (.int (2 : Int32)), .val (.int (3 : Int32)), .val (.int (pi2 &&& (3 : Int32))), .val (.int (1 : Int32)), .val (.ref b1), .val (.ref b2), .val (.double (FP.i2d (pi4.toInt16.toInt32))), .second, .val (.ref b5)] [] _
    refine XS.aload X10.here hx rfl (hb hby at_80) rfl rfl ?_
    show Stp p e below T10 m 82 #[.val (.int pi1), .val (.int pi2), .val (.int pi3), .val (.int pi4), .val (.int (1 : Int32)), .val (.int (2 : Int32)), .val (.int (3 : Int32)), .val (.int (pi2 &&& (3 : Int32))), .val (.int (1 : Int32)), .val (.ref b1), .val (.ref b2), .val (.double (FP.i2d (pi4.toInt16.toInt32))), .second, .val (.ref b5)] [(.ref b5)] _
    refine st15.trans ?_
    show Stp p e below T15 m 85 #[.val (.int pi1), .val (.int pi2), .val (.int pi3), .val (.int pi4), .val (.int (1 : Int32)), .val (.int (2 : Int32)), .val (.int (3 : Int32)), .val (.int (pi2 &&& (3 : Int32))), .val (.int (1 : Int32)), .val (.ref b1), .val (.ref b2), .val (.double (FP.i2d (pi4.toInt16.toInt32))), .second, .val (.ref b5)] [(.int (own_ic1 (nar .boolean (own_bt pi2 (0 : Int32))) (nar .boolean (own_bt pi2 (1 : Int32)))))] _
    refine XS.iload X15.here hx rfl (hb hby at_85) rfl ?_
    show Stp p e below T15 m 87 #[.val (.int pi1), .val (.int pi2), .val (.int pi3), .val (.int pi4), .val (.int (1 : Int32)), .val (.int (2 : Int32)), .val (.int (3 : Int32)), .val (.int (pi2 &&& (3 : Int32))), .val (.int (1 : Int32)), .val (.ref b1), .val (.ref b2), .val (.double (FP.i2d (pi4.toInt16.toInt32))), .second, .val (.ref b5)] [(.int (1 : Int32)), (.int (own_ic1 (nar .boolean (own_bt pi2 (0 : Int32))) (nar .boolean (own_bt pi2 (1 : Int32)))))] _
    refine XS.icmpNo X15.here hx rfl (hb hby at_87) rfl (teq ((own_e1 pi2).trans (if_pos hc27_2))).2 ?_
    show Stp p e below T15 m 90 #[.val (.int pi1), .val (.int pi2), .val (.int pi3), .val (.int pi4), .val (.int (1 : Int32)), .val (.int (2 : Int32)), .val (.int (3 : Int32)), .val (.int (pi2 &&& (3 : Int32))), .val (.int (1 : Int32)), .val (.ref b1), .val (.ref b2), .val (.double (FP.i2d (pi4.toInt16.toInt32))), .second, .val (.ref b5)] [] _
    refine XS.iconst X15.here hx rfl (hb hby at_90) ?_
    show Stp p e below T15 m 91 #[.val (.int pi1), .val (.int pi2), .val (.int pi3), .val (.int pi4), .val (.int (1 : Int32)), .val (.int (2 : Int32)), .val (.int (3 : Int32)), .val (.int (pi2 &&& (3 : Int32))), .val (.int (1 : Int32)), .val (.ref b1), .val (.ref b2), .val (.double (FP.i2d (pi4.toInt16.toInt32))), .second, .val (.ref b5)] [(.int (1 : Int32))] _
    refine XS.goto X15.here hx rfl (pc0 := 91) (pc' := 95) rfl (hb hby at_91) (by decide) (by decide) ?_
    show Stp p e below T15 m 95 #[.val (.int pi1), .val (.int pi2), .val (.int pi3), .val (.int pi4), .val (.int (1 : Int32)), .val (.int (2 : Int32)), .val (.int (3 : Int32)), .val (.int (pi2 &&& (3 : Int32))), .val (.int (1 : Int32)), .val (.ref b1), .val (.ref b2), .val (.double (FP.i2d (pi4.toInt16.toInt32))), .second, .val (.ref b5)] [(.int (1 : Int32))] _
    exact retN X15 hx (t := .boolean) Bd.returns (by simp) (hb hby at_95) hr
  · exact ⟨rfl, N15⟩
set_option maxRecDepth 65536 in
set_option maxHeartbeats 40000000 in
theorem rm0_ftft (l : Launch) (Z : State) (a0 : Array Value) (hw : ∀ d ∈ tables_1, d.before a0 Z = true) (ws : List Jvm.Cond) (pi1 : Int32) (pi2 : Int32) (pi3 : Int32) (pi4 : Int32) (h0 : Heap) (n0 : Nat) (Z0 : n0 ≤ h0.size) (O0 : Old Z n0 h0) (hc3_0 : ¬ ((pi1 &&& (3 : Int32)) = (0 : Int32))) (hc3_1 : (pi1 &&& (3 : Int32)) = (1 : Int32)) (hc27_2 : ¬ ((pi2 &&& (3 : Int32)) = (0 : Int32))) (hc34_3 : (pi2 &&& (3 : Int32)) = (3 : Int32)) :
    MetFree l x (head1 (Jvm.Cond.code x code maxLocals ret :: ws) room_1) (fun a U => a = #[(.int pi1), (.int pi2), (.int pi3), (.int pi4)] ∧ Z.Warmed39 U.vm ∧ U.heap = h0) (fun _ _ _ _ _ => True) (fun _ U o U' => ∃ v L, o = .returned v ∧ Q0 v L n0 ∧ FrameEnd U o U' L room_1.cells room_1.slots) := by
  refine MetFree.of_bodySF (plainFor_of_name pn_0) hisR ?_
  intro p e s m args below meth c s₁ Bd hml0 hP hK
  obtain ⟨rfl, hZ, hh⟩ := hP
  have hx := Bd.exec
  have hby := Bd.bytes
  have hml : c.maxLocals = 14 := hml0
  have hown : s.vm.findClass "com/example/gudl/gudl/GroundFactorIsConstantPinLaw" = some m.cls := findClass_of_methodNamed Bd.named
  have hnm := (name_of_methodNamed Bd.named Bd.method).1
  have X0 : Stand p l e room_1 s m #[(.int pi1), (.int pi2), (.int pi3), (.int pi4)] below meth c s₁ [] 0 0 := Stand.of_body Bd
  have e0 : s₁.heap = h0 := by rw [← hh, Bd.state]; rfl
  have N0 := Fr.nil n0
  have pre0 : ∀ t, Steps p.tables e below (s₁.setTop (mkF m 0 #[.val (.int pi1), .val (.int pi2), .val (.int pi3), .val (.int pi4), .unset, .unset, .unset, .unset, .unset, .unset, .unset, .unset, .unset, .unset] [])) t → Steps p.tables e below (s₁.setTop (entryFrame m #[(.int pi1), (.int pi2), (.int pi3), (.int pi4)] maxLocals)) t := fun t k => castTop (ef_0 m pi1 pi2 pi3 pi4) k
  obtain ⟨_, _, ⟨T1, L1, k1, n1⟩, -, X1, ⟨Lc1, hQ1, l1, y1, z1⟩, st1⟩ := Jvm.LawKit.callS X0 hx (y := (⟨"com/example/gudl/gudl/GroundFactorIsConstantPinLaw", "truthArray", "(II)[Z"⟩ : MethodName)) hown (mvT hZ (own_W hw 0 rfl)) (mvT hZ (own_W hw 1 rfl)) (mvT hZ (own_W hw 2 rfl)) (mvT hZ (own_W hw 3 rfl)) (by decide) (backOf (W := 0) (rm1_1 l Z a0 hw [] (1 : Int32) pi2 h0 n0 Z0 O0 (by decide) rfl) hZ (own_W hw 3 rfl) (own_W hw 2 rfl) (by decide) (by decide)) (g := (mkF m 47 #[.val (.int pi1), .val (.int pi2), .val (.int pi3), .val (.int pi4), .val (.int (1 : Int32)), .val (.int (2 : Int32)), .val (.int (3 : Int32)), .val (.int (pi2 &&& (3 : Int32))), .val (.int (1 : Int32)), .unset, .unset, .unset, .unset, .unset] [(.int pi2), (.int (1 : Int32))])) rfl (by rw [hml]; rfl) (argsL := [(.int (1 : Int32)), (.int pi2)]) (rest := []) (lenOf pd_0 rfl) rfl (by show 2 * 0 + _ ≤ _; exact Nat.le_of_eq rfl) (hb hby at_47) (fun _ _ => ⟨rfl, e0, (by decide : 0 + 1 ≤ _), (by decide : 0 + 2 ≤ _)⟩)
  dsimp only [Pt.U, Pt.locs, Pt.cells, Pt.slots] at X1 l1 y1 z1 st1 hQ1
  subst l1 y1 z1
  obtain ⟨b1, b1_1, rfl, N1q, K1, qf1_0, qf1_1⟩ := hQ1
  have N1 := Fr.app N0 N1q
  have z3 := Nat.le_trans Z0 K1.1
  have o4 := O0.keep K1 all0
  obtain ⟨_, _, ⟨T2, L2, k2, n2⟩, -, X2, ⟨Lc2, hQ2, l2, y2, z2⟩, st2⟩ := Jvm.LawKit.callS X1 hx (y := (⟨"com/example/gudl/gudl/GroundFactorIsConstantPinLaw", "atomArray", "(II)[I"⟩ : MethodName)) hown (mvT hZ (own_W hw 8 rfl)) (mvT hZ (own_W hw 9 rfl)) (mvT hZ (own_W hw 2 rfl)) (mvT hZ (own_W hw 10 rfl)) (by decide) (backOf (W := 0) (rm3_1 l Z a0 hw [] (1 : Int32) pi3 T1.heap n0 z3 o4 (by decide) rfl) hZ (own_W hw 10 rfl) (own_W hw 2 rfl) (by decide) (by decide)) (g := (mkF m 55 #[.val (.int pi1), .val (.int pi2), .val (.int pi3), .val (.int pi4), .val (.int (1 : Int32)), .val (.int (2 : Int32)), .val (.int (3 : Int32)), .val (.int (pi2 &&& (3 : Int32))), .val (.int (1 : Int32)), .val (.ref b1), .unset, .unset, .unset, .unset] [(.int pi3), (.int (1 : Int32))])) rfl (by rw [hml]; rfl) (argsL := [(.int (1 : Int32)), (.int pi3)]) (rest := []) (lenOf pd_2 rfl) rfl (by show 2 * 0 + _ ≤ _; exact Nat.le_of_eq rfl) (hb hby at_55) (fun _ _ => ⟨rfl, rfl, (by decide : 1 + 1 ≤ _), (by decide : 2 + 1 ≤ _)⟩)
  dsimp only [Pt.U, Pt.locs, Pt.cells, Pt.slots] at X2 l2 y2 z2 st2 hQ2
  subst l2 y2 z2
  obtain ⟨b2, b2_1, rfl, N2q, K2, qf2_0, qf2_1⟩ := hQ2
  have N2 := Fr.app N1 N2q
  obtain ⟨T5, h5, X5, e5, E5, A5, D5, -, st5⟩ := newO X2 hx hZ hown (own_W hw 12 rfl) (own_W hw 13 rfl) (own_W hw 14 rfl) rfl (g := (mkF m 65 #[.val (.int pi1), .val (.int pi2), .val (.int pi3), .val (.int pi4), .val (.int (1 : Int32)), .val (.int (2 : Int32)), .val (.int (3 : Int32)), .val (.int (pi2 &&& (3 : Int32))), .val (.int (1 : Int32)), .val (.ref b1), .val (.ref b2), .val (.double (FP.i2d (pi4.toInt16.toInt32))), .second, .unset] [])) rfl (hb hby at_65) (by decide) (by decide)
  obtain ⟨b5, g5⟩ : ∃ z, z = T2.heap.size := ⟨_, rfl⟩
  rw [← g5] at A5 D5 st5
  have F_value_b5 : Fld Z h5 b5 "com/example/gudl/gudl/GroundFactor" "value" "D" (.double (0 : UInt64)) := D5 (Or.inr (own_W hw 22 rfl)) (ty := .double) (by decide)
  have F_atoms_b5 : Fld Z h5 b5 "com/example/gudl/gudl/GroundFactor" "atoms" "[I" .null := D5 (Or.inr (own_W hw 24 rfl)) (ty := (.array .int)) (by decide)
  have F_truth_b5 : Fld Z h5 b5 "com/example/gudl/gudl/GroundFactor" "truth" "[Z" .null := D5 (Or.inr (own_W hw 26 rfl)) (ty := (.array .boolean)) (by decide)
  have f6 := qf2_1.ext E5
  have f7 := qf1_1.keep K2 nin0
  have f8 := f7.ext E5
  have z9 := Nat.le_trans z3 K2.1
  have g_b5 : n0 ≤ b5 := Nat.le_trans z9 (Nat.le_of_eq g5.symm)
  have z11 := Nat.le_trans z9 E5.1
  have o12 := o4.keep K2 all0
  have o13 := o12.ext E5
  obtain ⟨_, _, ⟨T10, L10, k10, n10⟩, -, X10, ⟨Lc10, hQ10, l10, y10, z10⟩, st10⟩ := X5.specialBack hx (y := (⟨"com/example/gudl/gudl/GroundFactor", "<init>", "(D[I[Z)V"⟩ : MethodName)) rfl hown (mvT hZ (own_W hw 15 rfl)) (mvT hZ (own_W hw 16 rfl)) (mvT hZ (own_W hw 17 rfl)) (by decide) (backOf (W := 1) (rm4_1 l Z a0 hw [] b5 (FP.i2d (pi4.toInt16.toInt32)) b2 b1 b2_1 pi3 b1_1 (nar .boolean (own_bt pi2 (0 : Int32))) (nar .boolean (own_bt pi2 (1 : Int32))) (.double (0 : UInt64)) .null .null h5 n0 z11 o13 f6 f8 A5 F_value_b5 g_b5 F_atoms_b5 F_truth_b5) hZ (own_W hw 17 rfl) (own_W hw 14 rfl) (by decide) (by decide)) (g := (mkF m 75 #[.val (.int pi1), .val (.int pi2), .val (.int pi3), .val (.int pi4), .val (.int (1 : Int32)), .val (.int (2 : Int32)), .val (.int (3 : Int32)), .val (.int (pi2 &&& (3 : Int32))), .val (.int (1 : Int32)), .val (.ref b1), .val (.ref b2), .val (.double (FP.i2d (pi4.toInt16.toInt32))), .second, .unset] [(.ref b1), (.ref b2), (.double (FP.i2d (pi4.toInt16.toInt32))), (.ref b5), (.ref b5)])) rfl (by rw [hml]; rfl) (Steps.refl _) (a := b5) (argsL := [(.double (FP.i2d (pi4.toInt16.toInt32))), (.ref b2), (.ref b1)]) (rest := [(.ref b5)]) (lenOf pd_3 rfl) rfl (by show 2 * 0 + _ ≤ _; exact Nat.le_of_eq rfl) (hb hby at_75) (fun _ _ => ⟨rfl, e5, (by decide : 3 + 0 ≤ _), (by decide : 6 + 0 ≤ _)⟩)
  dsimp only [Pt.U, Pt.locs, Pt.cells, Pt.slots] at X10 l10 y10 z10 st10 hQ10
  subst l10 y10 z10
  obtain ⟨rfl, N10q, K10, qf10_0, qf10_1, qf10_2, qf10_3⟩ := hQ10
  have N10 := Fr.app N2 N10q
  have f14 := f8.keep K10 (ninS (Nat.ne_of_lt (Nat.lt_of_lt_of_le f7.lt (Nat.le_of_eq g5.symm))) nin0)
  have z16 := Nat.le_trans z11 K10.1
  have o17 := o13.keep K10 (allS g_b5 all0)
  obtain ⟨cq15, kq15, q15a, q15b, q15c⟩ := isOf hZ rfl qf10_0
  obtain ⟨_, _, ⟨T15, L15, k15, n15⟩, -, X15, ⟨Lc15, hQ15, l15, y15, z15⟩, st15⟩ := X10.virtualBack hx (y := (⟨"com/example/gudl/gudl/GroundFactor", "isConstant", "()Z"⟩ : MethodName)) (z := (⟨"com/example/gudl/gudl/GroundFactor", "isConstant", "()Z"⟩ : MethodName)) hown (mvT hZ (own_W hw 27 rfl)) (mvT hZ (own_W hw 28 rfl)) (notFace_of_selects (args := #[]) (mvT hZ (own_W hw 30 rfl))) (mvT hZ (own_W hw 30 rfl)) (mvT hZ (own_W hw 29 rfl)) (by decide) (backOf (W := 0) (rm6k1 l Z a0 hw [] b5 b1 b1_1 (nar .boolean (own_bt pi2 (0 : Int32))) (nar .boolean (own_bt pi2 (1 : Int32))) T10.heap n0 z16 o17 qf10_3 f14) hZ (own_W hw 31 rfl) (own_W hw 14 rfl) (by decide) (by decide)) q15a q15c (g := (mkF m 82 #[.val (.int pi1), .val (.int pi2), .val (.int pi3), .val (.int pi4), .val (.int (1 : Int32)), .val (.int (2 : Int32)), .val (.int (3 : Int32)), .val (.int (pi2 &&& (3 : Int32))), .val (.int (1 : Int32)), .val (.ref b1), .val (.ref b2), .val (.double (FP.i2d (pi4.toInt16.toInt32))), .second, .val (.ref b5)] [(.ref b5)])) rfl (by rw [hml]; rfl) (Steps.refl _) (argsL := []) (rest := []) (lenOf pd_5 rfl) rfl (by show 2 * 0 + _ ≤ _; exact Nat.le_of_eq rfl) (hb hby at_82) (fun _ _ => ⟨rfl, rfl, (by decide : 3 + 0 ≤ _), (by decide : 6 + 0 ≤ _)⟩)
  dsimp only [Pt.U, Pt.locs, Pt.cells, Pt.slots] at X15 l15 y15 z15 st15 hQ15
  subst l15 y15 z15
  obtain ⟨rfl, N15q, eq15⟩ := hQ15
  have N15 := Fr.app N10 N15q
  obtain ⟨fs, hr, hrun, hended, hW, hsame⟩ := X15.leave (v := some (.int (1 : Int32))) (fun h => by rw [Bd.returns] at h; cases h)
  refine ⟨_, _, pre0 _ ?_, hrun, hended, _, _, rfl, ?_, ⟨_, rfl⟩, hW, hsame.mono (by decide) (by decide)⟩
  · show Stp p e below s₁ m 0 #[.val (.int pi1), .val (.int pi2), .val (.int pi3), .val (.int pi4), .unset, .unset, .unset, .unset, .unset, .unset, .unset, .unset, .unset, .unset] [] _
    refine XS.iloadN X0.here hx rfl (hb hby at_0) rfl ?_
    show Stp p e below s₁ m 1 #[.val (.int pi1), .val (.int pi2), .val (.int pi3), .val (.int pi4), .unset, .unset, .unset, .unset, .unset, .unset, .unset, .unset, .unset, .unset] [(.int pi1)] _
    refine XS.iconst X0.here hx rfl (hb hby at_1) ?_
    show Stp p e below s₁ m 2 #[.val (.int pi1), .val (.int pi2), .val (.int pi3), .val (.int pi4), .unset, .unset, .unset, .unset, .unset, .unset, .unset, .unset, .unset, .unset] [(.int (3 : Int32)), (.int pi1)] _
    refine XS.iand X0.here hx rfl (hb hby at_2) rfl ?_
    show Stp p e below s₁ m 3 #[.val (.int pi1), .val (.int pi2), .val (.int pi3), .val (.int pi4), .unset, .unset, .unset, .unset, .unset, .unset, .unset, .unset, .unset, .unset] [(.int (pi1 &&& (3 : Int32)))] _
    refine XS.istore X0.here hx rfl (hb hby at_3) rfl (l' := #[.val (.int pi1), .val (.int pi2), .val (.int pi3), .val (.int pi4), .val (.int (pi1 &&& (3 : Int32))), .unset, .unset, .unset, .unset, .unset, .unset, .unset, .unset, .unset]) rfl ?_
    show Stp p e below s₁ m 5 #[.val (.int pi1), .val (.int pi2), .val (.int pi3), .val (.int pi4), .val (.int (pi1 &&& (3 : Int32))), .unset, .unset, .unset, .unset, .unset, .unset, .unset, .unset, .unset] [] _
    rw [show (pi1 &&& (3 : Int32)) = (1 : Int32) from hc3_1]
    show Stp p e below s₁ m 5 #[.val (.int pi1), .val (.int pi2), .val (.int pi3), .val (.int pi4), .val (.int (1 : Int32)), .unset, .unset, .unset, .unset, .unset, .unset, .unset, .unset, .unset] [] _
    refine XS.iconst X0.here hx rfl (hb hby at_5) ?_
    show Stp p e below s₁ m 6 #[.val (.int pi1), .val (.int pi2), .val (.int pi3), .val (.int pi4), .val (.int (1 : Int32)), .unset, .unset, .unset, .unset, .unset, .unset, .unset, .unset, .unset] [(.int (1 : Int32))] _
    refine XS.iload X0.here hx rfl (hb hby at_6) rfl ?_
    show Stp p e below s₁ m 8 #[.val (.int pi1), .val (.int pi2), .val (.int pi3), .val (.int pi4), .val (.int (1 : Int32)), .unset, .unset, .unset, .unset, .unset, .unset, .unset, .unset, .unset] [(.int (1 : Int32)), (.int (1 : Int32))] _
    refine XS.ishl X0.here hx rfl (hb hby at_8) rfl ?_
    show Stp p e below s₁ m 9 #[.val (.int pi1), .val (.int pi2), .val (.int pi3), .val (.int pi4), .val (.int (1 : Int32)), .unset, .unset, .unset, .unset, .unset, .unset, .unset, .unset, .unset] [(.int (2 : Int32))] _
    refine XS.istore X0.here hx rfl (hb hby at_9) rfl (l' := #[.val (.int pi1), .val (.int pi2), .val (.int pi3), .val (.int pi4), .val (.int (1 : Int32)), .val (.int (2 : Int32)), .unset, .unset, .unset, .unset, .unset, .unset, .unset, .unset]) rfl ?_
    show Stp p e below s₁ m 11 #[.val (.int pi1), .val (.int pi2), .val (.int pi3), .val (.int pi4), .val (.int (1 : Int32)), .val (.int (2 : Int32)), .unset, .unset, .unset, .unset, .unset, .unset, .unset, .unset] [] _
    refine XS.iconst X0.here hx rfl (hb hby at_11) ?_
    show Stp p e below s₁ m 12 #[.val (.int pi1), .val (.int pi2), .val (.int pi3), .val (.int pi4), .val (.int (1 : Int32)), .val (.int (2 : Int32)), .unset, .unset, .unset, .unset, .unset, .unset, .unset, .unset] [(.int (1 : Int32))] _
    refine XS.iload X0.here hx rfl (hb hby at_12) rfl ?_
    show Stp p e below s₁ m 14 #[.val (.int pi1), .val (.int pi2), .val (.int pi3), .val (.int pi4), .val (.int (1 : Int32)), .val (.int (2 : Int32)), .unset, .unset, .unset, .unset, .unset, .unset, .unset, .unset] [(.int (2 : Int32)), (.int (1 : Int32))] _
    refine XS.ishl X0.here hx rfl (hb hby at_14) rfl ?_
    show Stp p e below s₁ m 15 #[.val (.int pi1), .val (.int pi2), .val (.int pi3), .val (.int pi4), .val (.int (1 : Int32)), .val (.int (2 : Int32)), .unset, .unset, .unset, .unset, .unset, .unset, .unset, .unset] [(.int (4 : Int32))] _
    refine XS.iconst X0.here hx rfl (hb hby at_15) ?_
    show Stp p e below s₁ m 16 #[.val (.int pi1), .val (.int pi2), .val (.int pi3), .val (.int pi4), .val (.int (1 : Int32)), .val (.int (2 : Int32)), .unset, .unset, .unset, .unset, .unset, .unset, .unset, .unset] [(.int (1 : Int32)), (.int (4 : Int32))] _
    refine XS.isub X0.here hx rfl (hb hby at_16) rfl ?_
    show Stp p e below s₁ m 17 #[.val (.int pi1), .val (.int pi2), .val (.int pi3), .val (.int pi4), .val (.int (1 : Int32)), .val (.int (2 : Int32)), .unset, .unset, .unset, .unset, .unset, .unset, .unset, .unset] [(.int (3 : Int32))] _
    refine XS.istore X0.here hx rfl (hb hby at_17) rfl (l' := #[.val (.int pi1), .val (.int pi2), .val (.int pi3), .val (.int pi4), .val (.int (1 : Int32)), .val (.int (2 : Int32)), .val (.int (3 : Int32)), .unset, .unset, .unset, .unset, .unset, .unset, .unset]) rfl ?_
    show Stp p e below s₁ m 19 #[.val (.int pi1), .val (.int pi2), .val (.int pi3), .val (.int pi4), .val (.int (1 : Int32)), .val (.int (2 : Int32)), .val (.int (3 : Int32)), .unset, .unset, .unset, .unset, .unset, .unset, .unset] [] _
    refine XS.iloadN X0.here hx rfl (hb hby at_19) rfl ?_
    show Stp p e below s₁ m 20 #[.val (.int pi1), .val (.int pi2), .val (.int pi3), .val (.int pi4), .val (.int (1 : Int32)), .val (.int (2 : Int32)), .val (.int (3 : Int32)), .unset, .unset, .unset, .unset, .unset, .unset, .unset] [(.int pi2)] _
    refine XS.iload X0.here hx rfl (hb hby at_20) rfl ?_
    show Stp p e below s₁ m 22 #[.val (.int pi1), .val (.int pi2), .val (.int pi3), .val (.int pi4), .val (.int (1 : Int32)), .val (.int (2 : Int32)), .val (.int (3 : Int32)), .unset, .unset, .unset, .unset, .unset, .unset, .unset] [(.int (3 : Int32)), (.int pi2)] _
    refine XS.iand X0.here hx rfl (hb hby at_22) rfl ?_
    show Stp p e below s₁ m 23 #[.val (.int pi1), .val (.int pi2), .val (.int pi3), .val (.int pi4), .val (.int (1 : Int32)), .val (.int (2 : Int32)), .val (.int (3 : Int32)), .unset, .unset, .unset, .unset, .unset, .unset, .unset] [(.int (pi2 &&& (3 : Int32)))] _
    refine XS.istore X0.here hx rfl (hb hby at_23) rfl (l' := #[.val (.int pi1), .val (.int pi2), .val (.int pi3), .val (.int pi4), .val (.int (1 : Int32)), .val (.int (2 : Int32)), .val (.int (3 : Int32)), .val (.int (pi2 &&& (3 : Int32))), .unset, .unset, .unset, .unset, .unset, .unset]) rfl ?_
    show Stp p e below s₁ m 25 #[.val (.int pi1), .val (.int pi2), .val (.int pi3), .val (.int pi4), .val (.int (1 : Int32)), .val (.int (2 : Int32)), .val (.int (3 : Int32)), .val (.int (pi2 &&& (3 : Int32))), .unset, .unset, .unset, .unset, .unset, .unset] [] _
    refine XS.iload X0.here hx rfl (hb hby at_25) rfl ?_
    show Stp p e below s₁ m 27 #[.val (.int pi1), .val (.int pi2), .val (.int pi3), .val (.int pi4), .val (.int (1 : Int32)), .val (.int (2 : Int32)), .val (.int (3 : Int32)), .val (.int (pi2 &&& (3 : Int32))), .unset, .unset, .unset, .unset, .unset, .unset] [(.int (pi2 &&& (3 : Int32)))] _
    refine XS.ifNo X0.here hx rfl (hb hby at_27) rfl ((if0 _ _).trans (feq hc27_2).1) ?_
    show Stp p e below s₁ m 30 #[.val (.int pi1), .val (.int pi2), .val (.int pi3), .val (.int pi4), .val (.int (1 : Int32)), .val (.int (2 : Int32)), .val (.int (3 : Int32)), .val (.int (pi2 &&& (3 : Int32))), .unset, .unset, .unset, .unset, .unset, .unset] [] _
    refine XS.iload X0.here hx rfl (hb hby at_30) rfl ?_
    show Stp p e below s₁ m 32 #[.val (.int pi1), .val (.int pi2), .val (.int pi3), .val (.int pi4), .val (.int (1 : Int32)), .val (.int (2 : Int32)), .val (.int (3 : Int32)), .val (.int (pi2 &&& (3 : Int32))), .unset, .unset, .unset, .unset, .unset, .unset] [(.int (pi2 &&& (3 : Int32)))] _
    refine XS.iload X0.here hx rfl (hb hby at_32) rfl ?_
    show Stp p e below s₁ m 34 #[.val (.int pi1), .val (.int pi2), .val (.int pi3), .val (.int pi4), .val (.int (1 : Int32)), .val (.int (2 : Int32)), .val (.int (3 : Int32)), .val (.int (pi2 &&& (3 : Int32))), .unset, .unset, .unset, .unset, .unset, .unset] [(.int (3 : Int32)), (.int (pi2 &&& (3 : Int32)))] _
    refine XS.icmpNo X0.here hx rfl (hb hby at_34) rfl (teq hc34_3).2 ?_
    show Stp p e below s₁ m 37 #[.val (.int pi1), .val (.int pi2), .val (.int pi3), .val (.int pi4), .val (.int (1 : Int32)), .val (.int (2 : Int32)), .val (.int (3 : Int32)), .val (.int (pi2 &&& (3 : Int32))), .unset, .unset, .unset, .unset, .unset, .unset] [] _
    refine XS.iconst X0.here hx rfl (hb hby at_37) ?_
    show Stp p e below s₁ m 38 #[.val (.int pi1), .val (.int pi2), .val (.int pi3), .val (.int pi4), .val (.int (1 : Int32)), .val (.int (2 : Int32)), .val (.int (3 : Int32)), .val (.int (pi2 &&& (3 : Int32))), .unset, .unset, .unset, .unset, .unset, .unset] [(.int (1 : Int32))] _
    refine XS.goto X0.here hx rfl (pc0 := 38) (pc' := 42) rfl (hb hby at_38) (by decide) (by decide) ?_
    show Stp p e below s₁ m 42 #[.val (.int pi1), .val (.int pi2), .val (.int pi3), .val (.int pi4), .val (.int (1 : Int32)), .val (.int (2 : Int32)), .val (.int (3 : Int32)), .val (.int (pi2 &&& (3 : Int32))), .unset, .unset, .unset, .unset, .unset, .unset] [(.int (1 : Int32))] _
    refine XS.istore X0.here hx rfl (hb hby at_42) rfl (l' := #[.val (.int pi1), .val (.int pi2), .val (.int pi3), .val (.int pi4), .val (.int (1 : Int32)), .val (.int (2 : Int32)), .val (.int (3 : Int32)), .val (.int (pi2 &&& (3 : Int32))), .val (.int (1 : Int32)), .unset, .unset, .unset, .unset, .unset]) rfl ?_
    show Stp p e below s₁ m 44 #[.val (.int pi1), .val (.int pi2), .val (.int pi3), .val (.int pi4), .val (.int (1 : Int32)), .val (.int (2 : Int32)), .val (.int (3 : Int32)), .val (.int (pi2 &&& (3 : Int32))), .val (.int (1 : Int32)), .unset, .unset, .unset, .unset, .unset] [] _
    refine XS.iload X0.here hx rfl (hb hby at_44) rfl ?_
    show Stp p e below s₁ m 46 #[.val (.int pi1), .val (.int pi2), .val (.int pi3), .val (.int pi4), .val (.int (1 : Int32)), .val (.int (2 : Int32)), .val (.int (3 : Int32)), .val (.int (pi2 &&& (3 : Int32))), .val (.int (1 : Int32)), .unset, .unset, .unset, .unset, .unset] [(.int (1 : Int32))] _
    refine XS.iloadN X0.here hx rfl (hb hby at_46) rfl ?_
    show Stp p e below s₁ m 47 #[.val (.int pi1), .val (.int pi2), .val (.int pi3), .val (.int pi4), .val (.int (1 : Int32)), .val (.int (2 : Int32)), .val (.int (3 : Int32)), .val (.int (pi2 &&& (3 : Int32))), .val (.int (1 : Int32)), .unset, .unset, .unset, .unset, .unset] [(.int pi2), (.int (1 : Int32))] _
    refine st1 _ ?_
    show Stp p e below T1 m 50 #[.val (.int pi1), .val (.int pi2), .val (.int pi3), .val (.int pi4), .val (.int (1 : Int32)), .val (.int (2 : Int32)), .val (.int (3 : Int32)), .val (.int (pi2 &&& (3 : Int32))), .val (.int (1 : Int32)), .unset, .unset, .unset, .unset, .unset] [(.ref b1)] _
    refine XS.astore X1.here hx rfl (hb hby at_50) rfl rfl (l' := #[.val (.int pi1), .val (.int pi2), .val (.int pi3), .val (.int pi4), .val (.int (1 : Int32)), .val (.int (2 : Int32)), .val (.int (3 : Int32)), .val (.int (pi2 &&& (3 : Int32))), .val (.int (1 : Int32)), .val (.ref b1), .unset, .unset, .unset, .unset]) rfl ?_
    show Stp p e below T1 m 52 #[.val (.int pi1), .val (.int pi2), .val (.int pi3), .val (.int pi4), .val (.int (1 : Int32)), .val (.int (2 : Int32)), .val (.int (3 : Int32)), .val (.int (pi2 &&& (3 : Int32))), .val (.int (1 : Int32)), .val (.ref b1), .unset, .unset, .unset, .unset] [] _
    refine XS.iload X1.here hx rfl (hb hby at_52) rfl ?_
    show Stp p e below T1 m 54 #[.val (.int pi1), .val (.int pi2), .val (.int pi3), .val (.int pi4), .val (.int (1 : Int32)), .val (.int (2 : Int32)), .val (.int (3 : Int32)), .val (.int (pi2 &&& (3 : Int32))), .val (.int (1 : Int32)), .val (.ref b1), .unset, .unset, .unset, .unset] [(.int (1 : Int32))] _
    refine XS.iloadN X1.here hx rfl (hb hby at_54) rfl ?_
    show Stp p e below T1 m 55 #[.val (.int pi1), .val (.int pi2), .val (.int pi3), .val (.int pi4), .val (.int (1 : Int32)), .val (.int (2 : Int32)), .val (.int (3 : Int32)), .val (.int (pi2 &&& (3 : Int32))), .val (.int (1 : Int32)), .val (.ref b1), .unset, .unset, .unset, .unset] [(.int pi3), (.int (1 : Int32))] _
    refine st2 _ ?_
    show Stp p e below T2 m 58 #[.val (.int pi1), .val (.int pi2), .val (.int pi3), .val (.int pi4), .val (.int (1 : Int32)), .val (.int (2 : Int32)), .val (.int (3 : Int32)), .val (.int (pi2 &&& (3 : Int32))), .val (.int (1 : Int32)), .val (.ref b1), .unset, .unset, .unset, .unset] [(.ref b2)] _
    refine XS.astore X2.here hx rfl (hb hby at_58) rfl rfl (l' := #[.val (.int pi1), .val (.int pi2), .val (.int pi3), .val (.int pi4), .val (.int (1 : Int32)), .val (.int (2 : Int32)), .val (.int (3 : Int32)), .val (.int (pi2 &&& (3 : Int32))), .val (.int (1 : Int32)), .val (.ref b1), .val (.ref b2), .unset, .unset, .unset]) rfl ?_
    show Stp p e below T2 m 60 #[.val (.int pi1), .val (.int pi2), .val (.int pi3), .val (.int pi4), .val (.int (1 : Int32)), .val (.int (2 : Int32)), .val (.int (3 : Int32)), .val (.int (pi2 &&& (3 : Int32))), .val (.int (1 : Int32)), .val (.ref b1), .val (.ref b2), .unset, .unset, .unset] [] _
    refine XS.iloadN X2.here hx rfl (hb hby at_60) rfl ?_
    show Stp p e below T2 m 61 #[.val (.int pi1), .val (.int pi2), .val (.int pi3), .val (.int pi4), .val (.int (1 : Int32)), .val (.int (2 : Int32)), .val (.int (3 : Int32)), .val (.int (pi2 &&& (3 : Int32))), .val (.int (1 : Int32)), .val (.ref b1), .val (.ref b2), .unset, .unset, .unset] [(.int pi4)] _
    refine XS.i2s X2.here hx rfl (hb hby at_61) rfl ?_
    show Stp p e below T2 m 62 #[.val (.int pi1), .val (.int pi2), .val (.int pi3), .val (.int pi4), .val (.int (1 : Int32)), .val (.int (2 : Int32)), .val (.int (3 : Int32)), .val (.int (pi2 &&& (3 : Int32))), .val (.int (1 : Int32)), .val (.ref b1), .val (.ref b2), .unset, .unset, .unset] [(.int (pi4.toInt16.toInt32))] _
    refine XS.i2dS X2.here hx rfl (hb hby at_62) rfl rfl ?_
    show Stp p e below T2 m 63 #[.val (.int pi1), .val (.int pi2), .val (.int pi3), .val (.int pi4), .val (.int (1 : Int32)), .val (.int (2 : Int32)), .val (.int (3 : Int32)), .val (.int (pi2 &&& (3 : Int32))), .val (.int (1 : Int32)), .val (.ref b1), .val (.ref b2), .unset, .unset, .unset] [(.double (FP.i2d (pi4.toInt16.toInt32)))] _
    refine XS.dstore X2.here hx rfl (hb hby at_63) rfl (l' := #[.val (.int pi1), .val (.int pi2), .val (.int pi3), .val (.int pi4), .val (.int (1 : Int32)), .val (.int (2 : Int32)), .val (.int (3 : Int32)), .val (.int (pi2 &&& (3 : Int32))), .val (.int (1 : Int32)), .val (.ref b1), .val (.ref b2), .val (.double (FP.i2d (pi4.toInt16.toInt32))), .second, .unset]) rfl ?_
    show Stp p e below T2 m 65 #[.val (.int pi1), .val (.int pi2), .val (.int pi3), .val (.int pi4), .val (.int (1 : Int32)), .val (.int (2 : Int32)), .val (.int (3 : Int32)), .val (.int (pi2 &&& (3 : Int32))), .val (.int (1 : Int32)), .val (.ref b1), .val (.ref b2), .val (.double (FP.i2d (pi4.toInt16.toInt32))), .second, .unset] [] _
    refine st5 _ ?_
    show Stp p e below T5 m 68 #[.val (.int pi1), .val (.int pi2), .val (.int pi3), .val (.int pi4), .val (.int (1 : Int32)), .val (.int (2 : Int32)), .val (.int (3 : Int32)), .val (.int (pi2 &&& (3 : Int32))), .val (.int (1 : Int32)), .val (.ref b1), .val (.ref b2), .val (.double (FP.i2d (pi4.toInt16.toInt32))), .second, .unset] [(.ref b5)] _
    refine XS.dup X5.here hx rfl (hb hby at_68) rfl rfl ?_
    show Stp p e below T5 m 69 #[.val (.int pi1), .val (.int pi2), .val (.int pi3), .val (.int pi4), .val (.int (1 : Int32)), .val (.int (2 : Int32)), .val (.int (3 : Int32)), .val (.int (pi2 &&& (3 : Int32))), .val (.int (1 : Int32)), .val (.ref b1), .val (.ref b2), .val (.double (FP.i2d (pi4.toInt16.toInt32))), .second, .unset] [(.ref b5), (.ref b5)] _
    refine XS.dload X5.here hx rfl (hb hby at_69) rfl ?_
    show Stp p e below T5 m 71 #[.val (.int pi1), .val (.int pi2), .val (.int pi3), .val (.int pi4), .val (.int (1 : Int32)), .val (.int (2 : Int32)), .val (.int (3 : Int32)), .val (.int (pi2 &&& (3 : Int32))), .val (.int (1 : Int32)), .val (.ref b1), .val (.ref b2), .val (.double (FP.i2d (pi4.toInt16.toInt32))), .second, .unset] [(.double (FP.i2d (pi4.toInt16.toInt32))), (.ref b5), (.ref b5)] _
    refine XS.aload X5.here hx rfl (hb hby at_71) rfl rfl ?_
    show Stp p e below T5 m 73 #[.val (.int pi1), .val (.int pi2), .val (.int pi3), .val (.int pi4), .val (.int (1 : Int32)), .val (.int (2 : Int32)), .val (.int (3 : Int32)), .val (.int (pi2 &&& (3 : Int32))), .val (.int (1 : Int32)), .val (.ref b1), .val (.ref b2), .val (.double (FP.i2d (pi4.toInt16.toInt32))), .second, .unset] [(.ref b2), (.double (FP.i2d (pi4.toInt16.toInt32))), (.ref b5), (.ref b5)] _
    refine XS.aload X5.here hx rfl (hb hby at_73) rfl rfl ?_
    show Stp p e below T5 m 75 #[.val (.int pi1), .val (.int pi2), .val (.int pi3), .val (.int pi4), .val (.int (1 : Int32)), .val (.int (2 : Int32)), .val (.int (3 : Int32)), .val (.int (pi2 &&& (3 : Int32))), .val (.int (1 : Int32)), .val (.ref b1), .val (.ref b2), .val (.double (FP.i2d (pi4.toInt16.toInt32))), .second, .unset] [(.ref b1), (.ref b2), (.double (FP.i2d (pi4.toInt16.toInt32))), (.ref b5), (.ref b5)] _
    refine st10.trans ?_
    show Stp p e below T10 m 78 #[.val (.int pi1), .val (.int pi2), .val (.int pi3), .val (.int pi4), .val (.int (1 : Int32)), .val (.int (2 : Int32)), .val (.int (3 : Int32)), .val (.int (pi2 &&& (3 : Int32))), .val (.int (1 : Int32)), .val (.ref b1), .val (.ref b2), .val (.double (FP.i2d (pi4.toInt16.toInt32))), .second, .unset] [(.ref b5)] _
    refine XS.astore X10.here hx rfl (hb hby at_78) rfl rfl (l' := #[.val (.int pi1), .val (.int pi2), .val (.int pi3), .val (.int pi4), .val (.int (1 : Int32)), .val (.int (2 : Int32)), .val (.int (3 : Int32)), .val (.int (pi2 &&& (3 : Int32))), .val (.int (1 : Int32)), .val (.ref b1), .val (.ref b2), .val (.double (FP.i2d (pi4.toInt16.toInt32))), .second, .val (.ref b5)]) rfl ?_
    show Stp p e below T10 m 80 #[.val (.int pi1), .val (.int pi2), .val (.int pi3), .val (.int pi4), .val (.int (1 : Int32)), .val (.int (2 : Int32)), .val (.int (3 : Int32)), .val (.int (pi2 &&& (3 : Int32))), .val (.int (1 : Int32)), .val (.ref b1), .val (.ref b2), .val (.double (FP.i2d (pi4.toInt16.toInt32))), .second, .val (.ref b5)] [] _
    refine XS.aload X10.here hx rfl (hb hby at_80) rfl rfl ?_
    show Stp p e below T10 m 82 #[.val (.int pi1), .val (.int pi2), .val (.int pi3), .val (.int pi4), .val (.int (1 : Int32)), .val (.int (2 : Int32)), .val (.int (3 : Int32)), .val (.int (pi2 &&& (3 : Int32))), .val (.int (1 : Int32)), .val (.ref b1), .val (.ref b2), .val (.double (FP.i2d (pi4.toInt16.toInt32))), .second, .val (.ref b5)] [(.ref b5)] _
    refine st15.trans ?_
    show Stp p e below T15 m 85 #[.val (.int pi1), .val (.int pi2), .val (.int pi3), .val (.int pi4), .val (.int (1 : Int32)), .val (.int (2 : Int32)), .val (.int (3 : Int32)), .val (.int (pi2 &&& (3 : Int32))), .val (.int (1 : Int32)), .val (.ref b1), .val (.ref b2), .val (.double (FP.i2d (pi4.toInt16.toInt32))), .second, .val (.ref b5)] [(.int (own_ic1 (nar .boolean (own_bt pi2 (0 : Int32))) (nar .boolean (own_bt pi2 (1 : Int32)))))] _
    refine XS.iload X15.here hx rfl (hb hby at_85) rfl ?_
    show Stp p e below T15 m 87 #[.val (.int pi1), .val (.int pi2), .val (.int pi3), .val (.int pi4), .val (.int (1 : Int32)), .val (.int (2 : Int32)), .val (.int (3 : Int32)), .val (.int (pi2 &&& (3 : Int32))), .val (.int (1 : Int32)), .val (.ref b1), .val (.ref b2), .val (.double (FP.i2d (pi4.toInt16.toInt32))), .second, .val (.ref b5)] [(.int (1 : Int32)), (.int (own_ic1 (nar .boolean (own_bt pi2 (0 : Int32))) (nar .boolean (own_bt pi2 (1 : Int32)))))] _
    refine XS.icmpNo X15.here hx rfl (hb hby at_87) rfl (teq ((own_e1 pi2).trans ((if_neg hc27_2).trans (if_pos hc34_3)))).2 ?_
    show Stp p e below T15 m 90 #[.val (.int pi1), .val (.int pi2), .val (.int pi3), .val (.int pi4), .val (.int (1 : Int32)), .val (.int (2 : Int32)), .val (.int (3 : Int32)), .val (.int (pi2 &&& (3 : Int32))), .val (.int (1 : Int32)), .val (.ref b1), .val (.ref b2), .val (.double (FP.i2d (pi4.toInt16.toInt32))), .second, .val (.ref b5)] [] _
    refine XS.iconst X15.here hx rfl (hb hby at_90) ?_
    show Stp p e below T15 m 91 #[.val (.int pi1), .val (.int pi2), .val (.int pi3), .val (.int pi4), .val (.int (1 : Int32)), .val (.int (2 : Int32)), .val (.int (3 : Int32)), .val (.int (pi2 &&& (3 : Int32))), .val (.int (1 : Int32)), .val (.ref b1), .val (.ref b2), .val (.double (FP.i2d (pi4.toInt16.toInt32))), .second, .val (.ref b5)] [(.int (1 : Int32))] _
    refine XS.goto X15.here hx rfl (pc0 := 91) (pc' := 95) rfl (hb hby at_91) (by decide) (by decide) ?_
    show Stp p e below T15 m 95 #[.val (.int pi1), .val (.int pi2), .val (.int pi3), .val (.int pi4), .val (.int (1 : Int32)), .val (.int (2 : Int32)), .val (.int (3 : Int32)), .val (.int (pi2 &&& (3 : Int32))), .val (.int (1 : Int32)), .val (.ref b1), .val (.ref b2), .val (.double (FP.i2d (pi4.toInt16.toInt32))), .second, .val (.ref b5)] [(.int (1 : Int32))] _
    exact retN X15 hx (t := .boolean) Bd.returns (by simp) (hb hby at_95) hr
  · exact ⟨rfl, N15⟩
set_option maxRecDepth 65536 in
set_option maxHeartbeats 40000000 in
theorem rm0_ftff (l : Launch) (Z : State) (a0 : Array Value) (hw : ∀ d ∈ tables_1, d.before a0 Z = true) (ws : List Jvm.Cond) (pi1 : Int32) (pi2 : Int32) (pi3 : Int32) (pi4 : Int32) (h0 : Heap) (n0 : Nat) (Z0 : n0 ≤ h0.size) (O0 : Old Z n0 h0) (hc3_0 : ¬ ((pi1 &&& (3 : Int32)) = (0 : Int32))) (hc3_1 : (pi1 &&& (3 : Int32)) = (1 : Int32)) (hc27_2 : ¬ ((pi2 &&& (3 : Int32)) = (0 : Int32))) (hc34_3 : ¬ ((pi2 &&& (3 : Int32)) = (3 : Int32))) :
    MetFree l x (head1 (Jvm.Cond.code x code maxLocals ret :: ws) room_1) (fun a U => a = #[(.int pi1), (.int pi2), (.int pi3), (.int pi4)] ∧ Z.Warmed39 U.vm ∧ U.heap = h0) (fun _ _ _ _ _ => True) (fun _ U o U' => ∃ v L, o = .returned v ∧ Q0 v L n0 ∧ FrameEnd U o U' L room_1.cells room_1.slots) := by
  refine MetFree.of_bodySF (plainFor_of_name pn_0) hisR ?_
  intro p e s m args below meth c s₁ Bd hml0 hP hK
  obtain ⟨rfl, hZ, hh⟩ := hP
  have hx := Bd.exec
  have hby := Bd.bytes
  have hml : c.maxLocals = 14 := hml0
  have hown : s.vm.findClass "com/example/gudl/gudl/GroundFactorIsConstantPinLaw" = some m.cls := findClass_of_methodNamed Bd.named
  have hnm := (name_of_methodNamed Bd.named Bd.method).1
  have X0 : Stand p l e room_1 s m #[(.int pi1), (.int pi2), (.int pi3), (.int pi4)] below meth c s₁ [] 0 0 := Stand.of_body Bd
  have e0 : s₁.heap = h0 := by rw [← hh, Bd.state]; rfl
  have N0 := Fr.nil n0
  have pre0 : ∀ t, Steps p.tables e below (s₁.setTop (mkF m 0 #[.val (.int pi1), .val (.int pi2), .val (.int pi3), .val (.int pi4), .unset, .unset, .unset, .unset, .unset, .unset, .unset, .unset, .unset, .unset] [])) t → Steps p.tables e below (s₁.setTop (entryFrame m #[(.int pi1), (.int pi2), (.int pi3), (.int pi4)] maxLocals)) t := fun t k => castTop (ef_0 m pi1 pi2 pi3 pi4) k
  obtain ⟨_, _, ⟨T1, L1, k1, n1⟩, -, X1, ⟨Lc1, hQ1, l1, y1, z1⟩, st1⟩ := Jvm.LawKit.callS X0 hx (y := (⟨"com/example/gudl/gudl/GroundFactorIsConstantPinLaw", "truthArray", "(II)[Z"⟩ : MethodName)) hown (mvT hZ (own_W hw 0 rfl)) (mvT hZ (own_W hw 1 rfl)) (mvT hZ (own_W hw 2 rfl)) (mvT hZ (own_W hw 3 rfl)) (by decide) (backOf (W := 0) (rm1_1 l Z a0 hw [] (1 : Int32) pi2 h0 n0 Z0 O0 (by decide) rfl) hZ (own_W hw 3 rfl) (own_W hw 2 rfl) (by decide) (by decide)) (g := (mkF m 47 #[.val (.int pi1), .val (.int pi2), .val (.int pi3), .val (.int pi4), .val (.int (1 : Int32)), .val (.int (2 : Int32)), .val (.int (3 : Int32)), .val (.int (pi2 &&& (3 : Int32))), .val (.int (0 : Int32)), .unset, .unset, .unset, .unset, .unset] [(.int pi2), (.int (1 : Int32))])) rfl (by rw [hml]; rfl) (argsL := [(.int (1 : Int32)), (.int pi2)]) (rest := []) (lenOf pd_0 rfl) rfl (by show 2 * 0 + _ ≤ _; exact Nat.le_of_eq rfl) (hb hby at_47) (fun _ _ => ⟨rfl, e0, (by decide : 0 + 1 ≤ _), (by decide : 0 + 2 ≤ _)⟩)
  dsimp only [Pt.U, Pt.locs, Pt.cells, Pt.slots] at X1 l1 y1 z1 st1 hQ1
  subst l1 y1 z1
  obtain ⟨b1, b1_1, rfl, N1q, K1, qf1_0, qf1_1⟩ := hQ1
  have N1 := Fr.app N0 N1q
  have z3 := Nat.le_trans Z0 K1.1
  have o4 := O0.keep K1 all0
  obtain ⟨_, _, ⟨T2, L2, k2, n2⟩, -, X2, ⟨Lc2, hQ2, l2, y2, z2⟩, st2⟩ := Jvm.LawKit.callS X1 hx (y := (⟨"com/example/gudl/gudl/GroundFactorIsConstantPinLaw", "atomArray", "(II)[I"⟩ : MethodName)) hown (mvT hZ (own_W hw 8 rfl)) (mvT hZ (own_W hw 9 rfl)) (mvT hZ (own_W hw 2 rfl)) (mvT hZ (own_W hw 10 rfl)) (by decide) (backOf (W := 0) (rm3_1 l Z a0 hw [] (1 : Int32) pi3 T1.heap n0 z3 o4 (by decide) rfl) hZ (own_W hw 10 rfl) (own_W hw 2 rfl) (by decide) (by decide)) (g := (mkF m 55 #[.val (.int pi1), .val (.int pi2), .val (.int pi3), .val (.int pi4), .val (.int (1 : Int32)), .val (.int (2 : Int32)), .val (.int (3 : Int32)), .val (.int (pi2 &&& (3 : Int32))), .val (.int (0 : Int32)), .val (.ref b1), .unset, .unset, .unset, .unset] [(.int pi3), (.int (1 : Int32))])) rfl (by rw [hml]; rfl) (argsL := [(.int (1 : Int32)), (.int pi3)]) (rest := []) (lenOf pd_2 rfl) rfl (by show 2 * 0 + _ ≤ _; exact Nat.le_of_eq rfl) (hb hby at_55) (fun _ _ => ⟨rfl, rfl, (by decide : 1 + 1 ≤ _), (by decide : 2 + 1 ≤ _)⟩)
  dsimp only [Pt.U, Pt.locs, Pt.cells, Pt.slots] at X2 l2 y2 z2 st2 hQ2
  subst l2 y2 z2
  obtain ⟨b2, b2_1, rfl, N2q, K2, qf2_0, qf2_1⟩ := hQ2
  have N2 := Fr.app N1 N2q
  obtain ⟨T5, h5, X5, e5, E5, A5, D5, -, st5⟩ := newO X2 hx hZ hown (own_W hw 12 rfl) (own_W hw 13 rfl) (own_W hw 14 rfl) rfl (g := (mkF m 65 #[.val (.int pi1), .val (.int pi2), .val (.int pi3), .val (.int pi4), .val (.int (1 : Int32)), .val (.int (2 : Int32)), .val (.int (3 : Int32)), .val (.int (pi2 &&& (3 : Int32))), .val (.int (0 : Int32)), .val (.ref b1), .val (.ref b2), .val (.double (FP.i2d (pi4.toInt16.toInt32))), .second, .unset] [])) rfl (hb hby at_65) (by decide) (by decide)
  obtain ⟨b5, g5⟩ : ∃ z, z = T2.heap.size := ⟨_, rfl⟩
  rw [← g5] at A5 D5 st5
  have F_value_b5 : Fld Z h5 b5 "com/example/gudl/gudl/GroundFactor" "value" "D" (.double (0 : UInt64)) := D5 (Or.inr (own_W hw 22 rfl)) (ty := .double) (by decide)
  have F_atoms_b5 : Fld Z h5 b5 "com/example/gudl/gudl/GroundFactor" "atoms" "[I" .null := D5 (Or.inr (own_W hw 24 rfl)) (ty := (.array .int)) (by decide)
  have F_truth_b5 : Fld Z h5 b5 "com/example/gudl/gudl/GroundFactor" "truth" "[Z" .null := D5 (Or.inr (own_W hw 26 rfl)) (ty := (.array .boolean)) (by decide)
  have f6 := qf2_1.ext E5
  have f7 := qf1_1.keep K2 nin0
  have f8 := f7.ext E5
  have z9 := Nat.le_trans z3 K2.1
  have g_b5 : n0 ≤ b5 := Nat.le_trans z9 (Nat.le_of_eq g5.symm)
  have z11 := Nat.le_trans z9 E5.1
  have o12 := o4.keep K2 all0
  have o13 := o12.ext E5
  obtain ⟨_, _, ⟨T10, L10, k10, n10⟩, -, X10, ⟨Lc10, hQ10, l10, y10, z10⟩, st10⟩ := X5.specialBack hx (y := (⟨"com/example/gudl/gudl/GroundFactor", "<init>", "(D[I[Z)V"⟩ : MethodName)) rfl hown (mvT hZ (own_W hw 15 rfl)) (mvT hZ (own_W hw 16 rfl)) (mvT hZ (own_W hw 17 rfl)) (by decide) (backOf (W := 1) (rm4_1 l Z a0 hw [] b5 (FP.i2d (pi4.toInt16.toInt32)) b2 b1 b2_1 pi3 b1_1 (nar .boolean (own_bt pi2 (0 : Int32))) (nar .boolean (own_bt pi2 (1 : Int32))) (.double (0 : UInt64)) .null .null h5 n0 z11 o13 f6 f8 A5 F_value_b5 g_b5 F_atoms_b5 F_truth_b5) hZ (own_W hw 17 rfl) (own_W hw 14 rfl) (by decide) (by decide)) (g := (mkF m 75 #[.val (.int pi1), .val (.int pi2), .val (.int pi3), .val (.int pi4), .val (.int (1 : Int32)), .val (.int (2 : Int32)), .val (.int (3 : Int32)), .val (.int (pi2 &&& (3 : Int32))), .val (.int (0 : Int32)), .val (.ref b1), .val (.ref b2), .val (.double (FP.i2d (pi4.toInt16.toInt32))), .second, .unset] [(.ref b1), (.ref b2), (.double (FP.i2d (pi4.toInt16.toInt32))), (.ref b5), (.ref b5)])) rfl (by rw [hml]; rfl) (Steps.refl _) (a := b5) (argsL := [(.double (FP.i2d (pi4.toInt16.toInt32))), (.ref b2), (.ref b1)]) (rest := [(.ref b5)]) (lenOf pd_3 rfl) rfl (by show 2 * 0 + _ ≤ _; exact Nat.le_of_eq rfl) (hb hby at_75) (fun _ _ => ⟨rfl, e5, (by decide : 3 + 0 ≤ _), (by decide : 6 + 0 ≤ _)⟩)
  dsimp only [Pt.U, Pt.locs, Pt.cells, Pt.slots] at X10 l10 y10 z10 st10 hQ10
  subst l10 y10 z10
  obtain ⟨rfl, N10q, K10, qf10_0, qf10_1, qf10_2, qf10_3⟩ := hQ10
  have N10 := Fr.app N2 N10q
  have f14 := f8.keep K10 (ninS (Nat.ne_of_lt (Nat.lt_of_lt_of_le f7.lt (Nat.le_of_eq g5.symm))) nin0)
  have z16 := Nat.le_trans z11 K10.1
  have o17 := o13.keep K10 (allS g_b5 all0)
  obtain ⟨cq15, kq15, q15a, q15b, q15c⟩ := isOf hZ rfl qf10_0
  obtain ⟨_, _, ⟨T15, L15, k15, n15⟩, -, X15, ⟨Lc15, hQ15, l15, y15, z15⟩, st15⟩ := X10.virtualBack hx (y := (⟨"com/example/gudl/gudl/GroundFactor", "isConstant", "()Z"⟩ : MethodName)) (z := (⟨"com/example/gudl/gudl/GroundFactor", "isConstant", "()Z"⟩ : MethodName)) hown (mvT hZ (own_W hw 27 rfl)) (mvT hZ (own_W hw 28 rfl)) (notFace_of_selects (args := #[]) (mvT hZ (own_W hw 30 rfl))) (mvT hZ (own_W hw 30 rfl)) (mvT hZ (own_W hw 29 rfl)) (by decide) (backOf (W := 0) (rm6k1 l Z a0 hw [] b5 b1 b1_1 (nar .boolean (own_bt pi2 (0 : Int32))) (nar .boolean (own_bt pi2 (1 : Int32))) T10.heap n0 z16 o17 qf10_3 f14) hZ (own_W hw 31 rfl) (own_W hw 14 rfl) (by decide) (by decide)) q15a q15c (g := (mkF m 82 #[.val (.int pi1), .val (.int pi2), .val (.int pi3), .val (.int pi4), .val (.int (1 : Int32)), .val (.int (2 : Int32)), .val (.int (3 : Int32)), .val (.int (pi2 &&& (3 : Int32))), .val (.int (0 : Int32)), .val (.ref b1), .val (.ref b2), .val (.double (FP.i2d (pi4.toInt16.toInt32))), .second, .val (.ref b5)] [(.ref b5)])) rfl (by rw [hml]; rfl) (Steps.refl _) (argsL := []) (rest := []) (lenOf pd_5 rfl) rfl (by show 2 * 0 + _ ≤ _; exact Nat.le_of_eq rfl) (hb hby at_82) (fun _ _ => ⟨rfl, rfl, (by decide : 3 + 0 ≤ _), (by decide : 6 + 0 ≤ _)⟩)
  dsimp only [Pt.U, Pt.locs, Pt.cells, Pt.slots] at X15 l15 y15 z15 st15 hQ15
  subst l15 y15 z15
  obtain ⟨rfl, N15q, eq15⟩ := hQ15
  have N15 := Fr.app N10 N15q
  obtain ⟨fs, hr, hrun, hended, hW, hsame⟩ := X15.leave (v := some (.int (1 : Int32))) (fun h => by rw [Bd.returns] at h; cases h)
  refine ⟨_, _, pre0 _ ?_, hrun, hended, _, _, rfl, ?_, ⟨_, rfl⟩, hW, hsame.mono (by decide) (by decide)⟩
  · show Stp p e below s₁ m 0 #[.val (.int pi1), .val (.int pi2), .val (.int pi3), .val (.int pi4), .unset, .unset, .unset, .unset, .unset, .unset, .unset, .unset, .unset, .unset] [] _
    refine XS.iloadN X0.here hx rfl (hb hby at_0) rfl ?_
    show Stp p e below s₁ m 1 #[.val (.int pi1), .val (.int pi2), .val (.int pi3), .val (.int pi4), .unset, .unset, .unset, .unset, .unset, .unset, .unset, .unset, .unset, .unset] [(.int pi1)] _
    refine XS.iconst X0.here hx rfl (hb hby at_1) ?_
    show Stp p e below s₁ m 2 #[.val (.int pi1), .val (.int pi2), .val (.int pi3), .val (.int pi4), .unset, .unset, .unset, .unset, .unset, .unset, .unset, .unset, .unset, .unset] [(.int (3 : Int32)), (.int pi1)] _
    refine XS.iand X0.here hx rfl (hb hby at_2) rfl ?_
    show Stp p e below s₁ m 3 #[.val (.int pi1), .val (.int pi2), .val (.int pi3), .val (.int pi4), .unset, .unset, .unset, .unset, .unset, .unset, .unset, .unset, .unset, .unset] [(.int (pi1 &&& (3 : Int32)))] _
    refine XS.istore X0.here hx rfl (hb hby at_3) rfl (l' := #[.val (.int pi1), .val (.int pi2), .val (.int pi3), .val (.int pi4), .val (.int (pi1 &&& (3 : Int32))), .unset, .unset, .unset, .unset, .unset, .unset, .unset, .unset, .unset]) rfl ?_
    show Stp p e below s₁ m 5 #[.val (.int pi1), .val (.int pi2), .val (.int pi3), .val (.int pi4), .val (.int (pi1 &&& (3 : Int32))), .unset, .unset, .unset, .unset, .unset, .unset, .unset, .unset, .unset] [] _
    rw [show (pi1 &&& (3 : Int32)) = (1 : Int32) from hc3_1]
    show Stp p e below s₁ m 5 #[.val (.int pi1), .val (.int pi2), .val (.int pi3), .val (.int pi4), .val (.int (1 : Int32)), .unset, .unset, .unset, .unset, .unset, .unset, .unset, .unset, .unset] [] _
    refine XS.iconst X0.here hx rfl (hb hby at_5) ?_
    show Stp p e below s₁ m 6 #[.val (.int pi1), .val (.int pi2), .val (.int pi3), .val (.int pi4), .val (.int (1 : Int32)), .unset, .unset, .unset, .unset, .unset, .unset, .unset, .unset, .unset] [(.int (1 : Int32))] _
    refine XS.iload X0.here hx rfl (hb hby at_6) rfl ?_
    show Stp p e below s₁ m 8 #[.val (.int pi1), .val (.int pi2), .val (.int pi3), .val (.int pi4), .val (.int (1 : Int32)), .unset, .unset, .unset, .unset, .unset, .unset, .unset, .unset, .unset] [(.int (1 : Int32)), (.int (1 : Int32))] _
    refine XS.ishl X0.here hx rfl (hb hby at_8) rfl ?_
    show Stp p e below s₁ m 9 #[.val (.int pi1), .val (.int pi2), .val (.int pi3), .val (.int pi4), .val (.int (1 : Int32)), .unset, .unset, .unset, .unset, .unset, .unset, .unset, .unset, .unset] [(.int (2 : Int32))] _
    refine XS.istore X0.here hx rfl (hb hby at_9) rfl (l' := #[.val (.int pi1), .val (.int pi2), .val (.int pi3), .val (.int pi4), .val (.int (1 : Int32)), .val (.int (2 : Int32)), .unset, .unset, .unset, .unset, .unset, .unset, .unset, .unset]) rfl ?_
    show Stp p e below s₁ m 11 #[.val (.int pi1), .val (.int pi2), .val (.int pi3), .val (.int pi4), .val (.int (1 : Int32)), .val (.int (2 : Int32)), .unset, .unset, .unset, .unset, .unset, .unset, .unset, .unset] [] _
    refine XS.iconst X0.here hx rfl (hb hby at_11) ?_
    show Stp p e below s₁ m 12 #[.val (.int pi1), .val (.int pi2), .val (.int pi3), .val (.int pi4), .val (.int (1 : Int32)), .val (.int (2 : Int32)), .unset, .unset, .unset, .unset, .unset, .unset, .unset, .unset] [(.int (1 : Int32))] _
    refine XS.iload X0.here hx rfl (hb hby at_12) rfl ?_
    show Stp p e below s₁ m 14 #[.val (.int pi1), .val (.int pi2), .val (.int pi3), .val (.int pi4), .val (.int (1 : Int32)), .val (.int (2 : Int32)), .unset, .unset, .unset, .unset, .unset, .unset, .unset, .unset] [(.int (2 : Int32)), (.int (1 : Int32))] _
    refine XS.ishl X0.here hx rfl (hb hby at_14) rfl ?_
    show Stp p e below s₁ m 15 #[.val (.int pi1), .val (.int pi2), .val (.int pi3), .val (.int pi4), .val (.int (1 : Int32)), .val (.int (2 : Int32)), .unset, .unset, .unset, .unset, .unset, .unset, .unset, .unset] [(.int (4 : Int32))] _
    refine XS.iconst X0.here hx rfl (hb hby at_15) ?_
    show Stp p e below s₁ m 16 #[.val (.int pi1), .val (.int pi2), .val (.int pi3), .val (.int pi4), .val (.int (1 : Int32)), .val (.int (2 : Int32)), .unset, .unset, .unset, .unset, .unset, .unset, .unset, .unset] [(.int (1 : Int32)), (.int (4 : Int32))] _
    refine XS.isub X0.here hx rfl (hb hby at_16) rfl ?_
    show Stp p e below s₁ m 17 #[.val (.int pi1), .val (.int pi2), .val (.int pi3), .val (.int pi4), .val (.int (1 : Int32)), .val (.int (2 : Int32)), .unset, .unset, .unset, .unset, .unset, .unset, .unset, .unset] [(.int (3 : Int32))] _
    refine XS.istore X0.here hx rfl (hb hby at_17) rfl (l' := #[.val (.int pi1), .val (.int pi2), .val (.int pi3), .val (.int pi4), .val (.int (1 : Int32)), .val (.int (2 : Int32)), .val (.int (3 : Int32)), .unset, .unset, .unset, .unset, .unset, .unset, .unset]) rfl ?_
    show Stp p e below s₁ m 19 #[.val (.int pi1), .val (.int pi2), .val (.int pi3), .val (.int pi4), .val (.int (1 : Int32)), .val (.int (2 : Int32)), .val (.int (3 : Int32)), .unset, .unset, .unset, .unset, .unset, .unset, .unset] [] _
    refine XS.iloadN X0.here hx rfl (hb hby at_19) rfl ?_
    show Stp p e below s₁ m 20 #[.val (.int pi1), .val (.int pi2), .val (.int pi3), .val (.int pi4), .val (.int (1 : Int32)), .val (.int (2 : Int32)), .val (.int (3 : Int32)), .unset, .unset, .unset, .unset, .unset, .unset, .unset] [(.int pi2)] _
    refine XS.iload X0.here hx rfl (hb hby at_20) rfl ?_
    show Stp p e below s₁ m 22 #[.val (.int pi1), .val (.int pi2), .val (.int pi3), .val (.int pi4), .val (.int (1 : Int32)), .val (.int (2 : Int32)), .val (.int (3 : Int32)), .unset, .unset, .unset, .unset, .unset, .unset, .unset] [(.int (3 : Int32)), (.int pi2)] _
    refine XS.iand X0.here hx rfl (hb hby at_22) rfl ?_
    show Stp p e below s₁ m 23 #[.val (.int pi1), .val (.int pi2), .val (.int pi3), .val (.int pi4), .val (.int (1 : Int32)), .val (.int (2 : Int32)), .val (.int (3 : Int32)), .unset, .unset, .unset, .unset, .unset, .unset, .unset] [(.int (pi2 &&& (3 : Int32)))] _
    refine XS.istore X0.here hx rfl (hb hby at_23) rfl (l' := #[.val (.int pi1), .val (.int pi2), .val (.int pi3), .val (.int pi4), .val (.int (1 : Int32)), .val (.int (2 : Int32)), .val (.int (3 : Int32)), .val (.int (pi2 &&& (3 : Int32))), .unset, .unset, .unset, .unset, .unset, .unset]) rfl ?_
    show Stp p e below s₁ m 25 #[.val (.int pi1), .val (.int pi2), .val (.int pi3), .val (.int pi4), .val (.int (1 : Int32)), .val (.int (2 : Int32)), .val (.int (3 : Int32)), .val (.int (pi2 &&& (3 : Int32))), .unset, .unset, .unset, .unset, .unset, .unset] [] _
    refine XS.iload X0.here hx rfl (hb hby at_25) rfl ?_
    show Stp p e below s₁ m 27 #[.val (.int pi1), .val (.int pi2), .val (.int pi3), .val (.int pi4), .val (.int (1 : Int32)), .val (.int (2 : Int32)), .val (.int (3 : Int32)), .val (.int (pi2 &&& (3 : Int32))), .unset, .unset, .unset, .unset, .unset, .unset] [(.int (pi2 &&& (3 : Int32)))] _
    refine XS.ifNo X0.here hx rfl (hb hby at_27) rfl ((if0 _ _).trans (feq hc27_2).1) ?_
    show Stp p e below s₁ m 30 #[.val (.int pi1), .val (.int pi2), .val (.int pi3), .val (.int pi4), .val (.int (1 : Int32)), .val (.int (2 : Int32)), .val (.int (3 : Int32)), .val (.int (pi2 &&& (3 : Int32))), .unset, .unset, .unset, .unset, .unset, .unset] [] _
    refine XS.iload X0.here hx rfl (hb hby at_30) rfl ?_
    show Stp p e below s₁ m 32 #[.val (.int pi1), .val (.int pi2), .val (.int pi3), .val (.int pi4), .val (.int (1 : Int32)), .val (.int (2 : Int32)), .val (.int (3 : Int32)), .val (.int (pi2 &&& (3 : Int32))), .unset, .unset, .unset, .unset, .unset, .unset] [(.int (pi2 &&& (3 : Int32)))] _
    refine XS.iload X0.here hx rfl (hb hby at_32) rfl ?_
    show Stp p e below s₁ m 34 #[.val (.int pi1), .val (.int pi2), .val (.int pi3), .val (.int pi4), .val (.int (1 : Int32)), .val (.int (2 : Int32)), .val (.int (3 : Int32)), .val (.int (pi2 &&& (3 : Int32))), .unset, .unset, .unset, .unset, .unset, .unset] [(.int (3 : Int32)), (.int (pi2 &&& (3 : Int32)))] _
    refine XS.icmpYes X0.here hx rfl (pc0 := 34) (pc' := 41) rfl (hb hby at_34) rfl (feq hc34_3).2 (by decide) (by decide) ?_
    show Stp p e below s₁ m 41 #[.val (.int pi1), .val (.int pi2), .val (.int pi3), .val (.int pi4), .val (.int (1 : Int32)), .val (.int (2 : Int32)), .val (.int (3 : Int32)), .val (.int (pi2 &&& (3 : Int32))), .unset, .unset, .unset, .unset, .unset, .unset] [] _
    refine XS.iconst X0.here hx rfl (hb hby at_41) ?_
    show Stp p e below s₁ m 42 #[.val (.int pi1), .val (.int pi2), .val (.int pi3), .val (.int pi4), .val (.int (1 : Int32)), .val (.int (2 : Int32)), .val (.int (3 : Int32)), .val (.int (pi2 &&& (3 : Int32))), .unset, .unset, .unset, .unset, .unset, .unset] [(.int (0 : Int32))] _
    refine XS.istore X0.here hx rfl (hb hby at_42) rfl (l' := #[.val (.int pi1), .val (.int pi2), .val (.int pi3), .val (.int pi4), .val (.int (1 : Int32)), .val (.int (2 : Int32)), .val (.int (3 : Int32)), .val (.int (pi2 &&& (3 : Int32))), .val (.int (0 : Int32)), .unset, .unset, .unset, .unset, .unset]) rfl ?_
    show Stp p e below s₁ m 44 #[.val (.int pi1), .val (.int pi2), .val (.int pi3), .val (.int pi4), .val (.int (1 : Int32)), .val (.int (2 : Int32)), .val (.int (3 : Int32)), .val (.int (pi2 &&& (3 : Int32))), .val (.int (0 : Int32)), .unset, .unset, .unset, .unset, .unset] [] _
    refine XS.iload X0.here hx rfl (hb hby at_44) rfl ?_
    show Stp p e below s₁ m 46 #[.val (.int pi1), .val (.int pi2), .val (.int pi3), .val (.int pi4), .val (.int (1 : Int32)), .val (.int (2 : Int32)), .val (.int (3 : Int32)), .val (.int (pi2 &&& (3 : Int32))), .val (.int (0 : Int32)), .unset, .unset, .unset, .unset, .unset] [(.int (1 : Int32))] _
    refine XS.iloadN X0.here hx rfl (hb hby at_46) rfl ?_
    show Stp p e below s₁ m 47 #[.val (.int pi1), .val (.int pi2), .val (.int pi3), .val (.int pi4), .val (.int (1 : Int32)), .val (.int (2 : Int32)), .val (.int (3 : Int32)), .val (.int (pi2 &&& (3 : Int32))), .val (.int (0 : Int32)), .unset, .unset, .unset, .unset, .unset] [(.int pi2), (.int (1 : Int32))] _
    refine st1 _ ?_
    show Stp p e below T1 m 50 #[.val (.int pi1), .val (.int pi2), .val (.int pi3), .val (.int pi4), .val (.int (1 : Int32)), .val (.int (2 : Int32)), .val (.int (3 : Int32)), .val (.int (pi2 &&& (3 : Int32))), .val (.int (0 : Int32)), .unset, .unset, .unset, .unset, .unset] [(.ref b1)] _
    refine XS.astore X1.here hx rfl (hb hby at_50) rfl rfl (l' := #[.val (.int pi1), .val (.int pi2), .val (.int pi3), .val (.int pi4), .val (.int (1 : Int32)), .val (.int (2 : Int32)), .val (.int (3 : Int32)), .val (.int (pi2 &&& (3 : Int32))), .val (.int (0 : Int32)), .val (.ref b1), .unset, .unset, .unset, .unset]) rfl ?_
    show Stp p e below T1 m 52 #[.val (.int pi1), .val (.int pi2), .val (.int pi3), .val (.int pi4), .val (.int (1 : Int32)), .val (.int (2 : Int32)), .val (.int (3 : Int32)), .val (.int (pi2 &&& (3 : Int32))), .val (.int (0 : Int32)), .val (.ref b1), .unset, .unset, .unset, .unset] [] _
    refine XS.iload X1.here hx rfl (hb hby at_52) rfl ?_
    show Stp p e below T1 m 54 #[.val (.int pi1), .val (.int pi2), .val (.int pi3), .val (.int pi4), .val (.int (1 : Int32)), .val (.int (2 : Int32)), .val (.int (3 : Int32)), .val (.int (pi2 &&& (3 : Int32))), .val (.int (0 : Int32)), .val (.ref b1), .unset, .unset, .unset, .unset] [(.int (1 : Int32))] _
    refine XS.iloadN X1.here hx rfl (hb hby at_54) rfl ?_
    show Stp p e below T1 m 55 #[.val (.int pi1), .val (.int pi2), .val (.int pi3), .val (.int pi4), .val (.int (1 : Int32)), .val (.int (2 : Int32)), .val (.int (3 : Int32)), .val (.int (pi2 &&& (3 : Int32))), .val (.int (0 : Int32)), .val (.ref b1), .unset, .unset, .unset, .unset] [(.int pi3), (.int (1 : Int32))] _
    refine st2 _ ?_
    show Stp p e below T2 m 58 #[.val (.int pi1), .val (.int pi2), .val (.int pi3), .val (.int pi4), .val (.int (1 : Int32)), .val (.int (2 : Int32)), .val (.int (3 : Int32)), .val (.int (pi2 &&& (3 : Int32))), .val (.int (0 : Int32)), .val (.ref b1), .unset, .unset, .unset, .unset] [(.ref b2)] _
    refine XS.astore X2.here hx rfl (hb hby at_58) rfl rfl (l' := #[.val (.int pi1), .val (.int pi2), .val (.int pi3), .val (.int pi4), .val (.int (1 : Int32)), .val (.int (2 : Int32)), .val (.int (3 : Int32)), .val (.int (pi2 &&& (3 : Int32))), .val (.int (0 : Int32)), .val (.ref b1), .val (.ref b2), .unset, .unset, .unset]) rfl ?_
    show Stp p e below T2 m 60 #[.val (.int pi1), .val (.int pi2), .val (.int pi3), .val (.int pi4), .val (.int (1 : Int32)), .val (.int (2 : Int32)), .val (.int (3 : Int32)), .val (.int (pi2 &&& (3 : Int32))), .val (.int (0 : Int32)), .val (.ref b1), .val (.ref b2), .unset, .unset, .unset] [] _
    refine XS.iloadN X2.here hx rfl (hb hby at_60) rfl ?_
    show Stp p e below T2 m 61 #[.val (.int pi1), .val (.int pi2), .val (.int pi3), .val (.int pi4), .val (.int (1 : Int32)), .val (.int (2 : Int32)), .val (.int (3 : Int32)), .val (.int (pi2 &&& (3 : Int32))), .val (.int (0 : Int32)), .val (.ref b1), .val (.ref b2), .unset, .unset, .unset] [(.int pi4)] _
    refine XS.i2s X2.here hx rfl (hb hby at_61) rfl ?_
    show Stp p e below T2 m 62 #[.val (.int pi1), .val (.int pi2), .val (.int pi3), .val (.int pi4), .val (.int (1 : Int32)), .val (.int (2 : Int32)), .val (.int (3 : Int32)), .val (.int (pi2 &&& (3 : Int32))), .val (.int (0 : Int32)), .val (.ref b1), .val (.ref b2), .unset, .unset, .unset] [(.int (pi4.toInt16.toInt32))] _
    refine XS.i2dS X2.here hx rfl (hb hby at_62) rfl rfl ?_
    show Stp p e below T2 m 63 #[.val (.int pi1), .val (.int pi2), .val (.int pi3), .val (.int pi4), .val (.int (1 : Int32)), .val (.int (2 : Int32)), .val (.int (3 : Int32)), .val (.int (pi2 &&& (3 : Int32))), .val (.int (0 : Int32)), .val (.ref b1), .val (.ref b2), .unset, .unset, .unset] [(.double (FP.i2d (pi4.toInt16.toInt32)))] _
    refine XS.dstore X2.here hx rfl (hb hby at_63) rfl (l' := #[.val (.int pi1), .val (.int pi2), .val (.int pi3), .val (.int pi4), .val (.int (1 : Int32)), .val (.int (2 : Int32)), .val (.int (3 : Int32)), .val (.int (pi2 &&& (3 : Int32))), .val (.int (0 : Int32)), .val (.ref b1), .val (.ref b2), .val (.double (FP.i2d (pi4.toInt16.toInt32))), .second, .unset]) rfl ?_
    show Stp p e below T2 m 65 #[.val (.int pi1), .val (.int pi2), .val (.int pi3), .val (.int pi4), .val (.int (1 : Int32)), .val (.int (2 : Int32)), .val (.int (3 : Int32)), .val (.int (pi2 &&& (3 : Int32))), .val (.int (0 : Int32)), .val (.ref b1), .val (.ref b2), .val (.double (FP.i2d (pi4.toInt16.toInt32))), .second, .unset] [] _
    refine st5 _ ?_
    show Stp p e below T5 m 68 #[.val (.int pi1), .val (.int pi2), .val (.int pi3), .val (.int pi4), .val (.int (1 : Int32)), .val (.int (2 : Int32)), .val (.int (3 : Int32)), .val (.int (pi2 &&& (3 : Int32))), .val (.int (0 : Int32)), .val (.ref b1), .val (.ref b2), .val (.double (FP.i2d (pi4.toInt16.toInt32))), .second, .unset] [(.ref b5)] _
    refine XS.dup X5.here hx rfl (hb hby at_68) rfl rfl ?_
    show Stp p e below T5 m 69 #[.val (.int pi1), .val (.int pi2), .val (.int pi3), .val (.int pi4), .val (.int (1 : Int32)), .val (.int (2 : Int32)), .val (.int (3 : Int32)), .val (.int (pi2 &&& (3 : Int32))), .val (.int (0 : Int32)), .val (.ref b1), .val (.ref b2), .val (.double (FP.i2d (pi4.toInt16.toInt32))), .second, .unset] [(.ref b5), (.ref b5)] _
    refine XS.dload X5.here hx rfl (hb hby at_69) rfl ?_
    show Stp p e below T5 m 71 #[.val (.int pi1), .val (.int pi2), .val (.int pi3), .val (.int pi4), .val (.int (1 : Int32)), .val (.int (2 : Int32)), .val (.int (3 : Int32)), .val (.int (pi2 &&& (3 : Int32))), .val (.int (0 : Int32)), .val (.ref b1), .val (.ref b2), .val (.double (FP.i2d (pi4.toInt16.toInt32))), .second, .unset] [(.double (FP.i2d (pi4.toInt16.toInt32))), (.ref b5), (.ref b5)] _
    refine XS.aload X5.here hx rfl (hb hby at_71) rfl rfl ?_
    show Stp p e below T5 m 73 #[.val (.int pi1), .val (.int pi2), .val (.int pi3), .val (.int pi4), .val (.int (1 : Int32)), .val (.int (2 : Int32)), .val (.int (3 : Int32)), .val (.int (pi2 &&& (3 : Int32))), .val (.int (0 : Int32)), .val (.ref b1), .val (.ref b2), .val (.double (FP.i2d (pi4.toInt16.toInt32))), .second, .unset] [(.ref b2), (.double (FP.i2d (pi4.toInt16.toInt32))), (.ref b5), (.ref b5)] _
    refine XS.aload X5.here hx rfl (hb hby at_73) rfl rfl ?_
    show Stp p e below T5 m 75 #[.val (.int pi1), .val (.int pi2), .val (.int pi3), .val (.int pi4), .val (.int (1 : Int32)), .val (.int (2 : Int32)), .val (.int (3 : Int32)), .val (.int (pi2 &&& (3 : Int32))), .val (.int (0 : Int32)), .val (.ref b1), .val (.ref b2), .val (.double (FP.i2d (pi4.toInt16.toInt32))), .second, .unset] [(.ref b1), (.ref b2), (.double (FP.i2d (pi4.toInt16.toInt32))), (.ref b5), (.ref b5)] _
    refine st10.trans ?_
    show Stp p e below T10 m 78 #[.val (.int pi1), .val (.int pi2), .val (.int pi3), .val (.int pi4), .val (.int (1 : Int32)), .val (.int (2 : Int32)), .val (.int (3 : Int32)), .val (.int (pi2 &&& (3 : Int32))), .val (.int (0 : Int32)), .val (.ref b1), .val (.ref b2), .val (.double (FP.i2d (pi4.toInt16.toInt32))), .second, .unset] [(.ref b5)] _
    refine XS.astore X10.here hx rfl (hb hby at_78) rfl rfl (l' := #[.val (.int pi1), .val (.int pi2), .val (.int pi3), .val (.int pi4), .val (.int (1 : Int32)), .val (.int (2 : Int32)), .val (.int (3 : Int32)), .val (.int (pi2 &&& (3 : Int32))), .val (.int (0 : Int32)), .val (.ref b1), .val (.ref b2), .val (.double (FP.i2d (pi4.toInt16.toInt32))), .second, .val (.ref b5)]) rfl ?_
    show Stp p e below T10 m 80 #[.val (.int pi1), .val (.int pi2), .val (.int pi3), .val (.int pi4), .val (.int (1 : Int32)), .val (.int (2 : Int32)), .val (.int (3 : Int32)), .val (.int (pi2 &&& (3 : Int32))), .val (.int (0 : Int32)), .val (.ref b1), .val (.ref b2), .val (.double (FP.i2d (pi4.toInt16.toInt32))), .second, .val (.ref b5)] [] _
    refine XS.aload X10.here hx rfl (hb hby at_80) rfl rfl ?_
    show Stp p e below T10 m 82 #[.val (.int pi1), .val (.int pi2), .val (.int pi3), .val (.int pi4), .val (.int (1 : Int32)), .val (.int (2 : Int32)), .val (.int (3 : Int32)), .val (.int (pi2 &&& (3 : Int32))), .val (.int (0 : Int32)), .val (.ref b1), .val (.ref b2), .val (.double (FP.i2d (pi4.toInt16.toInt32))), .second, .val (.ref b5)] [(.ref b5)] _
    refine st15.trans ?_
    show Stp p e below T15 m 85 #[.val (.int pi1), .val (.int pi2), .val (.int pi3), .val (.int pi4), .val (.int (1 : Int32)), .val (.int (2 : Int32)), .val (.int (3 : Int32)), .val (.int (pi2 &&& (3 : Int32))), .val (.int (0 : Int32)), .val (.ref b1), .val (.ref b2), .val (.double (FP.i2d (pi4.toInt16.toInt32))), .second, .val (.ref b5)] [(.int (own_ic1 (nar .boolean (own_bt pi2 (0 : Int32))) (nar .boolean (own_bt pi2 (1 : Int32)))))] _
    refine XS.iload X15.here hx rfl (hb hby at_85) rfl ?_
    show Stp p e below T15 m 87 #[.val (.int pi1), .val (.int pi2), .val (.int pi3), .val (.int pi4), .val (.int (1 : Int32)), .val (.int (2 : Int32)), .val (.int (3 : Int32)), .val (.int (pi2 &&& (3 : Int32))), .val (.int (0 : Int32)), .val (.ref b1), .val (.ref b2), .val (.double (FP.i2d (pi4.toInt16.toInt32))), .second, .val (.ref b5)] [(.int (0 : Int32)), (.int (own_ic1 (nar .boolean (own_bt pi2 (0 : Int32))) (nar .boolean (own_bt pi2 (1 : Int32)))))] _
    refine XS.icmpNo X15.here hx rfl (hb hby at_87) rfl (teq ((own_e1 pi2).trans ((if_neg hc27_2).trans (if_neg hc34_3)))).2 ?_
    show Stp p e below T15 m 90 #[.val (.int pi1), .val (.int pi2), .val (.int pi3), .val (.int pi4), .val (.int (1 : Int32)), .val (.int (2 : Int32)), .val (.int (3 : Int32)), .val (.int (pi2 &&& (3 : Int32))), .val (.int (0 : Int32)), .val (.ref b1), .val (.ref b2), .val (.double (FP.i2d (pi4.toInt16.toInt32))), .second, .val (.ref b5)] [] _
    refine XS.iconst X15.here hx rfl (hb hby at_90) ?_
    show Stp p e below T15 m 91 #[.val (.int pi1), .val (.int pi2), .val (.int pi3), .val (.int pi4), .val (.int (1 : Int32)), .val (.int (2 : Int32)), .val (.int (3 : Int32)), .val (.int (pi2 &&& (3 : Int32))), .val (.int (0 : Int32)), .val (.ref b1), .val (.ref b2), .val (.double (FP.i2d (pi4.toInt16.toInt32))), .second, .val (.ref b5)] [(.int (1 : Int32))] _
    refine XS.goto X15.here hx rfl (pc0 := 91) (pc' := 95) rfl (hb hby at_91) (by decide) (by decide) ?_
    show Stp p e below T15 m 95 #[.val (.int pi1), .val (.int pi2), .val (.int pi3), .val (.int pi4), .val (.int (1 : Int32)), .val (.int (2 : Int32)), .val (.int (3 : Int32)), .val (.int (pi2 &&& (3 : Int32))), .val (.int (0 : Int32)), .val (.ref b1), .val (.ref b2), .val (.double (FP.i2d (pi4.toInt16.toInt32))), .second, .val (.ref b5)] [(.int (1 : Int32))] _
    exact retN X15 hx (t := .boolean) Bd.returns (by simp) (hb hby at_95) hr
  · exact ⟨rfl, N15⟩
set_option maxRecDepth 65536 in
set_option maxHeartbeats 40000000 in
theorem rm0_fftt (l : Launch) (Z : State) (a0 : Array Value) (hw : ∀ d ∈ tables_1, d.before a0 Z = true) (ws : List Jvm.Cond) (pi1 : Int32) (pi2 : Int32) (pi3 : Int32) (pi4 : Int32) (h0 : Heap) (n0 : Nat) (Z0 : n0 ≤ h0.size) (O0 : Old Z n0 h0) (hc3_0 : ¬ ((pi1 &&& (3 : Int32)) = (0 : Int32))) (hc3_1 : ¬ ((pi1 &&& (3 : Int32)) = (1 : Int32))) (hc3_2 : (pi1 &&& (3 : Int32)) = (2 : Int32)) (hc27_3 : (pi2 &&& (15 : Int32)) = (0 : Int32)) :
    MetFree l x (head1 (Jvm.Cond.code x code maxLocals ret :: ws) room_1) (fun a U => a = #[(.int pi1), (.int pi2), (.int pi3), (.int pi4)] ∧ Z.Warmed39 U.vm ∧ U.heap = h0) (fun _ _ _ _ _ => True) (fun _ U o U' => ∃ v L, o = .returned v ∧ Q0 v L n0 ∧ FrameEnd U o U' L room_1.cells room_1.slots) := by
  refine MetFree.of_bodySF (plainFor_of_name pn_0) hisR ?_
  intro p e s m args below meth c s₁ Bd hml0 hP hK
  obtain ⟨rfl, hZ, hh⟩ := hP
  have hx := Bd.exec
  have hby := Bd.bytes
  have hml : c.maxLocals = 14 := hml0
  have hown : s.vm.findClass "com/example/gudl/gudl/GroundFactorIsConstantPinLaw" = some m.cls := findClass_of_methodNamed Bd.named
  have hnm := (name_of_methodNamed Bd.named Bd.method).1
  have X0 : Stand p l e room_1 s m #[(.int pi1), (.int pi2), (.int pi3), (.int pi4)] below meth c s₁ [] 0 0 := Stand.of_body Bd
  have e0 : s₁.heap = h0 := by rw [← hh, Bd.state]; rfl
  have N0 := Fr.nil n0
  have pre0 : ∀ t, Steps p.tables e below (s₁.setTop (mkF m 0 #[.val (.int pi1), .val (.int pi2), .val (.int pi3), .val (.int pi4), .unset, .unset, .unset, .unset, .unset, .unset, .unset, .unset, .unset, .unset] [])) t → Steps p.tables e below (s₁.setTop (entryFrame m #[(.int pi1), (.int pi2), (.int pi3), (.int pi4)] maxLocals)) t := fun t k => castTop (ef_0 m pi1 pi2 pi3 pi4) k
  obtain ⟨_, _, ⟨T1, L1, k1, n1⟩, -, X1, ⟨Lc1, hQ1, l1, y1, z1⟩, st1⟩ := Jvm.LawKit.callS X0 hx (y := (⟨"com/example/gudl/gudl/GroundFactorIsConstantPinLaw", "truthArray", "(II)[Z"⟩ : MethodName)) hown (mvT hZ (own_W hw 0 rfl)) (mvT hZ (own_W hw 1 rfl)) (mvT hZ (own_W hw 2 rfl)) (mvT hZ (own_W hw 3 rfl)) (by decide) (backOf (W := 0) (rm1_2 l Z a0 hw [] (2 : Int32) pi2 h0 n0 Z0 O0 (by decide) (by decide) rfl) hZ (own_W hw 3 rfl) (own_W hw 2 rfl) (by decide) (by decide)) (g := (mkF m 47 #[.val (.int pi1), .val (.int pi2), .val (.int pi3), .val (.int pi4), .val (.int (2 : Int32)), .val (.int (4 : Int32)), .val (.int (15 : Int32)), .val (.int (pi2 &&& (15 : Int32))), .val (.int (1 : Int32)), .unset, .unset, .unset, .unset, .unset] [(.int pi2), (.int (2 : Int32))])) rfl (by rw [hml]; rfl) (argsL := [(.int (2 : Int32)), (.int pi2)]) (rest := []) (lenOf pd_0 rfl) rfl (by show 2 * 0 + _ ≤ _; exact Nat.le_of_eq rfl) (hb hby at_47) (fun _ _ => ⟨rfl, e0, (by decide : 0 + 1 ≤ _), (by decide : 0 + 4 ≤ _)⟩)
  dsimp only [Pt.U, Pt.locs, Pt.cells, Pt.slots] at X1 l1 y1 z1 st1 hQ1
  subst l1 y1 z1
  obtain ⟨b1, b1_1, rfl, N1q, K1, qf1_0, qf1_1⟩ := hQ1
  have N1 := Fr.app N0 N1q
  have z3 := Nat.le_trans Z0 K1.1
  have o4 := O0.keep K1 all0
  obtain ⟨_, _, ⟨T2, L2, k2, n2⟩, -, X2, ⟨Lc2, hQ2, l2, y2, z2⟩, st2⟩ := Jvm.LawKit.callS X1 hx (y := (⟨"com/example/gudl/gudl/GroundFactorIsConstantPinLaw", "atomArray", "(II)[I"⟩ : MethodName)) hown (mvT hZ (own_W hw 8 rfl)) (mvT hZ (own_W hw 9 rfl)) (mvT hZ (own_W hw 2 rfl)) (mvT hZ (own_W hw 10 rfl)) (by decide) (backOf (W := 0) (rm3_2 l Z a0 hw [] (2 : Int32) pi3 T1.heap n0 z3 o4 (by decide) (by decide) rfl) hZ (own_W hw 10 rfl) (own_W hw 2 rfl) (by decide) (by decide)) (g := (mkF m 55 #[.val (.int pi1), .val (.int pi2), .val (.int pi3), .val (.int pi4), .val (.int (2 : Int32)), .val (.int (4 : Int32)), .val (.int (15 : Int32)), .val (.int (pi2 &&& (15 : Int32))), .val (.int (1 : Int32)), .val (.ref b1), .unset, .unset, .unset, .unset] [(.int pi3), (.int (2 : Int32))])) rfl (by rw [hml]; rfl) (argsL := [(.int (2 : Int32)), (.int pi3)]) (rest := []) (lenOf pd_2 rfl) rfl (by show 2 * 0 + _ ≤ _; exact Nat.le_of_eq rfl) (hb hby at_55) (fun _ _ => ⟨rfl, rfl, (by decide : 1 + 1 ≤ _), (by decide : 4 + 2 ≤ _)⟩)
  dsimp only [Pt.U, Pt.locs, Pt.cells, Pt.slots] at X2 l2 y2 z2 st2 hQ2
  subst l2 y2 z2
  obtain ⟨b2, b2_1, rfl, N2q, K2, qf2_0, qf2_1⟩ := hQ2
  have N2 := Fr.app N1 N2q
  obtain ⟨T5, h5, X5, e5, E5, A5, D5, -, st5⟩ := newO X2 hx hZ hown (own_W hw 12 rfl) (own_W hw 13 rfl) (own_W hw 14 rfl) rfl (g := (mkF m 65 #[.val (.int pi1), .val (.int pi2), .val (.int pi3), .val (.int pi4), .val (.int (2 : Int32)), .val (.int (4 : Int32)), .val (.int (15 : Int32)), .val (.int (pi2 &&& (15 : Int32))), .val (.int (1 : Int32)), .val (.ref b1), .val (.ref b2), .val (.double (FP.i2d (pi4.toInt16.toInt32))), .second, .unset] [])) rfl (hb hby at_65) (by decide) (by decide)
  obtain ⟨b5, g5⟩ : ∃ z, z = T2.heap.size := ⟨_, rfl⟩
  rw [← g5] at A5 D5 st5
  have F_value_b5 : Fld Z h5 b5 "com/example/gudl/gudl/GroundFactor" "value" "D" (.double (0 : UInt64)) := D5 (Or.inr (own_W hw 22 rfl)) (ty := .double) (by decide)
  have F_atoms_b5 : Fld Z h5 b5 "com/example/gudl/gudl/GroundFactor" "atoms" "[I" .null := D5 (Or.inr (own_W hw 24 rfl)) (ty := (.array .int)) (by decide)
  have F_truth_b5 : Fld Z h5 b5 "com/example/gudl/gudl/GroundFactor" "truth" "[Z" .null := D5 (Or.inr (own_W hw 26 rfl)) (ty := (.array .boolean)) (by decide)
  have f6 := qf2_1.ext E5
  have f7 := qf1_1.keep K2 nin0
  have f8 := f7.ext E5
  have z9 := Nat.le_trans z3 K2.1
  have g_b5 : n0 ≤ b5 := Nat.le_trans z9 (Nat.le_of_eq g5.symm)
  have z11 := Nat.le_trans z9 E5.1
  have o12 := o4.keep K2 all0
  have o13 := o12.ext E5
  obtain ⟨_, _, ⟨T10, L10, k10, n10⟩, -, X10, ⟨Lc10, hQ10, l10, y10, z10⟩, st10⟩ := X5.specialBack hx (y := (⟨"com/example/gudl/gudl/GroundFactor", "<init>", "(D[I[Z)V"⟩ : MethodName)) rfl hown (mvT hZ (own_W hw 15 rfl)) (mvT hZ (own_W hw 16 rfl)) (mvT hZ (own_W hw 17 rfl)) (by decide) (backOf (W := 1) (rm4_2 l Z a0 hw [] b5 (FP.i2d (pi4.toInt16.toInt32)) b2 b1 b2_1 pi3 (pi3 + (1 : Int32)) b1_1 (nar .boolean (own_bt pi2 (0 : Int32))) (nar .boolean (own_bt pi2 (1 : Int32))) (nar .boolean (own_bt pi2 (2 : Int32))) (nar .boolean (own_bt pi2 (3 : Int32))) (.double (0 : UInt64)) .null .null h5 n0 z11 o13 f6 f8 A5 F_value_b5 g_b5 F_atoms_b5 F_truth_b5) hZ (own_W hw 17 rfl) (own_W hw 14 rfl) (by decide) (by decide)) (g := (mkF m 75 #[.val (.int pi1), .val (.int pi2), .val (.int pi3), .val (.int pi4), .val (.int (2 : Int32)), .val (.int (4 : Int32)), .val (.int (15 : Int32)), .val (.int (pi2 &&& (15 : Int32))), .val (.int (1 : Int32)), .val (.ref b1), .val (.ref b2), .val (.double (FP.i2d (pi4.toInt16.toInt32))), .second, .unset] [(.ref b1), (.ref b2), (.double (FP.i2d (pi4.toInt16.toInt32))), (.ref b5), (.ref b5)])) rfl (by rw [hml]; rfl) (Steps.refl _) (a := b5) (argsL := [(.double (FP.i2d (pi4.toInt16.toInt32))), (.ref b2), (.ref b1)]) (rest := [(.ref b5)]) (lenOf pd_3 rfl) rfl (by show 2 * 0 + _ ≤ _; exact Nat.le_of_eq rfl) (hb hby at_75) (fun _ _ => ⟨rfl, e5, (by decide : 3 + 0 ≤ _), (by decide : 9 + 0 ≤ _)⟩)
  dsimp only [Pt.U, Pt.locs, Pt.cells, Pt.slots] at X10 l10 y10 z10 st10 hQ10
  subst l10 y10 z10
  obtain ⟨rfl, N10q, K10, qf10_0, qf10_1, qf10_2, qf10_3⟩ := hQ10
  have N10 := Fr.app N2 N10q
  have f14 := f8.keep K10 (ninS (Nat.ne_of_lt (Nat.lt_of_lt_of_le f7.lt (Nat.le_of_eq g5.symm))) nin0)
  have z16 := Nat.le_trans z11 K10.1
  have o17 := o13.keep K10 (allS g_b5 all0)
  obtain ⟨cq15, kq15, q15a, q15b, q15c⟩ := isOf hZ rfl qf10_0
  obtain ⟨_, _, ⟨T15, L15, k15, n15⟩, -, X15, ⟨Lc15, hQ15, l15, y15, z15⟩, st15⟩ := X10.virtualBack hx (y := (⟨"com/example/gudl/gudl/GroundFactor", "isConstant", "()Z"⟩ : MethodName)) (z := (⟨"com/example/gudl/gudl/GroundFactor", "isConstant", "()Z"⟩ : MethodName)) hown (mvT hZ (own_W hw 27 rfl)) (mvT hZ (own_W hw 28 rfl)) (notFace_of_selects (args := #[]) (mvT hZ (own_W hw 30 rfl))) (mvT hZ (own_W hw 30 rfl)) (mvT hZ (own_W hw 29 rfl)) (by decide) (backOf (W := 0) (rm6k2 l Z a0 hw [] b5 b1 b1_1 (nar .boolean (own_bt pi2 (0 : Int32))) (nar .boolean (own_bt pi2 (1 : Int32))) (nar .boolean (own_bt pi2 (2 : Int32))) (nar .boolean (own_bt pi2 (3 : Int32))) T10.heap n0 z16 o17 qf10_3 f14) hZ (own_W hw 31 rfl) (own_W hw 14 rfl) (by decide) (by decide)) q15a q15c (g := (mkF m 82 #[.val (.int pi1), .val (.int pi2), .val (.int pi3), .val (.int pi4), .val (.int (2 : Int32)), .val (.int (4 : Int32)), .val (.int (15 : Int32)), .val (.int (pi2 &&& (15 : Int32))), .val (.int (1 : Int32)), .val (.ref b1), .val (.ref b2), .val (.double (FP.i2d (pi4.toInt16.toInt32))), .second, .val (.ref b5)] [(.ref b5)])) rfl (by rw [hml]; rfl) (Steps.refl _) (argsL := []) (rest := []) (lenOf pd_5 rfl) rfl (by show 2 * 0 + _ ≤ _; exact Nat.le_of_eq rfl) (hb hby at_82) (fun _ _ => ⟨rfl, rfl, (by decide : 3 + 0 ≤ _), (by decide : 9 + 0 ≤ _)⟩)
  dsimp only [Pt.U, Pt.locs, Pt.cells, Pt.slots] at X15 l15 y15 z15 st15 hQ15
  subst l15 y15 z15
  obtain ⟨rfl, N15q, eq15⟩ := hQ15
  have N15 := Fr.app N10 N15q
  obtain ⟨fs, hr, hrun, hended, hW, hsame⟩ := X15.leave (v := some (.int (1 : Int32))) (fun h => by rw [Bd.returns] at h; cases h)
  refine ⟨_, _, pre0 _ ?_, hrun, hended, _, _, rfl, ?_, ⟨_, rfl⟩, hW, hsame.mono (by decide) (by decide)⟩
  · show Stp p e below s₁ m 0 #[.val (.int pi1), .val (.int pi2), .val (.int pi3), .val (.int pi4), .unset, .unset, .unset, .unset, .unset, .unset, .unset, .unset, .unset, .unset] [] _
    refine XS.iloadN X0.here hx rfl (hb hby at_0) rfl ?_
    show Stp p e below s₁ m 1 #[.val (.int pi1), .val (.int pi2), .val (.int pi3), .val (.int pi4), .unset, .unset, .unset, .unset, .unset, .unset, .unset, .unset, .unset, .unset] [(.int pi1)] _
    refine XS.iconst X0.here hx rfl (hb hby at_1) ?_
    show Stp p e below s₁ m 2 #[.val (.int pi1), .val (.int pi2), .val (.int pi3), .val (.int pi4), .unset, .unset, .unset, .unset, .unset, .unset, .unset, .unset, .unset, .unset] [(.int (3 : Int32)), (.int pi1)] _
    refine XS.iand X0.here hx rfl (hb hby at_2) rfl ?_
    show Stp p e below s₁ m 3 #[.val (.int pi1), .val (.int pi2), .val (.int pi3), .val (.int pi4), .unset, .unset, .unset, .unset, .unset, .unset, .unset, .unset, .unset, .unset] [(.int (pi1 &&& (3 : Int32)))] _
    refine XS.istore X0.here hx rfl (hb hby at_3) rfl (l' := #[.val (.int pi1), .val (.int pi2), .val (.int pi3), .val (.int pi4), .val (.int (pi1 &&& (3 : Int32))), .unset, .unset, .unset, .unset, .unset, .unset, .unset, .unset, .unset]) rfl ?_
    show Stp p e below s₁ m 5 #[.val (.int pi1), .val (.int pi2), .val (.int pi3), .val (.int pi4), .val (.int (pi1 &&& (3 : Int32))), .unset, .unset, .unset, .unset, .unset, .unset, .unset, .unset, .unset] [] _
    rw [show (pi1 &&& (3 : Int32)) = (2 : Int32) from hc3_2]
    show Stp p e below s₁ m 5 #[.val (.int pi1), .val (.int pi2), .val (.int pi3), .val (.int pi4), .val (.int (2 : Int32)), .unset, .unset, .unset, .unset, .unset, .unset, .unset, .unset, .unset] [] _
    refine XS.iconst X0.here hx rfl (hb hby at_5) ?_
    show Stp p e below s₁ m 6 #[.val (.int pi1), .val (.int pi2), .val (.int pi3), .val (.int pi4), .val (.int (2 : Int32)), .unset, .unset, .unset, .unset, .unset, .unset, .unset, .unset, .unset] [(.int (1 : Int32))] _
    refine XS.iload X0.here hx rfl (hb hby at_6) rfl ?_
    show Stp p e below s₁ m 8 #[.val (.int pi1), .val (.int pi2), .val (.int pi3), .val (.int pi4), .val (.int (2 : Int32)), .unset, .unset, .unset, .unset, .unset, .unset, .unset, .unset, .unset] [(.int (2 : Int32)), (.int (1 : Int32))] _
    refine XS.ishl X0.here hx rfl (hb hby at_8) rfl ?_
    show Stp p e below s₁ m 9 #[.val (.int pi1), .val (.int pi2), .val (.int pi3), .val (.int pi4), .val (.int (2 : Int32)), .unset, .unset, .unset, .unset, .unset, .unset, .unset, .unset, .unset] [(.int (4 : Int32))] _
    refine XS.istore X0.here hx rfl (hb hby at_9) rfl (l' := #[.val (.int pi1), .val (.int pi2), .val (.int pi3), .val (.int pi4), .val (.int (2 : Int32)), .val (.int (4 : Int32)), .unset, .unset, .unset, .unset, .unset, .unset, .unset, .unset]) rfl ?_
    show Stp p e below s₁ m 11 #[.val (.int pi1), .val (.int pi2), .val (.int pi3), .val (.int pi4), .val (.int (2 : Int32)), .val (.int (4 : Int32)), .unset, .unset, .unset, .unset, .unset, .unset, .unset, .unset] [] _
    refine XS.iconst X0.here hx rfl (hb hby at_11) ?_
    show Stp p e below s₁ m 12 #[.val (.int pi1), .val (.int pi2), .val (.int pi3), .val (.int pi4), .val (.int (2 : Int32)), .val (.int (4 : Int32)), .unset, .unset, .unset, .unset, .unset, .unset, .unset, .unset] [(.int (1 : Int32))] _
    refine XS.iload X0.here hx rfl (hb hby at_12) rfl ?_
    show Stp p e below s₁ m 14 #[.val (.int pi1), .val (.int pi2), .val (.int pi3), .val (.int pi4), .val (.int (2 : Int32)), .val (.int (4 : Int32)), .unset, .unset, .unset, .unset, .unset, .unset, .unset, .unset] [(.int (4 : Int32)), (.int (1 : Int32))] _
    refine XS.ishl X0.here hx rfl (hb hby at_14) rfl ?_
    show Stp p e below s₁ m 15 #[.val (.int pi1), .val (.int pi2), .val (.int pi3), .val (.int pi4), .val (.int (2 : Int32)), .val (.int (4 : Int32)), .unset, .unset, .unset, .unset, .unset, .unset, .unset, .unset] [(.int (16 : Int32))] _
    refine XS.iconst X0.here hx rfl (hb hby at_15) ?_
    show Stp p e below s₁ m 16 #[.val (.int pi1), .val (.int pi2), .val (.int pi3), .val (.int pi4), .val (.int (2 : Int32)), .val (.int (4 : Int32)), .unset, .unset, .unset, .unset, .unset, .unset, .unset, .unset] [(.int (1 : Int32)), (.int (16 : Int32))] _
    refine XS.isub X0.here hx rfl (hb hby at_16) rfl ?_
    show Stp p e below s₁ m 17 #[.val (.int pi1), .val (.int pi2), .val (.int pi3), .val (.int pi4), .val (.int (2 : Int32)), .val (.int (4 : Int32)), .unset, .unset, .unset, .unset, .unset, .unset, .unset, .unset] [(.int (15 : Int32))] _
    refine XS.istore X0.here hx rfl (hb hby at_17) rfl (l' := #[.val (.int pi1), .val (.int pi2), .val (.int pi3), .val (.int pi4), .val (.int (2 : Int32)), .val (.int (4 : Int32)), .val (.int (15 : Int32)), .unset, .unset, .unset, .unset, .unset, .unset, .unset]) rfl ?_
    show Stp p e below s₁ m 19 #[.val (.int pi1), .val (.int pi2), .val (.int pi3), .val (.int pi4), .val (.int (2 : Int32)), .val (.int (4 : Int32)), .val (.int (15 : Int32)), .unset, .unset, .unset, .unset, .unset, .unset, .unset] [] _
    refine XS.iloadN X0.here hx rfl (hb hby at_19) rfl ?_
    show Stp p e below s₁ m 20 #[.val (.int pi1), .val (.int pi2), .val (.int pi3), .val (.int pi4), .val (.int (2 : Int32)), .val (.int (4 : Int32)), .val (.int (15 : Int32)), .unset, .unset, .unset, .unset, .unset, .unset, .unset] [(.int pi2)] _
    refine XS.iload X0.here hx rfl (hb hby at_20) rfl ?_
    show Stp p e below s₁ m 22 #[.val (.int pi1), .val (.int pi2), .val (.int pi3), .val (.int pi4), .val (.int (2 : Int32)), .val (.int (4 : Int32)), .val (.int (15 : Int32)), .unset, .unset, .unset, .unset, .unset, .unset, .unset] [(.int (15 : Int32)), (.int pi2)] _
    refine XS.iand X0.here hx rfl (hb hby at_22) rfl ?_
    show Stp p e below s₁ m 23 #[.val (.int pi1), .val (.int pi2), .val (.int pi3), .val (.int pi4), .val (.int (2 : Int32)), .val (.int (4 : Int32)), .val (.int (15 : Int32)), .unset, .unset, .unset, .unset, .unset, .unset, .unset] [(.int (pi2 &&& (15 : Int32)))] _
    refine XS.istore X0.here hx rfl (hb hby at_23) rfl (l' := #[.val (.int pi1), .val (.int pi2), .val (.int pi3), .val (.int pi4), .val (.int (2 : Int32)), .val (.int (4 : Int32)), .val (.int (15 : Int32)), .val (.int (pi2 &&& (15 : Int32))), .unset, .unset, .unset, .unset, .unset, .unset]) rfl ?_
    show Stp p e below s₁ m 25 #[.val (.int pi1), .val (.int pi2), .val (.int pi3), .val (.int pi4), .val (.int (2 : Int32)), .val (.int (4 : Int32)), .val (.int (15 : Int32)), .val (.int (pi2 &&& (15 : Int32))), .unset, .unset, .unset, .unset, .unset, .unset] [] _
    refine XS.iload X0.here hx rfl (hb hby at_25) rfl ?_
    show Stp p e below s₁ m 27 #[.val (.int pi1), .val (.int pi2), .val (.int pi3), .val (.int pi4), .val (.int (2 : Int32)), .val (.int (4 : Int32)), .val (.int (15 : Int32)), .val (.int (pi2 &&& (15 : Int32))), .unset, .unset, .unset, .unset, .unset, .unset] [(.int (pi2 &&& (15 : Int32)))] _
    refine XS.ifYes X0.here hx rfl (pc0 := 27) (pc' := 37) rfl (hb hby at_27) rfl ((if0 _ _).trans (teq hc27_3).1) (by decide) (by decide) ?_
    show Stp p e below s₁ m 37 #[.val (.int pi1), .val (.int pi2), .val (.int pi3), .val (.int pi4), .val (.int (2 : Int32)), .val (.int (4 : Int32)), .val (.int (15 : Int32)), .val (.int (pi2 &&& (15 : Int32))), .unset, .unset, .unset, .unset, .unset, .unset] [] _
    refine XS.iconst X0.here hx rfl (hb hby at_37) ?_
    show Stp p e below s₁ m 38 #[.val (.int pi1), .val (.int pi2), .val (.int pi3), .val (.int pi4), .val (.int (2 : Int32)), .val (.int (4 : Int32)), .val (.int (15 : Int32)), .val (.int (pi2 &&& (15 : Int32))), .unset, .unset, .unset, .unset, .unset, .unset] [(.int (1 : Int32))] _
    refine XS.goto X0.here hx rfl (pc0 := 38) (pc' := 42) rfl (hb hby at_38) (by decide) (by decide) ?_
    show Stp p e below s₁ m 42 #[.val (.int pi1), .val (.int pi2), .val (.int pi3), .val (.int pi4), .val (.int (2 : Int32)), .val (.int (4 : Int32)), .val (.int (15 : Int32)), .val (.int (pi2 &&& (15 : Int32))), .unset, .unset, .unset, .unset, .unset, .unset] [(.int (1 : Int32))] _
    refine XS.istore X0.here hx rfl (hb hby at_42) rfl (l' := #[.val (.int pi1), .val (.int pi2), .val (.int pi3), .val (.int pi4), .val (.int (2 : Int32)), .val (.int (4 : Int32)), .val (.int (15 : Int32)), .val (.int (pi2 &&& (15 : Int32))), .val (.int (1 : Int32)), .unset, .unset, .unset, .unset, .unset]) rfl ?_
    show Stp p e below s₁ m 44 #[.val (.int pi1), .val (.int pi2), .val (.int pi3), .val (.int pi4), .val (.int (2 : Int32)), .val (.int (4 : Int32)), .val (.int (15 : Int32)), .val (.int (pi2 &&& (15 : Int32))), .val (.int (1 : Int32)), .unset, .unset, .unset, .unset, .unset] [] _
    refine XS.iload X0.here hx rfl (hb hby at_44) rfl ?_
    show Stp p e below s₁ m 46 #[.val (.int pi1), .val (.int pi2), .val (.int pi3), .val (.int pi4), .val (.int (2 : Int32)), .val (.int (4 : Int32)), .val (.int (15 : Int32)), .val (.int (pi2 &&& (15 : Int32))), .val (.int (1 : Int32)), .unset, .unset, .unset, .unset, .unset] [(.int (2 : Int32))] _
    refine XS.iloadN X0.here hx rfl (hb hby at_46) rfl ?_
    show Stp p e below s₁ m 47 #[.val (.int pi1), .val (.int pi2), .val (.int pi3), .val (.int pi4), .val (.int (2 : Int32)), .val (.int (4 : Int32)), .val (.int (15 : Int32)), .val (.int (pi2 &&& (15 : Int32))), .val (.int (1 : Int32)), .unset, .unset, .unset, .unset, .unset] [(.int pi2), (.int (2 : Int32))] _
    refine st1 _ ?_
    show Stp p e below T1 m 50 #[.val (.int pi1), .val (.int pi2), .val (.int pi3), .val (.int pi4), .val (.int (2 : Int32)), .val (.int (4 : Int32)), .val (.int (15 : Int32)), .val (.int (pi2 &&& (15 : Int32))), .val (.int (1 : Int32)), .unset, .unset, .unset, .unset, .unset] [(.ref b1)] _
    refine XS.astore X1.here hx rfl (hb hby at_50) rfl rfl (l' := #[.val (.int pi1), .val (.int pi2), .val (.int pi3), .val (.int pi4), .val (.int (2 : Int32)), .val (.int (4 : Int32)), .val (.int (15 : Int32)), .val (.int (pi2 &&& (15 : Int32))), .val (.int (1 : Int32)), .val (.ref b1), .unset, .unset, .unset, .unset]) rfl ?_
    show Stp p e below T1 m 52 #[.val (.int pi1), .val (.int pi2), .val (.int pi3), .val (.int pi4), .val (.int (2 : Int32)), .val (.int (4 : Int32)), .val (.int (15 : Int32)), .val (.int (pi2 &&& (15 : Int32))), .val (.int (1 : Int32)), .val (.ref b1), .unset, .unset, .unset, .unset] [] _
    refine XS.iload X1.here hx rfl (hb hby at_52) rfl ?_
    show Stp p e below T1 m 54 #[.val (.int pi1), .val (.int pi2), .val (.int pi3), .val (.int pi4), .val (.int (2 : Int32)), .val (.int (4 : Int32)), .val (.int (15 : Int32)), .val (.int (pi2 &&& (15 : Int32))), .val (.int (1 : Int32)), .val (.ref b1), .unset, .unset, .unset, .unset] [(.int (2 : Int32))] _
    refine XS.iloadN X1.here hx rfl (hb hby at_54) rfl ?_
    show Stp p e below T1 m 55 #[.val (.int pi1), .val (.int pi2), .val (.int pi3), .val (.int pi4), .val (.int (2 : Int32)), .val (.int (4 : Int32)), .val (.int (15 : Int32)), .val (.int (pi2 &&& (15 : Int32))), .val (.int (1 : Int32)), .val (.ref b1), .unset, .unset, .unset, .unset] [(.int pi3), (.int (2 : Int32))] _
    refine st2 _ ?_
    show Stp p e below T2 m 58 #[.val (.int pi1), .val (.int pi2), .val (.int pi3), .val (.int pi4), .val (.int (2 : Int32)), .val (.int (4 : Int32)), .val (.int (15 : Int32)), .val (.int (pi2 &&& (15 : Int32))), .val (.int (1 : Int32)), .val (.ref b1), .unset, .unset, .unset, .unset] [(.ref b2)] _
    refine XS.astore X2.here hx rfl (hb hby at_58) rfl rfl (l' := #[.val (.int pi1), .val (.int pi2), .val (.int pi3), .val (.int pi4), .val (.int (2 : Int32)), .val (.int (4 : Int32)), .val (.int (15 : Int32)), .val (.int (pi2 &&& (15 : Int32))), .val (.int (1 : Int32)), .val (.ref b1), .val (.ref b2), .unset, .unset, .unset]) rfl ?_
    show Stp p e below T2 m 60 #[.val (.int pi1), .val (.int pi2), .val (.int pi3), .val (.int pi4), .val (.int (2 : Int32)), .val (.int (4 : Int32)), .val (.int (15 : Int32)), .val (.int (pi2 &&& (15 : Int32))), .val (.int (1 : Int32)), .val (.ref b1), .val (.ref b2), .unset, .unset, .unset] [] _
    refine XS.iloadN X2.here hx rfl (hb hby at_60) rfl ?_
    show Stp p e below T2 m 61 #[.val (.int pi1), .val (.int pi2), .val (.int pi3), .val (.int pi4), .val (.int (2 : Int32)), .val (.int (4 : Int32)), .val (.int (15 : Int32)), .val (.int (pi2 &&& (15 : Int32))), .val (.int (1 : Int32)), .val (.ref b1), .val (.ref b2), .unset, .unset, .unset] [(.int pi4)] _
    refine XS.i2s X2.here hx rfl (hb hby at_61) rfl ?_
    show Stp p e below T2 m 62 #[.val (.int pi1), .val (.int pi2), .val (.int pi3), .val (.int pi4), .val (.int (2 : Int32)), .val (.int (4 : Int32)), .val (.int (15 : Int32)), .val (.int (pi2 &&& (15 : Int32))), .val (.int (1 : Int32)), .val (.ref b1), .val (.ref b2), .unset, .unset, .unset] [(.int (pi4.toInt16.toInt32))] _
    refine XS.i2dS X2.here hx rfl (hb hby at_62) rfl rfl ?_
    show Stp p e below T2 m 63 #[.val (.int pi1), .val (.int pi2), .val (.int pi3), .val (.int pi4), .val (.int (2 : Int32)), .val (.int (4 : Int32)), .val (.int (15 : Int32)), .val (.int (pi2 &&& (15 : Int32))), .val (.int (1 : Int32)), .val (.ref b1), .val (.ref b2), .unset, .unset, .unset] [(.double (FP.i2d (pi4.toInt16.toInt32)))] _
    refine XS.dstore X2.here hx rfl (hb hby at_63) rfl (l' := #[.val (.int pi1), .val (.int pi2), .val (.int pi3), .val (.int pi4), .val (.int (2 : Int32)), .val (.int (4 : Int32)), .val (.int (15 : Int32)), .val (.int (pi2 &&& (15 : Int32))), .val (.int (1 : Int32)), .val (.ref b1), .val (.ref b2), .val (.double (FP.i2d (pi4.toInt16.toInt32))), .second, .unset]) rfl ?_
    show Stp p e below T2 m 65 #[.val (.int pi1), .val (.int pi2), .val (.int pi3), .val (.int pi4), .val (.int (2 : Int32)), .val (.int (4 : Int32)), .val (.int (15 : Int32)), .val (.int (pi2 &&& (15 : Int32))), .val (.int (1 : Int32)), .val (.ref b1), .val (.ref b2), .val (.double (FP.i2d (pi4.toInt16.toInt32))), .second, .unset] [] _
    refine st5 _ ?_
    show Stp p e below T5 m 68 #[.val (.int pi1), .val (.int pi2), .val (.int pi3), .val (.int pi4), .val (.int (2 : Int32)), .val (.int (4 : Int32)), .val (.int (15 : Int32)), .val (.int (pi2 &&& (15 : Int32))), .val (.int (1 : Int32)), .val (.ref b1), .val (.ref b2), .val (.double (FP.i2d (pi4.toInt16.toInt32))), .second, .unset] [(.ref b5)] _
    refine XS.dup X5.here hx rfl (hb hby at_68) rfl rfl ?_
    show Stp p e below T5 m 69 #[.val (.int pi1), .val (.int pi2), .val (.int pi3), .val (.int pi4), .val (.int (2 : Int32)), .val (.int (4 : Int32)), .val (.int (15 : Int32)), .val (.int (pi2 &&& (15 : Int32))), .val (.int (1 : Int32)), .val (.ref b1), .val (.ref b2), .val (.double (FP.i2d (pi4.toInt16.toInt32))), .second, .unset] [(.ref b5), (.ref b5)] _
    refine XS.dload X5.here hx rfl (hb hby at_69) rfl ?_
    show Stp p e below T5 m 71 #[.val (.int pi1), .val (.int pi2), .val (.int pi3), .val (.int pi4), .val (.int (2 : Int32)), .val (.int (4 : Int32)), .val (.int (15 : Int32)), .val (.int (pi2 &&& (15 : Int32))), .val (.int (1 : Int32)), .val (.ref b1), .val (.ref b2), .val (.double (FP.i2d (pi4.toInt16.toInt32))), .second, .unset] [(.double (FP.i2d (pi4.toInt16.toInt32))), (.ref b5), (.ref b5)] _
    refine XS.aload X5.here hx rfl (hb hby at_71) rfl rfl ?_
    show Stp p e below T5 m 73 #[.val (.int pi1), .val (.int pi2), .val (.int pi3), .val (.int pi4), .val (.int (2 : Int32)), .val (.int (4 : Int32)), .val (.int (15 : Int32)), .val (.int (pi2 &&& (15 : Int32))), .val (.int (1 : Int32)), .val (.ref b1), .val (.ref b2), .val (.double (FP.i2d (pi4.toInt16.toInt32))), .second, .unset] [(.ref b2), (.double (FP.i2d (pi4.toInt16.toInt32))), (.ref b5), (.ref b5)] _
    refine XS.aload X5.here hx rfl (hb hby at_73) rfl rfl ?_
    show Stp p e below T5 m 75 #[.val (.int pi1), .val (.int pi2), .val (.int pi3), .val (.int pi4), .val (.int (2 : Int32)), .val (.int (4 : Int32)), .val (.int (15 : Int32)), .val (.int (pi2 &&& (15 : Int32))), .val (.int (1 : Int32)), .val (.ref b1), .val (.ref b2), .val (.double (FP.i2d (pi4.toInt16.toInt32))), .second, .unset] [(.ref b1), (.ref b2), (.double (FP.i2d (pi4.toInt16.toInt32))), (.ref b5), (.ref b5)] _
    refine st10.trans ?_
    show Stp p e below T10 m 78 #[.val (.int pi1), .val (.int pi2), .val (.int pi3), .val (.int pi4), .val (.int (2 : Int32)), .val (.int (4 : Int32)), .val (.int (15 : Int32)), .val (.int (pi2 &&& (15 : Int32))), .val (.int (1 : Int32)), .val (.ref b1), .val (.ref b2), .val (.double (FP.i2d (pi4.toInt16.toInt32))), .second, .unset] [(.ref b5)] _
    refine XS.astore X10.here hx rfl (hb hby at_78) rfl rfl (l' := #[.val (.int pi1), .val (.int pi2), .val (.int pi3), .val (.int pi4), .val (.int (2 : Int32)), .val (.int (4 : Int32)), .val (.int (15 : Int32)), .val (.int (pi2 &&& (15 : Int32))), .val (.int (1 : Int32)), .val (.ref b1), .val (.ref b2), .val (.double (FP.i2d (pi4.toInt16.toInt32))), .second, .val (.ref b5)]) rfl ?_
    show Stp p e below T10 m 80 #[.val (.int pi1), .val (.int pi2), .val (.int pi3), .val (.int pi4), .val (.int (2 : Int32)), .val (.int (4 : Int32)), .val (.int (15 : Int32)), .val (.int (pi2 &&& (15 : Int32))), .val (.int (1 : Int32)), .val (.ref b1), .val (.ref b2), .val (.double (FP.i2d (pi4.toInt16.toInt32))), .second, .val (.ref b5)] [] _
    refine XS.aload X10.here hx rfl (hb hby at_80) rfl rfl ?_
    show Stp p e below T10 m 82 #[.val (.int pi1), .val (.int pi2), .val (.int pi3), .val (.int pi4), .val (.int (2 : Int32)), .val (.int (4 : Int32)), .val (.int (15 : Int32)), .val (.int (pi2 &&& (15 : Int32))), .val (.int (1 : Int32)), .val (.ref b1), .val (.ref b2), .val (.double (FP.i2d (pi4.toInt16.toInt32))), .second, .val (.ref b5)] [(.ref b5)] _
    refine st15.trans ?_
    show Stp p e below T15 m 85 #[.val (.int pi1), .val (.int pi2), .val (.int pi3), .val (.int pi4), .val (.int (2 : Int32)), .val (.int (4 : Int32)), .val (.int (15 : Int32)), .val (.int (pi2 &&& (15 : Int32))), .val (.int (1 : Int32)), .val (.ref b1), .val (.ref b2), .val (.double (FP.i2d (pi4.toInt16.toInt32))), .second, .val (.ref b5)] [(.int (own_ic2 (nar .boolean (own_bt pi2 (0 : Int32))) (nar .boolean (own_bt pi2 (1 : Int32))) (nar .boolean (own_bt pi2 (2 : Int32))) (nar .boolean (own_bt pi2 (3 : Int32)))))] _
    refine XS.iload X15.here hx rfl (hb hby at_85) rfl ?_
    show Stp p e below T15 m 87 #[.val (.int pi1), .val (.int pi2), .val (.int pi3), .val (.int pi4), .val (.int (2 : Int32)), .val (.int (4 : Int32)), .val (.int (15 : Int32)), .val (.int (pi2 &&& (15 : Int32))), .val (.int (1 : Int32)), .val (.ref b1), .val (.ref b2), .val (.double (FP.i2d (pi4.toInt16.toInt32))), .second, .val (.ref b5)] [(.int (1 : Int32)), (.int (own_ic2 (nar .boolean (own_bt pi2 (0 : Int32))) (nar .boolean (own_bt pi2 (1 : Int32))) (nar .boolean (own_bt pi2 (2 : Int32))) (nar .boolean (own_bt pi2 (3 : Int32)))))] _
    refine XS.icmpNo X15.here hx rfl (hb hby at_87) rfl (teq ((own_e2 pi2).trans (if_pos hc27_3))).2 ?_
    show Stp p e below T15 m 90 #[.val (.int pi1), .val (.int pi2), .val (.int pi3), .val (.int pi4), .val (.int (2 : Int32)), .val (.int (4 : Int32)), .val (.int (15 : Int32)), .val (.int (pi2 &&& (15 : Int32))), .val (.int (1 : Int32)), .val (.ref b1), .val (.ref b2), .val (.double (FP.i2d (pi4.toInt16.toInt32))), .second, .val (.ref b5)] [] _
    refine XS.iconst X15.here hx rfl (hb hby at_90) ?_
    show Stp p e below T15 m 91 #[.val (.int pi1), .val (.int pi2), .val (.int pi3), .val (.int pi4), .val (.int (2 : Int32)), .val (.int (4 : Int32)), .val (.int (15 : Int32)), .val (.int (pi2 &&& (15 : Int32))), .val (.int (1 : Int32)), .val (.ref b1), .val (.ref b2), .val (.double (FP.i2d (pi4.toInt16.toInt32))), .second, .val (.ref b5)] [(.int (1 : Int32))] _
    refine XS.goto X15.here hx rfl (pc0 := 91) (pc' := 95) rfl (hb hby at_91) (by decide) (by decide) ?_
    show Stp p e below T15 m 95 #[.val (.int pi1), .val (.int pi2), .val (.int pi3), .val (.int pi4), .val (.int (2 : Int32)), .val (.int (4 : Int32)), .val (.int (15 : Int32)), .val (.int (pi2 &&& (15 : Int32))), .val (.int (1 : Int32)), .val (.ref b1), .val (.ref b2), .val (.double (FP.i2d (pi4.toInt16.toInt32))), .second, .val (.ref b5)] [(.int (1 : Int32))] _
    exact retN X15 hx (t := .boolean) Bd.returns (by simp) (hb hby at_95) hr
  · exact ⟨rfl, N15⟩
set_option maxRecDepth 65536 in
set_option maxHeartbeats 40000000 in
theorem rm0_fftft (l : Launch) (Z : State) (a0 : Array Value) (hw : ∀ d ∈ tables_1, d.before a0 Z = true) (ws : List Jvm.Cond) (pi1 : Int32) (pi2 : Int32) (pi3 : Int32) (pi4 : Int32) (h0 : Heap) (n0 : Nat) (Z0 : n0 ≤ h0.size) (O0 : Old Z n0 h0) (hc3_0 : ¬ ((pi1 &&& (3 : Int32)) = (0 : Int32))) (hc3_1 : ¬ ((pi1 &&& (3 : Int32)) = (1 : Int32))) (hc3_2 : (pi1 &&& (3 : Int32)) = (2 : Int32)) (hc27_3 : ¬ ((pi2 &&& (15 : Int32)) = (0 : Int32))) (hc34_4 : (pi2 &&& (15 : Int32)) = (15 : Int32)) :
    MetFree l x (head1 (Jvm.Cond.code x code maxLocals ret :: ws) room_1) (fun a U => a = #[(.int pi1), (.int pi2), (.int pi3), (.int pi4)] ∧ Z.Warmed39 U.vm ∧ U.heap = h0) (fun _ _ _ _ _ => True) (fun _ U o U' => ∃ v L, o = .returned v ∧ Q0 v L n0 ∧ FrameEnd U o U' L room_1.cells room_1.slots) := by
  refine MetFree.of_bodySF (plainFor_of_name pn_0) hisR ?_
  intro p e s m args below meth c s₁ Bd hml0 hP hK
  obtain ⟨rfl, hZ, hh⟩ := hP
  have hx := Bd.exec
  have hby := Bd.bytes
  have hml : c.maxLocals = 14 := hml0
  have hown : s.vm.findClass "com/example/gudl/gudl/GroundFactorIsConstantPinLaw" = some m.cls := findClass_of_methodNamed Bd.named
  have hnm := (name_of_methodNamed Bd.named Bd.method).1
  have X0 : Stand p l e room_1 s m #[(.int pi1), (.int pi2), (.int pi3), (.int pi4)] below meth c s₁ [] 0 0 := Stand.of_body Bd
  have e0 : s₁.heap = h0 := by rw [← hh, Bd.state]; rfl
  have N0 := Fr.nil n0
  have pre0 : ∀ t, Steps p.tables e below (s₁.setTop (mkF m 0 #[.val (.int pi1), .val (.int pi2), .val (.int pi3), .val (.int pi4), .unset, .unset, .unset, .unset, .unset, .unset, .unset, .unset, .unset, .unset] [])) t → Steps p.tables e below (s₁.setTop (entryFrame m #[(.int pi1), (.int pi2), (.int pi3), (.int pi4)] maxLocals)) t := fun t k => castTop (ef_0 m pi1 pi2 pi3 pi4) k
  obtain ⟨_, _, ⟨T1, L1, k1, n1⟩, -, X1, ⟨Lc1, hQ1, l1, y1, z1⟩, st1⟩ := Jvm.LawKit.callS X0 hx (y := (⟨"com/example/gudl/gudl/GroundFactorIsConstantPinLaw", "truthArray", "(II)[Z"⟩ : MethodName)) hown (mvT hZ (own_W hw 0 rfl)) (mvT hZ (own_W hw 1 rfl)) (mvT hZ (own_W hw 2 rfl)) (mvT hZ (own_W hw 3 rfl)) (by decide) (backOf (W := 0) (rm1_2 l Z a0 hw [] (2 : Int32) pi2 h0 n0 Z0 O0 (by decide) (by decide) rfl) hZ (own_W hw 3 rfl) (own_W hw 2 rfl) (by decide) (by decide)) (g := (mkF m 47 #[.val (.int pi1), .val (.int pi2), .val (.int pi3), .val (.int pi4), .val (.int (2 : Int32)), .val (.int (4 : Int32)), .val (.int (15 : Int32)), .val (.int (pi2 &&& (15 : Int32))), .val (.int (1 : Int32)), .unset, .unset, .unset, .unset, .unset] [(.int pi2), (.int (2 : Int32))])) rfl (by rw [hml]; rfl) (argsL := [(.int (2 : Int32)), (.int pi2)]) (rest := []) (lenOf pd_0 rfl) rfl (by show 2 * 0 + _ ≤ _; exact Nat.le_of_eq rfl) (hb hby at_47) (fun _ _ => ⟨rfl, e0, (by decide : 0 + 1 ≤ _), (by decide : 0 + 4 ≤ _)⟩)
  dsimp only [Pt.U, Pt.locs, Pt.cells, Pt.slots] at X1 l1 y1 z1 st1 hQ1
  subst l1 y1 z1
  obtain ⟨b1, b1_1, rfl, N1q, K1, qf1_0, qf1_1⟩ := hQ1
  have N1 := Fr.app N0 N1q
  have z3 := Nat.le_trans Z0 K1.1
  have o4 := O0.keep K1 all0
  obtain ⟨_, _, ⟨T2, L2, k2, n2⟩, -, X2, ⟨Lc2, hQ2, l2, y2, z2⟩, st2⟩ := Jvm.LawKit.callS X1 hx (y := (⟨"com/example/gudl/gudl/GroundFactorIsConstantPinLaw", "atomArray", "(II)[I"⟩ : MethodName)) hown (mvT hZ (own_W hw 8 rfl)) (mvT hZ (own_W hw 9 rfl)) (mvT hZ (own_W hw 2 rfl)) (mvT hZ (own_W hw 10 rfl)) (by decide) (backOf (W := 0) (rm3_2 l Z a0 hw [] (2 : Int32) pi3 T1.heap n0 z3 o4 (by decide) (by decide) rfl) hZ (own_W hw 10 rfl) (own_W hw 2 rfl) (by decide) (by decide)) (g := (mkF m 55 #[.val (.int pi1), .val (.int pi2), .val (.int pi3), .val (.int pi4), .val (.int (2 : Int32)), .val (.int (4 : Int32)), .val (.int (15 : Int32)), .val (.int (pi2 &&& (15 : Int32))), .val (.int (1 : Int32)), .val (.ref b1), .unset, .unset, .unset, .unset] [(.int pi3), (.int (2 : Int32))])) rfl (by rw [hml]; rfl) (argsL := [(.int (2 : Int32)), (.int pi3)]) (rest := []) (lenOf pd_2 rfl) rfl (by show 2 * 0 + _ ≤ _; exact Nat.le_of_eq rfl) (hb hby at_55) (fun _ _ => ⟨rfl, rfl, (by decide : 1 + 1 ≤ _), (by decide : 4 + 2 ≤ _)⟩)
  dsimp only [Pt.U, Pt.locs, Pt.cells, Pt.slots] at X2 l2 y2 z2 st2 hQ2
  subst l2 y2 z2
  obtain ⟨b2, b2_1, rfl, N2q, K2, qf2_0, qf2_1⟩ := hQ2
  have N2 := Fr.app N1 N2q
  obtain ⟨T5, h5, X5, e5, E5, A5, D5, -, st5⟩ := newO X2 hx hZ hown (own_W hw 12 rfl) (own_W hw 13 rfl) (own_W hw 14 rfl) rfl (g := (mkF m 65 #[.val (.int pi1), .val (.int pi2), .val (.int pi3), .val (.int pi4), .val (.int (2 : Int32)), .val (.int (4 : Int32)), .val (.int (15 : Int32)), .val (.int (pi2 &&& (15 : Int32))), .val (.int (1 : Int32)), .val (.ref b1), .val (.ref b2), .val (.double (FP.i2d (pi4.toInt16.toInt32))), .second, .unset] [])) rfl (hb hby at_65) (by decide) (by decide)
  obtain ⟨b5, g5⟩ : ∃ z, z = T2.heap.size := ⟨_, rfl⟩
  rw [← g5] at A5 D5 st5
  have F_value_b5 : Fld Z h5 b5 "com/example/gudl/gudl/GroundFactor" "value" "D" (.double (0 : UInt64)) := D5 (Or.inr (own_W hw 22 rfl)) (ty := .double) (by decide)
  have F_atoms_b5 : Fld Z h5 b5 "com/example/gudl/gudl/GroundFactor" "atoms" "[I" .null := D5 (Or.inr (own_W hw 24 rfl)) (ty := (.array .int)) (by decide)
  have F_truth_b5 : Fld Z h5 b5 "com/example/gudl/gudl/GroundFactor" "truth" "[Z" .null := D5 (Or.inr (own_W hw 26 rfl)) (ty := (.array .boolean)) (by decide)
  have f6 := qf2_1.ext E5
  have f7 := qf1_1.keep K2 nin0
  have f8 := f7.ext E5
  have z9 := Nat.le_trans z3 K2.1
  have g_b5 : n0 ≤ b5 := Nat.le_trans z9 (Nat.le_of_eq g5.symm)
  have z11 := Nat.le_trans z9 E5.1
  have o12 := o4.keep K2 all0
  have o13 := o12.ext E5
  obtain ⟨_, _, ⟨T10, L10, k10, n10⟩, -, X10, ⟨Lc10, hQ10, l10, y10, z10⟩, st10⟩ := X5.specialBack hx (y := (⟨"com/example/gudl/gudl/GroundFactor", "<init>", "(D[I[Z)V"⟩ : MethodName)) rfl hown (mvT hZ (own_W hw 15 rfl)) (mvT hZ (own_W hw 16 rfl)) (mvT hZ (own_W hw 17 rfl)) (by decide) (backOf (W := 1) (rm4_2 l Z a0 hw [] b5 (FP.i2d (pi4.toInt16.toInt32)) b2 b1 b2_1 pi3 (pi3 + (1 : Int32)) b1_1 (nar .boolean (own_bt pi2 (0 : Int32))) (nar .boolean (own_bt pi2 (1 : Int32))) (nar .boolean (own_bt pi2 (2 : Int32))) (nar .boolean (own_bt pi2 (3 : Int32))) (.double (0 : UInt64)) .null .null h5 n0 z11 o13 f6 f8 A5 F_value_b5 g_b5 F_atoms_b5 F_truth_b5) hZ (own_W hw 17 rfl) (own_W hw 14 rfl) (by decide) (by decide)) (g := (mkF m 75 #[.val (.int pi1), .val (.int pi2), .val (.int pi3), .val (.int pi4), .val (.int (2 : Int32)), .val (.int (4 : Int32)), .val (.int (15 : Int32)), .val (.int (pi2 &&& (15 : Int32))), .val (.int (1 : Int32)), .val (.ref b1), .val (.ref b2), .val (.double (FP.i2d (pi4.toInt16.toInt32))), .second, .unset] [(.ref b1), (.ref b2), (.double (FP.i2d (pi4.toInt16.toInt32))), (.ref b5), (.ref b5)])) rfl (by rw [hml]; rfl) (Steps.refl _) (a := b5) (argsL := [(.double (FP.i2d (pi4.toInt16.toInt32))), (.ref b2), (.ref b1)]) (rest := [(.ref b5)]) (lenOf pd_3 rfl) rfl (by show 2 * 0 + _ ≤ _; exact Nat.le_of_eq rfl) (hb hby at_75) (fun _ _ => ⟨rfl, e5, (by decide : 3 + 0 ≤ _), (by decide : 9 + 0 ≤ _)⟩)
  dsimp only [Pt.U, Pt.locs, Pt.cells, Pt.slots] at X10 l10 y10 z10 st10 hQ10
  subst l10 y10 z10
  obtain ⟨rfl, N10q, K10, qf10_0, qf10_1, qf10_2, qf10_3⟩ := hQ10
  have N10 := Fr.app N2 N10q
  have f14 := f8.keep K10 (ninS (Nat.ne_of_lt (Nat.lt_of_lt_of_le f7.lt (Nat.le_of_eq g5.symm))) nin0)
  have z16 := Nat.le_trans z11 K10.1
  have o17 := o13.keep K10 (allS g_b5 all0)
  obtain ⟨cq15, kq15, q15a, q15b, q15c⟩ := isOf hZ rfl qf10_0
  obtain ⟨_, _, ⟨T15, L15, k15, n15⟩, -, X15, ⟨Lc15, hQ15, l15, y15, z15⟩, st15⟩ := X10.virtualBack hx (y := (⟨"com/example/gudl/gudl/GroundFactor", "isConstant", "()Z"⟩ : MethodName)) (z := (⟨"com/example/gudl/gudl/GroundFactor", "isConstant", "()Z"⟩ : MethodName)) hown (mvT hZ (own_W hw 27 rfl)) (mvT hZ (own_W hw 28 rfl)) (notFace_of_selects (args := #[]) (mvT hZ (own_W hw 30 rfl))) (mvT hZ (own_W hw 30 rfl)) (mvT hZ (own_W hw 29 rfl)) (by decide) (backOf (W := 0) (rm6k2 l Z a0 hw [] b5 b1 b1_1 (nar .boolean (own_bt pi2 (0 : Int32))) (nar .boolean (own_bt pi2 (1 : Int32))) (nar .boolean (own_bt pi2 (2 : Int32))) (nar .boolean (own_bt pi2 (3 : Int32))) T10.heap n0 z16 o17 qf10_3 f14) hZ (own_W hw 31 rfl) (own_W hw 14 rfl) (by decide) (by decide)) q15a q15c (g := (mkF m 82 #[.val (.int pi1), .val (.int pi2), .val (.int pi3), .val (.int pi4), .val (.int (2 : Int32)), .val (.int (4 : Int32)), .val (.int (15 : Int32)), .val (.int (pi2 &&& (15 : Int32))), .val (.int (1 : Int32)), .val (.ref b1), .val (.ref b2), .val (.double (FP.i2d (pi4.toInt16.toInt32))), .second, .val (.ref b5)] [(.ref b5)])) rfl (by rw [hml]; rfl) (Steps.refl _) (argsL := []) (rest := []) (lenOf pd_5 rfl) rfl (by show 2 * 0 + _ ≤ _; exact Nat.le_of_eq rfl) (hb hby at_82) (fun _ _ => ⟨rfl, rfl, (by decide : 3 + 0 ≤ _), (by decide : 9 + 0 ≤ _)⟩)
  dsimp only [Pt.U, Pt.locs, Pt.cells, Pt.slots] at X15 l15 y15 z15 st15 hQ15
  subst l15 y15 z15
  obtain ⟨rfl, N15q, eq15⟩ := hQ15
  have N15 := Fr.app N10 N15q
  obtain ⟨fs, hr, hrun, hended, hW, hsame⟩ := X15.leave (v := some (.int (1 : Int32))) (fun h => by rw [Bd.returns] at h; cases h)
  refine ⟨_, _, pre0 _ ?_, hrun, hended, _, _, rfl, ?_, ⟨_, rfl⟩, hW, hsame.mono (by decide) (by decide)⟩
  · show Stp p e below s₁ m 0 #[.val (.int pi1), .val (.int pi2), .val (.int pi3), .val (.int pi4), .unset, .unset, .unset, .unset, .unset, .unset, .unset, .unset, .unset, .unset] [] _
    refine XS.iloadN X0.here hx rfl (hb hby at_0) rfl ?_
    show Stp p e below s₁ m 1 #[.val (.int pi1), .val (.int pi2), .val (.int pi3), .val (.int pi4), .unset, .unset, .unset, .unset, .unset, .unset, .unset, .unset, .unset, .unset] [(.int pi1)] _
    refine XS.iconst X0.here hx rfl (hb hby at_1) ?_
    show Stp p e below s₁ m 2 #[.val (.int pi1), .val (.int pi2), .val (.int pi3), .val (.int pi4), .unset, .unset, .unset, .unset, .unset, .unset, .unset, .unset, .unset, .unset] [(.int (3 : Int32)), (.int pi1)] _
    refine XS.iand X0.here hx rfl (hb hby at_2) rfl ?_
    show Stp p e below s₁ m 3 #[.val (.int pi1), .val (.int pi2), .val (.int pi3), .val (.int pi4), .unset, .unset, .unset, .unset, .unset, .unset, .unset, .unset, .unset, .unset] [(.int (pi1 &&& (3 : Int32)))] _
    refine XS.istore X0.here hx rfl (hb hby at_3) rfl (l' := #[.val (.int pi1), .val (.int pi2), .val (.int pi3), .val (.int pi4), .val (.int (pi1 &&& (3 : Int32))), .unset, .unset, .unset, .unset, .unset, .unset, .unset, .unset, .unset]) rfl ?_
    show Stp p e below s₁ m 5 #[.val (.int pi1), .val (.int pi2), .val (.int pi3), .val (.int pi4), .val (.int (pi1 &&& (3 : Int32))), .unset, .unset, .unset, .unset, .unset, .unset, .unset, .unset, .unset] [] _
    rw [show (pi1 &&& (3 : Int32)) = (2 : Int32) from hc3_2]
    show Stp p e below s₁ m 5 #[.val (.int pi1), .val (.int pi2), .val (.int pi3), .val (.int pi4), .val (.int (2 : Int32)), .unset, .unset, .unset, .unset, .unset, .unset, .unset, .unset, .unset] [] _
    refine XS.iconst X0.here hx rfl (hb hby at_5) ?_
    show Stp p e below s₁ m 6 #[.val (.int pi1), .val (.int pi2), .val (.int pi3), .val (.int pi4), .val (.int (2 : Int32)), .unset, .unset, .unset, .unset, .unset, .unset, .unset, .unset, .unset] [(.int (1 : Int32))] _
    refine XS.iload X0.here hx rfl (hb hby at_6) rfl ?_
    show Stp p e below s₁ m 8 #[.val (.int pi1), .val (.int pi2), .val (.int pi3), .val (.int pi4), .val (.int (2 : Int32)), .unset, .unset, .unset, .unset, .unset, .unset, .unset, .unset, .unset] [(.int (2 : Int32)), (.int (1 : Int32))] _
    refine XS.ishl X0.here hx rfl (hb hby at_8) rfl ?_
    show Stp p e below s₁ m 9 #[.val (.int pi1), .val (.int pi2), .val (.int pi3), .val (.int pi4), .val (.int (2 : Int32)), .unset, .unset, .unset, .unset, .unset, .unset, .unset, .unset, .unset] [(.int (4 : Int32))] _
    refine XS.istore X0.here hx rfl (hb hby at_9) rfl (l' := #[.val (.int pi1), .val (.int pi2), .val (.int pi3), .val (.int pi4), .val (.int (2 : Int32)), .val (.int (4 : Int32)), .unset, .unset, .unset, .unset, .unset, .unset, .unset, .unset]) rfl ?_
    show Stp p e below s₁ m 11 #[.val (.int pi1), .val (.int pi2), .val (.int pi3), .val (.int pi4), .val (.int (2 : Int32)), .val (.int (4 : Int32)), .unset, .unset, .unset, .unset, .unset, .unset, .unset, .unset] [] _
    refine XS.iconst X0.here hx rfl (hb hby at_11) ?_
    show Stp p e below s₁ m 12 #[.val (.int pi1), .val (.int pi2), .val (.int pi3), .val (.int pi4), .val (.int (2 : Int32)), .val (.int (4 : Int32)), .unset, .unset, .unset, .unset, .unset, .unset, .unset, .unset] [(.int (1 : Int32))] _
    refine XS.iload X0.here hx rfl (hb hby at_12) rfl ?_
    show Stp p e below s₁ m 14 #[.val (.int pi1), .val (.int pi2), .val (.int pi3), .val (.int pi4), .val (.int (2 : Int32)), .val (.int (4 : Int32)), .unset, .unset, .unset, .unset, .unset, .unset, .unset, .unset] [(.int (4 : Int32)), (.int (1 : Int32))] _
    refine XS.ishl X0.here hx rfl (hb hby at_14) rfl ?_
    show Stp p e below s₁ m 15 #[.val (.int pi1), .val (.int pi2), .val (.int pi3), .val (.int pi4), .val (.int (2 : Int32)), .val (.int (4 : Int32)), .unset, .unset, .unset, .unset, .unset, .unset, .unset, .unset] [(.int (16 : Int32))] _
    refine XS.iconst X0.here hx rfl (hb hby at_15) ?_
    show Stp p e below s₁ m 16 #[.val (.int pi1), .val (.int pi2), .val (.int pi3), .val (.int pi4), .val (.int (2 : Int32)), .val (.int (4 : Int32)), .unset, .unset, .unset, .unset, .unset, .unset, .unset, .unset] [(.int (1 : Int32)), (.int (16 : Int32))] _
    refine XS.isub X0.here hx rfl (hb hby at_16) rfl ?_
    show Stp p e below s₁ m 17 #[.val (.int pi1), .val (.int pi2), .val (.int pi3), .val (.int pi4), .val (.int (2 : Int32)), .val (.int (4 : Int32)), .unset, .unset, .unset, .unset, .unset, .unset, .unset, .unset] [(.int (15 : Int32))] _
    refine XS.istore X0.here hx rfl (hb hby at_17) rfl (l' := #[.val (.int pi1), .val (.int pi2), .val (.int pi3), .val (.int pi4), .val (.int (2 : Int32)), .val (.int (4 : Int32)), .val (.int (15 : Int32)), .unset, .unset, .unset, .unset, .unset, .unset, .unset]) rfl ?_
    show Stp p e below s₁ m 19 #[.val (.int pi1), .val (.int pi2), .val (.int pi3), .val (.int pi4), .val (.int (2 : Int32)), .val (.int (4 : Int32)), .val (.int (15 : Int32)), .unset, .unset, .unset, .unset, .unset, .unset, .unset] [] _
    refine XS.iloadN X0.here hx rfl (hb hby at_19) rfl ?_
    show Stp p e below s₁ m 20 #[.val (.int pi1), .val (.int pi2), .val (.int pi3), .val (.int pi4), .val (.int (2 : Int32)), .val (.int (4 : Int32)), .val (.int (15 : Int32)), .unset, .unset, .unset, .unset, .unset, .unset, .unset] [(.int pi2)] _
    refine XS.iload X0.here hx rfl (hb hby at_20) rfl ?_
    show Stp p e below s₁ m 22 #[.val (.int pi1), .val (.int pi2), .val (.int pi3), .val (.int pi4), .val (.int (2 : Int32)), .val (.int (4 : Int32)), .val (.int (15 : Int32)), .unset, .unset, .unset, .unset, .unset, .unset, .unset] [(.int (15 : Int32)), (.int pi2)] _
    refine XS.iand X0.here hx rfl (hb hby at_22) rfl ?_
    show Stp p e below s₁ m 23 #[.val (.int pi1), .val (.int pi2), .val (.int pi3), .val (.int pi4), .val (.int (2 : Int32)), .val (.int (4 : Int32)), .val (.int (15 : Int32)), .unset, .unset, .unset, .unset, .unset, .unset, .unset] [(.int (pi2 &&& (15 : Int32)))] _
    refine XS.istore X0.here hx rfl (hb hby at_23) rfl (l' := #[.val (.int pi1), .val (.int pi2), .val (.int pi3), .val (.int pi4), .val (.int (2 : Int32)), .val (.int (4 : Int32)), .val (.int (15 : Int32)), .val (.int (pi2 &&& (15 : Int32))), .unset, .unset, .unset, .unset, .unset, .unset]) rfl ?_
    show Stp p e below s₁ m 25 #[.val (.int pi1), .val (.int pi2), .val (.int pi3), .val (.int pi4), .val (.int (2 : Int32)), .val (.int (4 : Int32)), .val (.int (15 : Int32)), .val (.int (pi2 &&& (15 : Int32))), .unset, .unset, .unset, .unset, .unset, .unset] [] _
    refine XS.iload X0.here hx rfl (hb hby at_25) rfl ?_
    show Stp p e below s₁ m 27 #[.val (.int pi1), .val (.int pi2), .val (.int pi3), .val (.int pi4), .val (.int (2 : Int32)), .val (.int (4 : Int32)), .val (.int (15 : Int32)), .val (.int (pi2 &&& (15 : Int32))), .unset, .unset, .unset, .unset, .unset, .unset] [(.int (pi2 &&& (15 : Int32)))] _
    refine XS.ifNo X0.here hx rfl (hb hby at_27) rfl ((if0 _ _).trans (feq hc27_3).1) ?_
    show Stp p e below s₁ m 30 #[.val (.int pi1), .val (.int pi2), .val (.int pi3), .val (.int pi4), .val (.int (2 : Int32)), .val (.int (4 : Int32)), .val (.int (15 : Int32)), .val (.int (pi2 &&& (15 : Int32))), .unset, .unset, .unset, .unset, .unset, .unset] [] _
    refine XS.iload X0.here hx rfl (hb hby at_30) rfl ?_
    show Stp p e below s₁ m 32 #[.val (.int pi1), .val (.int pi2), .val (.int pi3), .val (.int pi4), .val (.int (2 : Int32)), .val (.int (4 : Int32)), .val (.int (15 : Int32)), .val (.int (pi2 &&& (15 : Int32))), .unset, .unset, .unset, .unset, .unset, .unset] [(.int (pi2 &&& (15 : Int32)))] _
    refine XS.iload X0.here hx rfl (hb hby at_32) rfl ?_
    show Stp p e below s₁ m 34 #[.val (.int pi1), .val (.int pi2), .val (.int pi3), .val (.int pi4), .val (.int (2 : Int32)), .val (.int (4 : Int32)), .val (.int (15 : Int32)), .val (.int (pi2 &&& (15 : Int32))), .unset, .unset, .unset, .unset, .unset, .unset] [(.int (15 : Int32)), (.int (pi2 &&& (15 : Int32)))] _
    refine XS.icmpNo X0.here hx rfl (hb hby at_34) rfl (teq hc34_4).2 ?_
    show Stp p e below s₁ m 37 #[.val (.int pi1), .val (.int pi2), .val (.int pi3), .val (.int pi4), .val (.int (2 : Int32)), .val (.int (4 : Int32)), .val (.int (15 : Int32)), .val (.int (pi2 &&& (15 : Int32))), .unset, .unset, .unset, .unset, .unset, .unset] [] _
    refine XS.iconst X0.here hx rfl (hb hby at_37) ?_
    show Stp p e below s₁ m 38 #[.val (.int pi1), .val (.int pi2), .val (.int pi3), .val (.int pi4), .val (.int (2 : Int32)), .val (.int (4 : Int32)), .val (.int (15 : Int32)), .val (.int (pi2 &&& (15 : Int32))), .unset, .unset, .unset, .unset, .unset, .unset] [(.int (1 : Int32))] _
    refine XS.goto X0.here hx rfl (pc0 := 38) (pc' := 42) rfl (hb hby at_38) (by decide) (by decide) ?_
    show Stp p e below s₁ m 42 #[.val (.int pi1), .val (.int pi2), .val (.int pi3), .val (.int pi4), .val (.int (2 : Int32)), .val (.int (4 : Int32)), .val (.int (15 : Int32)), .val (.int (pi2 &&& (15 : Int32))), .unset, .unset, .unset, .unset, .unset, .unset] [(.int (1 : Int32))] _
    refine XS.istore X0.here hx rfl (hb hby at_42) rfl (l' := #[.val (.int pi1), .val (.int pi2), .val (.int pi3), .val (.int pi4), .val (.int (2 : Int32)), .val (.int (4 : Int32)), .val (.int (15 : Int32)), .val (.int (pi2 &&& (15 : Int32))), .val (.int (1 : Int32)), .unset, .unset, .unset, .unset, .unset]) rfl ?_
    show Stp p e below s₁ m 44 #[.val (.int pi1), .val (.int pi2), .val (.int pi3), .val (.int pi4), .val (.int (2 : Int32)), .val (.int (4 : Int32)), .val (.int (15 : Int32)), .val (.int (pi2 &&& (15 : Int32))), .val (.int (1 : Int32)), .unset, .unset, .unset, .unset, .unset] [] _
    refine XS.iload X0.here hx rfl (hb hby at_44) rfl ?_
    show Stp p e below s₁ m 46 #[.val (.int pi1), .val (.int pi2), .val (.int pi3), .val (.int pi4), .val (.int (2 : Int32)), .val (.int (4 : Int32)), .val (.int (15 : Int32)), .val (.int (pi2 &&& (15 : Int32))), .val (.int (1 : Int32)), .unset, .unset, .unset, .unset, .unset] [(.int (2 : Int32))] _
    refine XS.iloadN X0.here hx rfl (hb hby at_46) rfl ?_
    show Stp p e below s₁ m 47 #[.val (.int pi1), .val (.int pi2), .val (.int pi3), .val (.int pi4), .val (.int (2 : Int32)), .val (.int (4 : Int32)), .val (.int (15 : Int32)), .val (.int (pi2 &&& (15 : Int32))), .val (.int (1 : Int32)), .unset, .unset, .unset, .unset, .unset] [(.int pi2), (.int (2 : Int32))] _
    refine st1 _ ?_
    show Stp p e below T1 m 50 #[.val (.int pi1), .val (.int pi2), .val (.int pi3), .val (.int pi4), .val (.int (2 : Int32)), .val (.int (4 : Int32)), .val (.int (15 : Int32)), .val (.int (pi2 &&& (15 : Int32))), .val (.int (1 : Int32)), .unset, .unset, .unset, .unset, .unset] [(.ref b1)] _
    refine XS.astore X1.here hx rfl (hb hby at_50) rfl rfl (l' := #[.val (.int pi1), .val (.int pi2), .val (.int pi3), .val (.int pi4), .val (.int (2 : Int32)), .val (.int (4 : Int32)), .val (.int (15 : Int32)), .val (.int (pi2 &&& (15 : Int32))), .val (.int (1 : Int32)), .val (.ref b1), .unset, .unset, .unset, .unset]) rfl ?_
    show Stp p e below T1 m 52 #[.val (.int pi1), .val (.int pi2), .val (.int pi3), .val (.int pi4), .val (.int (2 : Int32)), .val (.int (4 : Int32)), .val (.int (15 : Int32)), .val (.int (pi2 &&& (15 : Int32))), .val (.int (1 : Int32)), .val (.ref b1), .unset, .unset, .unset, .unset] [] _
    refine XS.iload X1.here hx rfl (hb hby at_52) rfl ?_
    show Stp p e below T1 m 54 #[.val (.int pi1), .val (.int pi2), .val (.int pi3), .val (.int pi4), .val (.int (2 : Int32)), .val (.int (4 : Int32)), .val (.int (15 : Int32)), .val (.int (pi2 &&& (15 : Int32))), .val (.int (1 : Int32)), .val (.ref b1), .unset, .unset, .unset, .unset] [(.int (2 : Int32))] _
    refine XS.iloadN X1.here hx rfl (hb hby at_54) rfl ?_
    show Stp p e below T1 m 55 #[.val (.int pi1), .val (.int pi2), .val (.int pi3), .val (.int pi4), .val (.int (2 : Int32)), .val (.int (4 : Int32)), .val (.int (15 : Int32)), .val (.int (pi2 &&& (15 : Int32))), .val (.int (1 : Int32)), .val (.ref b1), .unset, .unset, .unset, .unset] [(.int pi3), (.int (2 : Int32))] _
    refine st2 _ ?_
    show Stp p e below T2 m 58 #[.val (.int pi1), .val (.int pi2), .val (.int pi3), .val (.int pi4), .val (.int (2 : Int32)), .val (.int (4 : Int32)), .val (.int (15 : Int32)), .val (.int (pi2 &&& (15 : Int32))), .val (.int (1 : Int32)), .val (.ref b1), .unset, .unset, .unset, .unset] [(.ref b2)] _
    refine XS.astore X2.here hx rfl (hb hby at_58) rfl rfl (l' := #[.val (.int pi1), .val (.int pi2), .val (.int pi3), .val (.int pi4), .val (.int (2 : Int32)), .val (.int (4 : Int32)), .val (.int (15 : Int32)), .val (.int (pi2 &&& (15 : Int32))), .val (.int (1 : Int32)), .val (.ref b1), .val (.ref b2), .unset, .unset, .unset]) rfl ?_
    show Stp p e below T2 m 60 #[.val (.int pi1), .val (.int pi2), .val (.int pi3), .val (.int pi4), .val (.int (2 : Int32)), .val (.int (4 : Int32)), .val (.int (15 : Int32)), .val (.int (pi2 &&& (15 : Int32))), .val (.int (1 : Int32)), .val (.ref b1), .val (.ref b2), .unset, .unset, .unset] [] _
    refine XS.iloadN X2.here hx rfl (hb hby at_60) rfl ?_
    show Stp p e below T2 m 61 #[.val (.int pi1), .val (.int pi2), .val (.int pi3), .val (.int pi4), .val (.int (2 : Int32)), .val (.int (4 : Int32)), .val (.int (15 : Int32)), .val (.int (pi2 &&& (15 : Int32))), .val (.int (1 : Int32)), .val (.ref b1), .val (.ref b2), .unset, .unset, .unset] [(.int pi4)] _
    refine XS.i2s X2.here hx rfl (hb hby at_61) rfl ?_
    show Stp p e below T2 m 62 #[.val (.int pi1), .val (.int pi2), .val (.int pi3), .val (.int pi4), .val (.int (2 : Int32)), .val (.int (4 : Int32)), .val (.int (15 : Int32)), .val (.int (pi2 &&& (15 : Int32))), .val (.int (1 : Int32)), .val (.ref b1), .val (.ref b2), .unset, .unset, .unset] [(.int (pi4.toInt16.toInt32))] _
    refine XS.i2dS X2.here hx rfl (hb hby at_62) rfl rfl ?_
    show Stp p e below T2 m 63 #[.val (.int pi1), .val (.int pi2), .val (.int pi3), .val (.int pi4), .val (.int (2 : Int32)), .val (.int (4 : Int32)), .val (.int (15 : Int32)), .val (.int (pi2 &&& (15 : Int32))), .val (.int (1 : Int32)), .val (.ref b1), .val (.ref b2), .unset, .unset, .unset] [(.double (FP.i2d (pi4.toInt16.toInt32)))] _
    refine XS.dstore X2.here hx rfl (hb hby at_63) rfl (l' := #[.val (.int pi1), .val (.int pi2), .val (.int pi3), .val (.int pi4), .val (.int (2 : Int32)), .val (.int (4 : Int32)), .val (.int (15 : Int32)), .val (.int (pi2 &&& (15 : Int32))), .val (.int (1 : Int32)), .val (.ref b1), .val (.ref b2), .val (.double (FP.i2d (pi4.toInt16.toInt32))), .second, .unset]) rfl ?_
    show Stp p e below T2 m 65 #[.val (.int pi1), .val (.int pi2), .val (.int pi3), .val (.int pi4), .val (.int (2 : Int32)), .val (.int (4 : Int32)), .val (.int (15 : Int32)), .val (.int (pi2 &&& (15 : Int32))), .val (.int (1 : Int32)), .val (.ref b1), .val (.ref b2), .val (.double (FP.i2d (pi4.toInt16.toInt32))), .second, .unset] [] _
    refine st5 _ ?_
    show Stp p e below T5 m 68 #[.val (.int pi1), .val (.int pi2), .val (.int pi3), .val (.int pi4), .val (.int (2 : Int32)), .val (.int (4 : Int32)), .val (.int (15 : Int32)), .val (.int (pi2 &&& (15 : Int32))), .val (.int (1 : Int32)), .val (.ref b1), .val (.ref b2), .val (.double (FP.i2d (pi4.toInt16.toInt32))), .second, .unset] [(.ref b5)] _
    refine XS.dup X5.here hx rfl (hb hby at_68) rfl rfl ?_
    show Stp p e below T5 m 69 #[.val (.int pi1), .val (.int pi2), .val (.int pi3), .val (.int pi4), .val (.int (2 : Int32)), .val (.int (4 : Int32)), .val (.int (15 : Int32)), .val (.int (pi2 &&& (15 : Int32))), .val (.int (1 : Int32)), .val (.ref b1), .val (.ref b2), .val (.double (FP.i2d (pi4.toInt16.toInt32))), .second, .unset] [(.ref b5), (.ref b5)] _
    refine XS.dload X5.here hx rfl (hb hby at_69) rfl ?_
    show Stp p e below T5 m 71 #[.val (.int pi1), .val (.int pi2), .val (.int pi3), .val (.int pi4), .val (.int (2 : Int32)), .val (.int (4 : Int32)), .val (.int (15 : Int32)), .val (.int (pi2 &&& (15 : Int32))), .val (.int (1 : Int32)), .val (.ref b1), .val (.ref b2), .val (.double (FP.i2d (pi4.toInt16.toInt32))), .second, .unset] [(.double (FP.i2d (pi4.toInt16.toInt32))), (.ref b5), (.ref b5)] _
    refine XS.aload X5.here hx rfl (hb hby at_71) rfl rfl ?_
    show Stp p e below T5 m 73 #[.val (.int pi1), .val (.int pi2), .val (.int pi3), .val (.int pi4), .val (.int (2 : Int32)), .val (.int (4 : Int32)), .val (.int (15 : Int32)), .val (.int (pi2 &&& (15 : Int32))), .val (.int (1 : Int32)), .val (.ref b1), .val (.ref b2), .val (.double (FP.i2d (pi4.toInt16.toInt32))), .second, .unset] [(.ref b2), (.double (FP.i2d (pi4.toInt16.toInt32))), (.ref b5), (.ref b5)] _
    refine XS.aload X5.here hx rfl (hb hby at_73) rfl rfl ?_
    show Stp p e below T5 m 75 #[.val (.int pi1), .val (.int pi2), .val (.int pi3), .val (.int pi4), .val (.int (2 : Int32)), .val (.int (4 : Int32)), .val (.int (15 : Int32)), .val (.int (pi2 &&& (15 : Int32))), .val (.int (1 : Int32)), .val (.ref b1), .val (.ref b2), .val (.double (FP.i2d (pi4.toInt16.toInt32))), .second, .unset] [(.ref b1), (.ref b2), (.double (FP.i2d (pi4.toInt16.toInt32))), (.ref b5), (.ref b5)] _
    refine st10.trans ?_
    show Stp p e below T10 m 78 #[.val (.int pi1), .val (.int pi2), .val (.int pi3), .val (.int pi4), .val (.int (2 : Int32)), .val (.int (4 : Int32)), .val (.int (15 : Int32)), .val (.int (pi2 &&& (15 : Int32))), .val (.int (1 : Int32)), .val (.ref b1), .val (.ref b2), .val (.double (FP.i2d (pi4.toInt16.toInt32))), .second, .unset] [(.ref b5)] _
    refine XS.astore X10.here hx rfl (hb hby at_78) rfl rfl (l' := #[.val (.int pi1), .val (.int pi2), .val (.int pi3), .val (.int pi4), .val (.int (2 : Int32)), .val (.int (4 : Int32)), .val (.int (15 : Int32)), .val (.int (pi2 &&& (15 : Int32))), .val (.int (1 : Int32)), .val (.ref b1), .val (.ref b2), .val (.double (FP.i2d (pi4.toInt16.toInt32))), .second, .val (.ref b5)]) rfl ?_
    show Stp p e below T10 m 80 #[.val (.int pi1), .val (.int pi2), .val (.int pi3), .val (.int pi4), .val (.int (2 : Int32)), .val (.int (4 : Int32)), .val (.int (15 : Int32)), .val (.int (pi2 &&& (15 : Int32))), .val (.int (1 : Int32)), .val (.ref b1), .val (.ref b2), .val (.double (FP.i2d (pi4.toInt16.toInt32))), .second, .val (.ref b5)] [] _
    refine XS.aload X10.here hx rfl (hb hby at_80) rfl rfl ?_
    show Stp p e below T10 m 82 #[.val (.int pi1), .val (.int pi2), .val (.int pi3), .val (.int pi4), .val (.int (2 : Int32)), .val (.int (4 : Int32)), .val (.int (15 : Int32)), .val (.int (pi2 &&& (15 : Int32))), .val (.int (1 : Int32)), .val (.ref b1), .val (.ref b2), .val (.double (FP.i2d (pi4.toInt16.toInt32))), .second, .val (.ref b5)] [(.ref b5)] _
    refine st15.trans ?_
    show Stp p e below T15 m 85 #[.val (.int pi1), .val (.int pi2), .val (.int pi3), .val (.int pi4), .val (.int (2 : Int32)), .val (.int (4 : Int32)), .val (.int (15 : Int32)), .val (.int (pi2 &&& (15 : Int32))), .val (.int (1 : Int32)), .val (.ref b1), .val (.ref b2), .val (.double (FP.i2d (pi4.toInt16.toInt32))), .second, .val (.ref b5)] [(.int (own_ic2 (nar .boolean (own_bt pi2 (0 : Int32))) (nar .boolean (own_bt pi2 (1 : Int32))) (nar .boolean (own_bt pi2 (2 : Int32))) (nar .boolean (own_bt pi2 (3 : Int32)))))] _
    refine XS.iload X15.here hx rfl (hb hby at_85) rfl ?_
    show Stp p e below T15 m 87 #[.val (.int pi1), .val (.int pi2), .val (.int pi3), .val (.int pi4), .val (.int (2 : Int32)), .val (.int (4 : Int32)), .val (.int (15 : Int32)), .val (.int (pi2 &&& (15 : Int32))), .val (.int (1 : Int32)), .val (.ref b1), .val (.ref b2), .val (.double (FP.i2d (pi4.toInt16.toInt32))), .second, .val (.ref b5)] [(.int (1 : Int32)), (.int (own_ic2 (nar .boolean (own_bt pi2 (0 : Int32))) (nar .boolean (own_bt pi2 (1 : Int32))) (nar .boolean (own_bt pi2 (2 : Int32))) (nar .boolean (own_bt pi2 (3 : Int32)))))] _
    refine XS.icmpNo X15.here hx rfl (hb hby at_87) rfl (teq ((own_e2 pi2).trans ((if_neg hc27_3).trans (if_pos hc34_4)))).2 ?_
    show Stp p e below T15 m 90 #[.val (.int pi1), .val (.int pi2), .val (.int pi3), .val (.int pi4), .val (.int (2 : Int32)), .val (.int (4 : Int32)), .val (.int (15 : Int32)), .val (.int (pi2 &&& (15 : Int32))), .val (.int (1 : Int32)), .val (.ref b1), .val (.ref b2), .val (.double (FP.i2d (pi4.toInt16.toInt32))), .second, .val (.ref b5)] [] _
    refine XS.iconst X15.here hx rfl (hb hby at_90) ?_
    show Stp p e below T15 m 91 #[.val (.int pi1), .val (.int pi2), .val (.int pi3), .val (.int pi4), .val (.int (2 : Int32)), .val (.int (4 : Int32)), .val (.int (15 : Int32)), .val (.int (pi2 &&& (15 : Int32))), .val (.int (1 : Int32)), .val (.ref b1), .val (.ref b2), .val (.double (FP.i2d (pi4.toInt16.toInt32))), .second, .val (.ref b5)] [(.int (1 : Int32))] _
    refine XS.goto X15.here hx rfl (pc0 := 91) (pc' := 95) rfl (hb hby at_91) (by decide) (by decide) ?_
    show Stp p e below T15 m 95 #[.val (.int pi1), .val (.int pi2), .val (.int pi3), .val (.int pi4), .val (.int (2 : Int32)), .val (.int (4 : Int32)), .val (.int (15 : Int32)), .val (.int (pi2 &&& (15 : Int32))), .val (.int (1 : Int32)), .val (.ref b1), .val (.ref b2), .val (.double (FP.i2d (pi4.toInt16.toInt32))), .second, .val (.ref b5)] [(.int (1 : Int32))] _
    exact retN X15 hx (t := .boolean) Bd.returns (by simp) (hb hby at_95) hr
  · exact ⟨rfl, N15⟩
set_option maxRecDepth 65536 in
set_option maxHeartbeats 40000000 in
theorem rm0_fftff (l : Launch) (Z : State) (a0 : Array Value) (hw : ∀ d ∈ tables_1, d.before a0 Z = true) (ws : List Jvm.Cond) (pi1 : Int32) (pi2 : Int32) (pi3 : Int32) (pi4 : Int32) (h0 : Heap) (n0 : Nat) (Z0 : n0 ≤ h0.size) (O0 : Old Z n0 h0) (hc3_0 : ¬ ((pi1 &&& (3 : Int32)) = (0 : Int32))) (hc3_1 : ¬ ((pi1 &&& (3 : Int32)) = (1 : Int32))) (hc3_2 : (pi1 &&& (3 : Int32)) = (2 : Int32)) (hc27_3 : ¬ ((pi2 &&& (15 : Int32)) = (0 : Int32))) (hc34_4 : ¬ ((pi2 &&& (15 : Int32)) = (15 : Int32))) :
    MetFree l x (head1 (Jvm.Cond.code x code maxLocals ret :: ws) room_1) (fun a U => a = #[(.int pi1), (.int pi2), (.int pi3), (.int pi4)] ∧ Z.Warmed39 U.vm ∧ U.heap = h0) (fun _ _ _ _ _ => True) (fun _ U o U' => ∃ v L, o = .returned v ∧ Q0 v L n0 ∧ FrameEnd U o U' L room_1.cells room_1.slots) := by
  refine MetFree.of_bodySF (plainFor_of_name pn_0) hisR ?_
  intro p e s m args below meth c s₁ Bd hml0 hP hK
  obtain ⟨rfl, hZ, hh⟩ := hP
  have hx := Bd.exec
  have hby := Bd.bytes
  have hml : c.maxLocals = 14 := hml0
  have hown : s.vm.findClass "com/example/gudl/gudl/GroundFactorIsConstantPinLaw" = some m.cls := findClass_of_methodNamed Bd.named
  have hnm := (name_of_methodNamed Bd.named Bd.method).1
  have X0 : Stand p l e room_1 s m #[(.int pi1), (.int pi2), (.int pi3), (.int pi4)] below meth c s₁ [] 0 0 := Stand.of_body Bd
  have e0 : s₁.heap = h0 := by rw [← hh, Bd.state]; rfl
  have N0 := Fr.nil n0
  have pre0 : ∀ t, Steps p.tables e below (s₁.setTop (mkF m 0 #[.val (.int pi1), .val (.int pi2), .val (.int pi3), .val (.int pi4), .unset, .unset, .unset, .unset, .unset, .unset, .unset, .unset, .unset, .unset] [])) t → Steps p.tables e below (s₁.setTop (entryFrame m #[(.int pi1), (.int pi2), (.int pi3), (.int pi4)] maxLocals)) t := fun t k => castTop (ef_0 m pi1 pi2 pi3 pi4) k
  obtain ⟨_, _, ⟨T1, L1, k1, n1⟩, -, X1, ⟨Lc1, hQ1, l1, y1, z1⟩, st1⟩ := Jvm.LawKit.callS X0 hx (y := (⟨"com/example/gudl/gudl/GroundFactorIsConstantPinLaw", "truthArray", "(II)[Z"⟩ : MethodName)) hown (mvT hZ (own_W hw 0 rfl)) (mvT hZ (own_W hw 1 rfl)) (mvT hZ (own_W hw 2 rfl)) (mvT hZ (own_W hw 3 rfl)) (by decide) (backOf (W := 0) (rm1_2 l Z a0 hw [] (2 : Int32) pi2 h0 n0 Z0 O0 (by decide) (by decide) rfl) hZ (own_W hw 3 rfl) (own_W hw 2 rfl) (by decide) (by decide)) (g := (mkF m 47 #[.val (.int pi1), .val (.int pi2), .val (.int pi3), .val (.int pi4), .val (.int (2 : Int32)), .val (.int (4 : Int32)), .val (.int (15 : Int32)), .val (.int (pi2 &&& (15 : Int32))), .val (.int (0 : Int32)), .unset, .unset, .unset, .unset, .unset] [(.int pi2), (.int (2 : Int32))])) rfl (by rw [hml]; rfl) (argsL := [(.int (2 : Int32)), (.int pi2)]) (rest := []) (lenOf pd_0 rfl) rfl (by show 2 * 0 + _ ≤ _; exact Nat.le_of_eq rfl) (hb hby at_47) (fun _ _ => ⟨rfl, e0, (by decide : 0 + 1 ≤ _), (by decide : 0 + 4 ≤ _)⟩)
  dsimp only [Pt.U, Pt.locs, Pt.cells, Pt.slots] at X1 l1 y1 z1 st1 hQ1
  subst l1 y1 z1
  obtain ⟨b1, b1_1, rfl, N1q, K1, qf1_0, qf1_1⟩ := hQ1
  have N1 := Fr.app N0 N1q
  have z3 := Nat.le_trans Z0 K1.1
  have o4 := O0.keep K1 all0
  obtain ⟨_, _, ⟨T2, L2, k2, n2⟩, -, X2, ⟨Lc2, hQ2, l2, y2, z2⟩, st2⟩ := Jvm.LawKit.callS X1 hx (y := (⟨"com/example/gudl/gudl/GroundFactorIsConstantPinLaw", "atomArray", "(II)[I"⟩ : MethodName)) hown (mvT hZ (own_W hw 8 rfl)) (mvT hZ (own_W hw 9 rfl)) (mvT hZ (own_W hw 2 rfl)) (mvT hZ (own_W hw 10 rfl)) (by decide) (backOf (W := 0) (rm3_2 l Z a0 hw [] (2 : Int32) pi3 T1.heap n0 z3 o4 (by decide) (by decide) rfl) hZ (own_W hw 10 rfl) (own_W hw 2 rfl) (by decide) (by decide)) (g := (mkF m 55 #[.val (.int pi1), .val (.int pi2), .val (.int pi3), .val (.int pi4), .val (.int (2 : Int32)), .val (.int (4 : Int32)), .val (.int (15 : Int32)), .val (.int (pi2 &&& (15 : Int32))), .val (.int (0 : Int32)), .val (.ref b1), .unset, .unset, .unset, .unset] [(.int pi3), (.int (2 : Int32))])) rfl (by rw [hml]; rfl) (argsL := [(.int (2 : Int32)), (.int pi3)]) (rest := []) (lenOf pd_2 rfl) rfl (by show 2 * 0 + _ ≤ _; exact Nat.le_of_eq rfl) (hb hby at_55) (fun _ _ => ⟨rfl, rfl, (by decide : 1 + 1 ≤ _), (by decide : 4 + 2 ≤ _)⟩)
  dsimp only [Pt.U, Pt.locs, Pt.cells, Pt.slots] at X2 l2 y2 z2 st2 hQ2
  subst l2 y2 z2
  obtain ⟨b2, b2_1, rfl, N2q, K2, qf2_0, qf2_1⟩ := hQ2
  have N2 := Fr.app N1 N2q
  obtain ⟨T5, h5, X5, e5, E5, A5, D5, -, st5⟩ := newO X2 hx hZ hown (own_W hw 12 rfl) (own_W hw 13 rfl) (own_W hw 14 rfl) rfl (g := (mkF m 65 #[.val (.int pi1), .val (.int pi2), .val (.int pi3), .val (.int pi4), .val (.int (2 : Int32)), .val (.int (4 : Int32)), .val (.int (15 : Int32)), .val (.int (pi2 &&& (15 : Int32))), .val (.int (0 : Int32)), .val (.ref b1), .val (.ref b2), .val (.double (FP.i2d (pi4.toInt16.toInt32))), .second, .unset] [])) rfl (hb hby at_65) (by decide) (by decide)
  obtain ⟨b5, g5⟩ : ∃ z, z = T2.heap.size := ⟨_, rfl⟩
  rw [← g5] at A5 D5 st5
  have F_value_b5 : Fld Z h5 b5 "com/example/gudl/gudl/GroundFactor" "value" "D" (.double (0 : UInt64)) := D5 (Or.inr (own_W hw 22 rfl)) (ty := .double) (by decide)
  have F_atoms_b5 : Fld Z h5 b5 "com/example/gudl/gudl/GroundFactor" "atoms" "[I" .null := D5 (Or.inr (own_W hw 24 rfl)) (ty := (.array .int)) (by decide)
  have F_truth_b5 : Fld Z h5 b5 "com/example/gudl/gudl/GroundFactor" "truth" "[Z" .null := D5 (Or.inr (own_W hw 26 rfl)) (ty := (.array .boolean)) (by decide)
  have f6 := qf2_1.ext E5
  have f7 := qf1_1.keep K2 nin0
  have f8 := f7.ext E5
  have z9 := Nat.le_trans z3 K2.1
  have g_b5 : n0 ≤ b5 := Nat.le_trans z9 (Nat.le_of_eq g5.symm)
  have z11 := Nat.le_trans z9 E5.1
  have o12 := o4.keep K2 all0
  have o13 := o12.ext E5
  obtain ⟨_, _, ⟨T10, L10, k10, n10⟩, -, X10, ⟨Lc10, hQ10, l10, y10, z10⟩, st10⟩ := X5.specialBack hx (y := (⟨"com/example/gudl/gudl/GroundFactor", "<init>", "(D[I[Z)V"⟩ : MethodName)) rfl hown (mvT hZ (own_W hw 15 rfl)) (mvT hZ (own_W hw 16 rfl)) (mvT hZ (own_W hw 17 rfl)) (by decide) (backOf (W := 1) (rm4_2 l Z a0 hw [] b5 (FP.i2d (pi4.toInt16.toInt32)) b2 b1 b2_1 pi3 (pi3 + (1 : Int32)) b1_1 (nar .boolean (own_bt pi2 (0 : Int32))) (nar .boolean (own_bt pi2 (1 : Int32))) (nar .boolean (own_bt pi2 (2 : Int32))) (nar .boolean (own_bt pi2 (3 : Int32))) (.double (0 : UInt64)) .null .null h5 n0 z11 o13 f6 f8 A5 F_value_b5 g_b5 F_atoms_b5 F_truth_b5) hZ (own_W hw 17 rfl) (own_W hw 14 rfl) (by decide) (by decide)) (g := (mkF m 75 #[.val (.int pi1), .val (.int pi2), .val (.int pi3), .val (.int pi4), .val (.int (2 : Int32)), .val (.int (4 : Int32)), .val (.int (15 : Int32)), .val (.int (pi2 &&& (15 : Int32))), .val (.int (0 : Int32)), .val (.ref b1), .val (.ref b2), .val (.double (FP.i2d (pi4.toInt16.toInt32))), .second, .unset] [(.ref b1), (.ref b2), (.double (FP.i2d (pi4.toInt16.toInt32))), (.ref b5), (.ref b5)])) rfl (by rw [hml]; rfl) (Steps.refl _) (a := b5) (argsL := [(.double (FP.i2d (pi4.toInt16.toInt32))), (.ref b2), (.ref b1)]) (rest := [(.ref b5)]) (lenOf pd_3 rfl) rfl (by show 2 * 0 + _ ≤ _; exact Nat.le_of_eq rfl) (hb hby at_75) (fun _ _ => ⟨rfl, e5, (by decide : 3 + 0 ≤ _), (by decide : 9 + 0 ≤ _)⟩)
  dsimp only [Pt.U, Pt.locs, Pt.cells, Pt.slots] at X10 l10 y10 z10 st10 hQ10
  subst l10 y10 z10
  obtain ⟨rfl, N10q, K10, qf10_0, qf10_1, qf10_2, qf10_3⟩ := hQ10
  have N10 := Fr.app N2 N10q
  have f14 := f8.keep K10 (ninS (Nat.ne_of_lt (Nat.lt_of_lt_of_le f7.lt (Nat.le_of_eq g5.symm))) nin0)
  have z16 := Nat.le_trans z11 K10.1
  have o17 := o13.keep K10 (allS g_b5 all0)
  obtain ⟨cq15, kq15, q15a, q15b, q15c⟩ := isOf hZ rfl qf10_0
  obtain ⟨_, _, ⟨T15, L15, k15, n15⟩, -, X15, ⟨Lc15, hQ15, l15, y15, z15⟩, st15⟩ := X10.virtualBack hx (y := (⟨"com/example/gudl/gudl/GroundFactor", "isConstant", "()Z"⟩ : MethodName)) (z := (⟨"com/example/gudl/gudl/GroundFactor", "isConstant", "()Z"⟩ : MethodName)) hown (mvT hZ (own_W hw 27 rfl)) (mvT hZ (own_W hw 28 rfl)) (notFace_of_selects (args := #[]) (mvT hZ (own_W hw 30 rfl))) (mvT hZ (own_W hw 30 rfl)) (mvT hZ (own_W hw 29 rfl)) (by decide) (backOf (W := 0) (rm6k2 l Z a0 hw [] b5 b1 b1_1 (nar .boolean (own_bt pi2 (0 : Int32))) (nar .boolean (own_bt pi2 (1 : Int32))) (nar .boolean (own_bt pi2 (2 : Int32))) (nar .boolean (own_bt pi2 (3 : Int32))) T10.heap n0 z16 o17 qf10_3 f14) hZ (own_W hw 31 rfl) (own_W hw 14 rfl) (by decide) (by decide)) q15a q15c (g := (mkF m 82 #[.val (.int pi1), .val (.int pi2), .val (.int pi3), .val (.int pi4), .val (.int (2 : Int32)), .val (.int (4 : Int32)), .val (.int (15 : Int32)), .val (.int (pi2 &&& (15 : Int32))), .val (.int (0 : Int32)), .val (.ref b1), .val (.ref b2), .val (.double (FP.i2d (pi4.toInt16.toInt32))), .second, .val (.ref b5)] [(.ref b5)])) rfl (by rw [hml]; rfl) (Steps.refl _) (argsL := []) (rest := []) (lenOf pd_5 rfl) rfl (by show 2 * 0 + _ ≤ _; exact Nat.le_of_eq rfl) (hb hby at_82) (fun _ _ => ⟨rfl, rfl, (by decide : 3 + 0 ≤ _), (by decide : 9 + 0 ≤ _)⟩)
  dsimp only [Pt.U, Pt.locs, Pt.cells, Pt.slots] at X15 l15 y15 z15 st15 hQ15
  subst l15 y15 z15
  obtain ⟨rfl, N15q, eq15⟩ := hQ15
  have N15 := Fr.app N10 N15q
  obtain ⟨fs, hr, hrun, hended, hW, hsame⟩ := X15.leave (v := some (.int (1 : Int32))) (fun h => by rw [Bd.returns] at h; cases h)
  refine ⟨_, _, pre0 _ ?_, hrun, hended, _, _, rfl, ?_, ⟨_, rfl⟩, hW, hsame.mono (by decide) (by decide)⟩
  · show Stp p e below s₁ m 0 #[.val (.int pi1), .val (.int pi2), .val (.int pi3), .val (.int pi4), .unset, .unset, .unset, .unset, .unset, .unset, .unset, .unset, .unset, .unset] [] _
    refine XS.iloadN X0.here hx rfl (hb hby at_0) rfl ?_
    show Stp p e below s₁ m 1 #[.val (.int pi1), .val (.int pi2), .val (.int pi3), .val (.int pi4), .unset, .unset, .unset, .unset, .unset, .unset, .unset, .unset, .unset, .unset] [(.int pi1)] _
    refine XS.iconst X0.here hx rfl (hb hby at_1) ?_
    show Stp p e below s₁ m 2 #[.val (.int pi1), .val (.int pi2), .val (.int pi3), .val (.int pi4), .unset, .unset, .unset, .unset, .unset, .unset, .unset, .unset, .unset, .unset] [(.int (3 : Int32)), (.int pi1)] _
    refine XS.iand X0.here hx rfl (hb hby at_2) rfl ?_
    show Stp p e below s₁ m 3 #[.val (.int pi1), .val (.int pi2), .val (.int pi3), .val (.int pi4), .unset, .unset, .unset, .unset, .unset, .unset, .unset, .unset, .unset, .unset] [(.int (pi1 &&& (3 : Int32)))] _
    refine XS.istore X0.here hx rfl (hb hby at_3) rfl (l' := #[.val (.int pi1), .val (.int pi2), .val (.int pi3), .val (.int pi4), .val (.int (pi1 &&& (3 : Int32))), .unset, .unset, .unset, .unset, .unset, .unset, .unset, .unset, .unset]) rfl ?_
    show Stp p e below s₁ m 5 #[.val (.int pi1), .val (.int pi2), .val (.int pi3), .val (.int pi4), .val (.int (pi1 &&& (3 : Int32))), .unset, .unset, .unset, .unset, .unset, .unset, .unset, .unset, .unset] [] _
    rw [show (pi1 &&& (3 : Int32)) = (2 : Int32) from hc3_2]
    show Stp p e below s₁ m 5 #[.val (.int pi1), .val (.int pi2), .val (.int pi3), .val (.int pi4), .val (.int (2 : Int32)), .unset, .unset, .unset, .unset, .unset, .unset, .unset, .unset, .unset] [] _
    refine XS.iconst X0.here hx rfl (hb hby at_5) ?_
    show Stp p e below s₁ m 6 #[.val (.int pi1), .val (.int pi2), .val (.int pi3), .val (.int pi4), .val (.int (2 : Int32)), .unset, .unset, .unset, .unset, .unset, .unset, .unset, .unset, .unset] [(.int (1 : Int32))] _
    refine XS.iload X0.here hx rfl (hb hby at_6) rfl ?_
    show Stp p e below s₁ m 8 #[.val (.int pi1), .val (.int pi2), .val (.int pi3), .val (.int pi4), .val (.int (2 : Int32)), .unset, .unset, .unset, .unset, .unset, .unset, .unset, .unset, .unset] [(.int (2 : Int32)), (.int (1 : Int32))] _
    refine XS.ishl X0.here hx rfl (hb hby at_8) rfl ?_
    show Stp p e below s₁ m 9 #[.val (.int pi1), .val (.int pi2), .val (.int pi3), .val (.int pi4), .val (.int (2 : Int32)), .unset, .unset, .unset, .unset, .unset, .unset, .unset, .unset, .unset] [(.int (4 : Int32))] _
    refine XS.istore X0.here hx rfl (hb hby at_9) rfl (l' := #[.val (.int pi1), .val (.int pi2), .val (.int pi3), .val (.int pi4), .val (.int (2 : Int32)), .val (.int (4 : Int32)), .unset, .unset, .unset, .unset, .unset, .unset, .unset, .unset]) rfl ?_
    show Stp p e below s₁ m 11 #[.val (.int pi1), .val (.int pi2), .val (.int pi3), .val (.int pi4), .val (.int (2 : Int32)), .val (.int (4 : Int32)), .unset, .unset, .unset, .unset, .unset, .unset, .unset, .unset] [] _
    refine XS.iconst X0.here hx rfl (hb hby at_11) ?_
    show Stp p e below s₁ m 12 #[.val (.int pi1), .val (.int pi2), .val (.int pi3), .val (.int pi4), .val (.int (2 : Int32)), .val (.int (4 : Int32)), .unset, .unset, .unset, .unset, .unset, .unset, .unset, .unset] [(.int (1 : Int32))] _
    refine XS.iload X0.here hx rfl (hb hby at_12) rfl ?_
    show Stp p e below s₁ m 14 #[.val (.int pi1), .val (.int pi2), .val (.int pi3), .val (.int pi4), .val (.int (2 : Int32)), .val (.int (4 : Int32)), .unset, .unset, .unset, .unset, .unset, .unset, .unset, .unset] [(.int (4 : Int32)), (.int (1 : Int32))] _
    refine XS.ishl X0.here hx rfl (hb hby at_14) rfl ?_
    show Stp p e below s₁ m 15 #[.val (.int pi1), .val (.int pi2), .val (.int pi3), .val (.int pi4), .val (.int (2 : Int32)), .val (.int (4 : Int32)), .unset, .unset, .unset, .unset, .unset, .unset, .unset, .unset] [(.int (16 : Int32))] _
    refine XS.iconst X0.here hx rfl (hb hby at_15) ?_
    show Stp p e below s₁ m 16 #[.val (.int pi1), .val (.int pi2), .val (.int pi3), .val (.int pi4), .val (.int (2 : Int32)), .val (.int (4 : Int32)), .unset, .unset, .unset, .unset, .unset, .unset, .unset, .unset] [(.int (1 : Int32)), (.int (16 : Int32))] _
    refine XS.isub X0.here hx rfl (hb hby at_16) rfl ?_
    show Stp p e below s₁ m 17 #[.val (.int pi1), .val (.int pi2), .val (.int pi3), .val (.int pi4), .val (.int (2 : Int32)), .val (.int (4 : Int32)), .unset, .unset, .unset, .unset, .unset, .unset, .unset, .unset] [(.int (15 : Int32))] _
    refine XS.istore X0.here hx rfl (hb hby at_17) rfl (l' := #[.val (.int pi1), .val (.int pi2), .val (.int pi3), .val (.int pi4), .val (.int (2 : Int32)), .val (.int (4 : Int32)), .val (.int (15 : Int32)), .unset, .unset, .unset, .unset, .unset, .unset, .unset]) rfl ?_
    show Stp p e below s₁ m 19 #[.val (.int pi1), .val (.int pi2), .val (.int pi3), .val (.int pi4), .val (.int (2 : Int32)), .val (.int (4 : Int32)), .val (.int (15 : Int32)), .unset, .unset, .unset, .unset, .unset, .unset, .unset] [] _
    refine XS.iloadN X0.here hx rfl (hb hby at_19) rfl ?_
    show Stp p e below s₁ m 20 #[.val (.int pi1), .val (.int pi2), .val (.int pi3), .val (.int pi4), .val (.int (2 : Int32)), .val (.int (4 : Int32)), .val (.int (15 : Int32)), .unset, .unset, .unset, .unset, .unset, .unset, .unset] [(.int pi2)] _
    refine XS.iload X0.here hx rfl (hb hby at_20) rfl ?_
    show Stp p e below s₁ m 22 #[.val (.int pi1), .val (.int pi2), .val (.int pi3), .val (.int pi4), .val (.int (2 : Int32)), .val (.int (4 : Int32)), .val (.int (15 : Int32)), .unset, .unset, .unset, .unset, .unset, .unset, .unset] [(.int (15 : Int32)), (.int pi2)] _
    refine XS.iand X0.here hx rfl (hb hby at_22) rfl ?_
    show Stp p e below s₁ m 23 #[.val (.int pi1), .val (.int pi2), .val (.int pi3), .val (.int pi4), .val (.int (2 : Int32)), .val (.int (4 : Int32)), .val (.int (15 : Int32)), .unset, .unset, .unset, .unset, .unset, .unset, .unset] [(.int (pi2 &&& (15 : Int32)))] _
    refine XS.istore X0.here hx rfl (hb hby at_23) rfl (l' := #[.val (.int pi1), .val (.int pi2), .val (.int pi3), .val (.int pi4), .val (.int (2 : Int32)), .val (.int (4 : Int32)), .val (.int (15 : Int32)), .val (.int (pi2 &&& (15 : Int32))), .unset, .unset, .unset, .unset, .unset, .unset]) rfl ?_
    show Stp p e below s₁ m 25 #[.val (.int pi1), .val (.int pi2), .val (.int pi3), .val (.int pi4), .val (.int (2 : Int32)), .val (.int (4 : Int32)), .val (.int (15 : Int32)), .val (.int (pi2 &&& (15 : Int32))), .unset, .unset, .unset, .unset, .unset, .unset] [] _
    refine XS.iload X0.here hx rfl (hb hby at_25) rfl ?_
    show Stp p e below s₁ m 27 #[.val (.int pi1), .val (.int pi2), .val (.int pi3), .val (.int pi4), .val (.int (2 : Int32)), .val (.int (4 : Int32)), .val (.int (15 : Int32)), .val (.int (pi2 &&& (15 : Int32))), .unset, .unset, .unset, .unset, .unset, .unset] [(.int (pi2 &&& (15 : Int32)))] _
    refine XS.ifNo X0.here hx rfl (hb hby at_27) rfl ((if0 _ _).trans (feq hc27_3).1) ?_
    show Stp p e below s₁ m 30 #[.val (.int pi1), .val (.int pi2), .val (.int pi3), .val (.int pi4), .val (.int (2 : Int32)), .val (.int (4 : Int32)), .val (.int (15 : Int32)), .val (.int (pi2 &&& (15 : Int32))), .unset, .unset, .unset, .unset, .unset, .unset] [] _
    refine XS.iload X0.here hx rfl (hb hby at_30) rfl ?_
    show Stp p e below s₁ m 32 #[.val (.int pi1), .val (.int pi2), .val (.int pi3), .val (.int pi4), .val (.int (2 : Int32)), .val (.int (4 : Int32)), .val (.int (15 : Int32)), .val (.int (pi2 &&& (15 : Int32))), .unset, .unset, .unset, .unset, .unset, .unset] [(.int (pi2 &&& (15 : Int32)))] _
    refine XS.iload X0.here hx rfl (hb hby at_32) rfl ?_
    show Stp p e below s₁ m 34 #[.val (.int pi1), .val (.int pi2), .val (.int pi3), .val (.int pi4), .val (.int (2 : Int32)), .val (.int (4 : Int32)), .val (.int (15 : Int32)), .val (.int (pi2 &&& (15 : Int32))), .unset, .unset, .unset, .unset, .unset, .unset] [(.int (15 : Int32)), (.int (pi2 &&& (15 : Int32)))] _
    refine XS.icmpYes X0.here hx rfl (pc0 := 34) (pc' := 41) rfl (hb hby at_34) rfl (feq hc34_4).2 (by decide) (by decide) ?_
    show Stp p e below s₁ m 41 #[.val (.int pi1), .val (.int pi2), .val (.int pi3), .val (.int pi4), .val (.int (2 : Int32)), .val (.int (4 : Int32)), .val (.int (15 : Int32)), .val (.int (pi2 &&& (15 : Int32))), .unset, .unset, .unset, .unset, .unset, .unset] [] _
    refine XS.iconst X0.here hx rfl (hb hby at_41) ?_
    show Stp p e below s₁ m 42 #[.val (.int pi1), .val (.int pi2), .val (.int pi3), .val (.int pi4), .val (.int (2 : Int32)), .val (.int (4 : Int32)), .val (.int (15 : Int32)), .val (.int (pi2 &&& (15 : Int32))), .unset, .unset, .unset, .unset, .unset, .unset] [(.int (0 : Int32))] _
    refine XS.istore X0.here hx rfl (hb hby at_42) rfl (l' := #[.val (.int pi1), .val (.int pi2), .val (.int pi3), .val (.int pi4), .val (.int (2 : Int32)), .val (.int (4 : Int32)), .val (.int (15 : Int32)), .val (.int (pi2 &&& (15 : Int32))), .val (.int (0 : Int32)), .unset, .unset, .unset, .unset, .unset]) rfl ?_
    show Stp p e below s₁ m 44 #[.val (.int pi1), .val (.int pi2), .val (.int pi3), .val (.int pi4), .val (.int (2 : Int32)), .val (.int (4 : Int32)), .val (.int (15 : Int32)), .val (.int (pi2 &&& (15 : Int32))), .val (.int (0 : Int32)), .unset, .unset, .unset, .unset, .unset] [] _
    refine XS.iload X0.here hx rfl (hb hby at_44) rfl ?_
    show Stp p e below s₁ m 46 #[.val (.int pi1), .val (.int pi2), .val (.int pi3), .val (.int pi4), .val (.int (2 : Int32)), .val (.int (4 : Int32)), .val (.int (15 : Int32)), .val (.int (pi2 &&& (15 : Int32))), .val (.int (0 : Int32)), .unset, .unset, .unset, .unset, .unset] [(.int (2 : Int32))] _
    refine XS.iloadN X0.here hx rfl (hb hby at_46) rfl ?_
    show Stp p e below s₁ m 47 #[.val (.int pi1), .val (.int pi2), .val (.int pi3), .val (.int pi4), .val (.int (2 : Int32)), .val (.int (4 : Int32)), .val (.int (15 : Int32)), .val (.int (pi2 &&& (15 : Int32))), .val (.int (0 : Int32)), .unset, .unset, .unset, .unset, .unset] [(.int pi2), (.int (2 : Int32))] _
    refine st1 _ ?_
    show Stp p e below T1 m 50 #[.val (.int pi1), .val (.int pi2), .val (.int pi3), .val (.int pi4), .val (.int (2 : Int32)), .val (.int (4 : Int32)), .val (.int (15 : Int32)), .val (.int (pi2 &&& (15 : Int32))), .val (.int (0 : Int32)), .unset, .unset, .unset, .unset, .unset] [(.ref b1)] _
    refine XS.astore X1.here hx rfl (hb hby at_50) rfl rfl (l' := #[.val (.int pi1), .val (.int pi2), .val (.int pi3), .val (.int pi4), .val (.int (2 : Int32)), .val (.int (4 : Int32)), .val (.int (15 : Int32)), .val (.int (pi2 &&& (15 : Int32))), .val (.int (0 : Int32)), .val (.ref b1), .unset, .unset, .unset, .unset]) rfl ?_
    show Stp p e below T1 m 52 #[.val (.int pi1), .val (.int pi2), .val (.int pi3), .val (.int pi4), .val (.int (2 : Int32)), .val (.int (4 : Int32)), .val (.int (15 : Int32)), .val (.int (pi2 &&& (15 : Int32))), .val (.int (0 : Int32)), .val (.ref b1), .unset, .unset, .unset, .unset] [] _
    refine XS.iload X1.here hx rfl (hb hby at_52) rfl ?_
    show Stp p e below T1 m 54 #[.val (.int pi1), .val (.int pi2), .val (.int pi3), .val (.int pi4), .val (.int (2 : Int32)), .val (.int (4 : Int32)), .val (.int (15 : Int32)), .val (.int (pi2 &&& (15 : Int32))), .val (.int (0 : Int32)), .val (.ref b1), .unset, .unset, .unset, .unset] [(.int (2 : Int32))] _
    refine XS.iloadN X1.here hx rfl (hb hby at_54) rfl ?_
    show Stp p e below T1 m 55 #[.val (.int pi1), .val (.int pi2), .val (.int pi3), .val (.int pi4), .val (.int (2 : Int32)), .val (.int (4 : Int32)), .val (.int (15 : Int32)), .val (.int (pi2 &&& (15 : Int32))), .val (.int (0 : Int32)), .val (.ref b1), .unset, .unset, .unset, .unset] [(.int pi3), (.int (2 : Int32))] _
    refine st2 _ ?_
    show Stp p e below T2 m 58 #[.val (.int pi1), .val (.int pi2), .val (.int pi3), .val (.int pi4), .val (.int (2 : Int32)), .val (.int (4 : Int32)), .val (.int (15 : Int32)), .val (.int (pi2 &&& (15 : Int32))), .val (.int (0 : Int32)), .val (.ref b1), .unset, .unset, .unset, .unset] [(.ref b2)] _
    refine XS.astore X2.here hx rfl (hb hby at_58) rfl rfl (l' := #[.val (.int pi1), .val (.int pi2), .val (.int pi3), .val (.int pi4), .val (.int (2 : Int32)), .val (.int (4 : Int32)), .val (.int (15 : Int32)), .val (.int (pi2 &&& (15 : Int32))), .val (.int (0 : Int32)), .val (.ref b1), .val (.ref b2), .unset, .unset, .unset]) rfl ?_
    show Stp p e below T2 m 60 #[.val (.int pi1), .val (.int pi2), .val (.int pi3), .val (.int pi4), .val (.int (2 : Int32)), .val (.int (4 : Int32)), .val (.int (15 : Int32)), .val (.int (pi2 &&& (15 : Int32))), .val (.int (0 : Int32)), .val (.ref b1), .val (.ref b2), .unset, .unset, .unset] [] _
    refine XS.iloadN X2.here hx rfl (hb hby at_60) rfl ?_
    show Stp p e below T2 m 61 #[.val (.int pi1), .val (.int pi2), .val (.int pi3), .val (.int pi4), .val (.int (2 : Int32)), .val (.int (4 : Int32)), .val (.int (15 : Int32)), .val (.int (pi2 &&& (15 : Int32))), .val (.int (0 : Int32)), .val (.ref b1), .val (.ref b2), .unset, .unset, .unset] [(.int pi4)] _
    refine XS.i2s X2.here hx rfl (hb hby at_61) rfl ?_
    show Stp p e below T2 m 62 #[.val (.int pi1), .val (.int pi2), .val (.int pi3), .val (.int pi4), .val (.int (2 : Int32)), .val (.int (4 : Int32)), .val (.int (15 : Int32)), .val (.int (pi2 &&& (15 : Int32))), .val (.int (0 : Int32)), .val (.ref b1), .val (.ref b2), .unset, .unset, .unset] [(.int (pi4.toInt16.toInt32))] _
    refine XS.i2dS X2.here hx rfl (hb hby at_62) rfl rfl ?_
    show Stp p e below T2 m 63 #[.val (.int pi1), .val (.int pi2), .val (.int pi3), .val (.int pi4), .val (.int (2 : Int32)), .val (.int (4 : Int32)), .val (.int (15 : Int32)), .val (.int (pi2 &&& (15 : Int32))), .val (.int (0 : Int32)), .val (.ref b1), .val (.ref b2), .unset, .unset, .unset] [(.double (FP.i2d (pi4.toInt16.toInt32)))] _
    refine XS.dstore X2.here hx rfl (hb hby at_63) rfl (l' := #[.val (.int pi1), .val (.int pi2), .val (.int pi3), .val (.int pi4), .val (.int (2 : Int32)), .val (.int (4 : Int32)), .val (.int (15 : Int32)), .val (.int (pi2 &&& (15 : Int32))), .val (.int (0 : Int32)), .val (.ref b1), .val (.ref b2), .val (.double (FP.i2d (pi4.toInt16.toInt32))), .second, .unset]) rfl ?_
    show Stp p e below T2 m 65 #[.val (.int pi1), .val (.int pi2), .val (.int pi3), .val (.int pi4), .val (.int (2 : Int32)), .val (.int (4 : Int32)), .val (.int (15 : Int32)), .val (.int (pi2 &&& (15 : Int32))), .val (.int (0 : Int32)), .val (.ref b1), .val (.ref b2), .val (.double (FP.i2d (pi4.toInt16.toInt32))), .second, .unset] [] _
    refine st5 _ ?_
    show Stp p e below T5 m 68 #[.val (.int pi1), .val (.int pi2), .val (.int pi3), .val (.int pi4), .val (.int (2 : Int32)), .val (.int (4 : Int32)), .val (.int (15 : Int32)), .val (.int (pi2 &&& (15 : Int32))), .val (.int (0 : Int32)), .val (.ref b1), .val (.ref b2), .val (.double (FP.i2d (pi4.toInt16.toInt32))), .second, .unset] [(.ref b5)] _
    refine XS.dup X5.here hx rfl (hb hby at_68) rfl rfl ?_
    show Stp p e below T5 m 69 #[.val (.int pi1), .val (.int pi2), .val (.int pi3), .val (.int pi4), .val (.int (2 : Int32)), .val (.int (4 : Int32)), .val (.int (15 : Int32)), .val (.int (pi2 &&& (15 : Int32))), .val (.int (0 : Int32)), .val (.ref b1), .val (.ref b2), .val (.double (FP.i2d (pi4.toInt16.toInt32))), .second, .unset] [(.ref b5), (.ref b5)] _
    refine XS.dload X5.here hx rfl (hb hby at_69) rfl ?_
    show Stp p e below T5 m 71 #[.val (.int pi1), .val (.int pi2), .val (.int pi3), .val (.int pi4), .val (.int (2 : Int32)), .val (.int (4 : Int32)), .val (.int (15 : Int32)), .val (.int (pi2 &&& (15 : Int32))), .val (.int (0 : Int32)), .val (.ref b1), .val (.ref b2), .val (.double (FP.i2d (pi4.toInt16.toInt32))), .second, .unset] [(.double (FP.i2d (pi4.toInt16.toInt32))), (.ref b5), (.ref b5)] _
    refine XS.aload X5.here hx rfl (hb hby at_71) rfl rfl ?_
    show Stp p e below T5 m 73 #[.val (.int pi1), .val (.int pi2), .val (.int pi3), .val (.int pi4), .val (.int (2 : Int32)), .val (.int (4 : Int32)), .val (.int (15 : Int32)), .val (.int (pi2 &&& (15 : Int32))), .val (.int (0 : Int32)), .val (.ref b1), .val (.ref b2), .val (.double (FP.i2d (pi4.toInt16.toInt32))), .second, .unset] [(.ref b2), (.double (FP.i2d (pi4.toInt16.toInt32))), (.ref b5), (.ref b5)] _
    refine XS.aload X5.here hx rfl (hb hby at_73) rfl rfl ?_
    show Stp p e below T5 m 75 #[.val (.int pi1), .val (.int pi2), .val (.int pi3), .val (.int pi4), .val (.int (2 : Int32)), .val (.int (4 : Int32)), .val (.int (15 : Int32)), .val (.int (pi2 &&& (15 : Int32))), .val (.int (0 : Int32)), .val (.ref b1), .val (.ref b2), .val (.double (FP.i2d (pi4.toInt16.toInt32))), .second, .unset] [(.ref b1), (.ref b2), (.double (FP.i2d (pi4.toInt16.toInt32))), (.ref b5), (.ref b5)] _
    refine st10.trans ?_
    show Stp p e below T10 m 78 #[.val (.int pi1), .val (.int pi2), .val (.int pi3), .val (.int pi4), .val (.int (2 : Int32)), .val (.int (4 : Int32)), .val (.int (15 : Int32)), .val (.int (pi2 &&& (15 : Int32))), .val (.int (0 : Int32)), .val (.ref b1), .val (.ref b2), .val (.double (FP.i2d (pi4.toInt16.toInt32))), .second, .unset] [(.ref b5)] _
    refine XS.astore X10.here hx rfl (hb hby at_78) rfl rfl (l' := #[.val (.int pi1), .val (.int pi2), .val (.int pi3), .val (.int pi4), .val (.int (2 : Int32)), .val (.int (4 : Int32)), .val (.int (15 : Int32)), .val (.int (pi2 &&& (15 : Int32))), .val (.int (0 : Int32)), .val (.ref b1), .val (.ref b2), .val (.double (FP.i2d (pi4.toInt16.toInt32))), .second, .val (.ref b5)]) rfl ?_
    show Stp p e below T10 m 80 #[.val (.int pi1), .val (.int pi2), .val (.int pi3), .val (.int pi4), .val (.int (2 : Int32)), .val (.int (4 : Int32)), .val (.int (15 : Int32)), .val (.int (pi2 &&& (15 : Int32))), .val (.int (0 : Int32)), .val (.ref b1), .val (.ref b2), .val (.double (FP.i2d (pi4.toInt16.toInt32))), .second, .val (.ref b5)] [] _
    refine XS.aload X10.here hx rfl (hb hby at_80) rfl rfl ?_
    show Stp p e below T10 m 82 #[.val (.int pi1), .val (.int pi2), .val (.int pi3), .val (.int pi4), .val (.int (2 : Int32)), .val (.int (4 : Int32)), .val (.int (15 : Int32)), .val (.int (pi2 &&& (15 : Int32))), .val (.int (0 : Int32)), .val (.ref b1), .val (.ref b2), .val (.double (FP.i2d (pi4.toInt16.toInt32))), .second, .val (.ref b5)] [(.ref b5)] _
    refine st15.trans ?_
    show Stp p e below T15 m 85 #[.val (.int pi1), .val (.int pi2), .val (.int pi3), .val (.int pi4), .val (.int (2 : Int32)), .val (.int (4 : Int32)), .val (.int (15 : Int32)), .val (.int (pi2 &&& (15 : Int32))), .val (.int (0 : Int32)), .val (.ref b1), .val (.ref b2), .val (.double (FP.i2d (pi4.toInt16.toInt32))), .second, .val (.ref b5)] [(.int (own_ic2 (nar .boolean (own_bt pi2 (0 : Int32))) (nar .boolean (own_bt pi2 (1 : Int32))) (nar .boolean (own_bt pi2 (2 : Int32))) (nar .boolean (own_bt pi2 (3 : Int32)))))] _
    refine XS.iload X15.here hx rfl (hb hby at_85) rfl ?_
    show Stp p e below T15 m 87 #[.val (.int pi1), .val (.int pi2), .val (.int pi3), .val (.int pi4), .val (.int (2 : Int32)), .val (.int (4 : Int32)), .val (.int (15 : Int32)), .val (.int (pi2 &&& (15 : Int32))), .val (.int (0 : Int32)), .val (.ref b1), .val (.ref b2), .val (.double (FP.i2d (pi4.toInt16.toInt32))), .second, .val (.ref b5)] [(.int (0 : Int32)), (.int (own_ic2 (nar .boolean (own_bt pi2 (0 : Int32))) (nar .boolean (own_bt pi2 (1 : Int32))) (nar .boolean (own_bt pi2 (2 : Int32))) (nar .boolean (own_bt pi2 (3 : Int32)))))] _
    refine XS.icmpNo X15.here hx rfl (hb hby at_87) rfl (teq ((own_e2 pi2).trans ((if_neg hc27_3).trans (if_neg hc34_4)))).2 ?_
    show Stp p e below T15 m 90 #[.val (.int pi1), .val (.int pi2), .val (.int pi3), .val (.int pi4), .val (.int (2 : Int32)), .val (.int (4 : Int32)), .val (.int (15 : Int32)), .val (.int (pi2 &&& (15 : Int32))), .val (.int (0 : Int32)), .val (.ref b1), .val (.ref b2), .val (.double (FP.i2d (pi4.toInt16.toInt32))), .second, .val (.ref b5)] [] _
    refine XS.iconst X15.here hx rfl (hb hby at_90) ?_
    show Stp p e below T15 m 91 #[.val (.int pi1), .val (.int pi2), .val (.int pi3), .val (.int pi4), .val (.int (2 : Int32)), .val (.int (4 : Int32)), .val (.int (15 : Int32)), .val (.int (pi2 &&& (15 : Int32))), .val (.int (0 : Int32)), .val (.ref b1), .val (.ref b2), .val (.double (FP.i2d (pi4.toInt16.toInt32))), .second, .val (.ref b5)] [(.int (1 : Int32))] _
    refine XS.goto X15.here hx rfl (pc0 := 91) (pc' := 95) rfl (hb hby at_91) (by decide) (by decide) ?_
    show Stp p e below T15 m 95 #[.val (.int pi1), .val (.int pi2), .val (.int pi3), .val (.int pi4), .val (.int (2 : Int32)), .val (.int (4 : Int32)), .val (.int (15 : Int32)), .val (.int (pi2 &&& (15 : Int32))), .val (.int (0 : Int32)), .val (.ref b1), .val (.ref b2), .val (.double (FP.i2d (pi4.toInt16.toInt32))), .second, .val (.ref b5)] [(.int (1 : Int32))] _
    exact retN X15 hx (t := .boolean) Bd.returns (by simp) (hb hby at_95) hr
  · exact ⟨rfl, N15⟩
set_option maxRecDepth 65536 in
set_option maxHeartbeats 40000000 in
theorem rm0_ffft (l : Launch) (Z : State) (a0 : Array Value) (hw : ∀ d ∈ tables_1, d.before a0 Z = true) (ws : List Jvm.Cond) (pi1 : Int32) (pi2 : Int32) (pi3 : Int32) (pi4 : Int32) (h0 : Heap) (n0 : Nat) (Z0 : n0 ≤ h0.size) (O0 : Old Z n0 h0) (hc3_0 : ¬ ((pi1 &&& (3 : Int32)) = (0 : Int32))) (hc3_1 : ¬ ((pi1 &&& (3 : Int32)) = (1 : Int32))) (hc3_2 : ¬ ((pi1 &&& (3 : Int32)) = (2 : Int32))) (hc27_3 : (pi2 &&& (255 : Int32)) = (0 : Int32)) :
    MetFree l x (head1 (Jvm.Cond.code x code maxLocals ret :: ws) room_1) (fun a U => a = #[(.int pi1), (.int pi2), (.int pi3), (.int pi4)] ∧ Z.Warmed39 U.vm ∧ U.heap = h0) (fun _ _ _ _ _ => True) (fun _ U o U' => ∃ v L, o = .returned v ∧ Q0 v L n0 ∧ FrameEnd U o U' L room_1.cells room_1.slots) := by
  refine MetFree.of_bodySF (plainFor_of_name pn_0) hisR ?_
  intro p e s m args below meth c s₁ Bd hml0 hP hK
  obtain ⟨rfl, hZ, hh⟩ := hP
  have hx := Bd.exec
  have hby := Bd.bytes
  have hml : c.maxLocals = 14 := hml0
  have hown : s.vm.findClass "com/example/gudl/gudl/GroundFactorIsConstantPinLaw" = some m.cls := findClass_of_methodNamed Bd.named
  have hnm := (name_of_methodNamed Bd.named Bd.method).1
  have X0 : Stand p l e room_1 s m #[(.int pi1), (.int pi2), (.int pi3), (.int pi4)] below meth c s₁ [] 0 0 := Stand.of_body Bd
  have e0 : s₁.heap = h0 := by rw [← hh, Bd.state]; rfl
  have N0 := Fr.nil n0
  have pre0 : ∀ t, Steps p.tables e below (s₁.setTop (mkF m 0 #[.val (.int pi1), .val (.int pi2), .val (.int pi3), .val (.int pi4), .unset, .unset, .unset, .unset, .unset, .unset, .unset, .unset, .unset, .unset] [])) t → Steps p.tables e below (s₁.setTop (entryFrame m #[(.int pi1), (.int pi2), (.int pi3), (.int pi4)] maxLocals)) t := fun t k => castTop (ef_0 m pi1 pi2 pi3 pi4) k
  obtain ⟨_, _, ⟨T1, L1, k1, n1⟩, -, X1, ⟨Lc1, hQ1, l1, y1, z1⟩, st1⟩ := Jvm.LawKit.callS X0 hx (y := (⟨"com/example/gudl/gudl/GroundFactorIsConstantPinLaw", "truthArray", "(II)[Z"⟩ : MethodName)) hown (mvT hZ (own_W hw 0 rfl)) (mvT hZ (own_W hw 1 rfl)) (mvT hZ (own_W hw 2 rfl)) (mvT hZ (own_W hw 3 rfl)) (by decide) (backOf (W := 0) (rm1_3 l Z a0 hw [] (3 : Int32) pi2 h0 n0 Z0 O0 (by decide) (by decide) (by decide)) hZ (own_W hw 3 rfl) (own_W hw 2 rfl) (by decide) (by decide)) (g := (mkF m 47 #[.val (.int pi1), .val (.int pi2), .val (.int pi3), .val (.int pi4), .val (.int (3 : Int32)), .val (.int (8 : Int32)), .val (.int (255 : Int32)), .val (.int (pi2 &&& (255 : Int32))), .val (.int (1 : Int32)), .unset, .unset, .unset, .unset, .unset] [(.int pi2), (.int (3 : Int32))])) rfl (by rw [hml]; rfl) (argsL := [(.int (3 : Int32)), (.int pi2)]) (rest := []) (lenOf pd_0 rfl) rfl (by show 2 * 0 + _ ≤ _; exact Nat.le_of_eq rfl) (hb hby at_47) (fun _ _ => ⟨rfl, e0, (by decide : 0 + 1 ≤ _), (by decide : 0 + 8 ≤ _)⟩)
  dsimp only [Pt.U, Pt.locs, Pt.cells, Pt.slots] at X1 l1 y1 z1 st1 hQ1
  subst l1 y1 z1
  obtain ⟨b1, b1_1, rfl, N1q, K1, qf1_0, qf1_1⟩ := hQ1
  have N1 := Fr.app N0 N1q
  have z3 := Nat.le_trans Z0 K1.1
  have o4 := O0.keep K1 all0
  obtain ⟨_, _, ⟨T2, L2, k2, n2⟩, -, X2, ⟨Lc2, hQ2, l2, y2, z2⟩, st2⟩ := Jvm.LawKit.callS X1 hx (y := (⟨"com/example/gudl/gudl/GroundFactorIsConstantPinLaw", "atomArray", "(II)[I"⟩ : MethodName)) hown (mvT hZ (own_W hw 8 rfl)) (mvT hZ (own_W hw 9 rfl)) (mvT hZ (own_W hw 2 rfl)) (mvT hZ (own_W hw 10 rfl)) (by decide) (backOf (W := 0) (rm3_3 l Z a0 hw [] (3 : Int32) pi3 T1.heap n0 z3 o4 (by decide) (by decide) (by decide)) hZ (own_W hw 10 rfl) (own_W hw 2 rfl) (by decide) (by decide)) (g := (mkF m 55 #[.val (.int pi1), .val (.int pi2), .val (.int pi3), .val (.int pi4), .val (.int (3 : Int32)), .val (.int (8 : Int32)), .val (.int (255 : Int32)), .val (.int (pi2 &&& (255 : Int32))), .val (.int (1 : Int32)), .val (.ref b1), .unset, .unset, .unset, .unset] [(.int pi3), (.int (3 : Int32))])) rfl (by rw [hml]; rfl) (argsL := [(.int (3 : Int32)), (.int pi3)]) (rest := []) (lenOf pd_2 rfl) rfl (by show 2 * 0 + _ ≤ _; exact Nat.le_of_eq rfl) (hb hby at_55) (fun _ _ => ⟨rfl, rfl, (by decide : 1 + 1 ≤ _), (by decide : 8 + 3 ≤ _)⟩)
  dsimp only [Pt.U, Pt.locs, Pt.cells, Pt.slots] at X2 l2 y2 z2 st2 hQ2
  subst l2 y2 z2
  obtain ⟨b2, b2_1, rfl, N2q, K2, qf2_0, qf2_1⟩ := hQ2
  have N2 := Fr.app N1 N2q
  obtain ⟨T5, h5, X5, e5, E5, A5, D5, -, st5⟩ := newO X2 hx hZ hown (own_W hw 12 rfl) (own_W hw 13 rfl) (own_W hw 14 rfl) rfl (g := (mkF m 65 #[.val (.int pi1), .val (.int pi2), .val (.int pi3), .val (.int pi4), .val (.int (3 : Int32)), .val (.int (8 : Int32)), .val (.int (255 : Int32)), .val (.int (pi2 &&& (255 : Int32))), .val (.int (1 : Int32)), .val (.ref b1), .val (.ref b2), .val (.double (FP.i2d (pi4.toInt16.toInt32))), .second, .unset] [])) rfl (hb hby at_65) (by decide) (by decide)
  obtain ⟨b5, g5⟩ : ∃ z, z = T2.heap.size := ⟨_, rfl⟩
  rw [← g5] at A5 D5 st5
  have F_value_b5 : Fld Z h5 b5 "com/example/gudl/gudl/GroundFactor" "value" "D" (.double (0 : UInt64)) := D5 (Or.inr (own_W hw 22 rfl)) (ty := .double) (by decide)
  have F_atoms_b5 : Fld Z h5 b5 "com/example/gudl/gudl/GroundFactor" "atoms" "[I" .null := D5 (Or.inr (own_W hw 24 rfl)) (ty := (.array .int)) (by decide)
  have F_truth_b5 : Fld Z h5 b5 "com/example/gudl/gudl/GroundFactor" "truth" "[Z" .null := D5 (Or.inr (own_W hw 26 rfl)) (ty := (.array .boolean)) (by decide)
  have f6 := qf2_1.ext E5
  have f7 := qf1_1.keep K2 nin0
  have f8 := f7.ext E5
  have z9 := Nat.le_trans z3 K2.1
  have g_b5 : n0 ≤ b5 := Nat.le_trans z9 (Nat.le_of_eq g5.symm)
  have z11 := Nat.le_trans z9 E5.1
  have o12 := o4.keep K2 all0
  have o13 := o12.ext E5
  obtain ⟨_, _, ⟨T10, L10, k10, n10⟩, -, X10, ⟨Lc10, hQ10, l10, y10, z10⟩, st10⟩ := X5.specialBack hx (y := (⟨"com/example/gudl/gudl/GroundFactor", "<init>", "(D[I[Z)V"⟩ : MethodName)) rfl hown (mvT hZ (own_W hw 15 rfl)) (mvT hZ (own_W hw 16 rfl)) (mvT hZ (own_W hw 17 rfl)) (by decide) (backOf (W := 1) (rm4_3 l Z a0 hw [] b5 (FP.i2d (pi4.toInt16.toInt32)) b2 b1 b2_1 pi3 (pi3 + (1 : Int32)) (pi3 + (2 : Int32)) b1_1 (nar .boolean (own_bt pi2 (0 : Int32))) (nar .boolean (own_bt pi2 (1 : Int32))) (nar .boolean (own_bt pi2 (2 : Int32))) (nar .boolean (own_bt pi2 (3 : Int32))) (nar .boolean (own_bt pi2 (4 : Int32))) (nar .boolean (own_bt pi2 (5 : Int32))) (nar .boolean (own_bt pi2 (6 : Int32))) (nar .boolean (own_bt pi2 (7 : Int32))) (.double (0 : UInt64)) .null .null h5 n0 z11 o13 f6 f8 A5 F_value_b5 g_b5 F_atoms_b5 F_truth_b5) hZ (own_W hw 17 rfl) (own_W hw 14 rfl) (by decide) (by decide)) (g := (mkF m 75 #[.val (.int pi1), .val (.int pi2), .val (.int pi3), .val (.int pi4), .val (.int (3 : Int32)), .val (.int (8 : Int32)), .val (.int (255 : Int32)), .val (.int (pi2 &&& (255 : Int32))), .val (.int (1 : Int32)), .val (.ref b1), .val (.ref b2), .val (.double (FP.i2d (pi4.toInt16.toInt32))), .second, .unset] [(.ref b1), (.ref b2), (.double (FP.i2d (pi4.toInt16.toInt32))), (.ref b5), (.ref b5)])) rfl (by rw [hml]; rfl) (Steps.refl _) (a := b5) (argsL := [(.double (FP.i2d (pi4.toInt16.toInt32))), (.ref b2), (.ref b1)]) (rest := [(.ref b5)]) (lenOf pd_3 rfl) rfl (by show 2 * 0 + _ ≤ _; exact Nat.le_of_eq rfl) (hb hby at_75) (fun _ _ => ⟨rfl, e5, (by decide : 3 + 0 ≤ _), (by decide : 14 + 0 ≤ _)⟩)
  dsimp only [Pt.U, Pt.locs, Pt.cells, Pt.slots] at X10 l10 y10 z10 st10 hQ10
  subst l10 y10 z10
  obtain ⟨rfl, N10q, K10, qf10_0, qf10_1, qf10_2, qf10_3⟩ := hQ10
  have N10 := Fr.app N2 N10q
  have f14 := f8.keep K10 (ninS (Nat.ne_of_lt (Nat.lt_of_lt_of_le f7.lt (Nat.le_of_eq g5.symm))) nin0)
  have z16 := Nat.le_trans z11 K10.1
  have o17 := o13.keep K10 (allS g_b5 all0)
  obtain ⟨cq15, kq15, q15a, q15b, q15c⟩ := isOf hZ rfl qf10_0
  obtain ⟨_, _, ⟨T15, L15, k15, n15⟩, -, X15, ⟨Lc15, hQ15, l15, y15, z15⟩, st15⟩ := X10.virtualBack hx (y := (⟨"com/example/gudl/gudl/GroundFactor", "isConstant", "()Z"⟩ : MethodName)) (z := (⟨"com/example/gudl/gudl/GroundFactor", "isConstant", "()Z"⟩ : MethodName)) hown (mvT hZ (own_W hw 27 rfl)) (mvT hZ (own_W hw 28 rfl)) (notFace_of_selects (args := #[]) (mvT hZ (own_W hw 30 rfl))) (mvT hZ (own_W hw 30 rfl)) (mvT hZ (own_W hw 29 rfl)) (by decide) (backOf (W := 0) (rm6k3 l Z a0 hw [] b5 b1 b1_1 (nar .boolean (own_bt pi2 (0 : Int32))) (nar .boolean (own_bt pi2 (1 : Int32))) (nar .boolean (own_bt pi2 (2 : Int32))) (nar .boolean (own_bt pi2 (3 : Int32))) (nar .boolean (own_bt pi2 (4 : Int32))) (nar .boolean (own_bt pi2 (5 : Int32))) (nar .boolean (own_bt pi2 (6 : Int32))) (nar .boolean (own_bt pi2 (7 : Int32))) T10.heap n0 z16 o17 qf10_3 f14) hZ (own_W hw 31 rfl) (own_W hw 14 rfl) (by decide) (by decide)) q15a q15c (g := (mkF m 82 #[.val (.int pi1), .val (.int pi2), .val (.int pi3), .val (.int pi4), .val (.int (3 : Int32)), .val (.int (8 : Int32)), .val (.int (255 : Int32)), .val (.int (pi2 &&& (255 : Int32))), .val (.int (1 : Int32)), .val (.ref b1), .val (.ref b2), .val (.double (FP.i2d (pi4.toInt16.toInt32))), .second, .val (.ref b5)] [(.ref b5)])) rfl (by rw [hml]; rfl) (Steps.refl _) (argsL := []) (rest := []) (lenOf pd_5 rfl) rfl (by show 2 * 0 + _ ≤ _; exact Nat.le_of_eq rfl) (hb hby at_82) (fun _ _ => ⟨rfl, rfl, (by decide : 3 + 0 ≤ _), (by decide : 14 + 0 ≤ _)⟩)
  dsimp only [Pt.U, Pt.locs, Pt.cells, Pt.slots] at X15 l15 y15 z15 st15 hQ15
  subst l15 y15 z15
  obtain ⟨rfl, N15q, eq15⟩ := hQ15
  have N15 := Fr.app N10 N15q
  obtain ⟨fs, hr, hrun, hended, hW, hsame⟩ := X15.leave (v := some (.int (1 : Int32))) (fun h => by rw [Bd.returns] at h; cases h)
  refine ⟨_, _, pre0 _ ?_, hrun, hended, _, _, rfl, ?_, ⟨_, rfl⟩, hW, hsame.mono (by decide) (by decide)⟩
  · show Stp p e below s₁ m 0 #[.val (.int pi1), .val (.int pi2), .val (.int pi3), .val (.int pi4), .unset, .unset, .unset, .unset, .unset, .unset, .unset, .unset, .unset, .unset] [] _
    refine XS.iloadN X0.here hx rfl (hb hby at_0) rfl ?_
    show Stp p e below s₁ m 1 #[.val (.int pi1), .val (.int pi2), .val (.int pi3), .val (.int pi4), .unset, .unset, .unset, .unset, .unset, .unset, .unset, .unset, .unset, .unset] [(.int pi1)] _
    refine XS.iconst X0.here hx rfl (hb hby at_1) ?_
    show Stp p e below s₁ m 2 #[.val (.int pi1), .val (.int pi2), .val (.int pi3), .val (.int pi4), .unset, .unset, .unset, .unset, .unset, .unset, .unset, .unset, .unset, .unset] [(.int (3 : Int32)), (.int pi1)] _
    refine XS.iand X0.here hx rfl (hb hby at_2) rfl ?_
    show Stp p e below s₁ m 3 #[.val (.int pi1), .val (.int pi2), .val (.int pi3), .val (.int pi4), .unset, .unset, .unset, .unset, .unset, .unset, .unset, .unset, .unset, .unset] [(.int (pi1 &&& (3 : Int32)))] _
    refine XS.istore X0.here hx rfl (hb hby at_3) rfl (l' := #[.val (.int pi1), .val (.int pi2), .val (.int pi3), .val (.int pi4), .val (.int (pi1 &&& (3 : Int32))), .unset, .unset, .unset, .unset, .unset, .unset, .unset, .unset, .unset]) rfl ?_
    show Stp p e below s₁ m 5 #[.val (.int pi1), .val (.int pi2), .val (.int pi3), .val (.int pi4), .val (.int (pi1 &&& (3 : Int32))), .unset, .unset, .unset, .unset, .unset, .unset, .unset, .unset, .unset] [] _
    rw [show (pi1 &&& (3 : Int32)) = (3 : Int32) from own_n3 hc3_0 hc3_1 hc3_2]
    show Stp p e below s₁ m 5 #[.val (.int pi1), .val (.int pi2), .val (.int pi3), .val (.int pi4), .val (.int (3 : Int32)), .unset, .unset, .unset, .unset, .unset, .unset, .unset, .unset, .unset] [] _
    refine XS.iconst X0.here hx rfl (hb hby at_5) ?_
    show Stp p e below s₁ m 6 #[.val (.int pi1), .val (.int pi2), .val (.int pi3), .val (.int pi4), .val (.int (3 : Int32)), .unset, .unset, .unset, .unset, .unset, .unset, .unset, .unset, .unset] [(.int (1 : Int32))] _
    refine XS.iload X0.here hx rfl (hb hby at_6) rfl ?_
    show Stp p e below s₁ m 8 #[.val (.int pi1), .val (.int pi2), .val (.int pi3), .val (.int pi4), .val (.int (3 : Int32)), .unset, .unset, .unset, .unset, .unset, .unset, .unset, .unset, .unset] [(.int (3 : Int32)), (.int (1 : Int32))] _
    refine XS.ishl X0.here hx rfl (hb hby at_8) rfl ?_
    show Stp p e below s₁ m 9 #[.val (.int pi1), .val (.int pi2), .val (.int pi3), .val (.int pi4), .val (.int (3 : Int32)), .unset, .unset, .unset, .unset, .unset, .unset, .unset, .unset, .unset] [(.int (8 : Int32))] _
    refine XS.istore X0.here hx rfl (hb hby at_9) rfl (l' := #[.val (.int pi1), .val (.int pi2), .val (.int pi3), .val (.int pi4), .val (.int (3 : Int32)), .val (.int (8 : Int32)), .unset, .unset, .unset, .unset, .unset, .unset, .unset, .unset]) rfl ?_
    show Stp p e below s₁ m 11 #[.val (.int pi1), .val (.int pi2), .val (.int pi3), .val (.int pi4), .val (.int (3 : Int32)), .val (.int (8 : Int32)), .unset, .unset, .unset, .unset, .unset, .unset, .unset, .unset] [] _
    refine XS.iconst X0.here hx rfl (hb hby at_11) ?_
    show Stp p e below s₁ m 12 #[.val (.int pi1), .val (.int pi2), .val (.int pi3), .val (.int pi4), .val (.int (3 : Int32)), .val (.int (8 : Int32)), .unset, .unset, .unset, .unset, .unset, .unset, .unset, .unset] [(.int (1 : Int32))] _
    refine XS.iload X0.here hx rfl (hb hby at_12) rfl ?_
    show Stp p e below s₁ m 14 #[.val (.int pi1), .val (.int pi2), .val (.int pi3), .val (.int pi4), .val (.int (3 : Int32)), .val (.int (8 : Int32)), .unset, .unset, .unset, .unset, .unset, .unset, .unset, .unset] [(.int (8 : Int32)), (.int (1 : Int32))] _
    refine XS.ishl X0.here hx rfl (hb hby at_14) rfl ?_
    show Stp p e below s₁ m 15 #[.val (.int pi1), .val (.int pi2), .val (.int pi3), .val (.int pi4), .val (.int (3 : Int32)), .val (.int (8 : Int32)), .unset, .unset, .unset, .unset, .unset, .unset, .unset, .unset] [(.int (256 : Int32))] _
    refine XS.iconst X0.here hx rfl (hb hby at_15) ?_
    show Stp p e below s₁ m 16 #[.val (.int pi1), .val (.int pi2), .val (.int pi3), .val (.int pi4), .val (.int (3 : Int32)), .val (.int (8 : Int32)), .unset, .unset, .unset, .unset, .unset, .unset, .unset, .unset] [(.int (1 : Int32)), (.int (256 : Int32))] _
    refine XS.isub X0.here hx rfl (hb hby at_16) rfl ?_
    show Stp p e below s₁ m 17 #[.val (.int pi1), .val (.int pi2), .val (.int pi3), .val (.int pi4), .val (.int (3 : Int32)), .val (.int (8 : Int32)), .unset, .unset, .unset, .unset, .unset, .unset, .unset, .unset] [(.int (255 : Int32))] _
    refine XS.istore X0.here hx rfl (hb hby at_17) rfl (l' := #[.val (.int pi1), .val (.int pi2), .val (.int pi3), .val (.int pi4), .val (.int (3 : Int32)), .val (.int (8 : Int32)), .val (.int (255 : Int32)), .unset, .unset, .unset, .unset, .unset, .unset, .unset]) rfl ?_
    show Stp p e below s₁ m 19 #[.val (.int pi1), .val (.int pi2), .val (.int pi3), .val (.int pi4), .val (.int (3 : Int32)), .val (.int (8 : Int32)), .val (.int (255 : Int32)), .unset, .unset, .unset, .unset, .unset, .unset, .unset] [] _
    refine XS.iloadN X0.here hx rfl (hb hby at_19) rfl ?_
    show Stp p e below s₁ m 20 #[.val (.int pi1), .val (.int pi2), .val (.int pi3), .val (.int pi4), .val (.int (3 : Int32)), .val (.int (8 : Int32)), .val (.int (255 : Int32)), .unset, .unset, .unset, .unset, .unset, .unset, .unset] [(.int pi2)] _
    refine XS.iload X0.here hx rfl (hb hby at_20) rfl ?_
    show Stp p e below s₁ m 22 #[.val (.int pi1), .val (.int pi2), .val (.int pi3), .val (.int pi4), .val (.int (3 : Int32)), .val (.int (8 : Int32)), .val (.int (255 : Int32)), .unset, .unset, .unset, .unset, .unset, .unset, .unset] [(.int (255 : Int32)), (.int pi2)] _
    refine XS.iand X0.here hx rfl (hb hby at_22) rfl ?_
    show Stp p e below s₁ m 23 #[.val (.int pi1), .val (.int pi2), .val (.int pi3), .val (.int pi4), .val (.int (3 : Int32)), .val (.int (8 : Int32)), .val (.int (255 : Int32)), .unset, .unset, .unset, .unset, .unset, .unset, .unset] [(.int (pi2 &&& (255 : Int32)))] _
    refine XS.istore X0.here hx rfl (hb hby at_23) rfl (l' := #[.val (.int pi1), .val (.int pi2), .val (.int pi3), .val (.int pi4), .val (.int (3 : Int32)), .val (.int (8 : Int32)), .val (.int (255 : Int32)), .val (.int (pi2 &&& (255 : Int32))), .unset, .unset, .unset, .unset, .unset, .unset]) rfl ?_
    show Stp p e below s₁ m 25 #[.val (.int pi1), .val (.int pi2), .val (.int pi3), .val (.int pi4), .val (.int (3 : Int32)), .val (.int (8 : Int32)), .val (.int (255 : Int32)), .val (.int (pi2 &&& (255 : Int32))), .unset, .unset, .unset, .unset, .unset, .unset] [] _
    refine XS.iload X0.here hx rfl (hb hby at_25) rfl ?_
    show Stp p e below s₁ m 27 #[.val (.int pi1), .val (.int pi2), .val (.int pi3), .val (.int pi4), .val (.int (3 : Int32)), .val (.int (8 : Int32)), .val (.int (255 : Int32)), .val (.int (pi2 &&& (255 : Int32))), .unset, .unset, .unset, .unset, .unset, .unset] [(.int (pi2 &&& (255 : Int32)))] _
    refine XS.ifYes X0.here hx rfl (pc0 := 27) (pc' := 37) rfl (hb hby at_27) rfl ((if0 _ _).trans (teq hc27_3).1) (by decide) (by decide) ?_
    show Stp p e below s₁ m 37 #[.val (.int pi1), .val (.int pi2), .val (.int pi3), .val (.int pi4), .val (.int (3 : Int32)), .val (.int (8 : Int32)), .val (.int (255 : Int32)), .val (.int (pi2 &&& (255 : Int32))), .unset, .unset, .unset, .unset, .unset, .unset] [] _
    refine XS.iconst X0.here hx rfl (hb hby at_37) ?_
    show Stp p e below s₁ m 38 #[.val (.int pi1), .val (.int pi2), .val (.int pi3), .val (.int pi4), .val (.int (3 : Int32)), .val (.int (8 : Int32)), .val (.int (255 : Int32)), .val (.int (pi2 &&& (255 : Int32))), .unset, .unset, .unset, .unset, .unset, .unset] [(.int (1 : Int32))] _
    refine XS.goto X0.here hx rfl (pc0 := 38) (pc' := 42) rfl (hb hby at_38) (by decide) (by decide) ?_
    show Stp p e below s₁ m 42 #[.val (.int pi1), .val (.int pi2), .val (.int pi3), .val (.int pi4), .val (.int (3 : Int32)), .val (.int (8 : Int32)), .val (.int (255 : Int32)), .val (.int (pi2 &&& (255 : Int32))), .unset, .unset, .unset, .unset, .unset, .unset] [(.int (1 : Int32))] _
    refine XS.istore X0.here hx rfl (hb hby at_42) rfl (l' := #[.val (.int pi1), .val (.int pi2), .val (.int pi3), .val (.int pi4), .val (.int (3 : Int32)), .val (.int (8 : Int32)), .val (.int (255 : Int32)), .val (.int (pi2 &&& (255 : Int32))), .val (.int (1 : Int32)), .unset, .unset, .unset, .unset, .unset]) rfl ?_
    show Stp p e below s₁ m 44 #[.val (.int pi1), .val (.int pi2), .val (.int pi3), .val (.int pi4), .val (.int (3 : Int32)), .val (.int (8 : Int32)), .val (.int (255 : Int32)), .val (.int (pi2 &&& (255 : Int32))), .val (.int (1 : Int32)), .unset, .unset, .unset, .unset, .unset] [] _
    refine XS.iload X0.here hx rfl (hb hby at_44) rfl ?_
    show Stp p e below s₁ m 46 #[.val (.int pi1), .val (.int pi2), .val (.int pi3), .val (.int pi4), .val (.int (3 : Int32)), .val (.int (8 : Int32)), .val (.int (255 : Int32)), .val (.int (pi2 &&& (255 : Int32))), .val (.int (1 : Int32)), .unset, .unset, .unset, .unset, .unset] [(.int (3 : Int32))] _
    refine XS.iloadN X0.here hx rfl (hb hby at_46) rfl ?_
    show Stp p e below s₁ m 47 #[.val (.int pi1), .val (.int pi2), .val (.int pi3), .val (.int pi4), .val (.int (3 : Int32)), .val (.int (8 : Int32)), .val (.int (255 : Int32)), .val (.int (pi2 &&& (255 : Int32))), .val (.int (1 : Int32)), .unset, .unset, .unset, .unset, .unset] [(.int pi2), (.int (3 : Int32))] _
    refine st1 _ ?_
    show Stp p e below T1 m 50 #[.val (.int pi1), .val (.int pi2), .val (.int pi3), .val (.int pi4), .val (.int (3 : Int32)), .val (.int (8 : Int32)), .val (.int (255 : Int32)), .val (.int (pi2 &&& (255 : Int32))), .val (.int (1 : Int32)), .unset, .unset, .unset, .unset, .unset] [(.ref b1)] _
    refine XS.astore X1.here hx rfl (hb hby at_50) rfl rfl (l' := #[.val (.int pi1), .val (.int pi2), .val (.int pi3), .val (.int pi4), .val (.int (3 : Int32)), .val (.int (8 : Int32)), .val (.int (255 : Int32)), .val (.int (pi2 &&& (255 : Int32))), .val (.int (1 : Int32)), .val (.ref b1), .unset, .unset, .unset, .unset]) rfl ?_
    show Stp p e below T1 m 52 #[.val (.int pi1), .val (.int pi2), .val (.int pi3), .val (.int pi4), .val (.int (3 : Int32)), .val (.int (8 : Int32)), .val (.int (255 : Int32)), .val (.int (pi2 &&& (255 : Int32))), .val (.int (1 : Int32)), .val (.ref b1), .unset, .unset, .unset, .unset] [] _
    refine XS.iload X1.here hx rfl (hb hby at_52) rfl ?_
    show Stp p e below T1 m 54 #[.val (.int pi1), .val (.int pi2), .val (.int pi3), .val (.int pi4), .val (.int (3 : Int32)), .val (.int (8 : Int32)), .val (.int (255 : Int32)), .val (.int (pi2 &&& (255 : Int32))), .val (.int (1 : Int32)), .val (.ref b1), .unset, .unset, .unset, .unset] [(.int (3 : Int32))] _
    refine XS.iloadN X1.here hx rfl (hb hby at_54) rfl ?_
    show Stp p e below T1 m 55 #[.val (.int pi1), .val (.int pi2), .val (.int pi3), .val (.int pi4), .val (.int (3 : Int32)), .val (.int (8 : Int32)), .val (.int (255 : Int32)), .val (.int (pi2 &&& (255 : Int32))), .val (.int (1 : Int32)), .val (.ref b1), .unset, .unset, .unset, .unset] [(.int pi3), (.int (3 : Int32))] _
    refine st2 _ ?_
    show Stp p e below T2 m 58 #[.val (.int pi1), .val (.int pi2), .val (.int pi3), .val (.int pi4), .val (.int (3 : Int32)), .val (.int (8 : Int32)), .val (.int (255 : Int32)), .val (.int (pi2 &&& (255 : Int32))), .val (.int (1 : Int32)), .val (.ref b1), .unset, .unset, .unset, .unset] [(.ref b2)] _
    refine XS.astore X2.here hx rfl (hb hby at_58) rfl rfl (l' := #[.val (.int pi1), .val (.int pi2), .val (.int pi3), .val (.int pi4), .val (.int (3 : Int32)), .val (.int (8 : Int32)), .val (.int (255 : Int32)), .val (.int (pi2 &&& (255 : Int32))), .val (.int (1 : Int32)), .val (.ref b1), .val (.ref b2), .unset, .unset, .unset]) rfl ?_
    show Stp p e below T2 m 60 #[.val (.int pi1), .val (.int pi2), .val (.int pi3), .val (.int pi4), .val (.int (3 : Int32)), .val (.int (8 : Int32)), .val (.int (255 : Int32)), .val (.int (pi2 &&& (255 : Int32))), .val (.int (1 : Int32)), .val (.ref b1), .val (.ref b2), .unset, .unset, .unset] [] _
    refine XS.iloadN X2.here hx rfl (hb hby at_60) rfl ?_
    show Stp p e below T2 m 61 #[.val (.int pi1), .val (.int pi2), .val (.int pi3), .val (.int pi4), .val (.int (3 : Int32)), .val (.int (8 : Int32)), .val (.int (255 : Int32)), .val (.int (pi2 &&& (255 : Int32))), .val (.int (1 : Int32)), .val (.ref b1), .val (.ref b2), .unset, .unset, .unset] [(.int pi4)] _
    refine XS.i2s X2.here hx rfl (hb hby at_61) rfl ?_
    show Stp p e below T2 m 62 #[.val (.int pi1), .val (.int pi2), .val (.int pi3), .val (.int pi4), .val (.int (3 : Int32)), .val (.int (8 : Int32)), .val (.int (255 : Int32)), .val (.int (pi2 &&& (255 : Int32))), .val (.int (1 : Int32)), .val (.ref b1), .val (.ref b2), .unset, .unset, .unset] [(.int (pi4.toInt16.toInt32))] _
    refine XS.i2dS X2.here hx rfl (hb hby at_62) rfl rfl ?_
    show Stp p e below T2 m 63 #[.val (.int pi1), .val (.int pi2), .val (.int pi3), .val (.int pi4), .val (.int (3 : Int32)), .val (.int (8 : Int32)), .val (.int (255 : Int32)), .val (.int (pi2 &&& (255 : Int32))), .val (.int (1 : Int32)), .val (.ref b1), .val (.ref b2), .unset, .unset, .unset] [(.double (FP.i2d (pi4.toInt16.toInt32)))] _
    refine XS.dstore X2.here hx rfl (hb hby at_63) rfl (l' := #[.val (.int pi1), .val (.int pi2), .val (.int pi3), .val (.int pi4), .val (.int (3 : Int32)), .val (.int (8 : Int32)), .val (.int (255 : Int32)), .val (.int (pi2 &&& (255 : Int32))), .val (.int (1 : Int32)), .val (.ref b1), .val (.ref b2), .val (.double (FP.i2d (pi4.toInt16.toInt32))), .second, .unset]) rfl ?_
    show Stp p e below T2 m 65 #[.val (.int pi1), .val (.int pi2), .val (.int pi3), .val (.int pi4), .val (.int (3 : Int32)), .val (.int (8 : Int32)), .val (.int (255 : Int32)), .val (.int (pi2 &&& (255 : Int32))), .val (.int (1 : Int32)), .val (.ref b1), .val (.ref b2), .val (.double (FP.i2d (pi4.toInt16.toInt32))), .second, .unset] [] _
    refine st5 _ ?_
    show Stp p e below T5 m 68 #[.val (.int pi1), .val (.int pi2), .val (.int pi3), .val (.int pi4), .val (.int (3 : Int32)), .val (.int (8 : Int32)), .val (.int (255 : Int32)), .val (.int (pi2 &&& (255 : Int32))), .val (.int (1 : Int32)), .val (.ref b1), .val (.ref b2), .val (.double (FP.i2d (pi4.toInt16.toInt32))), .second, .unset] [(.ref b5)] _
    refine XS.dup X5.here hx rfl (hb hby at_68) rfl rfl ?_
    show Stp p e below T5 m 69 #[.val (.int pi1), .val (.int pi2), .val (.int pi3), .val (.int pi4), .val (.int (3 : Int32)), .val (.int (8 : Int32)), .val (.int (255 : Int32)), .val (.int (pi2 &&& (255 : Int32))), .val (.int (1 : Int32)), .val (.ref b1), .val (.ref b2), .val (.double (FP.i2d (pi4.toInt16.toInt32))), .second, .unset] [(.ref b5), (.ref b5)] _
    refine XS.dload X5.here hx rfl (hb hby at_69) rfl ?_
    show Stp p e below T5 m 71 #[.val (.int pi1), .val (.int pi2), .val (.int pi3), .val (.int pi4), .val (.int (3 : Int32)), .val (.int (8 : Int32)), .val (.int (255 : Int32)), .val (.int (pi2 &&& (255 : Int32))), .val (.int (1 : Int32)), .val (.ref b1), .val (.ref b2), .val (.double (FP.i2d (pi4.toInt16.toInt32))), .second, .unset] [(.double (FP.i2d (pi4.toInt16.toInt32))), (.ref b5), (.ref b5)] _
    refine XS.aload X5.here hx rfl (hb hby at_71) rfl rfl ?_
    show Stp p e below T5 m 73 #[.val (.int pi1), .val (.int pi2), .val (.int pi3), .val (.int pi4), .val (.int (3 : Int32)), .val (.int (8 : Int32)), .val (.int (255 : Int32)), .val (.int (pi2 &&& (255 : Int32))), .val (.int (1 : Int32)), .val (.ref b1), .val (.ref b2), .val (.double (FP.i2d (pi4.toInt16.toInt32))), .second, .unset] [(.ref b2), (.double (FP.i2d (pi4.toInt16.toInt32))), (.ref b5), (.ref b5)] _
    refine XS.aload X5.here hx rfl (hb hby at_73) rfl rfl ?_
    show Stp p e below T5 m 75 #[.val (.int pi1), .val (.int pi2), .val (.int pi3), .val (.int pi4), .val (.int (3 : Int32)), .val (.int (8 : Int32)), .val (.int (255 : Int32)), .val (.int (pi2 &&& (255 : Int32))), .val (.int (1 : Int32)), .val (.ref b1), .val (.ref b2), .val (.double (FP.i2d (pi4.toInt16.toInt32))), .second, .unset] [(.ref b1), (.ref b2), (.double (FP.i2d (pi4.toInt16.toInt32))), (.ref b5), (.ref b5)] _
    refine st10.trans ?_
    show Stp p e below T10 m 78 #[.val (.int pi1), .val (.int pi2), .val (.int pi3), .val (.int pi4), .val (.int (3 : Int32)), .val (.int (8 : Int32)), .val (.int (255 : Int32)), .val (.int (pi2 &&& (255 : Int32))), .val (.int (1 : Int32)), .val (.ref b1), .val (.ref b2), .val (.double (FP.i2d (pi4.toInt16.toInt32))), .second, .unset] [(.ref b5)] _
    refine XS.astore X10.here hx rfl (hb hby at_78) rfl rfl (l' := #[.val (.int pi1), .val (.int pi2), .val (.int pi3), .val (.int pi4), .val (.int (3 : Int32)), .val (.int (8 : Int32)), .val (.int (255 : Int32)), .val (.int (pi2 &&& (255 : Int32))), .val (.int (1 : Int32)), .val (.ref b1), .val (.ref b2), .val (.double (FP.i2d (pi4.toInt16.toInt32))), .second, .val (.ref b5)]) rfl ?_
    show Stp p e below T10 m 80 #[.val (.int pi1), .val (.int pi2), .val (.int pi3), .val (.int pi4), .val (.int (3 : Int32)), .val (.int (8 : Int32)), .val (.int (255 : Int32)), .val (.int (pi2 &&& (255 : Int32))), .val (.int (1 : Int32)), .val (.ref b1), .val (.ref b2), .val (.double (FP.i2d (pi4.toInt16.toInt32))), .second, .val (.ref b5)] [] _
    refine XS.aload X10.here hx rfl (hb hby at_80) rfl rfl ?_
    show Stp p e below T10 m 82 #[.val (.int pi1), .val (.int pi2), .val (.int pi3), .val (.int pi4), .val (.int (3 : Int32)), .val (.int (8 : Int32)), .val (.int (255 : Int32)), .val (.int (pi2 &&& (255 : Int32))), .val (.int (1 : Int32)), .val (.ref b1), .val (.ref b2), .val (.double (FP.i2d (pi4.toInt16.toInt32))), .second, .val (.ref b5)] [(.ref b5)] _
    refine st15.trans ?_
    show Stp p e below T15 m 85 #[.val (.int pi1), .val (.int pi2), .val (.int pi3), .val (.int pi4), .val (.int (3 : Int32)), .val (.int (8 : Int32)), .val (.int (255 : Int32)), .val (.int (pi2 &&& (255 : Int32))), .val (.int (1 : Int32)), .val (.ref b1), .val (.ref b2), .val (.double (FP.i2d (pi4.toInt16.toInt32))), .second, .val (.ref b5)] [(.int (own_ic3 (nar .boolean (own_bt pi2 (0 : Int32))) (nar .boolean (own_bt pi2 (1 : Int32))) (nar .boolean (own_bt pi2 (2 : Int32))) (nar .boolean (own_bt pi2 (3 : Int32))) (nar .boolean (own_bt pi2 (4 : Int32))) (nar .boolean (own_bt pi2 (5 : Int32))) (nar .boolean (own_bt pi2 (6 : Int32))) (nar .boolean (own_bt pi2 (7 : Int32)))))] _
    refine XS.iload X15.here hx rfl (hb hby at_85) rfl ?_
    show Stp p e below T15 m 87 #[.val (.int pi1), .val (.int pi2), .val (.int pi3), .val (.int pi4), .val (.int (3 : Int32)), .val (.int (8 : Int32)), .val (.int (255 : Int32)), .val (.int (pi2 &&& (255 : Int32))), .val (.int (1 : Int32)), .val (.ref b1), .val (.ref b2), .val (.double (FP.i2d (pi4.toInt16.toInt32))), .second, .val (.ref b5)] [(.int (1 : Int32)), (.int (own_ic3 (nar .boolean (own_bt pi2 (0 : Int32))) (nar .boolean (own_bt pi2 (1 : Int32))) (nar .boolean (own_bt pi2 (2 : Int32))) (nar .boolean (own_bt pi2 (3 : Int32))) (nar .boolean (own_bt pi2 (4 : Int32))) (nar .boolean (own_bt pi2 (5 : Int32))) (nar .boolean (own_bt pi2 (6 : Int32))) (nar .boolean (own_bt pi2 (7 : Int32)))))] _
    refine XS.icmpNo X15.here hx rfl (hb hby at_87) rfl (teq ((own_e3 pi2).trans (if_pos hc27_3))).2 ?_
    show Stp p e below T15 m 90 #[.val (.int pi1), .val (.int pi2), .val (.int pi3), .val (.int pi4), .val (.int (3 : Int32)), .val (.int (8 : Int32)), .val (.int (255 : Int32)), .val (.int (pi2 &&& (255 : Int32))), .val (.int (1 : Int32)), .val (.ref b1), .val (.ref b2), .val (.double (FP.i2d (pi4.toInt16.toInt32))), .second, .val (.ref b5)] [] _
    refine XS.iconst X15.here hx rfl (hb hby at_90) ?_
    show Stp p e below T15 m 91 #[.val (.int pi1), .val (.int pi2), .val (.int pi3), .val (.int pi4), .val (.int (3 : Int32)), .val (.int (8 : Int32)), .val (.int (255 : Int32)), .val (.int (pi2 &&& (255 : Int32))), .val (.int (1 : Int32)), .val (.ref b1), .val (.ref b2), .val (.double (FP.i2d (pi4.toInt16.toInt32))), .second, .val (.ref b5)] [(.int (1 : Int32))] _
    refine XS.goto X15.here hx rfl (pc0 := 91) (pc' := 95) rfl (hb hby at_91) (by decide) (by decide) ?_
    show Stp p e below T15 m 95 #[.val (.int pi1), .val (.int pi2), .val (.int pi3), .val (.int pi4), .val (.int (3 : Int32)), .val (.int (8 : Int32)), .val (.int (255 : Int32)), .val (.int (pi2 &&& (255 : Int32))), .val (.int (1 : Int32)), .val (.ref b1), .val (.ref b2), .val (.double (FP.i2d (pi4.toInt16.toInt32))), .second, .val (.ref b5)] [(.int (1 : Int32))] _
    exact retN X15 hx (t := .boolean) Bd.returns (by simp) (hb hby at_95) hr
  · exact ⟨rfl, N15⟩
set_option maxRecDepth 65536 in
set_option maxHeartbeats 40000000 in
theorem rm0_fffft (l : Launch) (Z : State) (a0 : Array Value) (hw : ∀ d ∈ tables_1, d.before a0 Z = true) (ws : List Jvm.Cond) (pi1 : Int32) (pi2 : Int32) (pi3 : Int32) (pi4 : Int32) (h0 : Heap) (n0 : Nat) (Z0 : n0 ≤ h0.size) (O0 : Old Z n0 h0) (hc3_0 : ¬ ((pi1 &&& (3 : Int32)) = (0 : Int32))) (hc3_1 : ¬ ((pi1 &&& (3 : Int32)) = (1 : Int32))) (hc3_2 : ¬ ((pi1 &&& (3 : Int32)) = (2 : Int32))) (hc27_3 : ¬ ((pi2 &&& (255 : Int32)) = (0 : Int32))) (hc34_4 : (pi2 &&& (255 : Int32)) = (255 : Int32)) :
    MetFree l x (head1 (Jvm.Cond.code x code maxLocals ret :: ws) room_1) (fun a U => a = #[(.int pi1), (.int pi2), (.int pi3), (.int pi4)] ∧ Z.Warmed39 U.vm ∧ U.heap = h0) (fun _ _ _ _ _ => True) (fun _ U o U' => ∃ v L, o = .returned v ∧ Q0 v L n0 ∧ FrameEnd U o U' L room_1.cells room_1.slots) := by
  refine MetFree.of_bodySF (plainFor_of_name pn_0) hisR ?_
  intro p e s m args below meth c s₁ Bd hml0 hP hK
  obtain ⟨rfl, hZ, hh⟩ := hP
  have hx := Bd.exec
  have hby := Bd.bytes
  have hml : c.maxLocals = 14 := hml0
  have hown : s.vm.findClass "com/example/gudl/gudl/GroundFactorIsConstantPinLaw" = some m.cls := findClass_of_methodNamed Bd.named
  have hnm := (name_of_methodNamed Bd.named Bd.method).1
  have X0 : Stand p l e room_1 s m #[(.int pi1), (.int pi2), (.int pi3), (.int pi4)] below meth c s₁ [] 0 0 := Stand.of_body Bd
  have e0 : s₁.heap = h0 := by rw [← hh, Bd.state]; rfl
  have N0 := Fr.nil n0
  have pre0 : ∀ t, Steps p.tables e below (s₁.setTop (mkF m 0 #[.val (.int pi1), .val (.int pi2), .val (.int pi3), .val (.int pi4), .unset, .unset, .unset, .unset, .unset, .unset, .unset, .unset, .unset, .unset] [])) t → Steps p.tables e below (s₁.setTop (entryFrame m #[(.int pi1), (.int pi2), (.int pi3), (.int pi4)] maxLocals)) t := fun t k => castTop (ef_0 m pi1 pi2 pi3 pi4) k
  obtain ⟨_, _, ⟨T1, L1, k1, n1⟩, -, X1, ⟨Lc1, hQ1, l1, y1, z1⟩, st1⟩ := Jvm.LawKit.callS X0 hx (y := (⟨"com/example/gudl/gudl/GroundFactorIsConstantPinLaw", "truthArray", "(II)[Z"⟩ : MethodName)) hown (mvT hZ (own_W hw 0 rfl)) (mvT hZ (own_W hw 1 rfl)) (mvT hZ (own_W hw 2 rfl)) (mvT hZ (own_W hw 3 rfl)) (by decide) (backOf (W := 0) (rm1_3 l Z a0 hw [] (3 : Int32) pi2 h0 n0 Z0 O0 (by decide) (by decide) (by decide)) hZ (own_W hw 3 rfl) (own_W hw 2 rfl) (by decide) (by decide)) (g := (mkF m 47 #[.val (.int pi1), .val (.int pi2), .val (.int pi3), .val (.int pi4), .val (.int (3 : Int32)), .val (.int (8 : Int32)), .val (.int (255 : Int32)), .val (.int (pi2 &&& (255 : Int32))), .val (.int (1 : Int32)), .unset, .unset, .unset, .unset, .unset] [(.int pi2), (.int (3 : Int32))])) rfl (by rw [hml]; rfl) (argsL := [(.int (3 : Int32)), (.int pi2)]) (rest := []) (lenOf pd_0 rfl) rfl (by show 2 * 0 + _ ≤ _; exact Nat.le_of_eq rfl) (hb hby at_47) (fun _ _ => ⟨rfl, e0, (by decide : 0 + 1 ≤ _), (by decide : 0 + 8 ≤ _)⟩)
  dsimp only [Pt.U, Pt.locs, Pt.cells, Pt.slots] at X1 l1 y1 z1 st1 hQ1
  subst l1 y1 z1
  obtain ⟨b1, b1_1, rfl, N1q, K1, qf1_0, qf1_1⟩ := hQ1
  have N1 := Fr.app N0 N1q
  have z3 := Nat.le_trans Z0 K1.1
  have o4 := O0.keep K1 all0
  obtain ⟨_, _, ⟨T2, L2, k2, n2⟩, -, X2, ⟨Lc2, hQ2, l2, y2, z2⟩, st2⟩ := Jvm.LawKit.callS X1 hx (y := (⟨"com/example/gudl/gudl/GroundFactorIsConstantPinLaw", "atomArray", "(II)[I"⟩ : MethodName)) hown (mvT hZ (own_W hw 8 rfl)) (mvT hZ (own_W hw 9 rfl)) (mvT hZ (own_W hw 2 rfl)) (mvT hZ (own_W hw 10 rfl)) (by decide) (backOf (W := 0) (rm3_3 l Z a0 hw [] (3 : Int32) pi3 T1.heap n0 z3 o4 (by decide) (by decide) (by decide)) hZ (own_W hw 10 rfl) (own_W hw 2 rfl) (by decide) (by decide)) (g := (mkF m 55 #[.val (.int pi1), .val (.int pi2), .val (.int pi3), .val (.int pi4), .val (.int (3 : Int32)), .val (.int (8 : Int32)), .val (.int (255 : Int32)), .val (.int (pi2 &&& (255 : Int32))), .val (.int (1 : Int32)), .val (.ref b1), .unset, .unset, .unset, .unset] [(.int pi3), (.int (3 : Int32))])) rfl (by rw [hml]; rfl) (argsL := [(.int (3 : Int32)), (.int pi3)]) (rest := []) (lenOf pd_2 rfl) rfl (by show 2 * 0 + _ ≤ _; exact Nat.le_of_eq rfl) (hb hby at_55) (fun _ _ => ⟨rfl, rfl, (by decide : 1 + 1 ≤ _), (by decide : 8 + 3 ≤ _)⟩)
  dsimp only [Pt.U, Pt.locs, Pt.cells, Pt.slots] at X2 l2 y2 z2 st2 hQ2
  subst l2 y2 z2
  obtain ⟨b2, b2_1, rfl, N2q, K2, qf2_0, qf2_1⟩ := hQ2
  have N2 := Fr.app N1 N2q
  obtain ⟨T5, h5, X5, e5, E5, A5, D5, -, st5⟩ := newO X2 hx hZ hown (own_W hw 12 rfl) (own_W hw 13 rfl) (own_W hw 14 rfl) rfl (g := (mkF m 65 #[.val (.int pi1), .val (.int pi2), .val (.int pi3), .val (.int pi4), .val (.int (3 : Int32)), .val (.int (8 : Int32)), .val (.int (255 : Int32)), .val (.int (pi2 &&& (255 : Int32))), .val (.int (1 : Int32)), .val (.ref b1), .val (.ref b2), .val (.double (FP.i2d (pi4.toInt16.toInt32))), .second, .unset] [])) rfl (hb hby at_65) (by decide) (by decide)
  obtain ⟨b5, g5⟩ : ∃ z, z = T2.heap.size := ⟨_, rfl⟩
  rw [← g5] at A5 D5 st5
  have F_value_b5 : Fld Z h5 b5 "com/example/gudl/gudl/GroundFactor" "value" "D" (.double (0 : UInt64)) := D5 (Or.inr (own_W hw 22 rfl)) (ty := .double) (by decide)
  have F_atoms_b5 : Fld Z h5 b5 "com/example/gudl/gudl/GroundFactor" "atoms" "[I" .null := D5 (Or.inr (own_W hw 24 rfl)) (ty := (.array .int)) (by decide)
  have F_truth_b5 : Fld Z h5 b5 "com/example/gudl/gudl/GroundFactor" "truth" "[Z" .null := D5 (Or.inr (own_W hw 26 rfl)) (ty := (.array .boolean)) (by decide)
  have f6 := qf2_1.ext E5
  have f7 := qf1_1.keep K2 nin0
  have f8 := f7.ext E5
  have z9 := Nat.le_trans z3 K2.1
  have g_b5 : n0 ≤ b5 := Nat.le_trans z9 (Nat.le_of_eq g5.symm)
  have z11 := Nat.le_trans z9 E5.1
  have o12 := o4.keep K2 all0
  have o13 := o12.ext E5
  obtain ⟨_, _, ⟨T10, L10, k10, n10⟩, -, X10, ⟨Lc10, hQ10, l10, y10, z10⟩, st10⟩ := X5.specialBack hx (y := (⟨"com/example/gudl/gudl/GroundFactor", "<init>", "(D[I[Z)V"⟩ : MethodName)) rfl hown (mvT hZ (own_W hw 15 rfl)) (mvT hZ (own_W hw 16 rfl)) (mvT hZ (own_W hw 17 rfl)) (by decide) (backOf (W := 1) (rm4_3 l Z a0 hw [] b5 (FP.i2d (pi4.toInt16.toInt32)) b2 b1 b2_1 pi3 (pi3 + (1 : Int32)) (pi3 + (2 : Int32)) b1_1 (nar .boolean (own_bt pi2 (0 : Int32))) (nar .boolean (own_bt pi2 (1 : Int32))) (nar .boolean (own_bt pi2 (2 : Int32))) (nar .boolean (own_bt pi2 (3 : Int32))) (nar .boolean (own_bt pi2 (4 : Int32))) (nar .boolean (own_bt pi2 (5 : Int32))) (nar .boolean (own_bt pi2 (6 : Int32))) (nar .boolean (own_bt pi2 (7 : Int32))) (.double (0 : UInt64)) .null .null h5 n0 z11 o13 f6 f8 A5 F_value_b5 g_b5 F_atoms_b5 F_truth_b5) hZ (own_W hw 17 rfl) (own_W hw 14 rfl) (by decide) (by decide)) (g := (mkF m 75 #[.val (.int pi1), .val (.int pi2), .val (.int pi3), .val (.int pi4), .val (.int (3 : Int32)), .val (.int (8 : Int32)), .val (.int (255 : Int32)), .val (.int (pi2 &&& (255 : Int32))), .val (.int (1 : Int32)), .val (.ref b1), .val (.ref b2), .val (.double (FP.i2d (pi4.toInt16.toInt32))), .second, .unset] [(.ref b1), (.ref b2), (.double (FP.i2d (pi4.toInt16.toInt32))), (.ref b5), (.ref b5)])) rfl (by rw [hml]; rfl) (Steps.refl _) (a := b5) (argsL := [(.double (FP.i2d (pi4.toInt16.toInt32))), (.ref b2), (.ref b1)]) (rest := [(.ref b5)]) (lenOf pd_3 rfl) rfl (by show 2 * 0 + _ ≤ _; exact Nat.le_of_eq rfl) (hb hby at_75) (fun _ _ => ⟨rfl, e5, (by decide : 3 + 0 ≤ _), (by decide : 14 + 0 ≤ _)⟩)
  dsimp only [Pt.U, Pt.locs, Pt.cells, Pt.slots] at X10 l10 y10 z10 st10 hQ10
  subst l10 y10 z10
  obtain ⟨rfl, N10q, K10, qf10_0, qf10_1, qf10_2, qf10_3⟩ := hQ10
  have N10 := Fr.app N2 N10q
  have f14 := f8.keep K10 (ninS (Nat.ne_of_lt (Nat.lt_of_lt_of_le f7.lt (Nat.le_of_eq g5.symm))) nin0)
  have z16 := Nat.le_trans z11 K10.1
  have o17 := o13.keep K10 (allS g_b5 all0)
  obtain ⟨cq15, kq15, q15a, q15b, q15c⟩ := isOf hZ rfl qf10_0
  obtain ⟨_, _, ⟨T15, L15, k15, n15⟩, -, X15, ⟨Lc15, hQ15, l15, y15, z15⟩, st15⟩ := X10.virtualBack hx (y := (⟨"com/example/gudl/gudl/GroundFactor", "isConstant", "()Z"⟩ : MethodName)) (z := (⟨"com/example/gudl/gudl/GroundFactor", "isConstant", "()Z"⟩ : MethodName)) hown (mvT hZ (own_W hw 27 rfl)) (mvT hZ (own_W hw 28 rfl)) (notFace_of_selects (args := #[]) (mvT hZ (own_W hw 30 rfl))) (mvT hZ (own_W hw 30 rfl)) (mvT hZ (own_W hw 29 rfl)) (by decide) (backOf (W := 0) (rm6k3 l Z a0 hw [] b5 b1 b1_1 (nar .boolean (own_bt pi2 (0 : Int32))) (nar .boolean (own_bt pi2 (1 : Int32))) (nar .boolean (own_bt pi2 (2 : Int32))) (nar .boolean (own_bt pi2 (3 : Int32))) (nar .boolean (own_bt pi2 (4 : Int32))) (nar .boolean (own_bt pi2 (5 : Int32))) (nar .boolean (own_bt pi2 (6 : Int32))) (nar .boolean (own_bt pi2 (7 : Int32))) T10.heap n0 z16 o17 qf10_3 f14) hZ (own_W hw 31 rfl) (own_W hw 14 rfl) (by decide) (by decide)) q15a q15c (g := (mkF m 82 #[.val (.int pi1), .val (.int pi2), .val (.int pi3), .val (.int pi4), .val (.int (3 : Int32)), .val (.int (8 : Int32)), .val (.int (255 : Int32)), .val (.int (pi2 &&& (255 : Int32))), .val (.int (1 : Int32)), .val (.ref b1), .val (.ref b2), .val (.double (FP.i2d (pi4.toInt16.toInt32))), .second, .val (.ref b5)] [(.ref b5)])) rfl (by rw [hml]; rfl) (Steps.refl _) (argsL := []) (rest := []) (lenOf pd_5 rfl) rfl (by show 2 * 0 + _ ≤ _; exact Nat.le_of_eq rfl) (hb hby at_82) (fun _ _ => ⟨rfl, rfl, (by decide : 3 + 0 ≤ _), (by decide : 14 + 0 ≤ _)⟩)
  dsimp only [Pt.U, Pt.locs, Pt.cells, Pt.slots] at X15 l15 y15 z15 st15 hQ15
  subst l15 y15 z15
  obtain ⟨rfl, N15q, eq15⟩ := hQ15
  have N15 := Fr.app N10 N15q
  obtain ⟨fs, hr, hrun, hended, hW, hsame⟩ := X15.leave (v := some (.int (1 : Int32))) (fun h => by rw [Bd.returns] at h; cases h)
  refine ⟨_, _, pre0 _ ?_, hrun, hended, _, _, rfl, ?_, ⟨_, rfl⟩, hW, hsame.mono (by decide) (by decide)⟩
  · show Stp p e below s₁ m 0 #[.val (.int pi1), .val (.int pi2), .val (.int pi3), .val (.int pi4), .unset, .unset, .unset, .unset, .unset, .unset, .unset, .unset, .unset, .unset] [] _
    refine XS.iloadN X0.here hx rfl (hb hby at_0) rfl ?_
    show Stp p e below s₁ m 1 #[.val (.int pi1), .val (.int pi2), .val (.int pi3), .val (.int pi4), .unset, .unset, .unset, .unset, .unset, .unset, .unset, .unset, .unset, .unset] [(.int pi1)] _
    refine XS.iconst X0.here hx rfl (hb hby at_1) ?_
    show Stp p e below s₁ m 2 #[.val (.int pi1), .val (.int pi2), .val (.int pi3), .val (.int pi4), .unset, .unset, .unset, .unset, .unset, .unset, .unset, .unset, .unset, .unset] [(.int (3 : Int32)), (.int pi1)] _
    refine XS.iand X0.here hx rfl (hb hby at_2) rfl ?_
    show Stp p e below s₁ m 3 #[.val (.int pi1), .val (.int pi2), .val (.int pi3), .val (.int pi4), .unset, .unset, .unset, .unset, .unset, .unset, .unset, .unset, .unset, .unset] [(.int (pi1 &&& (3 : Int32)))] _
    refine XS.istore X0.here hx rfl (hb hby at_3) rfl (l' := #[.val (.int pi1), .val (.int pi2), .val (.int pi3), .val (.int pi4), .val (.int (pi1 &&& (3 : Int32))), .unset, .unset, .unset, .unset, .unset, .unset, .unset, .unset, .unset]) rfl ?_
    show Stp p e below s₁ m 5 #[.val (.int pi1), .val (.int pi2), .val (.int pi3), .val (.int pi4), .val (.int (pi1 &&& (3 : Int32))), .unset, .unset, .unset, .unset, .unset, .unset, .unset, .unset, .unset] [] _
    rw [show (pi1 &&& (3 : Int32)) = (3 : Int32) from own_n3 hc3_0 hc3_1 hc3_2]
    show Stp p e below s₁ m 5 #[.val (.int pi1), .val (.int pi2), .val (.int pi3), .val (.int pi4), .val (.int (3 : Int32)), .unset, .unset, .unset, .unset, .unset, .unset, .unset, .unset, .unset] [] _
    refine XS.iconst X0.here hx rfl (hb hby at_5) ?_
    show Stp p e below s₁ m 6 #[.val (.int pi1), .val (.int pi2), .val (.int pi3), .val (.int pi4), .val (.int (3 : Int32)), .unset, .unset, .unset, .unset, .unset, .unset, .unset, .unset, .unset] [(.int (1 : Int32))] _
    refine XS.iload X0.here hx rfl (hb hby at_6) rfl ?_
    show Stp p e below s₁ m 8 #[.val (.int pi1), .val (.int pi2), .val (.int pi3), .val (.int pi4), .val (.int (3 : Int32)), .unset, .unset, .unset, .unset, .unset, .unset, .unset, .unset, .unset] [(.int (3 : Int32)), (.int (1 : Int32))] _
    refine XS.ishl X0.here hx rfl (hb hby at_8) rfl ?_
    show Stp p e below s₁ m 9 #[.val (.int pi1), .val (.int pi2), .val (.int pi3), .val (.int pi4), .val (.int (3 : Int32)), .unset, .unset, .unset, .unset, .unset, .unset, .unset, .unset, .unset] [(.int (8 : Int32))] _
    refine XS.istore X0.here hx rfl (hb hby at_9) rfl (l' := #[.val (.int pi1), .val (.int pi2), .val (.int pi3), .val (.int pi4), .val (.int (3 : Int32)), .val (.int (8 : Int32)), .unset, .unset, .unset, .unset, .unset, .unset, .unset, .unset]) rfl ?_
    show Stp p e below s₁ m 11 #[.val (.int pi1), .val (.int pi2), .val (.int pi3), .val (.int pi4), .val (.int (3 : Int32)), .val (.int (8 : Int32)), .unset, .unset, .unset, .unset, .unset, .unset, .unset, .unset] [] _
    refine XS.iconst X0.here hx rfl (hb hby at_11) ?_
    show Stp p e below s₁ m 12 #[.val (.int pi1), .val (.int pi2), .val (.int pi3), .val (.int pi4), .val (.int (3 : Int32)), .val (.int (8 : Int32)), .unset, .unset, .unset, .unset, .unset, .unset, .unset, .unset] [(.int (1 : Int32))] _
    refine XS.iload X0.here hx rfl (hb hby at_12) rfl ?_
    show Stp p e below s₁ m 14 #[.val (.int pi1), .val (.int pi2), .val (.int pi3), .val (.int pi4), .val (.int (3 : Int32)), .val (.int (8 : Int32)), .unset, .unset, .unset, .unset, .unset, .unset, .unset, .unset] [(.int (8 : Int32)), (.int (1 : Int32))] _
    refine XS.ishl X0.here hx rfl (hb hby at_14) rfl ?_
    show Stp p e below s₁ m 15 #[.val (.int pi1), .val (.int pi2), .val (.int pi3), .val (.int pi4), .val (.int (3 : Int32)), .val (.int (8 : Int32)), .unset, .unset, .unset, .unset, .unset, .unset, .unset, .unset] [(.int (256 : Int32))] _
    refine XS.iconst X0.here hx rfl (hb hby at_15) ?_
    show Stp p e below s₁ m 16 #[.val (.int pi1), .val (.int pi2), .val (.int pi3), .val (.int pi4), .val (.int (3 : Int32)), .val (.int (8 : Int32)), .unset, .unset, .unset, .unset, .unset, .unset, .unset, .unset] [(.int (1 : Int32)), (.int (256 : Int32))] _
    refine XS.isub X0.here hx rfl (hb hby at_16) rfl ?_
    show Stp p e below s₁ m 17 #[.val (.int pi1), .val (.int pi2), .val (.int pi3), .val (.int pi4), .val (.int (3 : Int32)), .val (.int (8 : Int32)), .unset, .unset, .unset, .unset, .unset, .unset, .unset, .unset] [(.int (255 : Int32))] _
    refine XS.istore X0.here hx rfl (hb hby at_17) rfl (l' := #[.val (.int pi1), .val (.int pi2), .val (.int pi3), .val (.int pi4), .val (.int (3 : Int32)), .val (.int (8 : Int32)), .val (.int (255 : Int32)), .unset, .unset, .unset, .unset, .unset, .unset, .unset]) rfl ?_
    show Stp p e below s₁ m 19 #[.val (.int pi1), .val (.int pi2), .val (.int pi3), .val (.int pi4), .val (.int (3 : Int32)), .val (.int (8 : Int32)), .val (.int (255 : Int32)), .unset, .unset, .unset, .unset, .unset, .unset, .unset] [] _
    refine XS.iloadN X0.here hx rfl (hb hby at_19) rfl ?_
    show Stp p e below s₁ m 20 #[.val (.int pi1), .val (.int pi2), .val (.int pi3), .val (.int pi4), .val (.int (3 : Int32)), .val (.int (8 : Int32)), .val (.int (255 : Int32)), .unset, .unset, .unset, .unset, .unset, .unset, .unset] [(.int pi2)] _
    refine XS.iload X0.here hx rfl (hb hby at_20) rfl ?_
    show Stp p e below s₁ m 22 #[.val (.int pi1), .val (.int pi2), .val (.int pi3), .val (.int pi4), .val (.int (3 : Int32)), .val (.int (8 : Int32)), .val (.int (255 : Int32)), .unset, .unset, .unset, .unset, .unset, .unset, .unset] [(.int (255 : Int32)), (.int pi2)] _
    refine XS.iand X0.here hx rfl (hb hby at_22) rfl ?_
    show Stp p e below s₁ m 23 #[.val (.int pi1), .val (.int pi2), .val (.int pi3), .val (.int pi4), .val (.int (3 : Int32)), .val (.int (8 : Int32)), .val (.int (255 : Int32)), .unset, .unset, .unset, .unset, .unset, .unset, .unset] [(.int (pi2 &&& (255 : Int32)))] _
    refine XS.istore X0.here hx rfl (hb hby at_23) rfl (l' := #[.val (.int pi1), .val (.int pi2), .val (.int pi3), .val (.int pi4), .val (.int (3 : Int32)), .val (.int (8 : Int32)), .val (.int (255 : Int32)), .val (.int (pi2 &&& (255 : Int32))), .unset, .unset, .unset, .unset, .unset, .unset]) rfl ?_
    show Stp p e below s₁ m 25 #[.val (.int pi1), .val (.int pi2), .val (.int pi3), .val (.int pi4), .val (.int (3 : Int32)), .val (.int (8 : Int32)), .val (.int (255 : Int32)), .val (.int (pi2 &&& (255 : Int32))), .unset, .unset, .unset, .unset, .unset, .unset] [] _
    refine XS.iload X0.here hx rfl (hb hby at_25) rfl ?_
    show Stp p e below s₁ m 27 #[.val (.int pi1), .val (.int pi2), .val (.int pi3), .val (.int pi4), .val (.int (3 : Int32)), .val (.int (8 : Int32)), .val (.int (255 : Int32)), .val (.int (pi2 &&& (255 : Int32))), .unset, .unset, .unset, .unset, .unset, .unset] [(.int (pi2 &&& (255 : Int32)))] _
    refine XS.ifNo X0.here hx rfl (hb hby at_27) rfl ((if0 _ _).trans (feq hc27_3).1) ?_
    show Stp p e below s₁ m 30 #[.val (.int pi1), .val (.int pi2), .val (.int pi3), .val (.int pi4), .val (.int (3 : Int32)), .val (.int (8 : Int32)), .val (.int (255 : Int32)), .val (.int (pi2 &&& (255 : Int32))), .unset, .unset, .unset, .unset, .unset, .unset] [] _
    refine XS.iload X0.here hx rfl (hb hby at_30) rfl ?_
    show Stp p e below s₁ m 32 #[.val (.int pi1), .val (.int pi2), .val (.int pi3), .val (.int pi4), .val (.int (3 : Int32)), .val (.int (8 : Int32)), .val (.int (255 : Int32)), .val (.int (pi2 &&& (255 : Int32))), .unset, .unset, .unset, .unset, .unset, .unset] [(.int (pi2 &&& (255 : Int32)))] _
    refine XS.iload X0.here hx rfl (hb hby at_32) rfl ?_
    show Stp p e below s₁ m 34 #[.val (.int pi1), .val (.int pi2), .val (.int pi3), .val (.int pi4), .val (.int (3 : Int32)), .val (.int (8 : Int32)), .val (.int (255 : Int32)), .val (.int (pi2 &&& (255 : Int32))), .unset, .unset, .unset, .unset, .unset, .unset] [(.int (255 : Int32)), (.int (pi2 &&& (255 : Int32)))] _
    refine XS.icmpNo X0.here hx rfl (hb hby at_34) rfl (teq hc34_4).2 ?_
    show Stp p e below s₁ m 37 #[.val (.int pi1), .val (.int pi2), .val (.int pi3), .val (.int pi4), .val (.int (3 : Int32)), .val (.int (8 : Int32)), .val (.int (255 : Int32)), .val (.int (pi2 &&& (255 : Int32))), .unset, .unset, .unset, .unset, .unset, .unset] [] _
    refine XS.iconst X0.here hx rfl (hb hby at_37) ?_
    show Stp p e below s₁ m 38 #[.val (.int pi1), .val (.int pi2), .val (.int pi3), .val (.int pi4), .val (.int (3 : Int32)), .val (.int (8 : Int32)), .val (.int (255 : Int32)), .val (.int (pi2 &&& (255 : Int32))), .unset, .unset, .unset, .unset, .unset, .unset] [(.int (1 : Int32))] _
    refine XS.goto X0.here hx rfl (pc0 := 38) (pc' := 42) rfl (hb hby at_38) (by decide) (by decide) ?_
    show Stp p e below s₁ m 42 #[.val (.int pi1), .val (.int pi2), .val (.int pi3), .val (.int pi4), .val (.int (3 : Int32)), .val (.int (8 : Int32)), .val (.int (255 : Int32)), .val (.int (pi2 &&& (255 : Int32))), .unset, .unset, .unset, .unset, .unset, .unset] [(.int (1 : Int32))] _
    refine XS.istore X0.here hx rfl (hb hby at_42) rfl (l' := #[.val (.int pi1), .val (.int pi2), .val (.int pi3), .val (.int pi4), .val (.int (3 : Int32)), .val (.int (8 : Int32)), .val (.int (255 : Int32)), .val (.int (pi2 &&& (255 : Int32))), .val (.int (1 : Int32)), .unset, .unset, .unset, .unset, .unset]) rfl ?_
    show Stp p e below s₁ m 44 #[.val (.int pi1), .val (.int pi2), .val (.int pi3), .val (.int pi4), .val (.int (3 : Int32)), .val (.int (8 : Int32)), .val (.int (255 : Int32)), .val (.int (pi2 &&& (255 : Int32))), .val (.int (1 : Int32)), .unset, .unset, .unset, .unset, .unset] [] _
    refine XS.iload X0.here hx rfl (hb hby at_44) rfl ?_
    show Stp p e below s₁ m 46 #[.val (.int pi1), .val (.int pi2), .val (.int pi3), .val (.int pi4), .val (.int (3 : Int32)), .val (.int (8 : Int32)), .val (.int (255 : Int32)), .val (.int (pi2 &&& (255 : Int32))), .val (.int (1 : Int32)), .unset, .unset, .unset, .unset, .unset] [(.int (3 : Int32))] _
    refine XS.iloadN X0.here hx rfl (hb hby at_46) rfl ?_
    show Stp p e below s₁ m 47 #[.val (.int pi1), .val (.int pi2), .val (.int pi3), .val (.int pi4), .val (.int (3 : Int32)), .val (.int (8 : Int32)), .val (.int (255 : Int32)), .val (.int (pi2 &&& (255 : Int32))), .val (.int (1 : Int32)), .unset, .unset, .unset, .unset, .unset] [(.int pi2), (.int (3 : Int32))] _
    refine st1 _ ?_
    show Stp p e below T1 m 50 #[.val (.int pi1), .val (.int pi2), .val (.int pi3), .val (.int pi4), .val (.int (3 : Int32)), .val (.int (8 : Int32)), .val (.int (255 : Int32)), .val (.int (pi2 &&& (255 : Int32))), .val (.int (1 : Int32)), .unset, .unset, .unset, .unset, .unset] [(.ref b1)] _
    refine XS.astore X1.here hx rfl (hb hby at_50) rfl rfl (l' := #[.val (.int pi1), .val (.int pi2), .val (.int pi3), .val (.int pi4), .val (.int (3 : Int32)), .val (.int (8 : Int32)), .val (.int (255 : Int32)), .val (.int (pi2 &&& (255 : Int32))), .val (.int (1 : Int32)), .val (.ref b1), .unset, .unset, .unset, .unset]) rfl ?_
    show Stp p e below T1 m 52 #[.val (.int pi1), .val (.int pi2), .val (.int pi3), .val (.int pi4), .val (.int (3 : Int32)), .val (.int (8 : Int32)), .val (.int (255 : Int32)), .val (.int (pi2 &&& (255 : Int32))), .val (.int (1 : Int32)), .val (.ref b1), .unset, .unset, .unset, .unset] [] _
    refine XS.iload X1.here hx rfl (hb hby at_52) rfl ?_
    show Stp p e below T1 m 54 #[.val (.int pi1), .val (.int pi2), .val (.int pi3), .val (.int pi4), .val (.int (3 : Int32)), .val (.int (8 : Int32)), .val (.int (255 : Int32)), .val (.int (pi2 &&& (255 : Int32))), .val (.int (1 : Int32)), .val (.ref b1), .unset, .unset, .unset, .unset] [(.int (3 : Int32))] _
    refine XS.iloadN X1.here hx rfl (hb hby at_54) rfl ?_
    show Stp p e below T1 m 55 #[.val (.int pi1), .val (.int pi2), .val (.int pi3), .val (.int pi4), .val (.int (3 : Int32)), .val (.int (8 : Int32)), .val (.int (255 : Int32)), .val (.int (pi2 &&& (255 : Int32))), .val (.int (1 : Int32)), .val (.ref b1), .unset, .unset, .unset, .unset] [(.int pi3), (.int (3 : Int32))] _
    refine st2 _ ?_
    show Stp p e below T2 m 58 #[.val (.int pi1), .val (.int pi2), .val (.int pi3), .val (.int pi4), .val (.int (3 : Int32)), .val (.int (8 : Int32)), .val (.int (255 : Int32)), .val (.int (pi2 &&& (255 : Int32))), .val (.int (1 : Int32)), .val (.ref b1), .unset, .unset, .unset, .unset] [(.ref b2)] _
    refine XS.astore X2.here hx rfl (hb hby at_58) rfl rfl (l' := #[.val (.int pi1), .val (.int pi2), .val (.int pi3), .val (.int pi4), .val (.int (3 : Int32)), .val (.int (8 : Int32)), .val (.int (255 : Int32)), .val (.int (pi2 &&& (255 : Int32))), .val (.int (1 : Int32)), .val (.ref b1), .val (.ref b2), .unset, .unset, .unset]) rfl ?_
    show Stp p e below T2 m 60 #[.val (.int pi1), .val (.int pi2), .val (.int pi3), .val (.int pi4), .val (.int (3 : Int32)), .val (.int (8 : Int32)), .val (.int (255 : Int32)), .val (.int (pi2 &&& (255 : Int32))), .val (.int (1 : Int32)), .val (.ref b1), .val (.ref b2), .unset, .unset, .unset] [] _
    refine XS.iloadN X2.here hx rfl (hb hby at_60) rfl ?_
    show Stp p e below T2 m 61 #[.val (.int pi1), .val (.int pi2), .val (.int pi3), .val (.int pi4), .val (.int (3 : Int32)), .val (.int (8 : Int32)), .val (.int (255 : Int32)), .val (.int (pi2 &&& (255 : Int32))), .val (.int (1 : Int32)), .val (.ref b1), .val (.ref b2), .unset, .unset, .unset] [(.int pi4)] _
    refine XS.i2s X2.here hx rfl (hb hby at_61) rfl ?_
    show Stp p e below T2 m 62 #[.val (.int pi1), .val (.int pi2), .val (.int pi3), .val (.int pi4), .val (.int (3 : Int32)), .val (.int (8 : Int32)), .val (.int (255 : Int32)), .val (.int (pi2 &&& (255 : Int32))), .val (.int (1 : Int32)), .val (.ref b1), .val (.ref b2), .unset, .unset, .unset] [(.int (pi4.toInt16.toInt32))] _
    refine XS.i2dS X2.here hx rfl (hb hby at_62) rfl rfl ?_
    show Stp p e below T2 m 63 #[.val (.int pi1), .val (.int pi2), .val (.int pi3), .val (.int pi4), .val (.int (3 : Int32)), .val (.int (8 : Int32)), .val (.int (255 : Int32)), .val (.int (pi2 &&& (255 : Int32))), .val (.int (1 : Int32)), .val (.ref b1), .val (.ref b2), .unset, .unset, .unset] [(.double (FP.i2d (pi4.toInt16.toInt32)))] _
    refine XS.dstore X2.here hx rfl (hb hby at_63) rfl (l' := #[.val (.int pi1), .val (.int pi2), .val (.int pi3), .val (.int pi4), .val (.int (3 : Int32)), .val (.int (8 : Int32)), .val (.int (255 : Int32)), .val (.int (pi2 &&& (255 : Int32))), .val (.int (1 : Int32)), .val (.ref b1), .val (.ref b2), .val (.double (FP.i2d (pi4.toInt16.toInt32))), .second, .unset]) rfl ?_
    show Stp p e below T2 m 65 #[.val (.int pi1), .val (.int pi2), .val (.int pi3), .val (.int pi4), .val (.int (3 : Int32)), .val (.int (8 : Int32)), .val (.int (255 : Int32)), .val (.int (pi2 &&& (255 : Int32))), .val (.int (1 : Int32)), .val (.ref b1), .val (.ref b2), .val (.double (FP.i2d (pi4.toInt16.toInt32))), .second, .unset] [] _
    refine st5 _ ?_
    show Stp p e below T5 m 68 #[.val (.int pi1), .val (.int pi2), .val (.int pi3), .val (.int pi4), .val (.int (3 : Int32)), .val (.int (8 : Int32)), .val (.int (255 : Int32)), .val (.int (pi2 &&& (255 : Int32))), .val (.int (1 : Int32)), .val (.ref b1), .val (.ref b2), .val (.double (FP.i2d (pi4.toInt16.toInt32))), .second, .unset] [(.ref b5)] _
    refine XS.dup X5.here hx rfl (hb hby at_68) rfl rfl ?_
    show Stp p e below T5 m 69 #[.val (.int pi1), .val (.int pi2), .val (.int pi3), .val (.int pi4), .val (.int (3 : Int32)), .val (.int (8 : Int32)), .val (.int (255 : Int32)), .val (.int (pi2 &&& (255 : Int32))), .val (.int (1 : Int32)), .val (.ref b1), .val (.ref b2), .val (.double (FP.i2d (pi4.toInt16.toInt32))), .second, .unset] [(.ref b5), (.ref b5)] _
    refine XS.dload X5.here hx rfl (hb hby at_69) rfl ?_
    show Stp p e below T5 m 71 #[.val (.int pi1), .val (.int pi2), .val (.int pi3), .val (.int pi4), .val (.int (3 : Int32)), .val (.int (8 : Int32)), .val (.int (255 : Int32)), .val (.int (pi2 &&& (255 : Int32))), .val (.int (1 : Int32)), .val (.ref b1), .val (.ref b2), .val (.double (FP.i2d (pi4.toInt16.toInt32))), .second, .unset] [(.double (FP.i2d (pi4.toInt16.toInt32))), (.ref b5), (.ref b5)] _
    refine XS.aload X5.here hx rfl (hb hby at_71) rfl rfl ?_
    show Stp p e below T5 m 73 #[.val (.int pi1), .val (.int pi2), .val (.int pi3), .val (.int pi4), .val (.int (3 : Int32)), .val (.int (8 : Int32)), .val (.int (255 : Int32)), .val (.int (pi2 &&& (255 : Int32))), .val (.int (1 : Int32)), .val (.ref b1), .val (.ref b2), .val (.double (FP.i2d (pi4.toInt16.toInt32))), .second, .unset] [(.ref b2), (.double (FP.i2d (pi4.toInt16.toInt32))), (.ref b5), (.ref b5)] _
    refine XS.aload X5.here hx rfl (hb hby at_73) rfl rfl ?_
    show Stp p e below T5 m 75 #[.val (.int pi1), .val (.int pi2), .val (.int pi3), .val (.int pi4), .val (.int (3 : Int32)), .val (.int (8 : Int32)), .val (.int (255 : Int32)), .val (.int (pi2 &&& (255 : Int32))), .val (.int (1 : Int32)), .val (.ref b1), .val (.ref b2), .val (.double (FP.i2d (pi4.toInt16.toInt32))), .second, .unset] [(.ref b1), (.ref b2), (.double (FP.i2d (pi4.toInt16.toInt32))), (.ref b5), (.ref b5)] _
    refine st10.trans ?_
    show Stp p e below T10 m 78 #[.val (.int pi1), .val (.int pi2), .val (.int pi3), .val (.int pi4), .val (.int (3 : Int32)), .val (.int (8 : Int32)), .val (.int (255 : Int32)), .val (.int (pi2 &&& (255 : Int32))), .val (.int (1 : Int32)), .val (.ref b1), .val (.ref b2), .val (.double (FP.i2d (pi4.toInt16.toInt32))), .second, .unset] [(.ref b5)] _
    refine XS.astore X10.here hx rfl (hb hby at_78) rfl rfl (l' := #[.val (.int pi1), .val (.int pi2), .val (.int pi3), .val (.int pi4), .val (.int (3 : Int32)), .val (.int (8 : Int32)), .val (.int (255 : Int32)), .val (.int (pi2 &&& (255 : Int32))), .val (.int (1 : Int32)), .val (.ref b1), .val (.ref b2), .val (.double (FP.i2d (pi4.toInt16.toInt32))), .second, .val (.ref b5)]) rfl ?_
    show Stp p e below T10 m 80 #[.val (.int pi1), .val (.int pi2), .val (.int pi3), .val (.int pi4), .val (.int (3 : Int32)), .val (.int (8 : Int32)), .val (.int (255 : Int32)), .val (.int (pi2 &&& (255 : Int32))), .val (.int (1 : Int32)), .val (.ref b1), .val (.ref b2), .val (.double (FP.i2d (pi4.toInt16.toInt32))), .second, .val (.ref b5)] [] _
    refine XS.aload X10.here hx rfl (hb hby at_80) rfl rfl ?_
    show Stp p e below T10 m 82 #[.val (.int pi1), .val (.int pi2), .val (.int pi3), .val (.int pi4), .val (.int (3 : Int32)), .val (.int (8 : Int32)), .val (.int (255 : Int32)), .val (.int (pi2 &&& (255 : Int32))), .val (.int (1 : Int32)), .val (.ref b1), .val (.ref b2), .val (.double (FP.i2d (pi4.toInt16.toInt32))), .second, .val (.ref b5)] [(.ref b5)] _
    refine st15.trans ?_
    show Stp p e below T15 m 85 #[.val (.int pi1), .val (.int pi2), .val (.int pi3), .val (.int pi4), .val (.int (3 : Int32)), .val (.int (8 : Int32)), .val (.int (255 : Int32)), .val (.int (pi2 &&& (255 : Int32))), .val (.int (1 : Int32)), .val (.ref b1), .val (.ref b2), .val (.double (FP.i2d (pi4.toInt16.toInt32))), .second, .val (.ref b5)] [(.int (own_ic3 (nar .boolean (own_bt pi2 (0 : Int32))) (nar .boolean (own_bt pi2 (1 : Int32))) (nar .boolean (own_bt pi2 (2 : Int32))) (nar .boolean (own_bt pi2 (3 : Int32))) (nar .boolean (own_bt pi2 (4 : Int32))) (nar .boolean (own_bt pi2 (5 : Int32))) (nar .boolean (own_bt pi2 (6 : Int32))) (nar .boolean (own_bt pi2 (7 : Int32)))))] _
    refine XS.iload X15.here hx rfl (hb hby at_85) rfl ?_
    show Stp p e below T15 m 87 #[.val (.int pi1), .val (.int pi2), .val (.int pi3), .val (.int pi4), .val (.int (3 : Int32)), .val (.int (8 : Int32)), .val (.int (255 : Int32)), .val (.int (pi2 &&& (255 : Int32))), .val (.int (1 : Int32)), .val (.ref b1), .val (.ref b2), .val (.double (FP.i2d (pi4.toInt16.toInt32))), .second, .val (.ref b5)] [(.int (1 : Int32)), (.int (own_ic3 (nar .boolean (own_bt pi2 (0 : Int32))) (nar .boolean (own_bt pi2 (1 : Int32))) (nar .boolean (own_bt pi2 (2 : Int32))) (nar .boolean (own_bt pi2 (3 : Int32))) (nar .boolean (own_bt pi2 (4 : Int32))) (nar .boolean (own_bt pi2 (5 : Int32))) (nar .boolean (own_bt pi2 (6 : Int32))) (nar .boolean (own_bt pi2 (7 : Int32)))))] _
    refine XS.icmpNo X15.here hx rfl (hb hby at_87) rfl (teq ((own_e3 pi2).trans ((if_neg hc27_3).trans (if_pos hc34_4)))).2 ?_
    show Stp p e below T15 m 90 #[.val (.int pi1), .val (.int pi2), .val (.int pi3), .val (.int pi4), .val (.int (3 : Int32)), .val (.int (8 : Int32)), .val (.int (255 : Int32)), .val (.int (pi2 &&& (255 : Int32))), .val (.int (1 : Int32)), .val (.ref b1), .val (.ref b2), .val (.double (FP.i2d (pi4.toInt16.toInt32))), .second, .val (.ref b5)] [] _
    refine XS.iconst X15.here hx rfl (hb hby at_90) ?_
    show Stp p e below T15 m 91 #[.val (.int pi1), .val (.int pi2), .val (.int pi3), .val (.int pi4), .val (.int (3 : Int32)), .val (.int (8 : Int32)), .val (.int (255 : Int32)), .val (.int (pi2 &&& (255 : Int32))), .val (.int (1 : Int32)), .val (.ref b1), .val (.ref b2), .val (.double (FP.i2d (pi4.toInt16.toInt32))), .second, .val (.ref b5)] [(.int (1 : Int32))] _
    refine XS.goto X15.here hx rfl (pc0 := 91) (pc' := 95) rfl (hb hby at_91) (by decide) (by decide) ?_
    show Stp p e below T15 m 95 #[.val (.int pi1), .val (.int pi2), .val (.int pi3), .val (.int pi4), .val (.int (3 : Int32)), .val (.int (8 : Int32)), .val (.int (255 : Int32)), .val (.int (pi2 &&& (255 : Int32))), .val (.int (1 : Int32)), .val (.ref b1), .val (.ref b2), .val (.double (FP.i2d (pi4.toInt16.toInt32))), .second, .val (.ref b5)] [(.int (1 : Int32))] _
    exact retN X15 hx (t := .boolean) Bd.returns (by simp) (hb hby at_95) hr
  · exact ⟨rfl, N15⟩
set_option maxRecDepth 65536 in
set_option maxHeartbeats 40000000 in
theorem rm0_fffff (l : Launch) (Z : State) (a0 : Array Value) (hw : ∀ d ∈ tables_1, d.before a0 Z = true) (ws : List Jvm.Cond) (pi1 : Int32) (pi2 : Int32) (pi3 : Int32) (pi4 : Int32) (h0 : Heap) (n0 : Nat) (Z0 : n0 ≤ h0.size) (O0 : Old Z n0 h0) (hc3_0 : ¬ ((pi1 &&& (3 : Int32)) = (0 : Int32))) (hc3_1 : ¬ ((pi1 &&& (3 : Int32)) = (1 : Int32))) (hc3_2 : ¬ ((pi1 &&& (3 : Int32)) = (2 : Int32))) (hc27_3 : ¬ ((pi2 &&& (255 : Int32)) = (0 : Int32))) (hc34_4 : ¬ ((pi2 &&& (255 : Int32)) = (255 : Int32))) :
    MetFree l x (head1 (Jvm.Cond.code x code maxLocals ret :: ws) room_1) (fun a U => a = #[(.int pi1), (.int pi2), (.int pi3), (.int pi4)] ∧ Z.Warmed39 U.vm ∧ U.heap = h0) (fun _ _ _ _ _ => True) (fun _ U o U' => ∃ v L, o = .returned v ∧ Q0 v L n0 ∧ FrameEnd U o U' L room_1.cells room_1.slots) := by
  refine MetFree.of_bodySF (plainFor_of_name pn_0) hisR ?_
  intro p e s m args below meth c s₁ Bd hml0 hP hK
  obtain ⟨rfl, hZ, hh⟩ := hP
  have hx := Bd.exec
  have hby := Bd.bytes
  have hml : c.maxLocals = 14 := hml0
  have hown : s.vm.findClass "com/example/gudl/gudl/GroundFactorIsConstantPinLaw" = some m.cls := findClass_of_methodNamed Bd.named
  have hnm := (name_of_methodNamed Bd.named Bd.method).1
  have X0 : Stand p l e room_1 s m #[(.int pi1), (.int pi2), (.int pi3), (.int pi4)] below meth c s₁ [] 0 0 := Stand.of_body Bd
  have e0 : s₁.heap = h0 := by rw [← hh, Bd.state]; rfl
  have N0 := Fr.nil n0
  have pre0 : ∀ t, Steps p.tables e below (s₁.setTop (mkF m 0 #[.val (.int pi1), .val (.int pi2), .val (.int pi3), .val (.int pi4), .unset, .unset, .unset, .unset, .unset, .unset, .unset, .unset, .unset, .unset] [])) t → Steps p.tables e below (s₁.setTop (entryFrame m #[(.int pi1), (.int pi2), (.int pi3), (.int pi4)] maxLocals)) t := fun t k => castTop (ef_0 m pi1 pi2 pi3 pi4) k
  obtain ⟨_, _, ⟨T1, L1, k1, n1⟩, -, X1, ⟨Lc1, hQ1, l1, y1, z1⟩, st1⟩ := Jvm.LawKit.callS X0 hx (y := (⟨"com/example/gudl/gudl/GroundFactorIsConstantPinLaw", "truthArray", "(II)[Z"⟩ : MethodName)) hown (mvT hZ (own_W hw 0 rfl)) (mvT hZ (own_W hw 1 rfl)) (mvT hZ (own_W hw 2 rfl)) (mvT hZ (own_W hw 3 rfl)) (by decide) (backOf (W := 0) (rm1_3 l Z a0 hw [] (3 : Int32) pi2 h0 n0 Z0 O0 (by decide) (by decide) (by decide)) hZ (own_W hw 3 rfl) (own_W hw 2 rfl) (by decide) (by decide)) (g := (mkF m 47 #[.val (.int pi1), .val (.int pi2), .val (.int pi3), .val (.int pi4), .val (.int (3 : Int32)), .val (.int (8 : Int32)), .val (.int (255 : Int32)), .val (.int (pi2 &&& (255 : Int32))), .val (.int (0 : Int32)), .unset, .unset, .unset, .unset, .unset] [(.int pi2), (.int (3 : Int32))])) rfl (by rw [hml]; rfl) (argsL := [(.int (3 : Int32)), (.int pi2)]) (rest := []) (lenOf pd_0 rfl) rfl (by show 2 * 0 + _ ≤ _; exact Nat.le_of_eq rfl) (hb hby at_47) (fun _ _ => ⟨rfl, e0, (by decide : 0 + 1 ≤ _), (by decide : 0 + 8 ≤ _)⟩)
  dsimp only [Pt.U, Pt.locs, Pt.cells, Pt.slots] at X1 l1 y1 z1 st1 hQ1
  subst l1 y1 z1
  obtain ⟨b1, b1_1, rfl, N1q, K1, qf1_0, qf1_1⟩ := hQ1
  have N1 := Fr.app N0 N1q
  have z3 := Nat.le_trans Z0 K1.1
  have o4 := O0.keep K1 all0
  obtain ⟨_, _, ⟨T2, L2, k2, n2⟩, -, X2, ⟨Lc2, hQ2, l2, y2, z2⟩, st2⟩ := Jvm.LawKit.callS X1 hx (y := (⟨"com/example/gudl/gudl/GroundFactorIsConstantPinLaw", "atomArray", "(II)[I"⟩ : MethodName)) hown (mvT hZ (own_W hw 8 rfl)) (mvT hZ (own_W hw 9 rfl)) (mvT hZ (own_W hw 2 rfl)) (mvT hZ (own_W hw 10 rfl)) (by decide) (backOf (W := 0) (rm3_3 l Z a0 hw [] (3 : Int32) pi3 T1.heap n0 z3 o4 (by decide) (by decide) (by decide)) hZ (own_W hw 10 rfl) (own_W hw 2 rfl) (by decide) (by decide)) (g := (mkF m 55 #[.val (.int pi1), .val (.int pi2), .val (.int pi3), .val (.int pi4), .val (.int (3 : Int32)), .val (.int (8 : Int32)), .val (.int (255 : Int32)), .val (.int (pi2 &&& (255 : Int32))), .val (.int (0 : Int32)), .val (.ref b1), .unset, .unset, .unset, .unset] [(.int pi3), (.int (3 : Int32))])) rfl (by rw [hml]; rfl) (argsL := [(.int (3 : Int32)), (.int pi3)]) (rest := []) (lenOf pd_2 rfl) rfl (by show 2 * 0 + _ ≤ _; exact Nat.le_of_eq rfl) (hb hby at_55) (fun _ _ => ⟨rfl, rfl, (by decide : 1 + 1 ≤ _), (by decide : 8 + 3 ≤ _)⟩)
  dsimp only [Pt.U, Pt.locs, Pt.cells, Pt.slots] at X2 l2 y2 z2 st2 hQ2
  subst l2 y2 z2
  obtain ⟨b2, b2_1, rfl, N2q, K2, qf2_0, qf2_1⟩ := hQ2
  have N2 := Fr.app N1 N2q
  obtain ⟨T5, h5, X5, e5, E5, A5, D5, -, st5⟩ := newO X2 hx hZ hown (own_W hw 12 rfl) (own_W hw 13 rfl) (own_W hw 14 rfl) rfl (g := (mkF m 65 #[.val (.int pi1), .val (.int pi2), .val (.int pi3), .val (.int pi4), .val (.int (3 : Int32)), .val (.int (8 : Int32)), .val (.int (255 : Int32)), .val (.int (pi2 &&& (255 : Int32))), .val (.int (0 : Int32)), .val (.ref b1), .val (.ref b2), .val (.double (FP.i2d (pi4.toInt16.toInt32))), .second, .unset] [])) rfl (hb hby at_65) (by decide) (by decide)
  obtain ⟨b5, g5⟩ : ∃ z, z = T2.heap.size := ⟨_, rfl⟩
  rw [← g5] at A5 D5 st5
  have F_value_b5 : Fld Z h5 b5 "com/example/gudl/gudl/GroundFactor" "value" "D" (.double (0 : UInt64)) := D5 (Or.inr (own_W hw 22 rfl)) (ty := .double) (by decide)
  have F_atoms_b5 : Fld Z h5 b5 "com/example/gudl/gudl/GroundFactor" "atoms" "[I" .null := D5 (Or.inr (own_W hw 24 rfl)) (ty := (.array .int)) (by decide)
  have F_truth_b5 : Fld Z h5 b5 "com/example/gudl/gudl/GroundFactor" "truth" "[Z" .null := D5 (Or.inr (own_W hw 26 rfl)) (ty := (.array .boolean)) (by decide)
  have f6 := qf2_1.ext E5
  have f7 := qf1_1.keep K2 nin0
  have f8 := f7.ext E5
  have z9 := Nat.le_trans z3 K2.1
  have g_b5 : n0 ≤ b5 := Nat.le_trans z9 (Nat.le_of_eq g5.symm)
  have z11 := Nat.le_trans z9 E5.1
  have o12 := o4.keep K2 all0
  have o13 := o12.ext E5
  obtain ⟨_, _, ⟨T10, L10, k10, n10⟩, -, X10, ⟨Lc10, hQ10, l10, y10, z10⟩, st10⟩ := X5.specialBack hx (y := (⟨"com/example/gudl/gudl/GroundFactor", "<init>", "(D[I[Z)V"⟩ : MethodName)) rfl hown (mvT hZ (own_W hw 15 rfl)) (mvT hZ (own_W hw 16 rfl)) (mvT hZ (own_W hw 17 rfl)) (by decide) (backOf (W := 1) (rm4_3 l Z a0 hw [] b5 (FP.i2d (pi4.toInt16.toInt32)) b2 b1 b2_1 pi3 (pi3 + (1 : Int32)) (pi3 + (2 : Int32)) b1_1 (nar .boolean (own_bt pi2 (0 : Int32))) (nar .boolean (own_bt pi2 (1 : Int32))) (nar .boolean (own_bt pi2 (2 : Int32))) (nar .boolean (own_bt pi2 (3 : Int32))) (nar .boolean (own_bt pi2 (4 : Int32))) (nar .boolean (own_bt pi2 (5 : Int32))) (nar .boolean (own_bt pi2 (6 : Int32))) (nar .boolean (own_bt pi2 (7 : Int32))) (.double (0 : UInt64)) .null .null h5 n0 z11 o13 f6 f8 A5 F_value_b5 g_b5 F_atoms_b5 F_truth_b5) hZ (own_W hw 17 rfl) (own_W hw 14 rfl) (by decide) (by decide)) (g := (mkF m 75 #[.val (.int pi1), .val (.int pi2), .val (.int pi3), .val (.int pi4), .val (.int (3 : Int32)), .val (.int (8 : Int32)), .val (.int (255 : Int32)), .val (.int (pi2 &&& (255 : Int32))), .val (.int (0 : Int32)), .val (.ref b1), .val (.ref b2), .val (.double (FP.i2d (pi4.toInt16.toInt32))), .second, .unset] [(.ref b1), (.ref b2), (.double (FP.i2d (pi4.toInt16.toInt32))), (.ref b5), (.ref b5)])) rfl (by rw [hml]; rfl) (Steps.refl _) (a := b5) (argsL := [(.double (FP.i2d (pi4.toInt16.toInt32))), (.ref b2), (.ref b1)]) (rest := [(.ref b5)]) (lenOf pd_3 rfl) rfl (by show 2 * 0 + _ ≤ _; exact Nat.le_of_eq rfl) (hb hby at_75) (fun _ _ => ⟨rfl, e5, (by decide : 3 + 0 ≤ _), (by decide : 14 + 0 ≤ _)⟩)
  dsimp only [Pt.U, Pt.locs, Pt.cells, Pt.slots] at X10 l10 y10 z10 st10 hQ10
  subst l10 y10 z10
  obtain ⟨rfl, N10q, K10, qf10_0, qf10_1, qf10_2, qf10_3⟩ := hQ10
  have N10 := Fr.app N2 N10q
  have f14 := f8.keep K10 (ninS (Nat.ne_of_lt (Nat.lt_of_lt_of_le f7.lt (Nat.le_of_eq g5.symm))) nin0)
  have z16 := Nat.le_trans z11 K10.1
  have o17 := o13.keep K10 (allS g_b5 all0)
  obtain ⟨cq15, kq15, q15a, q15b, q15c⟩ := isOf hZ rfl qf10_0
  obtain ⟨_, _, ⟨T15, L15, k15, n15⟩, -, X15, ⟨Lc15, hQ15, l15, y15, z15⟩, st15⟩ := X10.virtualBack hx (y := (⟨"com/example/gudl/gudl/GroundFactor", "isConstant", "()Z"⟩ : MethodName)) (z := (⟨"com/example/gudl/gudl/GroundFactor", "isConstant", "()Z"⟩ : MethodName)) hown (mvT hZ (own_W hw 27 rfl)) (mvT hZ (own_W hw 28 rfl)) (notFace_of_selects (args := #[]) (mvT hZ (own_W hw 30 rfl))) (mvT hZ (own_W hw 30 rfl)) (mvT hZ (own_W hw 29 rfl)) (by decide) (backOf (W := 0) (rm6k3 l Z a0 hw [] b5 b1 b1_1 (nar .boolean (own_bt pi2 (0 : Int32))) (nar .boolean (own_bt pi2 (1 : Int32))) (nar .boolean (own_bt pi2 (2 : Int32))) (nar .boolean (own_bt pi2 (3 : Int32))) (nar .boolean (own_bt pi2 (4 : Int32))) (nar .boolean (own_bt pi2 (5 : Int32))) (nar .boolean (own_bt pi2 (6 : Int32))) (nar .boolean (own_bt pi2 (7 : Int32))) T10.heap n0 z16 o17 qf10_3 f14) hZ (own_W hw 31 rfl) (own_W hw 14 rfl) (by decide) (by decide)) q15a q15c (g := (mkF m 82 #[.val (.int pi1), .val (.int pi2), .val (.int pi3), .val (.int pi4), .val (.int (3 : Int32)), .val (.int (8 : Int32)), .val (.int (255 : Int32)), .val (.int (pi2 &&& (255 : Int32))), .val (.int (0 : Int32)), .val (.ref b1), .val (.ref b2), .val (.double (FP.i2d (pi4.toInt16.toInt32))), .second, .val (.ref b5)] [(.ref b5)])) rfl (by rw [hml]; rfl) (Steps.refl _) (argsL := []) (rest := []) (lenOf pd_5 rfl) rfl (by show 2 * 0 + _ ≤ _; exact Nat.le_of_eq rfl) (hb hby at_82) (fun _ _ => ⟨rfl, rfl, (by decide : 3 + 0 ≤ _), (by decide : 14 + 0 ≤ _)⟩)
  dsimp only [Pt.U, Pt.locs, Pt.cells, Pt.slots] at X15 l15 y15 z15 st15 hQ15
  subst l15 y15 z15
  obtain ⟨rfl, N15q, eq15⟩ := hQ15
  have N15 := Fr.app N10 N15q
  obtain ⟨fs, hr, hrun, hended, hW, hsame⟩ := X15.leave (v := some (.int (1 : Int32))) (fun h => by rw [Bd.returns] at h; cases h)
  refine ⟨_, _, pre0 _ ?_, hrun, hended, _, _, rfl, ?_, ⟨_, rfl⟩, hW, hsame.mono (by decide) (by decide)⟩
  · show Stp p e below s₁ m 0 #[.val (.int pi1), .val (.int pi2), .val (.int pi3), .val (.int pi4), .unset, .unset, .unset, .unset, .unset, .unset, .unset, .unset, .unset, .unset] [] _
    refine XS.iloadN X0.here hx rfl (hb hby at_0) rfl ?_
    show Stp p e below s₁ m 1 #[.val (.int pi1), .val (.int pi2), .val (.int pi3), .val (.int pi4), .unset, .unset, .unset, .unset, .unset, .unset, .unset, .unset, .unset, .unset] [(.int pi1)] _
    refine XS.iconst X0.here hx rfl (hb hby at_1) ?_
    show Stp p e below s₁ m 2 #[.val (.int pi1), .val (.int pi2), .val (.int pi3), .val (.int pi4), .unset, .unset, .unset, .unset, .unset, .unset, .unset, .unset, .unset, .unset] [(.int (3 : Int32)), (.int pi1)] _
    refine XS.iand X0.here hx rfl (hb hby at_2) rfl ?_
    show Stp p e below s₁ m 3 #[.val (.int pi1), .val (.int pi2), .val (.int pi3), .val (.int pi4), .unset, .unset, .unset, .unset, .unset, .unset, .unset, .unset, .unset, .unset] [(.int (pi1 &&& (3 : Int32)))] _
    refine XS.istore X0.here hx rfl (hb hby at_3) rfl (l' := #[.val (.int pi1), .val (.int pi2), .val (.int pi3), .val (.int pi4), .val (.int (pi1 &&& (3 : Int32))), .unset, .unset, .unset, .unset, .unset, .unset, .unset, .unset, .unset]) rfl ?_
    show Stp p e below s₁ m 5 #[.val (.int pi1), .val (.int pi2), .val (.int pi3), .val (.int pi4), .val (.int (pi1 &&& (3 : Int32))), .unset, .unset, .unset, .unset, .unset, .unset, .unset, .unset, .unset] [] _
    rw [show (pi1 &&& (3 : Int32)) = (3 : Int32) from own_n3 hc3_0 hc3_1 hc3_2]
    show Stp p e below s₁ m 5 #[.val (.int pi1), .val (.int pi2), .val (.int pi3), .val (.int pi4), .val (.int (3 : Int32)), .unset, .unset, .unset, .unset, .unset, .unset, .unset, .unset, .unset] [] _
    refine XS.iconst X0.here hx rfl (hb hby at_5) ?_
    show Stp p e below s₁ m 6 #[.val (.int pi1), .val (.int pi2), .val (.int pi3), .val (.int pi4), .val (.int (3 : Int32)), .unset, .unset, .unset, .unset, .unset, .unset, .unset, .unset, .unset] [(.int (1 : Int32))] _
    refine XS.iload X0.here hx rfl (hb hby at_6) rfl ?_
    show Stp p e below s₁ m 8 #[.val (.int pi1), .val (.int pi2), .val (.int pi3), .val (.int pi4), .val (.int (3 : Int32)), .unset, .unset, .unset, .unset, .unset, .unset, .unset, .unset, .unset] [(.int (3 : Int32)), (.int (1 : Int32))] _
    refine XS.ishl X0.here hx rfl (hb hby at_8) rfl ?_
    show Stp p e below s₁ m 9 #[.val (.int pi1), .val (.int pi2), .val (.int pi3), .val (.int pi4), .val (.int (3 : Int32)), .unset, .unset, .unset, .unset, .unset, .unset, .unset, .unset, .unset] [(.int (8 : Int32))] _
    refine XS.istore X0.here hx rfl (hb hby at_9) rfl (l' := #[.val (.int pi1), .val (.int pi2), .val (.int pi3), .val (.int pi4), .val (.int (3 : Int32)), .val (.int (8 : Int32)), .unset, .unset, .unset, .unset, .unset, .unset, .unset, .unset]) rfl ?_
    show Stp p e below s₁ m 11 #[.val (.int pi1), .val (.int pi2), .val (.int pi3), .val (.int pi4), .val (.int (3 : Int32)), .val (.int (8 : Int32)), .unset, .unset, .unset, .unset, .unset, .unset, .unset, .unset] [] _
    refine XS.iconst X0.here hx rfl (hb hby at_11) ?_
    show Stp p e below s₁ m 12 #[.val (.int pi1), .val (.int pi2), .val (.int pi3), .val (.int pi4), .val (.int (3 : Int32)), .val (.int (8 : Int32)), .unset, .unset, .unset, .unset, .unset, .unset, .unset, .unset] [(.int (1 : Int32))] _
    refine XS.iload X0.here hx rfl (hb hby at_12) rfl ?_
    show Stp p e below s₁ m 14 #[.val (.int pi1), .val (.int pi2), .val (.int pi3), .val (.int pi4), .val (.int (3 : Int32)), .val (.int (8 : Int32)), .unset, .unset, .unset, .unset, .unset, .unset, .unset, .unset] [(.int (8 : Int32)), (.int (1 : Int32))] _
    refine XS.ishl X0.here hx rfl (hb hby at_14) rfl ?_
    show Stp p e below s₁ m 15 #[.val (.int pi1), .val (.int pi2), .val (.int pi3), .val (.int pi4), .val (.int (3 : Int32)), .val (.int (8 : Int32)), .unset, .unset, .unset, .unset, .unset, .unset, .unset, .unset] [(.int (256 : Int32))] _
    refine XS.iconst X0.here hx rfl (hb hby at_15) ?_
    show Stp p e below s₁ m 16 #[.val (.int pi1), .val (.int pi2), .val (.int pi3), .val (.int pi4), .val (.int (3 : Int32)), .val (.int (8 : Int32)), .unset, .unset, .unset, .unset, .unset, .unset, .unset, .unset] [(.int (1 : Int32)), (.int (256 : Int32))] _
    refine XS.isub X0.here hx rfl (hb hby at_16) rfl ?_
    show Stp p e below s₁ m 17 #[.val (.int pi1), .val (.int pi2), .val (.int pi3), .val (.int pi4), .val (.int (3 : Int32)), .val (.int (8 : Int32)), .unset, .unset, .unset, .unset, .unset, .unset, .unset, .unset] [(.int (255 : Int32))] _
    refine XS.istore X0.here hx rfl (hb hby at_17) rfl (l' := #[.val (.int pi1), .val (.int pi2), .val (.int pi3), .val (.int pi4), .val (.int (3 : Int32)), .val (.int (8 : Int32)), .val (.int (255 : Int32)), .unset, .unset, .unset, .unset, .unset, .unset, .unset]) rfl ?_
    show Stp p e below s₁ m 19 #[.val (.int pi1), .val (.int pi2), .val (.int pi3), .val (.int pi4), .val (.int (3 : Int32)), .val (.int (8 : Int32)), .val (.int (255 : Int32)), .unset, .unset, .unset, .unset, .unset, .unset, .unset] [] _
    refine XS.iloadN X0.here hx rfl (hb hby at_19) rfl ?_
    show Stp p e below s₁ m 20 #[.val (.int pi1), .val (.int pi2), .val (.int pi3), .val (.int pi4), .val (.int (3 : Int32)), .val (.int (8 : Int32)), .val (.int (255 : Int32)), .unset, .unset, .unset, .unset, .unset, .unset, .unset] [(.int pi2)] _
    refine XS.iload X0.here hx rfl (hb hby at_20) rfl ?_
    show Stp p e below s₁ m 22 #[.val (.int pi1), .val (.int pi2), .val (.int pi3), .val (.int pi4), .val (.int (3 : Int32)), .val (.int (8 : Int32)), .val (.int (255 : Int32)), .unset, .unset, .unset, .unset, .unset, .unset, .unset] [(.int (255 : Int32)), (.int pi2)] _
    refine XS.iand X0.here hx rfl (hb hby at_22) rfl ?_
    show Stp p e below s₁ m 23 #[.val (.int pi1), .val (.int pi2), .val (.int pi3), .val (.int pi4), .val (.int (3 : Int32)), .val (.int (8 : Int32)), .val (.int (255 : Int32)), .unset, .unset, .unset, .unset, .unset, .unset, .unset] [(.int (pi2 &&& (255 : Int32)))] _
    refine XS.istore X0.here hx rfl (hb hby at_23) rfl (l' := #[.val (.int pi1), .val (.int pi2), .val (.int pi3), .val (.int pi4), .val (.int (3 : Int32)), .val (.int (8 : Int32)), .val (.int (255 : Int32)), .val (.int (pi2 &&& (255 : Int32))), .unset, .unset, .unset, .unset, .unset, .unset]) rfl ?_
    show Stp p e below s₁ m 25 #[.val (.int pi1), .val (.int pi2), .val (.int pi3), .val (.int pi4), .val (.int (3 : Int32)), .val (.int (8 : Int32)), .val (.int (255 : Int32)), .val (.int (pi2 &&& (255 : Int32))), .unset, .unset, .unset, .unset, .unset, .unset] [] _
    refine XS.iload X0.here hx rfl (hb hby at_25) rfl ?_
    show Stp p e below s₁ m 27 #[.val (.int pi1), .val (.int pi2), .val (.int pi3), .val (.int pi4), .val (.int (3 : Int32)), .val (.int (8 : Int32)), .val (.int (255 : Int32)), .val (.int (pi2 &&& (255 : Int32))), .unset, .unset, .unset, .unset, .unset, .unset] [(.int (pi2 &&& (255 : Int32)))] _
    refine XS.ifNo X0.here hx rfl (hb hby at_27) rfl ((if0 _ _).trans (feq hc27_3).1) ?_
    show Stp p e below s₁ m 30 #[.val (.int pi1), .val (.int pi2), .val (.int pi3), .val (.int pi4), .val (.int (3 : Int32)), .val (.int (8 : Int32)), .val (.int (255 : Int32)), .val (.int (pi2 &&& (255 : Int32))), .unset, .unset, .unset, .unset, .unset, .unset] [] _
    refine XS.iload X0.here hx rfl (hb hby at_30) rfl ?_
    show Stp p e below s₁ m 32 #[.val (.int pi1), .val (.int pi2), .val (.int pi3), .val (.int pi4), .val (.int (3 : Int32)), .val (.int (8 : Int32)), .val (.int (255 : Int32)), .val (.int (pi2 &&& (255 : Int32))), .unset, .unset, .unset, .unset, .unset, .unset] [(.int (pi2 &&& (255 : Int32)))] _
    refine XS.iload X0.here hx rfl (hb hby at_32) rfl ?_
    show Stp p e below s₁ m 34 #[.val (.int pi1), .val (.int pi2), .val (.int pi3), .val (.int pi4), .val (.int (3 : Int32)), .val (.int (8 : Int32)), .val (.int (255 : Int32)), .val (.int (pi2 &&& (255 : Int32))), .unset, .unset, .unset, .unset, .unset, .unset] [(.int (255 : Int32)), (.int (pi2 &&& (255 : Int32)))] _
    refine XS.icmpYes X0.here hx rfl (pc0 := 34) (pc' := 41) rfl (hb hby at_34) rfl (feq hc34_4).2 (by decide) (by decide) ?_
    show Stp p e below s₁ m 41 #[.val (.int pi1), .val (.int pi2), .val (.int pi3), .val (.int pi4), .val (.int (3 : Int32)), .val (.int (8 : Int32)), .val (.int (255 : Int32)), .val (.int (pi2 &&& (255 : Int32))), .unset, .unset, .unset, .unset, .unset, .unset] [] _
    refine XS.iconst X0.here hx rfl (hb hby at_41) ?_
    show Stp p e below s₁ m 42 #[.val (.int pi1), .val (.int pi2), .val (.int pi3), .val (.int pi4), .val (.int (3 : Int32)), .val (.int (8 : Int32)), .val (.int (255 : Int32)), .val (.int (pi2 &&& (255 : Int32))), .unset, .unset, .unset, .unset, .unset, .unset] [(.int (0 : Int32))] _
    refine XS.istore X0.here hx rfl (hb hby at_42) rfl (l' := #[.val (.int pi1), .val (.int pi2), .val (.int pi3), .val (.int pi4), .val (.int (3 : Int32)), .val (.int (8 : Int32)), .val (.int (255 : Int32)), .val (.int (pi2 &&& (255 : Int32))), .val (.int (0 : Int32)), .unset, .unset, .unset, .unset, .unset]) rfl ?_
    show Stp p e below s₁ m 44 #[.val (.int pi1), .val (.int pi2), .val (.int pi3), .val (.int pi4), .val (.int (3 : Int32)), .val (.int (8 : Int32)), .val (.int (255 : Int32)), .val (.int (pi2 &&& (255 : Int32))), .val (.int (0 : Int32)), .unset, .unset, .unset, .unset, .unset] [] _
    refine XS.iload X0.here hx rfl (hb hby at_44) rfl ?_
    show Stp p e below s₁ m 46 #[.val (.int pi1), .val (.int pi2), .val (.int pi3), .val (.int pi4), .val (.int (3 : Int32)), .val (.int (8 : Int32)), .val (.int (255 : Int32)), .val (.int (pi2 &&& (255 : Int32))), .val (.int (0 : Int32)), .unset, .unset, .unset, .unset, .unset] [(.int (3 : Int32))] _
    refine XS.iloadN X0.here hx rfl (hb hby at_46) rfl ?_
    show Stp p e below s₁ m 47 #[.val (.int pi1), .val (.int pi2), .val (.int pi3), .val (.int pi4), .val (.int (3 : Int32)), .val (.int (8 : Int32)), .val (.int (255 : Int32)), .val (.int (pi2 &&& (255 : Int32))), .val (.int (0 : Int32)), .unset, .unset, .unset, .unset, .unset] [(.int pi2), (.int (3 : Int32))] _
    refine st1 _ ?_
    show Stp p e below T1 m 50 #[.val (.int pi1), .val (.int pi2), .val (.int pi3), .val (.int pi4), .val (.int (3 : Int32)), .val (.int (8 : Int32)), .val (.int (255 : Int32)), .val (.int (pi2 &&& (255 : Int32))), .val (.int (0 : Int32)), .unset, .unset, .unset, .unset, .unset] [(.ref b1)] _
    refine XS.astore X1.here hx rfl (hb hby at_50) rfl rfl (l' := #[.val (.int pi1), .val (.int pi2), .val (.int pi3), .val (.int pi4), .val (.int (3 : Int32)), .val (.int (8 : Int32)), .val (.int (255 : Int32)), .val (.int (pi2 &&& (255 : Int32))), .val (.int (0 : Int32)), .val (.ref b1), .unset, .unset, .unset, .unset]) rfl ?_
    show Stp p e below T1 m 52 #[.val (.int pi1), .val (.int pi2), .val (.int pi3), .val (.int pi4), .val (.int (3 : Int32)), .val (.int (8 : Int32)), .val (.int (255 : Int32)), .val (.int (pi2 &&& (255 : Int32))), .val (.int (0 : Int32)), .val (.ref b1), .unset, .unset, .unset, .unset] [] _
    refine XS.iload X1.here hx rfl (hb hby at_52) rfl ?_
    show Stp p e below T1 m 54 #[.val (.int pi1), .val (.int pi2), .val (.int pi3), .val (.int pi4), .val (.int (3 : Int32)), .val (.int (8 : Int32)), .val (.int (255 : Int32)), .val (.int (pi2 &&& (255 : Int32))), .val (.int (0 : Int32)), .val (.ref b1), .unset, .unset, .unset, .unset] [(.int (3 : Int32))] _
    refine XS.iloadN X1.here hx rfl (hb hby at_54) rfl ?_
    show Stp p e below T1 m 55 #[.val (.int pi1), .val (.int pi2), .val (.int pi3), .val (.int pi4), .val (.int (3 : Int32)), .val (.int (8 : Int32)), .val (.int (255 : Int32)), .val (.int (pi2 &&& (255 : Int32))), .val (.int (0 : Int32)), .val (.ref b1), .unset, .unset, .unset, .unset] [(.int pi3), (.int (3 : Int32))] _
    refine st2 _ ?_
    show Stp p e below T2 m 58 #[.val (.int pi1), .val (.int pi2), .val (.int pi3), .val (.int pi4), .val (.int (3 : Int32)), .val (.int (8 : Int32)), .val (.int (255 : Int32)), .val (.int (pi2 &&& (255 : Int32))), .val (.int (0 : Int32)), .val (.ref b1), .unset, .unset, .unset, .unset] [(.ref b2)] _
    refine XS.astore X2.here hx rfl (hb hby at_58) rfl rfl (l' := #[.val (.int pi1), .val (.int pi2), .val (.int pi3), .val (.int pi4), .val (.int (3 : Int32)), .val (.int (8 : Int32)), .val (.int (255 : Int32)), .val (.int (pi2 &&& (255 : Int32))), .val (.int (0 : Int32)), .val (.ref b1), .val (.ref b2), .unset, .unset, .unset]) rfl ?_
    show Stp p e below T2 m 60 #[.val (.int pi1), .val (.int pi2), .val (.int pi3), .val (.int pi4), .val (.int (3 : Int32)), .val (.int (8 : Int32)), .val (.int (255 : Int32)), .val (.int (pi2 &&& (255 : Int32))), .val (.int (0 : Int32)), .val (.ref b1), .val (.ref b2), .unset, .unset, .unset] [] _
    refine XS.iloadN X2.here hx rfl (hb hby at_60) rfl ?_
    show Stp p e below T2 m 61 #[.val (.int pi1), .val (.int pi2), .val (.int pi3), .val (.int pi4), .val (.int (3 : Int32)), .val (.int (8 : Int32)), .val (.int (255 : Int32)), .val (.int (pi2 &&& (255 : Int32))), .val (.int (0 : Int32)), .val (.ref b1), .val (.ref b2), .unset, .unset, .unset] [(.int pi4)] _
    refine XS.i2s X2.here hx rfl (hb hby at_61) rfl ?_
    show Stp p e below T2 m 62 #[.val (.int pi1), .val (.int pi2), .val (.int pi3), .val (.int pi4), .val (.int (3 : Int32)), .val (.int (8 : Int32)), .val (.int (255 : Int32)), .val (.int (pi2 &&& (255 : Int32))), .val (.int (0 : Int32)), .val (.ref b1), .val (.ref b2), .unset, .unset, .unset] [(.int (pi4.toInt16.toInt32))] _
    refine XS.i2dS X2.here hx rfl (hb hby at_62) rfl rfl ?_
    show Stp p e below T2 m 63 #[.val (.int pi1), .val (.int pi2), .val (.int pi3), .val (.int pi4), .val (.int (3 : Int32)), .val (.int (8 : Int32)), .val (.int (255 : Int32)), .val (.int (pi2 &&& (255 : Int32))), .val (.int (0 : Int32)), .val (.ref b1), .val (.ref b2), .unset, .unset, .unset] [(.double (FP.i2d (pi4.toInt16.toInt32)))] _
    refine XS.dstore X2.here hx rfl (hb hby at_63) rfl (l' := #[.val (.int pi1), .val (.int pi2), .val (.int pi3), .val (.int pi4), .val (.int (3 : Int32)), .val (.int (8 : Int32)), .val (.int (255 : Int32)), .val (.int (pi2 &&& (255 : Int32))), .val (.int (0 : Int32)), .val (.ref b1), .val (.ref b2), .val (.double (FP.i2d (pi4.toInt16.toInt32))), .second, .unset]) rfl ?_
    show Stp p e below T2 m 65 #[.val (.int pi1), .val (.int pi2), .val (.int pi3), .val (.int pi4), .val (.int (3 : Int32)), .val (.int (8 : Int32)), .val (.int (255 : Int32)), .val (.int (pi2 &&& (255 : Int32))), .val (.int (0 : Int32)), .val (.ref b1), .val (.ref b2), .val (.double (FP.i2d (pi4.toInt16.toInt32))), .second, .unset] [] _
    refine st5 _ ?_
    show Stp p e below T5 m 68 #[.val (.int pi1), .val (.int pi2), .val (.int pi3), .val (.int pi4), .val (.int (3 : Int32)), .val (.int (8 : Int32)), .val (.int (255 : Int32)), .val (.int (pi2 &&& (255 : Int32))), .val (.int (0 : Int32)), .val (.ref b1), .val (.ref b2), .val (.double (FP.i2d (pi4.toInt16.toInt32))), .second, .unset] [(.ref b5)] _
    refine XS.dup X5.here hx rfl (hb hby at_68) rfl rfl ?_
    show Stp p e below T5 m 69 #[.val (.int pi1), .val (.int pi2), .val (.int pi3), .val (.int pi4), .val (.int (3 : Int32)), .val (.int (8 : Int32)), .val (.int (255 : Int32)), .val (.int (pi2 &&& (255 : Int32))), .val (.int (0 : Int32)), .val (.ref b1), .val (.ref b2), .val (.double (FP.i2d (pi4.toInt16.toInt32))), .second, .unset] [(.ref b5), (.ref b5)] _
    refine XS.dload X5.here hx rfl (hb hby at_69) rfl ?_
    show Stp p e below T5 m 71 #[.val (.int pi1), .val (.int pi2), .val (.int pi3), .val (.int pi4), .val (.int (3 : Int32)), .val (.int (8 : Int32)), .val (.int (255 : Int32)), .val (.int (pi2 &&& (255 : Int32))), .val (.int (0 : Int32)), .val (.ref b1), .val (.ref b2), .val (.double (FP.i2d (pi4.toInt16.toInt32))), .second, .unset] [(.double (FP.i2d (pi4.toInt16.toInt32))), (.ref b5), (.ref b5)] _
    refine XS.aload X5.here hx rfl (hb hby at_71) rfl rfl ?_
    show Stp p e below T5 m 73 #[.val (.int pi1), .val (.int pi2), .val (.int pi3), .val (.int pi4), .val (.int (3 : Int32)), .val (.int (8 : Int32)), .val (.int (255 : Int32)), .val (.int (pi2 &&& (255 : Int32))), .val (.int (0 : Int32)), .val (.ref b1), .val (.ref b2), .val (.double (FP.i2d (pi4.toInt16.toInt32))), .second, .unset] [(.ref b2), (.double (FP.i2d (pi4.toInt16.toInt32))), (.ref b5), (.ref b5)] _
    refine XS.aload X5.here hx rfl (hb hby at_73) rfl rfl ?_
    show Stp p e below T5 m 75 #[.val (.int pi1), .val (.int pi2), .val (.int pi3), .val (.int pi4), .val (.int (3 : Int32)), .val (.int (8 : Int32)), .val (.int (255 : Int32)), .val (.int (pi2 &&& (255 : Int32))), .val (.int (0 : Int32)), .val (.ref b1), .val (.ref b2), .val (.double (FP.i2d (pi4.toInt16.toInt32))), .second, .unset] [(.ref b1), (.ref b2), (.double (FP.i2d (pi4.toInt16.toInt32))), (.ref b5), (.ref b5)] _
    refine st10.trans ?_
    show Stp p e below T10 m 78 #[.val (.int pi1), .val (.int pi2), .val (.int pi3), .val (.int pi4), .val (.int (3 : Int32)), .val (.int (8 : Int32)), .val (.int (255 : Int32)), .val (.int (pi2 &&& (255 : Int32))), .val (.int (0 : Int32)), .val (.ref b1), .val (.ref b2), .val (.double (FP.i2d (pi4.toInt16.toInt32))), .second, .unset] [(.ref b5)] _
    refine XS.astore X10.here hx rfl (hb hby at_78) rfl rfl (l' := #[.val (.int pi1), .val (.int pi2), .val (.int pi3), .val (.int pi4), .val (.int (3 : Int32)), .val (.int (8 : Int32)), .val (.int (255 : Int32)), .val (.int (pi2 &&& (255 : Int32))), .val (.int (0 : Int32)), .val (.ref b1), .val (.ref b2), .val (.double (FP.i2d (pi4.toInt16.toInt32))), .second, .val (.ref b5)]) rfl ?_
    show Stp p e below T10 m 80 #[.val (.int pi1), .val (.int pi2), .val (.int pi3), .val (.int pi4), .val (.int (3 : Int32)), .val (.int (8 : Int32)), .val (.int (255 : Int32)), .val (.int (pi2 &&& (255 : Int32))), .val (.int (0 : Int32)), .val (.ref b1), .val (.ref b2), .val (.double (FP.i2d (pi4.toInt16.toInt32))), .second, .val (.ref b5)] [] _
    refine XS.aload X10.here hx rfl (hb hby at_80) rfl rfl ?_
    show Stp p e below T10 m 82 #[.val (.int pi1), .val (.int pi2), .val (.int pi3), .val (.int pi4), .val (.int (3 : Int32)), .val (.int (8 : Int32)), .val (.int (255 : Int32)), .val (.int (pi2 &&& (255 : Int32))), .val (.int (0 : Int32)), .val (.ref b1), .val (.ref b2), .val (.double (FP.i2d (pi4.toInt16.toInt32))), .second, .val (.ref b5)] [(.ref b5)] _
    refine st15.trans ?_
    show Stp p e below T15 m 85 #[.val (.int pi1), .val (.int pi2), .val (.int pi3), .val (.int pi4), .val (.int (3 : Int32)), .val (.int (8 : Int32)), .val (.int (255 : Int32)), .val (.int (pi2 &&& (255 : Int32))), .val (.int (0 : Int32)), .val (.ref b1), .val (.ref b2), .val (.double (FP.i2d (pi4.toInt16.toInt32))), .second, .val (.ref b5)] [(.int (own_ic3 (nar .boolean (own_bt pi2 (0 : Int32))) (nar .boolean (own_bt pi2 (1 : Int32))) (nar .boolean (own_bt pi2 (2 : Int32))) (nar .boolean (own_bt pi2 (3 : Int32))) (nar .boolean (own_bt pi2 (4 : Int32))) (nar .boolean (own_bt pi2 (5 : Int32))) (nar .boolean (own_bt pi2 (6 : Int32))) (nar .boolean (own_bt pi2 (7 : Int32)))))] _
    refine XS.iload X15.here hx rfl (hb hby at_85) rfl ?_
    show Stp p e below T15 m 87 #[.val (.int pi1), .val (.int pi2), .val (.int pi3), .val (.int pi4), .val (.int (3 : Int32)), .val (.int (8 : Int32)), .val (.int (255 : Int32)), .val (.int (pi2 &&& (255 : Int32))), .val (.int (0 : Int32)), .val (.ref b1), .val (.ref b2), .val (.double (FP.i2d (pi4.toInt16.toInt32))), .second, .val (.ref b5)] [(.int (0 : Int32)), (.int (own_ic3 (nar .boolean (own_bt pi2 (0 : Int32))) (nar .boolean (own_bt pi2 (1 : Int32))) (nar .boolean (own_bt pi2 (2 : Int32))) (nar .boolean (own_bt pi2 (3 : Int32))) (nar .boolean (own_bt pi2 (4 : Int32))) (nar .boolean (own_bt pi2 (5 : Int32))) (nar .boolean (own_bt pi2 (6 : Int32))) (nar .boolean (own_bt pi2 (7 : Int32)))))] _
    refine XS.icmpNo X15.here hx rfl (hb hby at_87) rfl (teq ((own_e3 pi2).trans ((if_neg hc27_3).trans (if_neg hc34_4)))).2 ?_
    show Stp p e below T15 m 90 #[.val (.int pi1), .val (.int pi2), .val (.int pi3), .val (.int pi4), .val (.int (3 : Int32)), .val (.int (8 : Int32)), .val (.int (255 : Int32)), .val (.int (pi2 &&& (255 : Int32))), .val (.int (0 : Int32)), .val (.ref b1), .val (.ref b2), .val (.double (FP.i2d (pi4.toInt16.toInt32))), .second, .val (.ref b5)] [] _
    refine XS.iconst X15.here hx rfl (hb hby at_90) ?_
    show Stp p e below T15 m 91 #[.val (.int pi1), .val (.int pi2), .val (.int pi3), .val (.int pi4), .val (.int (3 : Int32)), .val (.int (8 : Int32)), .val (.int (255 : Int32)), .val (.int (pi2 &&& (255 : Int32))), .val (.int (0 : Int32)), .val (.ref b1), .val (.ref b2), .val (.double (FP.i2d (pi4.toInt16.toInt32))), .second, .val (.ref b5)] [(.int (1 : Int32))] _
    refine XS.goto X15.here hx rfl (pc0 := 91) (pc' := 95) rfl (hb hby at_91) (by decide) (by decide) ?_
    show Stp p e below T15 m 95 #[.val (.int pi1), .val (.int pi2), .val (.int pi3), .val (.int pi4), .val (.int (3 : Int32)), .val (.int (8 : Int32)), .val (.int (255 : Int32)), .val (.int (pi2 &&& (255 : Int32))), .val (.int (0 : Int32)), .val (.ref b1), .val (.ref b2), .val (.double (FP.i2d (pi4.toInt16.toInt32))), .second, .val (.ref b5)] [(.int (1 : Int32))] _
    exact retN X15 hx (t := .boolean) Bd.returns (by simp) (hb hby at_95) hr
  · exact ⟨rfl, N15⟩
set_option maxRecDepth 65536 in
set_option maxHeartbeats 40000000 in
theorem rm0 (l : Launch) (Z : State) (a0 : Array Value) (hw : ∀ d ∈ tables_1, d.before a0 Z = true) (ws : List Jvm.Cond) (pi1 : Int32) (pi2 : Int32) (pi3 : Int32) (pi4 : Int32) (h0 : Heap) (n0 : Nat) (Z0 : n0 ≤ h0.size) (O0 : Old Z n0 h0) :
    MetFree l x (head1 (Jvm.Cond.code x code maxLocals ret :: ws) room_1) (fun a U => a = #[(.int pi1), (.int pi2), (.int pi3), (.int pi4)] ∧ Z.Warmed39 U.vm ∧ U.heap = h0) (fun _ _ _ _ _ => True) (fun _ U o U' => ∃ v L, o = .returned v ∧ Q0 v L n0 ∧ FrameEnd U o U' L room_1.cells room_1.slots) := by
  by_cases H1 : (pi1 &&& (3 : Int32)) = (0 : Int32)
  · by_cases H2 : (pi2 &&& (1 : Int32)) = (0 : Int32)
    · exact rm0_tt l Z a0 hw ws pi1 pi2 pi3 pi4 h0 n0 Z0 O0  H1 H2
    · exact rm0_tf l Z a0 hw ws pi1 pi2 pi3 pi4 h0 n0 Z0 O0  H1 H2
  · by_cases H3 : (pi1 &&& (3 : Int32)) = (1 : Int32)
    · by_cases H4 : (pi2 &&& (3 : Int32)) = (0 : Int32)
      · exact rm0_ftt l Z a0 hw ws pi1 pi2 pi3 pi4 h0 n0 Z0 O0  H1 H3 H4
      · by_cases H5 : (pi2 &&& (3 : Int32)) = (3 : Int32)
        · exact rm0_ftft l Z a0 hw ws pi1 pi2 pi3 pi4 h0 n0 Z0 O0  H1 H3 H4 H5
        · exact rm0_ftff l Z a0 hw ws pi1 pi2 pi3 pi4 h0 n0 Z0 O0  H1 H3 H4 H5
    · by_cases H6 : (pi1 &&& (3 : Int32)) = (2 : Int32)
      · by_cases H7 : (pi2 &&& (15 : Int32)) = (0 : Int32)
        · exact rm0_fftt l Z a0 hw ws pi1 pi2 pi3 pi4 h0 n0 Z0 O0  H1 H3 H6 H7
        · by_cases H8 : (pi2 &&& (15 : Int32)) = (15 : Int32)
          · exact rm0_fftft l Z a0 hw ws pi1 pi2 pi3 pi4 h0 n0 Z0 O0  H1 H3 H6 H7 H8
          · exact rm0_fftff l Z a0 hw ws pi1 pi2 pi3 pi4 h0 n0 Z0 O0  H1 H3 H6 H7 H8
      · by_cases H9 : (pi2 &&& (255 : Int32)) = (0 : Int32)
        · exact rm0_ffft l Z a0 hw ws pi1 pi2 pi3 pi4 h0 n0 Z0 O0  H1 H3 H6 H9
        · by_cases H10 : (pi2 &&& (255 : Int32)) = (255 : Int32)
          · exact rm0_fffft l Z a0 hw ws pi1 pi2 pi3 pi4 h0 n0 Z0 O0  H1 H3 H6 H9 H10
          · exact rm0_fffff l Z a0 hw ws pi1 pi2 pi3 pi4 h0 n0 Z0 O0  H1 H3 H6 H9 H10
set_option maxRecDepth 65536 in
set_option maxHeartbeats 40000000 in
theorem comes_1 {Post : Tables → Env → Array Value → State → Outcome → State → Prop} (hpost : ∀ tb e args s v u, (limb_1_1.after args s (.returned v) u = true ∧ limb_1_2.after args s (.returned v) u = true ∧ True) → FrameEnd s (.returned v) u (Jvm.fieldLocs frame_1_writes args s ++ Jvm.arrayLocs frame_1_arrays args s ++ Jvm.staticLocs frame_1_statics s) 16 128 → Post tb e args s (.returned v) u) :
    ArmFor flags0 classFile x code maxLocals ret World_1 tables_1 room_1 Calls_1 rest_1 Pre_1 Post := by
  intro l hfl _ _ p e ha hc hk s m args below hf hA hF happ hP
  obtain ⟨hcalls, hrest, hpre⟩ := hP
  obtain ⟨-, -, -, hnamed, -, -, -, hat⟩ := (Spec.applies_iff hf).mp happ
  obtain ⟨hg, hn⟩ := and_e (Cond.before_iff.mp (show (Jvm.Cond.and given_1 narrow_1).before args s = true from hpre))
  obtain ⟨g1, g2⟩ := and_e hg
  obtain ⟨g3, g4⟩ := and_e g2
  obtain ⟨g5, g6⟩ := and_e g4
  obtain ⟨g7, g8⟩ := and_e g6
  obtain ⟨w0, w1, w2, w3, rfl⟩ : ∃ w0 w1 w2 w3 : Value, args = #[w0, w1, w2, w3] := by
    have hs : args.size = 4 := by simpa [Cond.value, given_1] using g1
    obtain ⟨L⟩ := args
    match L, hs with
    | [w0, w1, w2, w3], _ => exact ⟨w0, w1, w2, w3, rfl⟩
  have hw := fun d (hd : d ∈ tables_1) => atoms_spec (ws := Jvm.Cond.code x code maxLocals ret :: tables_1) hat d (List.mem_cons_of_mem _ hd)
  have hfit : Fit s := fun {y c} hc i hi => by
    obtain ⟨ha, rfl⟩ := Array.getElem?_eq_some_iff.mp hc
    have q := List.all_eq_true.mp ((Array.all_eq_true_iff_forall_mem.mp hF) _ (Array.getElem_mem ha)) i (List.mem_range.mpr hi)
    simpa [Array.getElem?_eq_getElem hi] using q
  obtain ⟨i0, ei0⟩ := is_v g3
  obtain rfl : w0 = (.int i0) := Option.some.inj ei0
  obtain ⟨i1, ei1⟩ := is_v g5
  obtain rfl : w1 = (.int i1) := Option.some.inj ei1
  obtain ⟨i2, ei2⟩ := is_v g7
  obtain rfl : w2 = (.int i2) := Option.some.inj ei2
  obtain ⟨i3, ei3⟩ := is_v g8
  obtain rfl : w3 = (.int i3) := Option.some.inj ei3
  obtain ⟨n, o, h1, h2, h3, _, L, rfl, ⟨rfl, N⟩, hq⟩ := rm0 l s _ hw tables_1 i0 i1 i2 i3  s.heap s.heap.size (Nat.le_refl _) (Old.start s)  p e ha hc hk s m _ below hf ((Spec.applies_iff_loose hf).mp happ).1 ⟨rfl, State.Warmed39.refl s, rfl⟩ trivial
  refine ⟨n, _, h1, h2, h3, hpost _ _ _ _ _ _ ⟨Cond.after_iff.mpr rfl, Cond.after_iff.mpr (eq_i res_at (Term.int_eval (1)) rfl), trivial⟩ ⟨hq.1, hq.2.1, (hq.2.2.sift fun y hy => Or.inr (N y hy)).mono (by decide) (by decide)⟩⟩
theorem main_1_1 : Claimed_1_1 := comes_1 fun _ _ _ _ _ _ h hF => ⟨h.1, hF⟩
theorem main_1_2 : Claimed_1_2 := comes_1 fun _ _ _ _ _ _ h hF => ⟨h.2.1, hF⟩
end Jvm.Pilot.@@N@@
namespace Jvm.Pilot.@@N@@
open Jvm Jvm.ClassFile Sem Op Lib Jvm.Free Jvm.Stand Jvm.Pilot.@@N@@.Jvm.D
/-! MADE BY PROGRAM (witnessworld.py) out of the Statement's table words and the real class files: 11 classes; the members and pool entries that the words name. The judged class is class 1, her method 4. -/
namespace start1
open Jvm.ClassFile
def u (s : String) : CpInfo := .utf8 (stringToUtf16 s)
/-- a pool by its gaps: so many unusable entries, then the entry; so many at the end -/
def gap : Nat → List CpInfo → List CpInfo
  | 0, r => r
  | n + 1, r => .unusable :: gap n r
def poolList (es : List (Nat × CpInfo)) (last : Nat) : List CpInfo := es.foldr (fun e r => gap e.1 (e.2 :: r)) (gap last [])
def pool (es : List (Nat × CpInfo)) (last : Nat) : Array CpInfo := ⟨poolList es last⟩
def fileOf (pool : Array CpInfo) (this : Nat) (attrs : Array Attribute := #[]) (ms : Array MethodInfo := #[]) (fl : Nat := 33) (sup : Nat := 0) (ifs : Array Nat := #[]) (fds : Array FieldInfo := #[]) : ClassFile where
  minorVersion := 0
  majorVersion := 65
  constantPool := pool
  accessFlags := fl
  thisClass := this
  superClass := sup
  interfaces := ifs
  fields := fds
  methods := ms
  attributes := attrs
def plain (name : String) (sup : Option ClassId) : Class where
  name := name
  kind := .ordinary
  loader := none
  accessFlags := 33
  super := sup
  interfaces := #[]
  cf := none
  fields := #[]
  methods := #[]
  instanceTypes := #[]
  staticTypes := #[]
  resolved := #[]
  callSites := []
  init := .initialized
  statics := none
  mirror := none

def pool0 : Array CpInfo := pool [(5, u "<init>"), (0, u "()V"), (1, .class_ 10), (1, u "java/lang/Object")] 113

def k0c0 : Code := { maxStack := 0, maxLocals := 1, code := object_method_1_code, exceptionTable := #[], attributes := #[] }
def k0m0 : Method := { name := "<init>", desc := "()V", sig := { parameters := [], returnType := none }, accessFlags := 1, code := some k0c0 }
/-- java/lang/Object -/
def k0 : Class := { plain "java/lang/Object" none with
  accessFlags := 33
  interfaces := #[]
  cf := some (fileOf pool0 8 #[] #[{ accessFlags := 1, nameIndex := 5, descriptorIndex := 6, attributes := #[] }] 33 0 #[] #[])
  fields := #[]
  methods := #[k0m0]
  instanceTypes := #[]
  staticTypes := #[]
  resolved := Array.replicate 124 none
  statics := none }

def pool1 : Array CpInfo := pool [(2, .class_ 4), (1, u "java/lang/Object"), (0, u "<init>"), (0, u "()V"), (0, .methodref 8 9), (0, .class_ 10), (0, .nameAndType 11 12), (0, u "com/example/gudl/gudl/GroundFactorIsConstantPinLaw"), (0, u "bit"), (0, u "(II)Z"), (0, .methodref 8 14), (0, .nameAndType 15 16), (0, u "truthArray"), (0, u "(II)[Z"), (0, .methodref 8 18), (0, .nameAndType 19 20), (0, u "atomArray"), (0, u "(II)[I"), (0, .class_ 22), (0, u "com/example/gudl/gudl/GroundFactor"), (0, .methodref 21 24), (0, .nameAndType 5 25), (0, u "(D[I[Z)V"), (0, .methodref 21 27), (0, .nameAndType 28 29), (0, u "isConstant"), (0, u "()Z"), (3, u "law"), (0, u "(IIII)Z")] 6

def k1m0 : Method := { name := "<init>", desc := "()V", sig := { parameters := [], returnType := none }, accessFlags := 1, code := none }
def k1c1 : Code := { maxStack := 2, maxLocals := 2, code := method_2_code, exceptionTable := #[], attributes := #[] }
def k1m1 : Method := { name := "bit", desc := "(II)Z", sig := { parameters := [.int, .int], returnType := some .boolean }, accessFlags := 10, code := some k1c1 }
def k1c2 : Code := { maxStack := 5, maxLocals := 2, code := method_3_code, exceptionTable := #[], attributes := #[] }
def k1m2 : Method := { name := "truthArray", desc := "(II)[Z", sig := { parameters := [.int, .int], returnType := some (.array .boolean) }, accessFlags := 10, code := some k1c2 }
def k1c3 : Code := { maxStack := 5, maxLocals := 2, code := method_4_code, exceptionTable := #[], attributes := #[] }
def k1m3 : Method := { name := "atomArray", desc := "(II)[I", sig := { parameters := [.int, .int], returnType := some (.array .int) }, accessFlags := 10, code := some k1c3 }
def k1c4 : Code := { maxStack := 6, maxLocals := 14, code := code, exceptionTable := #[], attributes := #[] }
def k1m4 : Method := { name := "law", desc := "(IIII)Z", sig := { parameters := [.int, .int, .int, .int], returnType := some .boolean }, accessFlags := 9, code := some k1c4 }
/-- com/example/gudl/gudl/GroundFactorIsConstantPinLaw -/
def k1 : Class := { plain "com/example/gudl/gudl/GroundFactorIsConstantPinLaw" (some 0) with
  accessFlags := 49
  interfaces := #[]
  cf := some (fileOf pool1 8 #[] #[{ accessFlags := 1, nameIndex := 5, descriptorIndex := 6, attributes := #[] }, { accessFlags := 10, nameIndex := 11, descriptorIndex := 12, attributes := #[] }, { accessFlags := 10, nameIndex := 15, descriptorIndex := 16, attributes := #[] }, { accessFlags := 10, nameIndex := 19, descriptorIndex := 20, attributes := #[] }, { accessFlags := 9, nameIndex := 33, descriptorIndex := 34, attributes := #[] }] 49 2 #[] #[])
  fields := #[]
  methods := #[k1m0, k1m1, k1m2, k1m3, k1m4]
  instanceTypes := #[]
  staticTypes := #[]
  resolved := Array.replicate 41 none
  statics := none }

def pool2 : Array CpInfo := pool [(1, .methodref 2 3), (0, .class_ 4), (0, .nameAndType 5 6), (0, u "java/lang/Object"), (0, u "<init>"), (0, u "()V"), (9, .fieldref 17 18), (0, .class_ 19), (0, .nameAndType 20 21), (0, u "com/example/gudl/gudl/GroundFactor"), (0, u "value"), (0, u "D"), (0, .fieldref 17 23), (0, .nameAndType 24 25), (0, u "atoms"), (0, u "[I"), (0, .fieldref 17 27), (0, .nameAndType 28 29), (0, u "truth"), (0, u "[Z"), (7, u "()Z"), (2, u "(D[I[Z)V"), (14, u "isConstant")] 19

def k2c0 : Code := { maxStack := 4, maxLocals := 5, code := prog_42_method_1_code, exceptionTable := #[], attributes := #[] }
def k2m0 : Method := { name := "<init>", desc := "(D[I[Z)V", sig := { parameters := [.double, (.array .int), (.array .boolean)], returnType := none }, accessFlags := 0, code := some k2c0 }
def k2c1 : Code := { maxStack := 3, maxLocals := 5, code := prog_42_method_8_code, exceptionTable := #[], attributes := #[] }
def k2m1 : Method := { name := "isConstant", desc := "()Z", sig := { parameters := [], returnType := some .boolean }, accessFlags := 1, code := some k2c1 }
/-- com/example/gudl/gudl/GroundFactor -/
def k2 : Class := { plain "com/example/gudl/gudl/GroundFactor" (some 0) with
  accessFlags := 33
  interfaces := #[]
  cf := some (fileOf pool2 17 #[] #[{ accessFlags := 0, nameIndex := 5, descriptorIndex := 40, attributes := #[] }, { accessFlags := 1, nameIndex := 55, descriptorIndex := 37, attributes := #[] }] 33 2 #[] #[{ accessFlags := 18, nameIndex := 20, descriptorIndex := 21, attributes := #[] }, { accessFlags := 18, nameIndex := 24, descriptorIndex := 25, attributes := #[] }, { accessFlags := 18, nameIndex := 28, descriptorIndex := 29, attributes := #[] }])
  fields := #[{ name := "value", type := .double, accessFlags := 18, slot := 0, constantValue := 0 }, { name := "atoms", type := (.array .int), accessFlags := 18, slot := 1, constantValue := 0 }, { name := "truth", type := (.array .boolean), accessFlags := 18, slot := 2, constantValue := 0 }]
  methods := #[k2m0, k2m1]
  instanceTypes := #[.double, (.array .int), (.array .boolean)]
  staticTypes := #[]
  resolved := Array.replicate 75 none
  statics := none }

def pool3 : Array CpInfo := pool [(1, u "java/lang/Cloneable"), (0, .class_ 1), (0, u "java/lang/Object"), (0, .class_ 3)] 3

/-- java/lang/Cloneable -/
def k3 : Class := { plain "java/lang/Cloneable" (some 0) with
  accessFlags := 1537
  interfaces := #[]
  cf := some (fileOf pool3 2 #[] #[] 1537 4 #[] #[])
  fields := #[]
  methods := #[]
  instanceTypes := #[]
  staticTypes := #[]
  resolved := Array.replicate 8 none
  statics := none }

def pool4 : Array CpInfo := pool [(1, u "java/io/Serializable"), (0, .class_ 1), (0, u "java/lang/Object"), (0, .class_ 3)] 3

/-- java/io/Serializable -/
def k4 : Class := { plain "java/io/Serializable" (some 0) with
  accessFlags := 1537
  interfaces := #[]
  cf := some (fileOf pool4 2 #[] #[] 1537 4 #[] #[])
  fields := #[]
  methods := #[]
  instanceTypes := #[]
  staticTypes := #[]
  resolved := Array.replicate 8 none
  statics := none }

/-- the primitive boolean -/
def k5 : Class := { plain "boolean" none with kind := .primitive 'Z', accessFlags := 0x411 }
/-- [Z -/
def k6 : Class := { plain "[Z" (some 0) with kind := .array 5 .boolean, interfaces := #[3, 4], accessFlags := 1041 }

/-- the primitive byte -/
def k7 : Class := { plain "byte" none with kind := .primitive 'B', accessFlags := 0x411 }
/-- [B -/
def k8 : Class := { plain "[B" (some 0) with kind := .array 7 .byte, interfaces := #[3, 4], accessFlags := 1041 }

/-- the primitive int -/
def k9 : Class := { plain "int" none with kind := .primitive 'I', accessFlags := 0x411 }
/-- [I -/
def k10 : Class := { plain "[I" (some 0) with kind := .array 9 .int, interfaces := #[3, 4], accessFlags := 1041 }

def heap : Heap := #[]
def classes : Array Class := #[k0, k1, k2, k3, k4, k5, k6, k7, k8, k9, k10]
def interned : List (Array UInt16 × Addr) := []
def slotsUsed : Nat := 0
def theMethod : MethodId := ⟨1, 4⟩
def args0 : Array Value := #[.int 1, .int 2, .int 3, .int 4]
def aboutOver (below : List Frame) : State where
  vm := { classes := classes, interned := interned.toArray }
  heap := heap
  slotsUsed := slotsUsed
  threads := #[{ frames := .invoking theMethod args0 :: below }]
def below0 : List Frame := [.native { method := ⟨0, 0⟩, args := #[] }]
def about1 : State := aboutOver below0
def p0 : Program := .bare "" "" ""
def e0 : Env := launch0.env 0 0 0
theorem w_frames : about1.frames = Frame.invoking theMethod args0 :: below0 := rfl
set_option maxRecDepth 65536 in
theorem w_args : argsFit about1.vm theMethod args0 = true := by decide +kernel
set_option maxRecDepth 65536 in
theorem w_heap : heapFits about1 = true := by decide +kernel
set_option maxRecDepth 65536 in
theorem w_runnable : about1.curStatus? = some .runnable := by decide +kernel
set_option maxRecDepth 65536 in
theorem w_alone : about1.alone = true := by decide +kernel
set_option maxRecDepth 65536 in
theorem w_named : about1.methodNamed? x = some theMethod := by decide +kernel
set_option maxRecDepth 65536 in
theorem w_hears : about1.hears theMethod below0 = true := by decide +kernel
set_option maxRecDepth 65536 in
theorem w_ripe : about1.ripe theMethod args0 below0 = true := by decide +kernel
theorem w_running : about1.status = .running := rfl
set_option maxRecDepth 65536 in
theorem w_room : about1.hasRoom e0.platform room_1 = true :=
  launch0.hasRoom_least _ room_1 (by decide +kernel) (by decide +kernel) (by decide +kernel) (by decide +kernel) (by decide +kernel) (by decide +kernel)
theorem allAtoms_all (ts : List Jvm.Cond) (a : Array Jvm.Value) (st : Jvm.State) : (allAtoms ts).before a st = ts.all (fun c => c.before a st) := by
  induction ts with
  | nil => rfl
  | cons c t ih =>
    show (Jvm.Cond.and c (allAtoms t)).before a st = _
    rw [Jvm.Cond.before_and, ih, List.all_cons]
def words1 : List Jvm.Cond := Jvm.Cond.code x code maxLocals ret :: tables_1
/-- a 'code' word, met by the world's own term for the bytes: nothing is compared byte by byte -/
theorem code_word {y : MethodName} {bytes : ByteArray} {mx : Nat} {rt : Option FieldType} {a : Array Value} {s : State} {m : MethodId} {meth : Method} {c : Code} (h1 : s.methodNamed? y = some m) (h2 : s.vm.method? m = some meth) (h3 : meth.code = some c) (h4 : c.code = bytes)
    (h5 : (c.maxLocals == mx && c.exceptionTable.isEmpty && decide (c.maxStack ≤ mostOperands) && decide (meth.sig.returnType = rt) && !meth.locks && decide (parseMethodDescriptor y.desc = some meth.sig)) = true) : (Jvm.Cond.code y bytes mx rt).before a s = true := by
  simp only [Bool.and_eq_true, beq_iff_eq, Bool.not_eq_true', decide_eq_true_eq] at h5
  obtain ⟨⟨⟨⟨⟨g1, g2⟩, g3⟩, g4⟩, g5⟩, g6⟩ := h5
  simp [Cond.before, Cond.holds, Cond.value, h1, h2, h3, h4, g1, g2, g3, g4, g5, g6]
def isCode : Jvm.Cond → Bool
  | .code _ _ _ _ => true
  | _ => false
theorem all_split {L : List Jvm.Cond} {P : Jvm.Cond → Bool} (h1 : L.all (fun c => isCode c || P c) = true) (h2 : ∀ c ∈ L.filter isCode, P c = true) : L.all P = true := by
  refine List.all_eq_true.mpr fun c hc => ?_
  have h := List.all_eq_true.mp h1 c hc
  rcases Bool.eq_false_or_eq_true (isCode c) with hi | hi
  · exact h2 c (List.mem_filter.mpr ⟨hc, hi⟩)
  · simpa [hi] using h
set_option maxRecDepth 65536 in
theorem w_c0 : (Jvm.Cond.code x code maxLocals ret).before args0 about1 = true := code_word (m := ⟨1, 4⟩) (meth := k1m4) (c := k1c4) (by decide +kernel) rfl rfl rfl (by decide +kernel)
set_option maxRecDepth 65536 in
theorem w_c1 : (Jvm.Cond.code ({ cls := "com/example/gudl/gudl/GroundFactorIsConstantPinLaw", name := "truthArray", desc := "(II)[Z" } : Jvm.MethodName) method_3_code (2 : Nat) (Option.some (Jvm.ClassFile.FieldType.array Jvm.ClassFile.FieldType.boolean))).before args0 about1 = true := code_word (m := ⟨1, 2⟩) (meth := k1m2) (c := k1c2) (by decide +kernel) rfl rfl rfl (by decide +kernel)
set_option maxRecDepth 65536 in
theorem w_c2 : (Jvm.Cond.code ({ cls := "com/example/gudl/gudl/GroundFactorIsConstantPinLaw", name := "bit", desc := "(II)Z" } : Jvm.MethodName) method_2_code (2 : Nat) (Option.some Jvm.ClassFile.FieldType.boolean)).before args0 about1 = true := code_word (m := ⟨1, 1⟩) (meth := k1m1) (c := k1c1) (by decide +kernel) rfl rfl rfl (by decide +kernel)
set_option maxRecDepth 65536 in
theorem w_c3 : (Jvm.Cond.code ({ cls := "com/example/gudl/gudl/GroundFactorIsConstantPinLaw", name := "atomArray", desc := "(II)[I" } : Jvm.MethodName) method_4_code (2 : Nat) (Option.some (Jvm.ClassFile.FieldType.array Jvm.ClassFile.FieldType.int))).before args0 about1 = true := code_word (m := ⟨1, 3⟩) (meth := k1m3) (c := k1c3) (by decide +kernel) rfl rfl rfl (by decide +kernel)
set_option maxRecDepth 65536 in
theorem w_c4 : (Jvm.Cond.code ({ cls := "com/example/gudl/gudl/GroundFactor", name := "<init>", desc := "(D[I[Z)V" } : Jvm.MethodName) prog_42_method_1_code (5 : Nat) (Option.none : Option Jvm.ClassFile.FieldType)).before args0 about1 = true := code_word (m := ⟨2, 0⟩) (meth := k2m0) (c := k2c0) (by decide +kernel) rfl rfl rfl (by decide +kernel)
set_option maxRecDepth 65536 in
theorem w_c5 : (Jvm.Cond.code ({ cls := "java/lang/Object", name := "<init>", desc := "()V" } : Jvm.MethodName) object_method_1_code (1 : Nat) (Option.none : Option Jvm.ClassFile.FieldType)).before args0 about1 = true := code_word (m := ⟨0, 0⟩) (meth := k0m0) (c := k0c0) (by decide +kernel) rfl rfl rfl (by decide +kernel)
set_option maxRecDepth 65536 in
theorem w_c6 : (Jvm.Cond.code ({ cls := "com/example/gudl/gudl/GroundFactor", name := "isConstant", desc := "()Z" } : Jvm.MethodName) prog_42_method_8_code (5 : Nat) (Option.some Jvm.ClassFile.FieldType.boolean)).before args0 about1 = true := code_word (m := ⟨2, 1⟩) (meth := k2m1) (c := k2c1) (by decide +kernel) rfl rfl rfl (by decide +kernel)
def codes1 : List Jvm.Cond := [Jvm.Cond.code x code maxLocals ret, Jvm.Cond.code ({ cls := "com/example/gudl/gudl/GroundFactorIsConstantPinLaw", name := "truthArray", desc := "(II)[Z" } : Jvm.MethodName) method_3_code (2 : Nat) (Option.some (Jvm.ClassFile.FieldType.array Jvm.ClassFile.FieldType.boolean)), Jvm.Cond.code ({ cls := "com/example/gudl/gudl/GroundFactorIsConstantPinLaw", name := "bit", desc := "(II)Z" } : Jvm.MethodName) method_2_code (2 : Nat) (Option.some Jvm.ClassFile.FieldType.boolean), Jvm.Cond.code ({ cls := "com/example/gudl/gudl/GroundFactorIsConstantPinLaw", name := "atomArray", desc := "(II)[I" } : Jvm.MethodName) method_4_code (2 : Nat) (Option.some (Jvm.ClassFile.FieldType.array Jvm.ClassFile.FieldType.int)), Jvm.Cond.code ({ cls := "com/example/gudl/gudl/GroundFactor", name := "<init>", desc := "(D[I[Z)V" } : Jvm.MethodName) prog_42_method_1_code (5 : Nat) (Option.none : Option Jvm.ClassFile.FieldType), Jvm.Cond.code ({ cls := "java/lang/Object", name := "<init>", desc := "()V" } : Jvm.MethodName) object_method_1_code (1 : Nat) (Option.none : Option Jvm.ClassFile.FieldType), Jvm.Cond.code ({ cls := "com/example/gudl/gudl/GroundFactor", name := "isConstant", desc := "()Z" } : Jvm.MethodName) prog_42_method_8_code (5 : Nat) (Option.some Jvm.ClassFile.FieldType.boolean)]
set_option maxRecDepth 65536 in
theorem codes_eq : words1.filter isCode = codes1 := rfl
theorem w_codes : ∀ c ∈ words1.filter isCode, c.before args0 about1 = true := by
  rw [codes_eq]
  intro c hc
  simp only [codes1, List.mem_cons, List.not_mem_nil, or_false] at hc
  rcases hc with rfl | rfl | rfl | rfl | rfl | rfl | rfl
  · exact w_c0
  · exact w_c1
  · exact w_c2
  · exact w_c3
  · exact w_c4
  · exact w_c5
  · exact w_c6
set_option maxRecDepth 65536 in
theorem w_t1 : (words1.take 24).all (fun c => isCode c || c.before args0 about1) = true := by decide +kernel
set_option maxRecDepth 65536 in
theorem w_t2 : (words1.drop 24).all (fun c => isCode c || c.before args0 about1) = true := by decide +kernel
theorem w_tables : (allAtoms (Jvm.Cond.code x code maxLocals ret :: tables_1)).before args0 about1 = true := by
  rw [allAtoms_all]
  show words1.all (fun c => c.before args0 about1) = true
  refine all_split ?_ w_codes
  rw [← List.take_append_drop 24 words1, List.all_append, w_t1, w_t2]
  rfl
set_option maxRecDepth 65536 in
theorem w_case : (Jvm.Cond.and given_1 narrow_1).before args0 about1 = true := by decide +kernel
theorem w_applies : (headSpec (Jvm.Cond.code x code maxLocals ret :: tables_1) room_1).applies x e0.platform about1 = true :=
  (Spec.applies_iff w_frames).mpr ⟨w_running, w_runnable, w_alone, w_named, w_hears, w_ripe, w_room, w_tables⟩
theorem atStart : AtStart classFile x code maxLocals ret World_1 tables_1 room_1 Calls_1 rest_1 Pre_1 launch0 p0 e0 about1 theMethod args0 below0 :=
  ⟨lists_1, trivial, launch0.admits_env _ _ _, launch0.least_env, fairChoices_fair.cas, fairChoices_fair.clock, w_frames, w_args, w_heap, w_applies, trivial, trivial, w_case⟩
end start1
theorem witness_1 : WitnessClaimed_1 := ⟨start1.p0, start1.e0, start1.about1, start1.theMethod, start1.args0, start1.below0, start1.atStart⟩
end Jvm.Pilot.@@N@@
