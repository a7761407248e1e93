import JvmDerived
import JvmDerived.Pilot.@@N@@Statement
import JvmDerived.Pilot.@@N@@Code
set_option linter.unusedVariables false
set_option linter.unusedSimpArgs false
namespace Jvm.RoadKit
open Sem ClassFile Op Lib Jvm.Stand Jvm.Free Jvm.LawKit
section New
variable {p : Program} {l : Launch} {e : Env} {R : Room} {s : State} {m : MethodId} {args : Array Value} {below : List Frame} {meth : Method} {c : Code} {T : State} {locs : List Loc} {cells slots : Nat}
theorem retI (X : Stand p l e R s m args below meth c T locs cells slots) (hx : p.tables.exec = Jvm.exec) {pc : Nat} {Ls : Array Slot} {z : Int32} {rest : List Value} (hret : meth.sig.returnType = some .int) (hd : decode c.code pc = .ok (.ireturn, 1)) {fs : List Frame}
    (hl : ∀ (f : JFrame) (acts : List Action), f.method = m → f.locked = none → f.entered = [] → (doReturn e (T.setTop f) acts (some (.int z))).1 = T.setFrames fs) : Steps p.tables e below (T.setTop (mkF m pc Ls (.int z :: rest))) (T.setFrames fs) := by
  have hm' : T.vm.method? m = some meth := X.method'
  have hn : narrow .int (.int z) = .int z := rfl
  show Steps p.tables e below (T.setTop { method := m, pc := pc, locals := Ls, stack := _ :: rest, locked := none }) _
  jvm_step X.here [X.here.top, hx, hd, hm', hret, hn]
  first | (intro acts; rw [hl _ acts rfl rfl rfl]) | rw [hl _ _ rfl rfl rfl]
  exact Steps.refl _
theorem own_dia {c : Prop} [Decidable c] {tb : Tables} {S tgt : State} {F : Int32 → State} {A B : Int32} (hy : c → ∀ t, Steps tb e below (F A) t → Steps tb e below S t) (hn : ¬ c → ∀ t, Steps tb e below (F B) t → Steps tb e below S t) (k : Steps tb e below (F (if c then A else B)) tgt) : Steps tb e below S tgt := by
  by_cases q : c
  · rw [if_pos q] at k; exact hy q _ k
  · rw [if_neg q] at k; exact hn q _ k
end New
end Jvm.RoadKit
namespace Jvm.Pilot.@@N@@
open Jvm Jvm.ClassFile Sem Op Lib Jvm.Free Jvm.Stand Jvm.LawKit Jvm.RoadKit Bundle Jvm.Pilot.@@N@@.Jvm.D
theorem own_eqv {args : Array Value} {first s : State} {o : Option Outcome} {idx : List Nat} {a b : Term} {y : Value} (h : (Jvm.Cond.eq a b).value args first o s idx = some true) (hb : b.eval args first o idx s = some y) : a.eval args first o idx s = some y := by
  obtain ⟨x, y', ha, hb', k1, k2⟩ := cmp_v (Or.inl h)
  cases hb.symm.trans hb'
  cases x <;> cases y <;> simp_all [Cond.value, Kin]
theorem own_len {args : Array Value} {first s : State} {o : Option Outcome} {idx : List Nat} {t : Term} {x : Addr} {cl : Cell} {n : Int32} (ht : t.eval args first o idx s = some (.ref x)) (ha : s.arrayAt? x = some cl) (h : (Term.length t).eval args first o idx s = some (.int n)) : cl.slots.size < 2 ^ 31 ∧ cl.slots.size.toInt32 = n := by
  by_cases q : cl.slots.size < 2 ^ 31
  · have e := len_f ht ha q
    rw [e] at h; cases h; exact ⟨q, rfl⟩
  · simp [Term.eval, ht, ha, q] at h
theorem own_ni {args : Array Value} {first s : State} {o : Option Outcome} {idx : List Nat} {a b : Term} {x y : Int32} (h : (Jvm.Cond.eq a b).value args first o s idx = some false) (ha : a.eval args first o idx s = some (.int x)) (hb : b.eval args first o idx s = some (.int y)) : ¬ (x = y) := by
  simp [Cond.value, ha, hb] at h; exact h
theorem own_mask (p : Int32) : 0 ≤ (p &&& (2147483647 : Int32)).toInt := by
  have h : (p &&& (2147483647 : Int32)).toBitVec.msb = false := by
    show (p.toBitVec &&& 2147483647#32).msb = false
    rw [BitVec.msb_and]; simp [show (2147483647#32).msb = false from rfl]
  show 0 ≤ (p &&& (2147483647 : Int32)).toBitVec.toInt
  rw [BitVec.toInt_eq_msb_cond, h]; simp
theorem own_rem (p k : Int32) (hk : 0 < k.toInt) : 0 ≤ ((p &&& (2147483647 : Int32)) % k).toInt ∧ ((p &&& (2147483647 : Int32)) % k).toInt < k.toInt := by
  rw [Int32.toInt_mod, Int.tmod_eq_emod_of_nonneg (own_mask p)]
  exact ⟨Int.emod_nonneg _ (by omega), Int.emod_lt_of_pos _ hk⟩
theorem own_k2 (p : Int32) (h0 : ¬ (p &&& (2147483647 : Int32)) % 3 = 0) (h1 : ¬ (p &&& (2147483647 : Int32)) % 3 = 1) : (p &&& (2147483647 : Int32)) % 3 = 2 := by
  have h := own_rem p 3 (by decide)
  generalize (p &&& (2147483647 : Int32)) % 3 = x at *
  rw [← Int32.toInt_inj] at *
  have e0 : (0 : Int32).toInt = 0 := rfl
  have e1 : (1 : Int32).toInt = 1 := rfl
  have e2 : (2 : Int32).toInt = 2 := rfl
  have e3 : (3 : Int32).toInt = 3 := rfl
  omega
theorem d1_0 : decode method_2_code 0 = .ok (.iload_n 0, 1) := by decide +kernel
theorem d1_1 : decode method_2_code 1 = .ok (.ldc 7, 2) := by decide +kernel
theorem d1_3 : decode method_2_code 3 = .ok (.iand, 1) := by decide +kernel
theorem d1_4 : decode method_2_code 4 = .ok (.iconst 3, 1) := by decide +kernel
theorem d1_5 : decode method_2_code 5 = .ok (.irem, 1) := by decide +kernel
theorem d1_6 : decode method_2_code 6 = .ok (.istore_n 1, 1) := by decide +kernel
theorem d1_7 : decode method_2_code 7 = .ok (.iload_n 1, 1) := by decide +kernel
theorem d1_8 : decode method_2_code 8 = .ok (.ifCond .ne 7, 3) := by decide +kernel
theorem d1_11 : decode method_2_code 11 = .ok (.getstatic 8, 3) := by decide +kernel
theorem d1_14 : decode method_2_code 14 = .ok (.areturn, 1) := by decide +kernel
theorem pn_1 : plainName "com/example/tyche/tyche/model/RelationIsStrictPinLaw" = true := by first | (simp [plainName, overriddenIn]; done) | decide +kernel
theorem ef_1 (m : MethodId) (pi1 : Int32) : entryFrame m #[(.int pi1)] 2 = mkF m 0 #[.val (.int pi1), .unset] [] := by first | (simp [entryFrame, mkF, argsToLocals, Value.category]; done) | rfl
def Q1_t (Z : State) (pi1 : Int32) (w_LESS : Addr) (h0 : Heap) (n0 : Nat) (v : Option Value) (h : Heap) (L : List Loc) : Prop := v = some (.ref w_LESS) ∧ Fr n0 L ∧ h = h0
set_option maxRecDepth 65536 in
set_option maxHeartbeats 40000000 in
theorem rm1_t (l : Launch) (Z : State) (a0 : Array Value) (hw : ∀ d ∈ tables_1, d.before a0 Z = true) (ws : List Jvm.Cond) (pi1 : Int32) (w_LESS : Addr) (h0 : Heap) (n0 : Nat) (Z0 : n0 ≤ h0.size) (O0 : Old Z n0 h0) (S_LESS : Sta Z Z.heap "com/example/tyche/tyche/model/Relation" "LESS" "Lcom/example/tyche/tyche/model/Relation;" (.ref w_LESS)) (hc8_0 : ((pi1 &&& (2147483647 : Int32)) % (3 : Int32)) = (0 : Int32)) :
    MetFree l (⟨"com/example/tyche/tyche/model/RelationIsStrictPinLaw", "pick", "(I)Lcom/example/tyche/tyche/model/Relation;"⟩ : MethodName) (head1 (Jvm.Cond.code (⟨"com/example/tyche/tyche/model/RelationIsStrictPinLaw", "pick", "(I)Lcom/example/tyche/tyche/model/Relation;"⟩ : MethodName) method_2_code 2 (some (.object "com/example/tyche/tyche/model/Relation")) :: ws) ({ frames := 0, cells := 0, slots := 0, locals := 0 } : Room)) (fun a U => a = #[(.int pi1)] ∧ Z.Warmed39 U.vm ∧ U.heap = h0) (fun _ _ _ _ _ => True) (fun _ U o U' => ∃ v L, o = .returned v ∧ Q1_t Z pi1 w_LESS h0 n0 v U'.heap L ∧ FrameEnd U o U' L ({ frames := 0, cells := 0, slots := 0, locals := 0 } : Room).cells ({ frames := 0, cells := 0, slots := 0, locals := 0 } : Room).slots) := by
  refine MetFree.of_bodySF (plainFor_of_name pn_1) hisR ?_
  intro p e s m args below meth c s₁ Bd hml0 hP hK
  obtain ⟨rfl, hZ, hh⟩ := hP
  have hx := Bd.exec
  have hby := Bd.bytes
  have hml : c.maxLocals = 2 := hml0
  have hown : s.vm.findClass "com/example/tyche/tyche/model/RelationIsStrictPinLaw" = some m.cls := findClass_of_methodNamed Bd.named
  have hnm := (name_of_methodNamed Bd.named Bd.method).1
  have X0 : Stand p l e ({ frames := 0, cells := 0, slots := 0, locals := 0 } : Room) s m #[(.int pi1)] below meth c s₁ [] 0 0 := Stand.of_body Bd
  have e0 : s₁.heap = h0 := by rw [← hh, Bd.state]; rfl
  have N0 := Fr.nil n0
  have pre0 : ∀ t, Steps p.tables e below (s₁.setTop (mkF m 0 #[.val (.int pi1), .unset] [])) t → Steps p.tables e below (s₁.setTop (entryFrame m #[(.int pi1)] 2)) t := fun t k => castTop (ef_1 m pi1) k
  obtain ⟨T1, X1, e1, st1⟩ := getS2 X0 hx hZ hown (host := "") (Or.inl (hw _ (List.mem_of_getElem? (i := 5) rfl))) Via.refl e0 (S_LESS.ext O0.2) (g := (mkF m 11 #[.val (.int pi1), .val (.int ((pi1 &&& (2147483647 : Int32)) % (3 : Int32)))] [])) rfl (hb hby d1_11)
  obtain ⟨fs, hr, hrun, hended, hW, hsame⟩ := X1.leave (v := some (.ref w_LESS)) (fun h => by rw [Bd.returns] at h; cases h)
  refine ⟨_, _, pre0 _ ?_, hrun, hended, _, _, rfl, ?_, ⟨_, rfl⟩, hW, hsame.mono (by decide) (by decide)⟩
  · show Steps p.tables e below (s₁.setTop (mkF m 0 #[.val (.int pi1), .unset] [])) _
    refine XS.iloadN X0.here hx rfl (hb hby d1_0) rfl ?_
    show Steps p.tables e below (s₁.setTop (mkF m 1 #[.val (.int pi1), .unset] [(.int pi1)])) _
    refine X0.ldcInt hx hown (mvT hZ (hw _ (List.mem_of_getElem? (i := 4) rfl))) (g := (mkF m 1 #[.val (.int pi1), .unset] [(.int pi1)])) rfl (hb hby d1_1) _ ?_
    show Steps p.tables e below (s₁.setTop (mkF m 3 #[.val (.int pi1), .unset] [(.int (2147483647 : Int32)), (.int pi1)])) _
    refine XS.iand X0.here hx rfl (hb hby d1_3) rfl ?_
    show Steps p.tables e below (s₁.setTop (mkF m 4 #[.val (.int pi1), .unset] [(.int (pi1 &&& (2147483647 : Int32)))])) _
    refine XS.iconst X0.here hx rfl (hb hby d1_4) ?_
    show Steps p.tables e below (s₁.setTop (mkF m 5 #[.val (.int pi1), .unset] [(.int (3 : Int32)), (.int (pi1 &&& (2147483647 : Int32)))])) _
    refine iremM X0 hx rfl (hb hby d1_5) rfl (by decide) ?_
    show Steps p.tables e below (s₁.setTop (mkF m 6 #[.val (.int pi1), .unset] [(.int ((pi1 &&& (2147483647 : Int32)) % (3 : Int32)))])) _
    refine XS.istoreN X0.here hx rfl (hb hby d1_6) rfl (l' := #[.val (.int pi1), .val (.int ((pi1 &&& (2147483647 : Int32)) % (3 : Int32)))]) rfl ?_
    show Steps p.tables e below (s₁.setTop (mkF m 7 #[.val (.int pi1), .val (.int ((pi1 &&& (2147483647 : Int32)) % (3 : Int32)))] [])) _
    refine XS.iloadN X0.here hx rfl (hb hby d1_7) rfl ?_
    show Steps p.tables e below (s₁.setTop (mkF m 8 #[.val (.int pi1), .val (.int ((pi1 &&& (2147483647 : Int32)) % (3 : Int32)))] [(.int ((pi1 &&& (2147483647 : Int32)) % (3 : Int32)))])) _
    refine XS.ifNo X0.here hx rfl (hb hby d1_8) rfl ((if0 _ _).trans (teq hc8_0).2) ?_
    show Steps p.tables e below (s₁.setTop (mkF m 11 #[.val (.int pi1), .val (.int ((pi1 &&& (2147483647 : Int32)) % (3 : Int32)))] [])) _
    refine st1 _ ?_
    show Steps p.tables e below (T1.setTop (mkF m 14 #[.val (.int pi1), .val (.int ((pi1 &&& (2147483647 : Int32)) % (3 : Int32)))] [(.ref w_LESS)])) _
    jvm_step X1.here [X1.here.top, hx, (hb hby d1_14), X1.method', Bd.returns, Value.isRef, FieldType.isReference]
    first | (intro acts; rw [hr _ acts rfl rfl rfl]) | rw [hr _ _ rfl rfl rfl]
    exact Steps.refl _
  · show Q1_t Z pi1 w_LESS h0 n0 _ T1.heap _
    rw [e1]
    exact ⟨rfl, N0, rfl⟩
theorem d1_15 : decode method_2_code 15 = .ok (.iload_n 1, 1) := by decide +kernel
theorem d1_16 : decode method_2_code 16 = .ok (.iconst 1, 1) := by decide +kernel
theorem d1_17 : decode method_2_code 17 = .ok (.if_icmp .ne 7, 3) := by decide +kernel
theorem d1_20 : decode method_2_code 20 = .ok (.getstatic 14, 3) := by decide +kernel
theorem d1_23 : decode method_2_code 23 = .ok (.areturn, 1) := by decide +kernel
def Q1_ft (Z : State) (pi1 : Int32) (w_LESS_OR_EQUAL : Addr) (h0 : Heap) (n0 : Nat) (v : Option Value) (h : Heap) (L : List Loc) : Prop := v = some (.ref w_LESS_OR_EQUAL) ∧ Fr n0 L ∧ h = h0
set_option maxRecDepth 65536 in
set_option maxHeartbeats 40000000 in
theorem rm1_ft (l : Launch) (Z : State) (a0 : Array Value) (hw : ∀ d ∈ tables_1, d.before a0 Z = true) (ws : List Jvm.Cond) (pi1 : Int32) (w_LESS_OR_EQUAL : Addr) (h0 : Heap) (n0 : Nat) (Z0 : n0 ≤ h0.size) (O0 : Old Z n0 h0) (S_LESS_OR_EQUAL : Sta Z Z.heap "com/example/tyche/tyche/model/Relation" "LESS_OR_EQUAL" "Lcom/example/tyche/tyche/model/Relation;" (.ref w_LESS_OR_EQUAL)) (hc8_0 : ¬ (((pi1 &&& (2147483647 : Int32)) % (3 : Int32)) = (0 : Int32))) (hc17_1 : ((pi1 &&& (2147483647 : Int32)) % (3 : Int32)) = (1 : Int32)) :
    MetFree l (⟨"com/example/tyche/tyche/model/RelationIsStrictPinLaw", "pick", "(I)Lcom/example/tyche/tyche/model/Relation;"⟩ : MethodName) (head1 (Jvm.Cond.code (⟨"com/example/tyche/tyche/model/RelationIsStrictPinLaw", "pick", "(I)Lcom/example/tyche/tyche/model/Relation;"⟩ : MethodName) method_2_code 2 (some (.object "com/example/tyche/tyche/model/Relation")) :: ws) ({ frames := 0, cells := 0, slots := 0, locals := 0 } : Room)) (fun a U => a = #[(.int pi1)] ∧ Z.Warmed39 U.vm ∧ U.heap = h0) (fun _ _ _ _ _ => True) (fun _ U o U' => ∃ v L, o = .returned v ∧ Q1_ft Z pi1 w_LESS_OR_EQUAL h0 n0 v U'.heap L ∧ FrameEnd U o U' L ({ frames := 0, cells := 0, slots := 0, locals := 0 } : Room).cells ({ frames := 0, cells := 0, slots := 0, locals := 0 } : Room).slots) := by
  refine MetFree.of_bodySF (plainFor_of_name pn_1) hisR ?_
  intro p e s m args below meth c s₁ Bd hml0 hP hK
  obtain ⟨rfl, hZ, hh⟩ := hP
  have hx := Bd.exec
  have hby := Bd.bytes
  have hml : c.maxLocals = 2 := hml0
  have hown : s.vm.findClass "com/example/tyche/tyche/model/RelationIsStrictPinLaw" = some m.cls := findClass_of_methodNamed Bd.named
  have hnm := (name_of_methodNamed Bd.named Bd.method).1
  have X0 : Stand p l e ({ frames := 0, cells := 0, slots := 0, locals := 0 } : Room) s m #[(.int pi1)] below meth c s₁ [] 0 0 := Stand.of_body Bd
  have e0 : s₁.heap = h0 := by rw [← hh, Bd.state]; rfl
  have N0 := Fr.nil n0
  have pre0 : ∀ t, Steps p.tables e below (s₁.setTop (mkF m 0 #[.val (.int pi1), .unset] [])) t → Steps p.tables e below (s₁.setTop (entryFrame m #[(.int pi1)] 2)) t := fun t k => castTop (ef_1 m pi1) k
  obtain ⟨T1, X1, e1, st1⟩ := getS2 X0 hx hZ hown (host := "") (Or.inl (hw _ (List.mem_of_getElem? (i := 61) rfl))) Via.refl e0 (S_LESS_OR_EQUAL.ext O0.2) (g := (mkF m 20 #[.val (.int pi1), .val (.int ((pi1 &&& (2147483647 : Int32)) % (3 : Int32)))] [])) rfl (hb hby d1_20)
  obtain ⟨fs, hr, hrun, hended, hW, hsame⟩ := X1.leave (v := some (.ref w_LESS_OR_EQUAL)) (fun h => by rw [Bd.returns] at h; cases h)
  refine ⟨_, _, pre0 _ ?_, hrun, hended, _, _, rfl, ?_, ⟨_, rfl⟩, hW, hsame.mono (by decide) (by decide)⟩
  · show Steps p.tables e below (s₁.setTop (mkF m 0 #[.val (.int pi1), .unset] [])) _
    refine XS.iloadN X0.here hx rfl (hb hby d1_0) rfl ?_
    show Steps p.tables e below (s₁.setTop (mkF m 1 #[.val (.int pi1), .unset] [(.int pi1)])) _
    refine X0.ldcInt hx hown (mvT hZ (hw _ (List.mem_of_getElem? (i := 4) rfl))) (g := (mkF m 1 #[.val (.int pi1), .unset] [(.int pi1)])) rfl (hb hby d1_1) _ ?_
    show Steps p.tables e below (s₁.setTop (mkF m 3 #[.val (.int pi1), .unset] [(.int (2147483647 : Int32)), (.int pi1)])) _
    refine XS.iand X0.here hx rfl (hb hby d1_3) rfl ?_
    show Steps p.tables e below (s₁.setTop (mkF m 4 #[.val (.int pi1), .unset] [(.int (pi1 &&& (2147483647 : Int32)))])) _
    refine XS.iconst X0.here hx rfl (hb hby d1_4) ?_
    show Steps p.tables e below (s₁.setTop (mkF m 5 #[.val (.int pi1), .unset] [(.int (3 : Int32)), (.int (pi1 &&& (2147483647 : Int32)))])) _
    refine iremM X0 hx rfl (hb hby d1_5) rfl (by decide) ?_
    show Steps p.tables e below (s₁.setTop (mkF m 6 #[.val (.int pi1), .unset] [(.int ((pi1 &&& (2147483647 : Int32)) % (3 : Int32)))])) _
    refine XS.istoreN X0.here hx rfl (hb hby d1_6) rfl (l' := #[.val (.int pi1), .val (.int ((pi1 &&& (2147483647 : Int32)) % (3 : Int32)))]) rfl ?_
    show Steps p.tables e below (s₁.setTop (mkF m 7 #[.val (.int pi1), .val (.int ((pi1 &&& (2147483647 : Int32)) % (3 : Int32)))] [])) _
    refine XS.iloadN X0.here hx rfl (hb hby d1_7) rfl ?_
    show Steps p.tables e below (s₁.setTop (mkF m 8 #[.val (.int pi1), .val (.int ((pi1 &&& (2147483647 : Int32)) % (3 : Int32)))] [(.int ((pi1 &&& (2147483647 : Int32)) % (3 : Int32)))])) _
    refine XS.ifYes X0.here hx rfl (pc0 := 8) (pc' := 15) rfl (hb hby d1_8) rfl ((if0 _ _).trans (feq hc8_0).2) (by decide) (by decide) ?_
    show Steps p.tables e below (s₁.setTop (mkF m 15 #[.val (.int pi1), .val (.int ((pi1 &&& (2147483647 : Int32)) % (3 : Int32)))] [])) _
    refine XS.iloadN X0.here hx rfl (hb hby d1_15) rfl ?_
    show Steps p.tables e below (s₁.setTop (mkF m 16 #[.val (.int pi1), .val (.int ((pi1 &&& (2147483647 : Int32)) % (3 : Int32)))] [(.int ((pi1 &&& (2147483647 : Int32)) % (3 : Int32)))])) _
    refine XS.iconst X0.here hx rfl (hb hby d1_16) ?_
    show Steps p.tables e below (s₁.setTop (mkF m 17 #[.val (.int pi1), .val (.int ((pi1 &&& (2147483647 : Int32)) % (3 : Int32)))] [(.int (1 : Int32)), (.int ((pi1 &&& (2147483647 : Int32)) % (3 : Int32)))])) _
    refine XS.icmpNo X0.here hx rfl (hb hby d1_17) rfl (teq hc17_1).2 ?_
    show Steps p.tables e below (s₁.setTop (mkF m 20 #[.val (.int pi1), .val (.int ((pi1 &&& (2147483647 : Int32)) % (3 : Int32)))] [])) _
    refine st1 _ ?_
    show Steps p.tables e below (T1.setTop (mkF m 23 #[.val (.int pi1), .val (.int ((pi1 &&& (2147483647 : Int32)) % (3 : Int32)))] [(.ref w_LESS_OR_EQUAL)])) _
    jvm_step X1.here [X1.here.top, hx, (hb hby d1_23), X1.method', Bd.returns, Value.isRef, FieldType.isReference]
    first | (intro acts; rw [hr _ acts rfl rfl rfl]) | rw [hr _ _ rfl rfl rfl]
    exact Steps.refl _
  · show Q1_ft Z pi1 w_LESS_OR_EQUAL h0 n0 _ T1.heap _
    rw [e1]
    exact ⟨rfl, N0, rfl⟩
theorem d1_24 : decode method_2_code 24 = .ok (.getstatic 17, 3) := by decide +kernel
theorem d1_27 : decode method_2_code 27 = .ok (.areturn, 1) := by decide +kernel
def Q1_ff (Z : State) (pi1 : Int32) (w_EQUAL : Addr) (h0 : Heap) (n0 : Nat) (v : Option Value) (h : Heap) (L : List Loc) : Prop := v = some (.ref w_EQUAL) ∧ Fr n0 L ∧ h = h0
set_option maxRecDepth 65536 in
set_option maxHeartbeats 40000000 in
theorem rm1_ff (l : Launch) (Z : State) (a0 : Array Value) (hw : ∀ d ∈ tables_1, d.before a0 Z = true) (ws : List Jvm.Cond) (pi1 : Int32) (w_EQUAL : Addr) (h0 : Heap) (n0 : Nat) (Z0 : n0 ≤ h0.size) (O0 : Old Z n0 h0) (S_EQUAL : Sta Z Z.heap "com/example/tyche/tyche/model/Relation" "EQUAL" "Lcom/example/tyche/tyche/model/Relation;" (.ref w_EQUAL)) (hc8_0 : ¬ (((pi1 &&& (2147483647 : Int32)) % (3 : Int32)) = (0 : Int32))) (hc17_1 : ¬ (((pi1 &&& (2147483647 : Int32)) % (3 : Int32)) = (1 : Int32))) :
    MetFree l (⟨"com/example/tyche/tyche/model/RelationIsStrictPinLaw", "pick", "(I)Lcom/example/tyche/tyche/model/Relation;"⟩ : MethodName) (head1 (Jvm.Cond.code (⟨"com/example/tyche/tyche/model/RelationIsStrictPinLaw", "pick", "(I)Lcom/example/tyche/tyche/model/Relation;"⟩ : MethodName) method_2_code 2 (some (.object "com/example/tyche/tyche/model/Relation")) :: ws) ({ frames := 0, cells := 0, slots := 0, locals := 0 } : Room)) (fun a U => a = #[(.int pi1)] ∧ Z.Warmed39 U.vm ∧ U.heap = h0) (fun _ _ _ _ _ => True) (fun _ U o U' => ∃ v L, o = .returned v ∧ Q1_ff Z pi1 w_EQUAL h0 n0 v U'.heap L ∧ FrameEnd U o U' L ({ frames := 0, cells := 0, slots := 0, locals := 0 } : Room).cells ({ frames := 0, cells := 0, slots := 0, locals := 0 } : Room).slots) := by
  refine MetFree.of_bodySF (plainFor_of_name pn_1) hisR ?_
  intro p e s m args below meth c s₁ Bd hml0 hP hK
  obtain ⟨rfl, hZ, hh⟩ := hP
  have hx := Bd.exec
  have hby := Bd.bytes
  have hml : c.maxLocals = 2 := hml0
  have hown : s.vm.findClass "com/example/tyche/tyche/model/RelationIsStrictPinLaw" = some m.cls := findClass_of_methodNamed Bd.named
  have hnm := (name_of_methodNamed Bd.named Bd.method).1
  have X0 : Stand p l e ({ frames := 0, cells := 0, slots := 0, locals := 0 } : Room) s m #[(.int pi1)] below meth c s₁ [] 0 0 := Stand.of_body Bd
  have e0 : s₁.heap = h0 := by rw [← hh, Bd.state]; rfl
  have N0 := Fr.nil n0
  have pre0 : ∀ t, Steps p.tables e below (s₁.setTop (mkF m 0 #[.val (.int pi1), .unset] [])) t → Steps p.tables e below (s₁.setTop (entryFrame m #[(.int pi1)] 2)) t := fun t k => castTop (ef_1 m pi1) k
  obtain ⟨T1, X1, e1, st1⟩ := getS2 X0 hx hZ hown (host := "") (Or.inl (hw _ (List.mem_of_getElem? (i := 59) rfl))) Via.refl e0 (S_EQUAL.ext O0.2) (g := (mkF m 24 #[.val (.int pi1), .val (.int ((pi1 &&& (2147483647 : Int32)) % (3 : Int32)))] [])) rfl (hb hby d1_24)
  obtain ⟨fs, hr, hrun, hended, hW, hsame⟩ := X1.leave (v := some (.ref w_EQUAL)) (fun h => by rw [Bd.returns] at h; cases h)
  refine ⟨_, _, pre0 _ ?_, hrun, hended, _, _, rfl, ?_, ⟨_, rfl⟩, hW, hsame.mono (by decide) (by decide)⟩
  · show Steps p.tables e below (s₁.setTop (mkF m 0 #[.val (.int pi1), .unset] [])) _
    refine XS.iloadN X0.here hx rfl (hb hby d1_0) rfl ?_
    show Steps p.tables e below (s₁.setTop (mkF m 1 #[.val (.int pi1), .unset] [(.int pi1)])) _
    refine X0.ldcInt hx hown (mvT hZ (hw _ (List.mem_of_getElem? (i := 4) rfl))) (g := (mkF m 1 #[.val (.int pi1), .unset] [(.int pi1)])) rfl (hb hby d1_1) _ ?_
    show Steps p.tables e below (s₁.setTop (mkF m 3 #[.val (.int pi1), .unset] [(.int (2147483647 : Int32)), (.int pi1)])) _
    refine XS.iand X0.here hx rfl (hb hby d1_3) rfl ?_
    show Steps p.tables e below (s₁.setTop (mkF m 4 #[.val (.int pi1), .unset] [(.int (pi1 &&& (2147483647 : Int32)))])) _
    refine XS.iconst X0.here hx rfl (hb hby d1_4) ?_
    show Steps p.tables e below (s₁.setTop (mkF m 5 #[.val (.int pi1), .unset] [(.int (3 : Int32)), (.int (pi1 &&& (2147483647 : Int32)))])) _
    refine iremM X0 hx rfl (hb hby d1_5) rfl (by decide) ?_
    show Steps p.tables e below (s₁.setTop (mkF m 6 #[.val (.int pi1), .unset] [(.int ((pi1 &&& (2147483647 : Int32)) % (3 : Int32)))])) _
    refine XS.istoreN X0.here hx rfl (hb hby d1_6) rfl (l' := #[.val (.int pi1), .val (.int ((pi1 &&& (2147483647 : Int32)) % (3 : Int32)))]) rfl ?_
    show Steps p.tables e below (s₁.setTop (mkF m 7 #[.val (.int pi1), .val (.int ((pi1 &&& (2147483647 : Int32)) % (3 : Int32)))] [])) _
    refine XS.iloadN X0.here hx rfl (hb hby d1_7) rfl ?_
    show Steps p.tables e below (s₁.setTop (mkF m 8 #[.val (.int pi1), .val (.int ((pi1 &&& (2147483647 : Int32)) % (3 : Int32)))] [(.int ((pi1 &&& (2147483647 : Int32)) % (3 : Int32)))])) _
    refine XS.ifYes X0.here hx rfl (pc0 := 8) (pc' := 15) rfl (hb hby d1_8) rfl ((if0 _ _).trans (feq hc8_0).2) (by decide) (by decide) ?_
    show Steps p.tables e below (s₁.setTop (mkF m 15 #[.val (.int pi1), .val (.int ((pi1 &&& (2147483647 : Int32)) % (3 : Int32)))] [])) _
    refine XS.iloadN X0.here hx rfl (hb hby d1_15) rfl ?_
    show Steps p.tables e below (s₁.setTop (mkF m 16 #[.val (.int pi1), .val (.int ((pi1 &&& (2147483647 : Int32)) % (3 : Int32)))] [(.int ((pi1 &&& (2147483647 : Int32)) % (3 : Int32)))])) _
    refine XS.iconst X0.here hx rfl (hb hby d1_16) ?_
    show Steps p.tables e below (s₁.setTop (mkF m 17 #[.val (.int pi1), .val (.int ((pi1 &&& (2147483647 : Int32)) % (3 : Int32)))] [(.int (1 : Int32)), (.int ((pi1 &&& (2147483647 : Int32)) % (3 : Int32)))])) _
    refine XS.icmpYes X0.here hx rfl (pc0 := 17) (pc' := 24) rfl (hb hby d1_17) rfl (feq hc17_1).2 (by decide) (by decide) ?_
    show Steps p.tables e below (s₁.setTop (mkF m 24 #[.val (.int pi1), .val (.int ((pi1 &&& (2147483647 : Int32)) % (3 : Int32)))] [])) _
    refine st1 _ ?_
    show Steps p.tables e below (T1.setTop (mkF m 27 #[.val (.int pi1), .val (.int ((pi1 &&& (2147483647 : Int32)) % (3 : Int32)))] [(.ref w_EQUAL)])) _
    jvm_step X1.here [X1.here.top, hx, (hb hby d1_27), X1.method', Bd.returns, Value.isRef, FieldType.isReference]
    first | (intro acts; rw [hr _ acts rfl rfl rfl]) | rw [hr _ _ rfl rfl rfl]
    exact Steps.refl _
  · show Q1_ff Z pi1 w_EQUAL h0 n0 _ T1.heap _
    rw [e1]
    exact ⟨rfl, N0, rfl⟩
theorem d2_0 : decode prog_62_method_5_code 0 = .ok (.aload_n 0, 1) := by decide +kernel
theorem d2_1 : decode prog_62_method_5_code 1 = .ok (.getfield 32, 3) := by decide +kernel
theorem d2_4 : decode prog_62_method_5_code 4 = .ok (.areturn, 1) := by decide +kernel
theorem pn_2 : plainName "com/example/tyche/tyche/model/Relation" = true := by first | (simp [plainName, overriddenIn]; done) | decide +kernel
theorem ef_2 (m : MethodId) (pr0 : Addr) : entryFrame m #[(.ref pr0)] 1 = mkF m 0 #[.val (.ref pr0)] [] := by first | (simp [entryFrame, mkF, argsToLocals, Value.category]; done) | rfl
def Q2 (Z : State) (pr0 : Addr) (w_symbol_pr0 : Addr) (h0 : Heap) (n0 : Nat) (v : Option Value) (h : Heap) (L : List Loc) : Prop := v = some (.ref w_symbol_pr0) ∧ Fr n0 L ∧ h = h0
set_option maxRecDepth 65536 in
set_option maxHeartbeats 40000000 in
theorem rm2 (l : Launch) (Z : State) (a0 : Array Value) (hw : ∀ d ∈ tables_1, d.before a0 Z = true) (ws : List Jvm.Cond) (pr0 : Addr) (w_symbol_pr0 : Addr) (h0 : Heap) (n0 : Nat) (Z0 : n0 ≤ h0.size) (O0 : Old Z n0 h0) (F_symbol_pr0 : Fld Z h0 pr0 "com/example/tyche/tyche/model/Relation" "symbol" "Ljava/lang/String;" (.ref w_symbol_pr0)) :
    MetFree l (⟨"com/example/tyche/tyche/model/Relation", "toString", "()Ljava/lang/String;"⟩ : MethodName) (head1 (Jvm.Cond.code (⟨"com/example/tyche/tyche/model/Relation", "toString", "()Ljava/lang/String;"⟩ : MethodName) prog_62_method_5_code 1 (some (.object "java/lang/String")) :: ws) ({ frames := 0, cells := 0, slots := 0, locals := 0 } : Room)) (fun a U => a = #[(.ref pr0)] ∧ Z.Warmed39 U.vm ∧ U.heap = h0) (fun _ _ _ _ _ => True) (fun _ U o U' => ∃ v L, o = .returned v ∧ Q2 Z pr0 w_symbol_pr0 h0 n0 v U'.heap L ∧ FrameEnd U o U' L ({ frames := 0, cells := 0, slots := 0, locals := 0 } : Room).cells ({ frames := 0, cells := 0, slots := 0, locals := 0 } : Room).slots) := by
  refine MetFree.of_bodySF (plainFor_of_name pn_2) hisR ?_
  intro p e s m args below meth c s₁ Bd hml0 hP hK
  obtain ⟨rfl, hZ, hh⟩ := hP
  have hx := Bd.exec
  have hby := Bd.bytes
  have hml : c.maxLocals = 1 := hml0
  have hown : s.vm.findClass "com/example/tyche/tyche/model/Relation" = some m.cls := findClass_of_methodNamed Bd.named
  have hnm := (name_of_methodNamed Bd.named Bd.method).1
  have X0 : Stand p l e ({ frames := 0, cells := 0, slots := 0, locals := 0 } : Room) s m #[(.ref pr0)] below meth c s₁ [] 0 0 := Stand.of_body Bd
  have e0 : s₁.heap = h0 := by rw [← hh, Bd.state]; rfl
  have N0 := Fr.nil n0
  have pre0 : ∀ t, Steps p.tables e below (s₁.setTop (mkF m 0 #[.val (.ref pr0)] [])) t → Steps p.tables e below (s₁.setTop (entryFrame m #[(.ref pr0)] 1)) t := fun t k => castTop (ef_2 m pr0) k
  obtain ⟨T1, X1, e1, st1⟩ := getF X0 hx hZ hown (host := "") (Or.inl (hw _ (List.mem_of_getElem? (i := 13) rfl))) Via.refl e0 F_symbol_pr0 (g := (mkF m 1 #[.val (.ref pr0)] [(.ref pr0)])) rfl rfl (hb hby d2_1)
  obtain ⟨fs, hr, hrun, hended, hW, hsame⟩ := X1.leave (v := some (.ref w_symbol_pr0)) (fun h => by rw [Bd.returns] at h; cases h)
  refine ⟨_, _, pre0 _ ?_, hrun, hended, _, _, rfl, ?_, ⟨_, rfl⟩, hW, hsame.mono (by decide) (by decide)⟩
  · show Steps p.tables e below (s₁.setTop (mkF m 0 #[.val (.ref pr0)] [])) _
    refine XS.aloadN X0.here hx rfl (hb hby d2_0) rfl rfl ?_
    show Steps p.tables e below (s₁.setTop (mkF m 1 #[.val (.ref pr0)] [(.ref pr0)])) _
    refine st1 _ ?_
    show Steps p.tables e below (T1.setTop (mkF m 4 #[.val (.ref pr0)] [(.ref w_symbol_pr0)])) _
    jvm_step X1.here [X1.here.top, hx, (hb hby d2_4), X1.method', Bd.returns, Value.isRef, FieldType.isReference]
    first | (intro acts; rw [hr _ acts rfl rfl rfl]) | rw [hr _ _ rfl rfl rfl]
    exact Steps.refl _
  · show Q2 Z pr0 w_symbol_pr0 h0 n0 _ T1.heap _
    rw [e1]
    exact ⟨rfl, N0, rfl⟩
theorem d4_0 : decode jdk_42_method_152_code 0 = .ok (.getstatic 38, 3) := by decide +kernel
theorem d4_3 : decode jdk_42_method_152_code 3 = .ok (.ifCond .eq 10, 3) := by decide +kernel
theorem d4_6 : decode jdk_42_method_152_code 6 = .ok (.aload_n 0, 1) := by decide +kernel
theorem d4_7 : decode jdk_42_method_152_code 7 = .ok (.getfield 15, 3) := by decide +kernel
theorem d4_10 : decode jdk_42_method_152_code 10 = .ok (.goto 4, 3) := by decide +kernel
theorem d4_14 : decode jdk_42_method_152_code 14 = .ok (.ireturn, 1) := by decide +kernel
theorem pn_4 : plainName "java/lang/String" = true := by first | (simp [plainName, overriddenIn]; done) | decide +kernel
theorem ef_4 (m : MethodId) (pr0 : Addr) : entryFrame m #[(.ref pr0)] 1 = mkF m 0 #[.val (.ref pr0)] [] := by first | (simp [entryFrame, mkF, argsToLocals, Value.category]; done) | rfl
def Q4 (Z : State) (pr0 : Addr) (w_COMPACT_STRINGS : Int32) (w_coder_pr0 : Int32) (h0 : Heap) (n0 : Nat) (v : Option Value) (h : Heap) (L : List Loc) : Prop := v = some (.int (nar .byte w_coder_pr0)) ∧ Fr n0 L ∧ h = h0
set_option maxRecDepth 65536 in
set_option maxHeartbeats 40000000 in
theorem rm4 (l : Launch) (Z : State) (a0 : Array Value) (hw : ∀ d ∈ tables_1, d.before a0 Z = true) (ws : List Jvm.Cond) (pr0 : Addr) (w_COMPACT_STRINGS : Int32) (w_coder_pr0 : Int32) (h0 : Heap) (n0 : Nat) (Z0 : n0 ≤ h0.size) (O0 : Old Z n0 h0) (S_COMPACT_STRINGS : Sta Z Z.heap "java/lang/String" "COMPACT_STRINGS" "Z" (.int w_COMPACT_STRINGS)) (F_coder_pr0 : Fld Z h0 pr0 "java/lang/String" "coder" "B" (.int w_coder_pr0)) (hc3_0 : ¬ (w_COMPACT_STRINGS = (0 : Int32))) :
    MetFree l (⟨"java/lang/String", "coder", "()B"⟩ : MethodName) (head1 (Jvm.Cond.code (⟨"java/lang/String", "coder", "()B"⟩ : MethodName) jdk_42_method_152_code 1 (some .byte) :: ws) ({ frames := 0, cells := 0, slots := 0, locals := 0 } : Room)) (fun a U => a = #[(.ref pr0)] ∧ Z.Warmed39 U.vm ∧ U.heap = h0) (fun _ _ _ _ _ => True) (fun _ U o U' => ∃ v L, o = .returned v ∧ Q4 Z pr0 w_COMPACT_STRINGS w_coder_pr0 h0 n0 v U'.heap L ∧ FrameEnd U o U' L ({ frames := 0, cells := 0, slots := 0, locals := 0 } : Room).cells ({ frames := 0, cells := 0, slots := 0, locals := 0 } : Room).slots) := by
  refine MetFree.of_bodySF (plainFor_of_name pn_4) hisR ?_
  intro p e s m args below meth c s₁ Bd hml0 hP hK
  obtain ⟨rfl, hZ, hh⟩ := hP
  have hx := Bd.exec
  have hby := Bd.bytes
  have hml : c.maxLocals = 1 := hml0
  have hown : s.vm.findClass "java/lang/String" = some m.cls := findClass_of_methodNamed Bd.named
  have hnm := (name_of_methodNamed Bd.named Bd.method).1
  have X0 : Stand p l e ({ frames := 0, cells := 0, slots := 0, locals := 0 } : Room) s m #[(.ref pr0)] below meth c s₁ [] 0 0 := Stand.of_body Bd
  have e0 : s₁.heap = h0 := by rw [← hh, Bd.state]; rfl
  have N0 := Fr.nil n0
  have pre0 : ∀ t, Steps p.tables e below (s₁.setTop (mkF m 0 #[.val (.ref pr0)] [])) t → Steps p.tables e below (s₁.setTop (entryFrame m #[(.ref pr0)] 1)) t := fun t k => castTop (ef_4 m pr0) k
  obtain ⟨T1, X1, e1, st1⟩ := getS2 X0 hx hZ hown (host := "") (Or.inl (hw _ (List.mem_of_getElem? (i := 28) rfl))) Via.refl e0 (S_COMPACT_STRINGS.ext O0.2) (g := (mkF m 0 #[.val (.ref pr0)] [])) rfl (hb hby d4_0)
  obtain ⟨T2, X2, e2, st2⟩ := getF X1 hx hZ hown (host := "") (Or.inl (hw _ (List.mem_of_getElem? (i := 29) rfl))) Via.refl e1 F_coder_pr0 (g := (mkF m 7 #[.val (.ref pr0)] [(.ref pr0)])) rfl rfl (hb hby d4_7)
  obtain ⟨fs, hr, hrun, hended, hW, hsame⟩ := X2.leave (v := some (.int (nar .byte w_coder_pr0))) (fun h => by rw [Bd.returns] at h; cases h)
  refine ⟨_, _, pre0 _ ?_, hrun, hended, _, _, rfl, ?_, ⟨_, rfl⟩, hW, hsame.mono (by decide) (by decide)⟩
  · show Steps p.tables e below (s₁.setTop (mkF m 0 #[.val (.ref pr0)] [])) _
    refine st1 _ ?_
    show Steps p.tables e below (T1.setTop (mkF m 3 #[.val (.ref pr0)] [(.int w_COMPACT_STRINGS)])) _
    refine XS.ifNo X1.here hx rfl (hb hby d4_3) rfl ((if0 _ _).trans (feq hc3_0).1) ?_
    show Steps p.tables e below (T1.setTop (mkF m 6 #[.val (.ref pr0)] [])) _
    refine XS.aloadN X1.here hx rfl (hb hby d4_6) rfl rfl ?_
    show Steps p.tables e below (T1.setTop (mkF m 7 #[.val (.ref pr0)] [(.ref pr0)])) _
    refine st2 _ ?_
    show Steps p.tables e below (T2.setTop (mkF m 10 #[.val (.ref pr0)] [(.int w_coder_pr0)])) _
    refine XS.goto X2.here hx rfl (pc0 := 10) (pc' := 14) rfl (hb hby d4_10) (by decide) (by decide) ?_
    show Steps p.tables e below (T2.setTop (mkF m 14 #[.val (.ref pr0)] [(.int w_coder_pr0)])) _
    exact retN X2 hx (t := .byte) Bd.returns (by simp) (hb hby d4_14) hr
  · show Q4 Z pr0 w_COMPACT_STRINGS w_coder_pr0 h0 n0 _ T2.heap _
    rw [e2]
    exact ⟨rfl, N0, rfl⟩
theorem d6_0 : decode jdk_42_method_154_code 0 = .ok (.getstatic 38, 3) := by decide +kernel
theorem d6_3 : decode jdk_42_method_154_code 3 = .ok (.ifCond .eq 14, 3) := by decide +kernel
theorem d6_6 : decode jdk_42_method_154_code 6 = .ok (.aload_n 0, 1) := by decide +kernel
theorem d6_7 : decode jdk_42_method_154_code 7 = .ok (.getfield 15, 3) := by decide +kernel
theorem d6_10 : decode jdk_42_method_154_code 10 = .ok (.ifCond .ne 7, 3) := by decide +kernel
theorem d6_13 : decode jdk_42_method_154_code 13 = .ok (.iconst 1, 1) := by decide +kernel
theorem d6_14 : decode jdk_42_method_154_code 14 = .ok (.goto 4, 3) := by decide +kernel
theorem d6_18 : decode jdk_42_method_154_code 18 = .ok (.ireturn, 1) := by decide +kernel
theorem pn_6 : plainName "java/lang/String" = true := by first | (simp [plainName, overriddenIn]; done) | decide +kernel
theorem ef_6 (m : MethodId) (pr0 : Addr) : entryFrame m #[(.ref pr0)] 1 = mkF m 0 #[.val (.ref pr0)] [] := by first | (simp [entryFrame, mkF, argsToLocals, Value.category]; done) | rfl
def Q6 (Z : State) (pr0 : Addr) (w_COMPACT_STRINGS : Int32) (w_coder_pr0 : Int32) (h0 : Heap) (n0 : Nat) (v : Option Value) (h : Heap) (L : List Loc) : Prop := v = some (.int (1 : Int32)) ∧ Fr n0 L ∧ h = h0
set_option maxRecDepth 65536 in
set_option maxHeartbeats 40000000 in
theorem rm6 (l : Launch) (Z : State) (a0 : Array Value) (hw : ∀ d ∈ tables_1, d.before a0 Z = true) (ws : List Jvm.Cond) (pr0 : Addr) (w_COMPACT_STRINGS : Int32) (w_coder_pr0 : Int32) (h0 : Heap) (n0 : Nat) (Z0 : n0 ≤ h0.size) (O0 : Old Z n0 h0) (S_COMPACT_STRINGS : Sta Z Z.heap "java/lang/String" "COMPACT_STRINGS" "Z" (.int w_COMPACT_STRINGS)) (F_coder_pr0 : Fld Z h0 pr0 "java/lang/String" "coder" "B" (.int w_coder_pr0)) (hc3_0 : ¬ (w_COMPACT_STRINGS = (0 : Int32))) (hc10_1 : w_coder_pr0 = (0 : Int32)) :
    MetFree l (⟨"java/lang/String", "isLatin1", "()Z"⟩ : MethodName) (head1 (Jvm.Cond.code (⟨"java/lang/String", "isLatin1", "()Z"⟩ : MethodName) jdk_42_method_154_code 1 (some .boolean) :: ws) ({ frames := 0, cells := 0, slots := 0, locals := 0 } : Room)) (fun a U => a = #[(.ref pr0)] ∧ Z.Warmed39 U.vm ∧ U.heap = h0) (fun _ _ _ _ _ => True) (fun _ U o U' => ∃ v L, o = .returned v ∧ Q6 Z pr0 w_COMPACT_STRINGS w_coder_pr0 h0 n0 v U'.heap L ∧ FrameEnd U o U' L ({ frames := 0, cells := 0, slots := 0, locals := 0 } : Room).cells ({ frames := 0, cells := 0, slots := 0, locals := 0 } : Room).slots) := by
  refine MetFree.of_bodySF (plainFor_of_name pn_6) hisR ?_
  intro p e s m args below meth c s₁ Bd hml0 hP hK
  obtain ⟨rfl, hZ, hh⟩ := hP
  have hx := Bd.exec
  have hby := Bd.bytes
  have hml : c.maxLocals = 1 := hml0
  have hown : s.vm.findClass "java/lang/String" = some m.cls := findClass_of_methodNamed Bd.named
  have hnm := (name_of_methodNamed Bd.named Bd.method).1
  have X0 : Stand p l e ({ frames := 0, cells := 0, slots := 0, locals := 0 } : Room) s m #[(.ref pr0)] below meth c s₁ [] 0 0 := Stand.of_body Bd
  have e0 : s₁.heap = h0 := by rw [← hh, Bd.state]; rfl
  have N0 := Fr.nil n0
  have pre0 : ∀ t, Steps p.tables e below (s₁.setTop (mkF m 0 #[.val (.ref pr0)] [])) t → Steps p.tables e below (s₁.setTop (entryFrame m #[(.ref pr0)] 1)) t := fun t k => castTop (ef_6 m pr0) k
  obtain ⟨T1, X1, e1, st1⟩ := getS2 X0 hx hZ hown (host := "") (Or.inl (hw _ (List.mem_of_getElem? (i := 28) rfl))) Via.refl e0 (S_COMPACT_STRINGS.ext O0.2) (g := (mkF m 0 #[.val (.ref pr0)] [])) rfl (hb hby d6_0)
  obtain ⟨T2, X2, e2, st2⟩ := getF X1 hx hZ hown (host := "") (Or.inl (hw _ (List.mem_of_getElem? (i := 29) rfl))) Via.refl e1 F_coder_pr0 (g := (mkF m 7 #[.val (.ref pr0)] [(.ref pr0)])) rfl rfl (hb hby d6_7)
  obtain ⟨fs, hr, hrun, hended, hW, hsame⟩ := X2.leave (v := some (.int (1 : Int32))) (fun h => by rw [Bd.returns] at h; cases h)
  refine ⟨_, _, pre0 _ ?_, hrun, hended, _, _, rfl, ?_, ⟨_, rfl⟩, hW, hsame.mono (by decide) (by decide)⟩
  · show Steps p.tables e below (s₁.setTop (mkF m 0 #[.val (.ref pr0)] [])) _
    refine st1 _ ?_
    show Steps p.tables e below (T1.setTop (mkF m 3 #[.val (.ref pr0)] [(.int w_COMPACT_STRINGS)])) _
    refine XS.ifNo X1.here hx rfl (hb hby d6_3) rfl ((if0 _ _).trans (feq hc3_0).1) ?_
    show Steps p.tables e below (T1.setTop (mkF m 6 #[.val (.ref pr0)] [])) _
    refine XS.aloadN X1.here hx rfl (hb hby d6_6) rfl rfl ?_
    show Steps p.tables e below (T1.setTop (mkF m 7 #[.val (.ref pr0)] [(.ref pr0)])) _
    refine st2 _ ?_
    show Steps p.tables e below (T2.setTop (mkF m 10 #[.val (.ref pr0)] [(.int w_coder_pr0)])) _
    refine XS.ifNo X2.here hx rfl (hb hby d6_10) rfl ((if0 _ _).trans (teq hc10_1).2) ?_
    show Steps p.tables e below (T2.setTop (mkF m 13 #[.val (.ref pr0)] [])) _
    refine XS.iconst X2.here hx rfl (hb hby d6_13) ?_
    show Steps p.tables e below (T2.setTop (mkF m 14 #[.val (.ref pr0)] [(.int (1 : Int32))])) _
    refine XS.goto X2.here hx rfl (pc0 := 14) (pc' := 18) rfl (hb hby d6_14) (by decide) (by decide) ?_
    show Steps p.tables e below (T2.setTop (mkF m 18 #[.val (.ref pr0)] [(.int (1 : Int32))])) _
    exact retN X2 hx (t := .boolean) Bd.returns (by simp) (hb hby d6_18) hr
  · show Q6 Z pr0 w_COMPACT_STRINGS w_coder_pr0 h0 n0 _ T2.heap _
    rw [e2]
    exact ⟨rfl, N0, rfl⟩
theorem d9_0 : decode jdk_41_method_11_code 0 = .ok (.iload_n 0, 1) := by decide +kernel
theorem d9_1 : decode jdk_41_method_11_code 1 = .ok (.ifCond .lt 8, 3) := by decide +kernel
theorem d9_4 : decode jdk_41_method_11_code 4 = .ok (.iload_n 0, 1) := by decide +kernel
theorem d9_5 : decode jdk_41_method_11_code 5 = .ok (.iload_n 1, 1) := by decide +kernel
theorem d9_6 : decode jdk_41_method_11_code 6 = .ok (.if_icmp .lt 10, 3) := by decide +kernel
theorem d9_16 : decode jdk_41_method_11_code 16 = .ok (.iload_n 0, 1) := by decide +kernel
theorem d9_17 : decode jdk_41_method_11_code 17 = .ok (.ireturn, 1) := by decide +kernel
theorem pn_9 : plainName "jdk/internal/util/Preconditions" = true := by first | (simp [plainName, overriddenIn]; done) | decide +kernel
theorem ef_9n3 (m : MethodId) (pi1 : Int32) (pi2 : Int32) : entryFrame m #[(.int pi1), (.int pi2), .null] 3 = mkF m 0 #[.val (.int pi1), .val (.int pi2), .val .null] [] := by first | (simp [entryFrame, mkF, argsToLocals, Value.category]; done) | rfl
def Q9_n (Z : State) (pi1 : Int32) (pi2 : Int32) (h0 : Heap) (n0 : Nat) (v : Option Value) (h : Heap) (L : List Loc) : Prop := v = some (.int pi1) ∧ Fr n0 L ∧ h = h0
set_option maxRecDepth 65536 in
set_option maxHeartbeats 40000000 in
theorem rm9_n (l : Launch) (Z : State) (a0 : Array Value) (hw : ∀ d ∈ tables_1, d.before a0 Z = true) (ws : List Jvm.Cond) (pi1 : Int32) (pi2 : Int32) (h0 : Heap) (n0 : Nat) (Z0 : n0 ≤ h0.size) (O0 : Old Z n0 h0) (hc1_0 : ¬ (pi1 < (0 : Int32))) (hc6_1 : pi1 < pi2) :
    MetFree l (⟨"jdk/internal/util/Preconditions", "checkIndex", "(IILjava/util/function/BiFunction;)I"⟩ : MethodName) (head1 (Jvm.Cond.code (⟨"jdk/internal/util/Preconditions", "checkIndex", "(IILjava/util/function/BiFunction;)I"⟩ : MethodName) jdk_41_method_11_code 3 (some .int) :: ws) ({ frames := 0, cells := 0, slots := 0, locals := 0 } : Room)) (fun a U => a = #[(.int pi1), (.int pi2), .null] ∧ Z.Warmed39 U.vm ∧ U.heap = h0) (fun _ _ _ _ _ => True) (fun _ U o U' => ∃ v L, o = .returned v ∧ Q9_n Z pi1 pi2 h0 n0 v U'.heap L ∧ FrameEnd U o U' L ({ frames := 0, cells := 0, slots := 0, locals := 0 } : Room).cells ({ frames := 0, cells := 0, slots := 0, locals := 0 } : Room).slots) := by
  refine MetFree.of_bodySF (plainFor_of_name pn_9) hisR ?_
  intro p e s m args below meth c s₁ Bd hml0 hP hK
  obtain ⟨rfl, hZ, hh⟩ := hP
  have hx := Bd.exec
  have hby := Bd.bytes
  have hml : c.maxLocals = 3 := hml0
  have hown : s.vm.findClass "jdk/internal/util/Preconditions" = some m.cls := findClass_of_methodNamed Bd.named
  have hnm := (name_of_methodNamed Bd.named Bd.method).1
  have X0 : Stand p l e ({ frames := 0, cells := 0, slots := 0, locals := 0 } : Room) s m #[(.int pi1), (.int pi2), .null] below meth c s₁ [] 0 0 := Stand.of_body Bd
  have e0 : s₁.heap = h0 := by rw [← hh, Bd.state]; rfl
  have N0 := Fr.nil n0
  have pre0 : ∀ t, Steps p.tables e below (s₁.setTop (mkF m 0 #[.val (.int pi1), .val (.int pi2), .val .null] [])) t → Steps p.tables e below (s₁.setTop (entryFrame m #[(.int pi1), (.int pi2), .null] 3)) t := fun t k => castTop (ef_9n3 m pi1 pi2) k
  obtain ⟨fs, hr, hrun, hended, hW, hsame⟩ := X0.leave (v := some (.int pi1)) (fun h => by rw [Bd.returns] at h; cases h)
  refine ⟨_, _, pre0 _ ?_, hrun, hended, _, _, rfl, ?_, ⟨_, rfl⟩, hW, hsame.mono (by decide) (by decide)⟩
  · show Steps p.tables e below (s₁.setTop (mkF m 0 #[.val (.int pi1), .val (.int pi2), .val .null] [])) _
    refine XS.iloadN X0.here hx rfl (hb hby d9_0) rfl ?_
    show Steps p.tables e below (s₁.setTop (mkF m 1 #[.val (.int pi1), .val (.int pi2), .val .null] [(.int pi1)])) _
    refine XS.ifNo X0.here hx rfl (hb hby d9_1) rfl ((if0 _ _).trans (flt hc1_0).1) ?_
    show Steps p.tables e below (s₁.setTop (mkF m 4 #[.val (.int pi1), .val (.int pi2), .val .null] [])) _
    refine XS.iloadN X0.here hx rfl (hb hby d9_4) rfl ?_
    show Steps p.tables e below (s₁.setTop (mkF m 5 #[.val (.int pi1), .val (.int pi2), .val .null] [(.int pi1)])) _
    refine XS.iloadN X0.here hx rfl (hb hby d9_5) rfl ?_
    show Steps p.tables e below (s₁.setTop (mkF m 6 #[.val (.int pi1), .val (.int pi2), .val .null] [(.int pi2), (.int pi1)])) _
    refine XS.icmpYes X0.here hx rfl (pc0 := 6) (pc' := 16) rfl (hb hby d9_6) rfl (tlt hc6_1).1 (by decide) (by decide) ?_
    show Steps p.tables e below (s₁.setTop (mkF m 16 #[.val (.int pi1), .val (.int pi2), .val .null] [])) _
    refine XS.iloadN X0.here hx rfl (hb hby d9_16) rfl ?_
    show Steps p.tables e below (s₁.setTop (mkF m 17 #[.val (.int pi1), .val (.int pi2), .val .null] [(.int pi1)])) _
    exact retI X0 hx Bd.returns (hb hby d9_17) hr
  · show Q9_n Z pi1 pi2 h0 n0 _ s₁.heap _
    rw [e0]
    exact ⟨rfl, N0, rfl⟩
theorem ef_9 (m : MethodId) (pi1 : Int32) (pi2 : Int32) (pr3 : Addr) : entryFrame m #[(.int pi1), (.int pi2), (.ref pr3)] 3 = mkF m 0 #[.val (.int pi1), .val (.int pi2), .val (.ref pr3)] [] := by first | (simp [entryFrame, mkF, argsToLocals, Value.category]; done) | rfl
def Q9_r (Z : State) (pi1 : Int32) (pi2 : Int32) (pr3 : Addr) (h0 : Heap) (n0 : Nat) (v : Option Value) (h : Heap) (L : List Loc) : Prop := v = some (.int pi1) ∧ Fr n0 L ∧ h = h0
set_option maxRecDepth 65536 in
set_option maxHeartbeats 40000000 in
theorem rm9_r (l : Launch) (Z : State) (a0 : Array Value) (hw : ∀ d ∈ tables_1, d.before a0 Z = true) (ws : List Jvm.Cond) (pi1 : Int32) (pi2 : Int32) (pr3 : Addr) (h0 : Heap) (n0 : Nat) (Z0 : n0 ≤ h0.size) (O0 : Old Z n0 h0) (hc1_0 : ¬ (pi1 < (0 : Int32))) (hc6_1 : pi1 < pi2) :
    MetFree l (⟨"jdk/internal/util/Preconditions", "checkIndex", "(IILjava/util/function/BiFunction;)I"⟩ : MethodName) (head1 (Jvm.Cond.code (⟨"jdk/internal/util/Preconditions", "checkIndex", "(IILjava/util/function/BiFunction;)I"⟩ : MethodName) jdk_41_method_11_code 3 (some .int) :: ws) ({ frames := 0, cells := 0, slots := 0, locals := 0 } : Room)) (fun a U => a = #[(.int pi1), (.int pi2), (.ref pr3)] ∧ Z.Warmed39 U.vm ∧ U.heap = h0) (fun _ _ _ _ _ => True) (fun _ U o U' => ∃ v L, o = .returned v ∧ Q9_r Z pi1 pi2 pr3 h0 n0 v U'.heap L ∧ FrameEnd U o U' L ({ frames := 0, cells := 0, slots := 0, locals := 0 } : Room).cells ({ frames := 0, cells := 0, slots := 0, locals := 0 } : Room).slots) := by
  refine MetFree.of_bodySF (plainFor_of_name pn_9) hisR ?_
  intro p e s m args below meth c s₁ Bd hml0 hP hK
  obtain ⟨rfl, hZ, hh⟩ := hP
  have hx := Bd.exec
  have hby := Bd.bytes
  have hml : c.maxLocals = 3 := hml0
  have hown : s.vm.findClass "jdk/internal/util/Preconditions" = some m.cls := findClass_of_methodNamed Bd.named
  have hnm := (name_of_methodNamed Bd.named Bd.method).1
  have X0 : Stand p l e ({ frames := 0, cells := 0, slots := 0, locals := 0 } : Room) s m #[(.int pi1), (.int pi2), (.ref pr3)] below meth c s₁ [] 0 0 := Stand.of_body Bd
  have e0 : s₁.heap = h0 := by rw [← hh, Bd.state]; rfl
  have N0 := Fr.nil n0
  have pre0 : ∀ t, Steps p.tables e below (s₁.setTop (mkF m 0 #[.val (.int pi1), .val (.int pi2), .val (.ref pr3)] [])) t → Steps p.tables e below (s₁.setTop (entryFrame m #[(.int pi1), (.int pi2), (.ref pr3)] 3)) t := fun t k => castTop (ef_9 m pi1 pi2 pr3) k
  obtain ⟨fs, hr, hrun, hended, hW, hsame⟩ := X0.leave (v := some (.int pi1)) (fun h => by rw [Bd.returns] at h; cases h)
  refine ⟨_, _, pre0 _ ?_, hrun, hended, _, _, rfl, ?_, ⟨_, rfl⟩, hW, hsame.mono (by decide) (by decide)⟩
  · show Steps p.tables e below (s₁.setTop (mkF m 0 #[.val (.int pi1), .val (.int pi2), .val (.ref pr3)] [])) _
    refine XS.iloadN X0.here hx rfl (hb hby d9_0) rfl ?_
    show Steps p.tables e below (s₁.setTop (mkF m 1 #[.val (.int pi1), .val (.int pi2), .val (.ref pr3)] [(.int pi1)])) _
    refine XS.ifNo X0.here hx rfl (hb hby d9_1) rfl ((if0 _ _).trans (flt hc1_0).1) ?_
    show Steps p.tables e below (s₁.setTop (mkF m 4 #[.val (.int pi1), .val (.int pi2), .val (.ref pr3)] [])) _
    refine XS.iloadN X0.here hx rfl (hb hby d9_4) rfl ?_
    show Steps p.tables e below (s₁.setTop (mkF m 5 #[.val (.int pi1), .val (.int pi2), .val (.ref pr3)] [(.int pi1)])) _
    refine XS.iloadN X0.here hx rfl (hb hby d9_5) rfl ?_
    show Steps p.tables e below (s₁.setTop (mkF m 6 #[.val (.int pi1), .val (.int pi2), .val (.ref pr3)] [(.int pi2), (.int pi1)])) _
    refine XS.icmpYes X0.here hx rfl (pc0 := 6) (pc' := 16) rfl (hb hby d9_6) rfl (tlt hc6_1).1 (by decide) (by decide) ?_
    show Steps p.tables e below (s₁.setTop (mkF m 16 #[.val (.int pi1), .val (.int pi2), .val (.ref pr3)] [])) _
    refine XS.iloadN X0.here hx rfl (hb hby d9_16) rfl ?_
    show Steps p.tables e below (s₁.setTop (mkF m 17 #[.val (.int pi1), .val (.int pi2), .val (.ref pr3)] [(.int pi1)])) _
    exact retI X0 hx Bd.returns (hb hby d9_17) hr
  · show Q9_r Z pi1 pi2 pr3 h0 n0 _ s₁.heap _
    rw [e0]
    exact ⟨rfl, N0, rfl⟩
theorem pd_8 : parseMethodDescriptor "(IILjava/util/function/BiFunction;)I" = some ⟨[.int, .int, (.object "java/util/function/BiFunction")], some .int⟩ := by decide +kernel
theorem d8_0 : decode jdk_42_method_155_code 0 = .ok (.iload_n 0, 1) := by decide +kernel
theorem d8_1 : decode jdk_42_method_155_code 1 = .ok (.iload_n 1, 1) := by decide +kernel
theorem d8_2 : decode jdk_42_method_155_code 2 = .ok (.getstatic 1053, 3) := by decide +kernel
theorem d8_5 : decode jdk_42_method_155_code 5 = .ok (.invokestatic 1059, 3) := by decide +kernel
theorem d8_8 : decode jdk_42_method_155_code 8 = .ok (.pop, 1) := by decide +kernel
theorem d8_9 : decode jdk_42_method_155_code 9 = .ok (.return_, 1) := by decide +kernel
theorem pn_8 : plainName "java/lang/String" = true := by first | (simp [plainName, overriddenIn]; done) | decide +kernel
theorem ef_8 (m : MethodId) (pi1 : Int32) (pi2 : Int32) : entryFrame m #[(.int pi1), (.int pi2)] 2 = mkF m 0 #[.val (.int pi1), .val (.int pi2)] [] := by first | (simp [entryFrame, mkF, argsToLocals, Value.category]; done) | rfl
def Q8_n (Z : State) (pi1 : Int32) (pi2 : Int32) (h0 : Heap) (n0 : Nat) (v : Option Value) (h : Heap) (L : List Loc) : Prop := v = none ∧ Fr n0 L ∧ h = h0
set_option maxRecDepth 65536 in
set_option maxHeartbeats 40000000 in
theorem rm8_n (l : Launch) (Z : State) (a0 : Array Value) (hw : ∀ d ∈ tables_1, d.before a0 Z = true) (ws : List Jvm.Cond) (pi1 : Int32) (pi2 : Int32) (h0 : Heap) (n0 : Nat) (Z0 : n0 ≤ h0.size) (O0 : Old Z n0 h0) (S_SIOOBE_FORMATTER : Sta Z Z.heap "jdk/internal/util/Preconditions" "SIOOBE_FORMATTER" "Ljava/util/function/BiFunction;" .null) (hq5_0 : ¬ (pi1 < (0 : Int32))) (hq5_1 : pi1 < pi2) :
    MetFree l (⟨"java/lang/String", "checkIndex", "(II)V"⟩ : MethodName) (head1 (Jvm.Cond.code (⟨"java/lang/String", "checkIndex", "(II)V"⟩ : MethodName) jdk_42_method_155_code 2 none :: ws) ({ frames := 1, cells := 0, slots := 0, locals := 14 } : Room)) (fun a U => a = #[(.int pi1), (.int pi2)] ∧ Z.Warmed39 U.vm ∧ U.heap = h0) (fun _ _ _ _ _ => True) (fun _ U o U' => ∃ v L, o = .returned v ∧ Q8_n Z pi1 pi2 h0 n0 v U'.heap L ∧ FrameEnd U o U' L ({ frames := 1, cells := 0, slots := 0, locals := 14 } : Room).cells ({ frames := 1, cells := 0, slots := 0, locals := 14 } : Room).slots) := by
  refine MetFree.of_bodySF (plainFor_of_name pn_8) hisR ?_
  intro p e s m args below meth c s₁ Bd hml0 hP hK
  obtain ⟨rfl, hZ, hh⟩ := hP
  have hx := Bd.exec
  have hby := Bd.bytes
  have hml : c.maxLocals = 2 := hml0
  have hown : s.vm.findClass "java/lang/String" = some m.cls := findClass_of_methodNamed Bd.named
  have hnm := (name_of_methodNamed Bd.named Bd.method).1
  have X0 : Stand p l e ({ frames := 1, cells := 0, slots := 0, locals := 14 } : Room) s m #[(.int pi1), (.int pi2)] below meth c s₁ [] 0 0 := Stand.of_body Bd
  have e0 : s₁.heap = h0 := by rw [← hh, Bd.state]; rfl
  have N0 := Fr.nil n0
  have pre0 : ∀ t, Steps p.tables e below (s₁.setTop (mkF m 0 #[.val (.int pi1), .val (.int pi2)] [])) t → Steps p.tables e below (s₁.setTop (entryFrame m #[(.int pi1), (.int pi2)] 2)) t := fun t k => castTop (ef_8 m pi1 pi2) k
  obtain ⟨T1, X1, e1, st1⟩ := getS2 X0 hx hZ hown (host := "") (Or.inl (hw _ (List.mem_of_getElem? (i := 48) rfl))) Via.refl e0 (S_SIOOBE_FORMATTER.ext O0.2) (g := (mkF m 2 #[.val (.int pi1), .val (.int pi2)] [(.int pi2), (.int pi1)])) rfl (hb hby d8_2)
  obtain ⟨_, _, ⟨T2, L2, k2, n2⟩, -, X2, ⟨Lc2, hQ2, l2, y2, z2⟩, st2⟩ := Jvm.LawKit.callS X1 hx (y := (⟨"jdk/internal/util/Preconditions", "checkIndex", "(IILjava/util/function/BiFunction;)I"⟩ : MethodName)) hown (mvT hZ (hw _ (List.mem_of_getElem? (i := 50) rfl))) (mvT hZ (hw _ (List.mem_of_getElem? (i := 51) rfl))) (mvT hZ (hw _ (List.mem_of_getElem? (i := 49) rfl))) (mvT hZ (hw _ (List.mem_of_getElem? (i := 52) rfl))) (by decide) (backOf (W := 0) (rm9_n l Z a0 hw [] pi1 pi2 h0 n0 Z0 O0 hq5_0 hq5_1) hZ (hw _ (List.mem_of_getElem? (i := 52) rfl)) (hw _ (List.mem_of_getElem? (i := 49) rfl)) (by decide) (by decide)) (g := (mkF m 5 #[.val (.int pi1), .val (.int pi2)] [.null, (.int pi2), (.int pi1)])) rfl (by rw [hml]; rfl) (argsL := [(.int pi1), (.int pi2), .null]) (rest := []) (lenOf pd_8 rfl) rfl (by show 2 * 0 + _ ≤ _; exact Nat.le_of_eq rfl) (hb hby d8_5) (fun _ _ => ⟨rfl, e1, (by decide : 0 + 0 ≤ _), (by decide : 0 + 0 ≤ _)⟩)
  dsimp only [Pt.U, Pt.locs, Pt.cells, Pt.slots] at X2 l2 y2 z2 st2 hQ2
  subst l2 y2 z2
  obtain ⟨rfl, N2q, eq2⟩ := hQ2
  have N2 := Fr.app N0 N2q
  obtain ⟨fs, hr, hrun, hended, hW, hsame⟩ := X2.leave (v := none) (fun _ => rfl)
  refine ⟨_, _, pre0 _ ?_, hrun, hended, _, _, rfl, ?_, ⟨_, rfl⟩, hW, hsame.mono (by decide) (by decide)⟩
  · show Steps p.tables e below (s₁.setTop (mkF m 0 #[.val (.int pi1), .val (.int pi2)] [])) _
    refine XS.iloadN X0.here hx rfl (hb hby d8_0) rfl ?_
    show Steps p.tables e below (s₁.setTop (mkF m 1 #[.val (.int pi1), .val (.int pi2)] [(.int pi1)])) _
    refine XS.iloadN X0.here hx rfl (hb hby d8_1) rfl ?_
    show Steps p.tables e below (s₁.setTop (mkF m 2 #[.val (.int pi1), .val (.int pi2)] [(.int pi2), (.int pi1)])) _
    refine st1 _ ?_
    show Steps p.tables e below (T1.setTop (mkF m 5 #[.val (.int pi1), .val (.int pi2)] [.null, (.int pi2), (.int pi1)])) _
    refine st2 _ ?_
    show Steps p.tables e below (T2.setTop (mkF m 8 #[.val (.int pi1), .val (.int pi2)] [(.int pi1)])) _
    refine XS.pop X2.here hx rfl (hb hby d8_8) rfl rfl ?_
    show Steps p.tables e below (T2.setTop (mkF m 9 #[.val (.int pi1), .val (.int pi2)] [])) _
    exact X2.returnOut hx Bd.returns (hb hby d8_9) hr
  · show Q8_n Z pi1 pi2 h0 n0 _ T2.heap _
    rw [eq2]
    exact ⟨rfl, N2, rfl⟩
def Q8_r (Z : State) (pi1 : Int32) (pi2 : Int32) (w_SIOOBE_FORMATTER : Addr) (h0 : Heap) (n0 : Nat) (v : Option Value) (h : Heap) (L : List Loc) : Prop := v = none ∧ Fr n0 L ∧ h = h0
set_option maxRecDepth 65536 in
set_option maxHeartbeats 40000000 in
theorem rm8_r (l : Launch) (Z : State) (a0 : Array Value) (hw : ∀ d ∈ tables_1, d.before a0 Z = true) (ws : List Jvm.Cond) (pi1 : Int32) (pi2 : Int32) (w_SIOOBE_FORMATTER : Addr) (h0 : Heap) (n0 : Nat) (Z0 : n0 ≤ h0.size) (O0 : Old Z n0 h0) (S_SIOOBE_FORMATTER : Sta Z Z.heap "jdk/internal/util/Preconditions" "SIOOBE_FORMATTER" "Ljava/util/function/BiFunction;" (.ref w_SIOOBE_FORMATTER)) (hq5_0 : ¬ (pi1 < (0 : Int32))) (hq5_1 : pi1 < pi2) :
    MetFree l (⟨"java/lang/String", "checkIndex", "(II)V"⟩ : MethodName) (head1 (Jvm.Cond.code (⟨"java/lang/String", "checkIndex", "(II)V"⟩ : MethodName) jdk_42_method_155_code 2 none :: ws) ({ frames := 1, cells := 0, slots := 0, locals := 14 } : Room)) (fun a U => a = #[(.int pi1), (.int pi2)] ∧ Z.Warmed39 U.vm ∧ U.heap = h0) (fun _ _ _ _ _ => True) (fun _ U o U' => ∃ v L, o = .returned v ∧ Q8_r Z pi1 pi2 w_SIOOBE_FORMATTER h0 n0 v U'.heap L ∧ FrameEnd U o U' L ({ frames := 1, cells := 0, slots := 0, locals := 14 } : Room).cells ({ frames := 1, cells := 0, slots := 0, locals := 14 } : Room).slots) := by
  refine MetFree.of_bodySF (plainFor_of_name pn_8) hisR ?_
  intro p e s m args below meth c s₁ Bd hml0 hP hK
  obtain ⟨rfl, hZ, hh⟩ := hP
  have hx := Bd.exec
  have hby := Bd.bytes
  have hml : c.maxLocals = 2 := hml0
  have hown : s.vm.findClass "java/lang/String" = some m.cls := findClass_of_methodNamed Bd.named
  have hnm := (name_of_methodNamed Bd.named Bd.method).1
  have X0 : Stand p l e ({ frames := 1, cells := 0, slots := 0, locals := 14 } : Room) s m #[(.int pi1), (.int pi2)] below meth c s₁ [] 0 0 := Stand.of_body Bd
  have e0 : s₁.heap = h0 := by rw [← hh, Bd.state]; rfl
  have N0 := Fr.nil n0
  have pre0 : ∀ t, Steps p.tables e below (s₁.setTop (mkF m 0 #[.val (.int pi1), .val (.int pi2)] [])) t → Steps p.tables e below (s₁.setTop (entryFrame m #[(.int pi1), (.int pi2)] 2)) t := fun t k => castTop (ef_8 m pi1 pi2) k
  obtain ⟨T1, X1, e1, st1⟩ := getS2 X0 hx hZ hown (host := "") (Or.inl (hw _ (List.mem_of_getElem? (i := 48) rfl))) Via.refl e0 (S_SIOOBE_FORMATTER.ext O0.2) (g := (mkF m 2 #[.val (.int pi1), .val (.int pi2)] [(.int pi2), (.int pi1)])) rfl (hb hby d8_2)
  obtain ⟨_, _, ⟨T2, L2, k2, n2⟩, -, X2, ⟨Lc2, hQ2, l2, y2, z2⟩, st2⟩ := Jvm.LawKit.callS X1 hx (y := (⟨"jdk/internal/util/Preconditions", "checkIndex", "(IILjava/util/function/BiFunction;)I"⟩ : MethodName)) hown (mvT hZ (hw _ (List.mem_of_getElem? (i := 50) rfl))) (mvT hZ (hw _ (List.mem_of_getElem? (i := 51) rfl))) (mvT hZ (hw _ (List.mem_of_getElem? (i := 49) rfl))) (mvT hZ (hw _ (List.mem_of_getElem? (i := 52) rfl))) (by decide) (backOf (W := 0) (rm9_r l Z a0 hw [] pi1 pi2 w_SIOOBE_FORMATTER h0 n0 Z0 O0 hq5_0 hq5_1) hZ (hw _ (List.mem_of_getElem? (i := 52) rfl)) (hw _ (List.mem_of_getElem? (i := 49) rfl)) (by decide) (by decide)) (g := (mkF m 5 #[.val (.int pi1), .val (.int pi2)] [(.ref w_SIOOBE_FORMATTER), (.int pi2), (.int pi1)])) rfl (by rw [hml]; rfl) (argsL := [(.int pi1), (.int pi2), (.ref w_SIOOBE_FORMATTER)]) (rest := []) (lenOf pd_8 rfl) rfl (by show 2 * 0 + _ ≤ _; exact Nat.le_of_eq rfl) (hb hby d8_5) (fun _ _ => ⟨rfl, e1, (by decide : 0 + 0 ≤ _), (by decide : 0 + 0 ≤ _)⟩)
  dsimp only [Pt.U, Pt.locs, Pt.cells, Pt.slots] at X2 l2 y2 z2 st2 hQ2
  subst l2 y2 z2
  obtain ⟨rfl, N2q, eq2⟩ := hQ2
  have N2 := Fr.app N0 N2q
  obtain ⟨fs, hr, hrun, hended, hW, hsame⟩ := X2.leave (v := none) (fun _ => rfl)
  refine ⟨_, _, pre0 _ ?_, hrun, hended, _, _, rfl, ?_, ⟨_, rfl⟩, hW, hsame.mono (by decide) (by decide)⟩
  · show Steps p.tables e below (s₁.setTop (mkF m 0 #[.val (.int pi1), .val (.int pi2)] [])) _
    refine XS.iloadN X0.here hx rfl (hb hby d8_0) rfl ?_
    show Steps p.tables e below (s₁.setTop (mkF m 1 #[.val (.int pi1), .val (.int pi2)] [(.int pi1)])) _
    refine XS.iloadN X0.here hx rfl (hb hby d8_1) rfl ?_
    show Steps p.tables e below (s₁.setTop (mkF m 2 #[.val (.int pi1), .val (.int pi2)] [(.int pi2), (.int pi1)])) _
    refine st1 _ ?_
    show Steps p.tables e below (T1.setTop (mkF m 5 #[.val (.int pi1), .val (.int pi2)] [(.ref w_SIOOBE_FORMATTER), (.int pi2), (.int pi1)])) _
    refine st2 _ ?_
    show Steps p.tables e below (T2.setTop (mkF m 8 #[.val (.int pi1), .val (.int pi2)] [(.int pi1)])) _
    refine XS.pop X2.here hx rfl (hb hby d8_8) rfl rfl ?_
    show Steps p.tables e below (T2.setTop (mkF m 9 #[.val (.int pi1), .val (.int pi2)] [])) _
    exact X2.returnOut hx Bd.returns (hb hby d8_9) hr
  · show Q8_r Z pi1 pi2 w_SIOOBE_FORMATTER h0 n0 _ T2.heap _
    rw [eq2]
    exact ⟨rfl, N2, rfl⟩
def Q8 (Z : State) (pi1 : Int32) (pi2 : Int32) (w_SIOOBE_FORMATTER : Value) (h0 : Heap) (n0 : Nat) (v : Option Value) (h : Heap) (L : List Loc) : Prop := v = none ∧ Fr n0 L ∧ h = h0
theorem rm8 (l : Launch) (Z : State) (a0 : Array Value) (hw : ∀ d ∈ tables_1, d.before a0 Z = true) (ws : List Jvm.Cond) (pi1 : Int32) (pi2 : Int32) (w_SIOOBE_FORMATTER : Value) (h0 : Heap) (n0 : Nat) (Z0 : n0 ≤ h0.size) (O0 : Old Z n0 h0) (S_SIOOBE_FORMATTER : Sta Z Z.heap "jdk/internal/util/Preconditions" "SIOOBE_FORMATTER" "Ljava/util/function/BiFunction;" w_SIOOBE_FORMATTER) (hr_SIOOBE : w_SIOOBE_FORMATTER.isRef = true) (hq5_0 : ¬ (pi1 < (0 : Int32))) (hq5_1 : pi1 < pi2) :
    MetFree l (⟨"java/lang/String", "checkIndex", "(II)V"⟩ : MethodName) (head1 (Jvm.Cond.code (⟨"java/lang/String", "checkIndex", "(II)V"⟩ : MethodName) jdk_42_method_155_code 2 none :: ws) ({ frames := 1, cells := 0, slots := 0, locals := 14 } : Room)) (fun a U => a = #[(.int pi1), (.int pi2)] ∧ Z.Warmed39 U.vm ∧ U.heap = h0) (fun _ _ _ _ _ => True) (fun _ U o U' => ∃ v L, o = .returned v ∧ Q8 Z pi1 pi2 w_SIOOBE_FORMATTER h0 n0 v U'.heap L ∧ FrameEnd U o U' L ({ frames := 1, cells := 0, slots := 0, locals := 14 } : Room).cells ({ frames := 1, cells := 0, slots := 0, locals := 14 } : Room).slots) := by
  rcases ref_cases hr_SIOOBE with rfl | ⟨a, rfl⟩
  · exact rm8_n l Z a0 hw ws pi1 pi2 h0 n0 Z0 O0 S_SIOOBE_FORMATTER hq5_0 hq5_1
  · exact rm8_r l Z a0 hw ws pi1 pi2 a h0 n0 Z0 O0 S_SIOOBE_FORMATTER hq5_0 hq5_1
theorem pd_7 : parseMethodDescriptor "(II)V" = some ⟨[.int, .int], none⟩ := by decide +kernel
theorem d7_0 : decode jdk_43_method_2_code 0 = .ok (.iload_n 1, 1) := by decide +kernel
theorem d7_1 : decode jdk_43_method_2_code 1 = .ok (.aload_n 0, 1) := by decide +kernel
theorem d7_2 : decode jdk_43_method_2_code 2 = .ok (.arraylength, 1) := by decide +kernel
theorem d7_3 : decode jdk_43_method_2_code 3 = .ok (.invokestatic 9, 3) := by decide +kernel
theorem d7_6 : decode jdk_43_method_2_code 6 = .ok (.aload_n 0, 1) := by decide +kernel
theorem d7_7 : decode jdk_43_method_2_code 7 = .ok (.iload_n 1, 1) := by decide +kernel
theorem d7_8 : decode jdk_43_method_2_code 8 = .ok (.baload, 1) := by decide +kernel
theorem d7_9 : decode jdk_43_method_2_code 9 = .ok (.sipush 255, 3) := by decide +kernel
theorem d7_12 : decode jdk_43_method_2_code 12 = .ok (.iand, 1) := by decide +kernel
theorem d7_13 : decode jdk_43_method_2_code 13 = .ok (.i2c, 1) := by decide +kernel
theorem d7_14 : decode jdk_43_method_2_code 14 = .ok (.ireturn, 1) := by decide +kernel
theorem pn_7 : plainName "java/lang/StringLatin1" = true := by first | (simp [plainName, overriddenIn]; done) | decide +kernel
theorem ef_7__1_0 (m : MethodId) (pr1 : Addr) : entryFrame m #[(.ref pr1), (.int (0 : Int32))] 2 = mkF m 0 #[.val (.ref pr1), .val (.int (0 : Int32))] [] := by first | (simp [entryFrame, mkF, argsToLocals, Value.category]; done) | rfl
def Q7_1_0 (Z : State) (pr1 : Addr) (kk_pr1 : ClassId) (c0_pr1 : Int32) (w_SIOOBE_FORMATTER : Value) (h0 : Heap) (n0 : Nat) (v : Option Value) (h : Heap) (L : List Loc) : Prop := v = some (.int (nar .char ((c0_pr1 &&& (255 : Int32)).toUInt32.toUInt16.toUInt32.toInt32))) ∧ Fr n0 L ∧ h = h0
set_option maxRecDepth 65536 in
set_option maxHeartbeats 40000000 in
theorem rm7_1_0 (l : Launch) (Z : State) (a0 : Array Value) (hw : ∀ d ∈ tables_1, d.before a0 Z = true) (ws : List Jvm.Cond) (pr1 : Addr) (kk_pr1 : ClassId) (c0_pr1 : Int32) (w_SIOOBE_FORMATTER : Value) (h0 : Heap) (n0 : Nat) (Z0 : n0 ≤ h0.size) (O0 : Old Z n0 h0) (V_pr1 : Arv Z h0 pr1 kk_pr1 .byte (1 : Int32) [(.int c0_pr1)] (.int (0 : Int32))) (S_SIOOBE_FORMATTER : Sta Z Z.heap "jdk/internal/util/Preconditions" "SIOOBE_FORMATTER" "Ljava/util/function/BiFunction;" w_SIOOBE_FORMATTER) (hr_SIOOBE : w_SIOOBE_FORMATTER.isRef = true) :
    MetFree l (⟨"java/lang/StringLatin1", "charAt", "([BI)C"⟩ : MethodName) (head1 (Jvm.Cond.code (⟨"java/lang/StringLatin1", "charAt", "([BI)C"⟩ : MethodName) jdk_43_method_2_code 2 (some .char) :: ws) ({ frames := 2, cells := 0, slots := 0, locals := 27 } : Room)) (fun a U => a = #[(.ref pr1), (.int (0 : Int32))] ∧ Z.Warmed39 U.vm ∧ U.heap = h0) (fun _ _ _ _ _ => True) (fun _ U o U' => ∃ v L, o = .returned v ∧ Q7_1_0 Z pr1 kk_pr1 c0_pr1 w_SIOOBE_FORMATTER h0 n0 v U'.heap L ∧ FrameEnd U o U' L ({ frames := 2, cells := 0, slots := 0, locals := 27 } : Room).cells ({ frames := 2, cells := 0, slots := 0, locals := 27 } : Room).slots) := by
  refine MetFree.of_bodySF (plainFor_of_name pn_7) hisR ?_
  intro p e s m args below meth c s₁ Bd hml0 hP hK
  obtain ⟨rfl, hZ, hh⟩ := hP
  have hx := Bd.exec
  have hby := Bd.bytes
  have hml : c.maxLocals = 2 := hml0
  have hown : s.vm.findClass "java/lang/StringLatin1" = some m.cls := findClass_of_methodNamed Bd.named
  have hnm := (name_of_methodNamed Bd.named Bd.method).1
  have X0 : Stand p l e ({ frames := 2, cells := 0, slots := 0, locals := 27 } : Room) s m #[(.ref pr1), (.int (0 : Int32))] below meth c s₁ [] 0 0 := Stand.of_body Bd
  have e0 : s₁.heap = h0 := by rw [← hh, Bd.state]; rfl
  have N0 := Fr.nil n0
  have pre0 : ∀ t, Steps p.tables e below (s₁.setTop (mkF m 0 #[.val (.ref pr1), .val (.int (0 : Int32))] [])) t → Steps p.tables e below (s₁.setTop (entryFrame m #[(.ref pr1), (.int (0 : Int32))] 2)) t := fun t k => castTop (ef_7__1_0 m pr1) k
  have V_c1 := V_pr1
  obtain ⟨c1, Arc1, qc1, Sc1, Nc1, Hc1, Gc1⟩ := V_c1
  obtain ⟨_, _, ⟨T2, L2, k2, n2⟩, -, X2, ⟨Lc2, hQ2, l2, y2, z2⟩, st2⟩ := Jvm.LawKit.callS X0 hx (y := (⟨"java/lang/String", "checkIndex", "(II)V"⟩ : MethodName)) hown (mvT hZ (hw _ (List.mem_of_getElem? (i := 45) rfl))) (mvT hZ (hw _ (List.mem_of_getElem? (i := 46) rfl))) (mvT hZ (hw _ (List.mem_of_getElem? (i := 19) rfl))) (mvT hZ (hw _ (List.mem_of_getElem? (i := 47) rfl))) (by decide) (backOf (W := 0) (rm8 l Z a0 hw [] (0 : Int32) (1 : Int32) w_SIOOBE_FORMATTER h0 n0 Z0 O0 S_SIOOBE_FORMATTER hr_SIOOBE (by decide) (by decide)) hZ (hw _ (List.mem_of_getElem? (i := 47) rfl)) (hw _ (List.mem_of_getElem? (i := 19) rfl)) (by decide) (by decide)) (g := (mkF m 3 #[.val (.ref pr1), .val (.int (0 : Int32))] [(.int (1 : Int32)), (.int (0 : Int32))])) rfl (by rw [hml]; rfl) (argsL := [(.int (0 : Int32)), (.int (1 : Int32))]) (rest := []) (lenOf pd_7 rfl) rfl (by show 2 * 0 + _ ≤ _; exact Nat.le_of_eq rfl) (hb hby d7_3) (fun _ _ => ⟨rfl, e0, (by decide : 0 + 0 ≤ _), (by decide : 0 + 0 ≤ _)⟩)
  dsimp only [Pt.U, Pt.locs, Pt.cells, Pt.slots] at X2 l2 y2 z2 st2 hQ2
  subst l2 y2 z2
  obtain ⟨rfl, N2q, eq2⟩ := hQ2
  have N2 := Fr.app N0 N2q
  have V_c3 := V_pr1
  obtain ⟨c3, Arc3, qc3, Sc3, Nc3, Hc3, Gc3⟩ := V_c3
  have hin4 : ¬ ((0 : Int32) < 0 ∨ c3.slots.size ≤ ((0 : Int32)).toNatClampNeg) := inb_of Sc3 ⟨by decide, by decide⟩
  obtain ⟨fs, hr, hrun, hended, hW, hsame⟩ := X2.leave (v := some (.int (nar .char ((c0_pr1 &&& (255 : Int32)).toUInt32.toUInt16.toUInt32.toInt32)))) (fun h => by rw [Bd.returns] at h; cases h)
  refine ⟨_, _, pre0 _ ?_, hrun, hended, _, _, rfl, ?_, ⟨_, rfl⟩, hW, hsame.mono (by decide) (by decide)⟩
  · show Steps p.tables e below (s₁.setTop (mkF m 0 #[.val (.ref pr1), .val (.int (0 : Int32))] [])) _
    refine XS.iloadN X0.here hx rfl (hb hby d7_0) rfl ?_
    show Steps p.tables e below (s₁.setTop (mkF m 1 #[.val (.ref pr1), .val (.int (0 : Int32))] [(.int (0 : Int32))])) _
    refine XS.aloadN X0.here hx rfl (hb hby d7_1) rfl rfl ?_
    show Steps p.tables e below (s₁.setTop (mkF m 2 #[.val (.ref pr1), .val (.int (0 : Int32))] [(.ref pr1), (.int (0 : Int32))])) _
    refine X0.arraylength hx (by rw [e0]; exact Arc1.1) (State.isArrayOf_alike hZ.alike Arc1.2.1) (g := (mkF m 2 #[.val (.ref pr1), .val (.int (0 : Int32))] [(.ref pr1), (.int (0 : Int32))])) rfl rfl (hb hby d7_2) _ ?_
    rw [len_of Sc1 Nc1]
    show Steps p.tables e below (s₁.setTop (mkF m 3 #[.val (.ref pr1), .val (.int (0 : Int32))] [(.int (1 : Int32)), (.int (0 : Int32))])) _
    refine st2 _ ?_
    show Steps p.tables e below (T2.setTop (mkF m 6 #[.val (.ref pr1), .val (.int (0 : Int32))] [])) _
    refine XS.aloadN X2.here hx rfl (hb hby d7_6) rfl rfl ?_
    show Steps p.tables e below (T2.setTop (mkF m 7 #[.val (.ref pr1), .val (.int (0 : Int32))] [(.ref pr1)])) _
    refine XS.iloadN X2.here hx rfl (hb hby d7_7) rfl ?_
    show Steps p.tables e below (T2.setTop (mkF m 8 #[.val (.ref pr1), .val (.int (0 : Int32))] [(.int (0 : Int32)), (.ref pr1)])) _
    refine X2.baloadBytes hx (j := (0 : Int32)) (v := (.int c0_pr1)) (by rw [eq2]; exact Arc3.1) (State.isArrayOf_alike hZ.alike Arc3.2.1) Arc3.2.2 hin4 (Has.at Hc3 hin4 rfl) (g := (mkF m 8 #[.val (.ref pr1), .val (.int (0 : Int32))] [(.int (0 : Int32)), (.ref pr1)])) rfl rfl (hb hby d7_8) _ ?_
    show Steps p.tables e below (T2.setTop (mkF m 9 #[.val (.ref pr1), .val (.int (0 : Int32))] [(.int c0_pr1)])) _
    refine XS.sipush X2.here hx rfl (hb hby d7_9) ?_
    show Steps p.tables e below (T2.setTop (mkF m 12 #[.val (.ref pr1), .val (.int (0 : Int32))] [(.int (255 : Int32)), (.int c0_pr1)])) _
    refine XS.iand X2.here hx rfl (hb hby d7_12) rfl ?_
    show Steps p.tables e below (T2.setTop (mkF m 13 #[.val (.ref pr1), .val (.int (0 : Int32))] [(.int (c0_pr1 &&& (255 : Int32)))])) _
    refine XS.i2c X2.here hx rfl (hb hby d7_13) rfl ?_
    show Steps p.tables e below (T2.setTop (mkF m 14 #[.val (.ref pr1), .val (.int (0 : Int32))] [(.int ((c0_pr1 &&& (255 : Int32)).toUInt32.toUInt16.toUInt32.toInt32))])) _
    exact retN X2 hx (t := .char) Bd.returns (by simp) (hb hby d7_14) hr
  · show Q7_1_0 Z pr1 kk_pr1 c0_pr1 w_SIOOBE_FORMATTER h0 n0 _ T2.heap _
    rw [eq2]
    exact ⟨rfl, N2, rfl⟩
theorem pd_5 : parseMethodDescriptor "()Z" = some ⟨[], some .boolean⟩ := by decide +kernel
theorem pd_6 : parseMethodDescriptor "([BI)C" = some ⟨[(.array .byte), .int], some .char⟩ := by decide +kernel
theorem d5_0 : decode jdk_42_method_56_code 0 = .ok (.aload_n 0, 1) := by decide +kernel
theorem d5_1 : decode jdk_42_method_56_code 1 = .ok (.invokevirtual 492, 3) := by decide +kernel
theorem d5_4 : decode jdk_42_method_56_code 4 = .ok (.ifCond .eq 12, 3) := by decide +kernel
theorem d5_7 : decode jdk_42_method_56_code 7 = .ok (.aload_n 0, 1) := by decide +kernel
theorem d5_8 : decode jdk_42_method_56_code 8 = .ok (.getfield 9, 3) := by decide +kernel
theorem d5_11 : decode jdk_42_method_56_code 11 = .ok (.iload_n 1, 1) := by decide +kernel
theorem d5_12 : decode jdk_42_method_56_code 12 = .ok (.invokestatic 495, 3) := by decide +kernel
theorem d5_15 : decode jdk_42_method_56_code 15 = .ok (.ireturn, 1) := by decide +kernel
theorem pn_5 : plainName "java/lang/String" = true := by first | (simp [plainName, overriddenIn]; done) | decide +kernel
theorem ef_5__1_0 (m : MethodId) (pr0 : Addr) : entryFrame m #[(.ref pr0), (.int (0 : Int32))] 2 = mkF m 0 #[.val (.ref pr0), .val (.int (0 : Int32))] [] := by first | (simp [entryFrame, mkF, argsToLocals, Value.category]; done) | rfl
def Q5_1_0 (Z : State) (pr0 : Addr) (w_value_pr0 : Addr) (kk_w_value_pr0 : ClassId) (c0_w_value_pr0 : Int32) (w_COMPACT_STRINGS : Int32) (w_coder_pr0 : Int32) (w_SIOOBE_FORMATTER : Value) (h0 : Heap) (n0 : Nat) (v : Option Value) (h : Heap) (L : List Loc) : Prop := v = some (.int (nar .char (nar .char ((c0_w_value_pr0 &&& (255 : Int32)).toUInt32.toUInt16.toUInt32.toInt32)))) ∧ Fr n0 L ∧ h = h0
set_option maxRecDepth 65536 in
set_option maxHeartbeats 40000000 in
theorem rm5_1_0 (l : Launch) (Z : State) (a0 : Array Value) (hw : ∀ d ∈ tables_1, d.before a0 Z = true) (ws : List Jvm.Cond) (pr0 : Addr) (w_value_pr0 : Addr) (kk_w_value_pr0 : ClassId) (c0_w_value_pr0 : Int32) (w_COMPACT_STRINGS : Int32) (w_coder_pr0 : Int32) (w_SIOOBE_FORMATTER : Value) (h0 : Heap) (n0 : Nat) (Z0 : n0 ≤ h0.size) (O0 : Old Z n0 h0) (F_value_pr0 : Fld Z h0 pr0 "java/lang/String" "value" "[B" (.ref w_value_pr0)) (V_w_value_pr0 : Arv Z h0 w_value_pr0 kk_w_value_pr0 .byte (1 : Int32) [(.int c0_w_value_pr0)] (.int (0 : Int32))) (S_COMPACT_STRINGS : Sta Z Z.heap "java/lang/String" "COMPACT_STRINGS" "Z" (.int w_COMPACT_STRINGS)) (F_coder_pr0 : Fld Z h0 pr0 "java/lang/String" "coder" "B" (.int w_coder_pr0)) (E_pr0 : Exa Z h0 pr0 "java/lang/String") (S_SIOOBE_FORMATTER : Sta Z Z.heap "jdk/internal/util/Preconditions" "SIOOBE_FORMATTER" "Ljava/util/function/BiFunction;" w_SIOOBE_FORMATTER) (hr_SIOOBE : w_SIOOBE_FORMATTER.isRef = true) (hq1_0 : ¬ (w_COMPACT_STRINGS = (0 : Int32))) (hq1_1 : w_coder_pr0 = (0 : Int32)) :
    MetFree l (⟨"java/lang/String", "charAt", "(I)C"⟩ : MethodName) (head1 (Jvm.Cond.code (⟨"java/lang/String", "charAt", "(I)C"⟩ : MethodName) jdk_42_method_56_code 2 (some .char) :: ws) ({ frames := 3, cells := 0, slots := 0, locals := 40 } : Room)) (fun a U => a = #[(.ref pr0), (.int (0 : Int32))] ∧ Z.Warmed39 U.vm ∧ U.heap = h0) (fun _ _ _ _ _ => True) (fun _ U o U' => ∃ v L, o = .returned v ∧ Q5_1_0 Z pr0 w_value_pr0 kk_w_value_pr0 c0_w_value_pr0 w_COMPACT_STRINGS w_coder_pr0 w_SIOOBE_FORMATTER h0 n0 v U'.heap L ∧ FrameEnd U o U' L ({ frames := 3, cells := 0, slots := 0, locals := 40 } : Room).cells ({ frames := 3, cells := 0, slots := 0, locals := 40 } : Room).slots) := by
  refine MetFree.of_bodySF (plainFor_of_name pn_5) hisR ?_
  intro p e s m args below meth c s₁ Bd hml0 hP hK
  obtain ⟨rfl, hZ, hh⟩ := hP
  have hx := Bd.exec
  have hby := Bd.bytes
  have hml : c.maxLocals = 2 := hml0
  have hown : s.vm.findClass "java/lang/String" = some m.cls := findClass_of_methodNamed Bd.named
  have hnm := (name_of_methodNamed Bd.named Bd.method).1
  have X0 : Stand p l e ({ frames := 3, cells := 0, slots := 0, locals := 40 } : Room) s m #[(.ref pr0), (.int (0 : Int32))] below meth c s₁ [] 0 0 := Stand.of_body Bd
  have e0 : s₁.heap = h0 := by rw [← hh, Bd.state]; rfl
  have N0 := Fr.nil n0
  have pre0 : ∀ t, Steps p.tables e below (s₁.setTop (mkF m 0 #[.val (.ref pr0), .val (.int (0 : Int32))] [])) t → Steps p.tables e below (s₁.setTop (entryFrame m #[(.ref pr0), (.int (0 : Int32))] 2)) t := fun t k => castTop (ef_5__1_0 m pr0) k
  obtain ⟨cq1, kq1, q1a, q1b, q1c⟩ := isOf hZ e0 E_pr0
  obtain ⟨_, _, ⟨T1, L1, k1, n1⟩, -, X1, ⟨Lc1, hQ1, l1, y1, z1⟩, st1⟩ := X0.virtualBack hx (y := (⟨"java/lang/String", "isLatin1", "()Z"⟩ : MethodName)) (z := (⟨"java/lang/String", "isLatin1", "()Z"⟩ : MethodName)) hown (mvT hZ (hw _ (List.mem_of_getElem? (i := 36) rfl))) (mvT hZ (hw _ (List.mem_of_getElem? (i := 37) rfl))) (notFace_of_selects (args := #[]) (mvT hZ (hw _ (List.mem_of_getElem? (i := 39) rfl)))) (mvT hZ (hw _ (List.mem_of_getElem? (i := 39) rfl))) (mvT hZ (hw _ (List.mem_of_getElem? (i := 38) rfl))) (by decide) (backOf (W := 0) (rm6 l Z a0 hw [] pr0 w_COMPACT_STRINGS w_coder_pr0 h0 n0 Z0 O0 S_COMPACT_STRINGS F_coder_pr0 hq1_0 hq1_1) hZ (hw _ (List.mem_of_getElem? (i := 40) rfl)) (hw _ (List.mem_of_getElem? (i := 19) rfl)) (by decide) (by decide)) q1a q1c (g := (mkF m 1 #[.val (.ref pr0), .val (.int (0 : Int32))] [(.ref pr0)])) rfl (by rw [hml]; rfl) (Steps.refl _) (argsL := []) (rest := []) (lenOf pd_5 rfl) rfl (by show 2 * 0 + _ ≤ _; exact Nat.le_of_eq rfl) (hb hby d5_1) (fun _ _ => ⟨rfl, e0, (by decide : 0 + 0 ≤ _), (by decide : 0 + 0 ≤ _)⟩)
  dsimp only [Pt.U, Pt.locs, Pt.cells, Pt.slots] at X1 l1 y1 z1 st1 hQ1
  subst l1 y1 z1
  obtain ⟨rfl, N1q, eq1⟩ := hQ1
  have N1 := Fr.app N0 N1q
  obtain ⟨T2, X2, e2, st2⟩ := getF X1 hx hZ hown (host := "") (Or.inl (hw _ (List.mem_of_getElem? (i := 21) rfl))) Via.refl eq1 F_value_pr0 (g := (mkF m 8 #[.val (.ref pr0), .val (.int (0 : Int32))] [(.ref pr0)])) rfl rfl (hb hby d5_8)
  obtain ⟨_, _, ⟨T3, L3, k3, n3⟩, -, X3, ⟨Lc3, hQ3, l3, y3, z3⟩, st3⟩ := Jvm.LawKit.callS X2 hx (y := (⟨"java/lang/StringLatin1", "charAt", "([BI)C"⟩ : MethodName)) hown (mvT hZ (hw _ (List.mem_of_getElem? (i := 41) rfl))) (mvT hZ (hw _ (List.mem_of_getElem? (i := 42) rfl))) (mvT hZ (hw _ (List.mem_of_getElem? (i := 43) rfl))) (mvT hZ (hw _ (List.mem_of_getElem? (i := 44) rfl))) (by decide) (backOf (W := 0) (rm7_1_0 l Z a0 hw [] w_value_pr0 kk_w_value_pr0 c0_w_value_pr0 w_SIOOBE_FORMATTER h0 n0 Z0 O0 V_w_value_pr0 S_SIOOBE_FORMATTER hr_SIOOBE) hZ (hw _ (List.mem_of_getElem? (i := 44) rfl)) (hw _ (List.mem_of_getElem? (i := 43) rfl)) (by decide) (by decide)) (g := (mkF m 12 #[.val (.ref pr0), .val (.int (0 : Int32))] [(.int (0 : Int32)), (.ref w_value_pr0)])) rfl (by rw [hml]; rfl) (argsL := [(.ref w_value_pr0), (.int (0 : Int32))]) (rest := []) (lenOf pd_6 rfl) rfl (by show 2 * 0 + _ ≤ _; exact Nat.le_of_eq rfl) (hb hby d5_12) (fun _ _ => ⟨rfl, e2, (by decide : 0 + 0 ≤ _), (by decide : 0 + 0 ≤ _)⟩)
  dsimp only [Pt.U, Pt.locs, Pt.cells, Pt.slots] at X3 l3 y3 z3 st3 hQ3
  subst l3 y3 z3
  obtain ⟨rfl, N3q, eq3⟩ := hQ3
  have N3 := Fr.app N1 N3q
  obtain ⟨fs, hr, hrun, hended, hW, hsame⟩ := X3.leave (v := some (.int (nar .char (nar .char ((c0_w_value_pr0 &&& (255 : Int32)).toUInt32.toUInt16.toUInt32.toInt32))))) (fun h => by rw [Bd.returns] at h; cases h)
  refine ⟨_, _, pre0 _ ?_, hrun, hended, _, _, rfl, ?_, ⟨_, rfl⟩, hW, hsame.mono (by decide) (by decide)⟩
  · show Steps p.tables e below (s₁.setTop (mkF m 0 #[.val (.ref pr0), .val (.int (0 : Int32))] [])) _
    refine XS.aloadN X0.here hx rfl (hb hby d5_0) rfl rfl ?_
    show Steps p.tables e below (s₁.setTop (mkF m 1 #[.val (.ref pr0), .val (.int (0 : Int32))] [(.ref pr0)])) _
    refine st1.trans ?_
    show Steps p.tables e below (T1.setTop (mkF m 4 #[.val (.ref pr0), .val (.int (0 : Int32))] [(.int (1 : Int32))])) _
    refine XS.ifNo X1.here hx rfl (hb hby d5_4) rfl ((if0 _ _).trans (feq (by decide : ¬ ((1 : Int32) = (0 : Int32)))).1) ?_
    show Steps p.tables e below (T1.setTop (mkF m 7 #[.val (.ref pr0), .val (.int (0 : Int32))] [])) _
    refine XS.aloadN X1.here hx rfl (hb hby d5_7) rfl rfl ?_
    show Steps p.tables e below (T1.setTop (mkF m 8 #[.val (.ref pr0), .val (.int (0 : Int32))] [(.ref pr0)])) _
    refine st2 _ ?_
    show Steps p.tables e below (T2.setTop (mkF m 11 #[.val (.ref pr0), .val (.int (0 : Int32))] [(.ref w_value_pr0)])) _
    refine XS.iloadN X2.here hx rfl (hb hby d5_11) rfl ?_
    show Steps p.tables e below (T2.setTop (mkF m 12 #[.val (.ref pr0), .val (.int (0 : Int32))] [(.int (0 : Int32)), (.ref w_value_pr0)])) _
    refine st3 _ ?_
    show Steps p.tables e below (T3.setTop (mkF m 15 #[.val (.ref pr0), .val (.int (0 : Int32))] [(.int (nar .char ((c0_w_value_pr0 &&& (255 : Int32)).toUInt32.toUInt16.toUInt32.toInt32)))])) _
    exact retN X3 hx (t := .char) Bd.returns (by simp) (hb hby d5_15) hr
  · show Q5_1_0 Z pr0 w_value_pr0 kk_w_value_pr0 c0_w_value_pr0 w_COMPACT_STRINGS w_coder_pr0 w_SIOOBE_FORMATTER h0 n0 _ T3.heap _
    rw [eq3]
    exact ⟨rfl, N3, rfl⟩
theorem ef_7__2_0 (m : MethodId) (pr1 : Addr) : entryFrame m #[(.ref pr1), (.int (0 : Int32))] 2 = mkF m 0 #[.val (.ref pr1), .val (.int (0 : Int32))] [] := by first | (simp [entryFrame, mkF, argsToLocals, Value.category]; done) | rfl
def Q7_2_0 (Z : State) (pr1 : Addr) (kk_pr1 : ClassId) (c0_pr1 : Int32) (c1_pr1 : Int32) (w_SIOOBE_FORMATTER : Value) (h0 : Heap) (n0 : Nat) (v : Option Value) (h : Heap) (L : List Loc) : Prop := v = some (.int (nar .char ((c0_pr1 &&& (255 : Int32)).toUInt32.toUInt16.toUInt32.toInt32))) ∧ Fr n0 L ∧ h = h0
set_option maxRecDepth 65536 in
set_option maxHeartbeats 40000000 in
theorem rm7_2_0 (l : Launch) (Z : State) (a0 : Array Value) (hw : ∀ d ∈ tables_1, d.before a0 Z = true) (ws : List Jvm.Cond) (pr1 : Addr) (kk_pr1 : ClassId) (c0_pr1 : Int32) (c1_pr1 : Int32) (w_SIOOBE_FORMATTER : Value) (h0 : Heap) (n0 : Nat) (Z0 : n0 ≤ h0.size) (O0 : Old Z n0 h0) (V_pr1 : Arv Z h0 pr1 kk_pr1 .byte (2 : Int32) [(.int c0_pr1), (.int c1_pr1)] (.int (0 : Int32))) (S_SIOOBE_FORMATTER : Sta Z Z.heap "jdk/internal/util/Preconditions" "SIOOBE_FORMATTER" "Ljava/util/function/BiFunction;" w_SIOOBE_FORMATTER) (hr_SIOOBE : w_SIOOBE_FORMATTER.isRef = true) :
    MetFree l (⟨"java/lang/StringLatin1", "charAt", "([BI)C"⟩ : MethodName) (head1 (Jvm.Cond.code (⟨"java/lang/StringLatin1", "charAt", "([BI)C"⟩ : MethodName) jdk_43_method_2_code 2 (some .char) :: ws) ({ frames := 2, cells := 0, slots := 0, locals := 27 } : Room)) (fun a U => a = #[(.ref pr1), (.int (0 : Int32))] ∧ Z.Warmed39 U.vm ∧ U.heap = h0) (fun _ _ _ _ _ => True) (fun _ U o U' => ∃ v L, o = .returned v ∧ Q7_2_0 Z pr1 kk_pr1 c0_pr1 c1_pr1 w_SIOOBE_FORMATTER h0 n0 v U'.heap L ∧ FrameEnd U o U' L ({ frames := 2, cells := 0, slots := 0, locals := 27 } : Room).cells ({ frames := 2, cells := 0, slots := 0, locals := 27 } : Room).slots) := by
  refine MetFree.of_bodySF (plainFor_of_name pn_7) hisR ?_
  intro p e s m args below meth c s₁ Bd hml0 hP hK
  obtain ⟨rfl, hZ, hh⟩ := hP
  have hx := Bd.exec
  have hby := Bd.bytes
  have hml : c.maxLocals = 2 := hml0
  have hown : s.vm.findClass "java/lang/StringLatin1" = some m.cls := findClass_of_methodNamed Bd.named
  have hnm := (name_of_methodNamed Bd.named Bd.method).1
  have X0 : Stand p l e ({ frames := 2, cells := 0, slots := 0, locals := 27 } : Room) s m #[(.ref pr1), (.int (0 : Int32))] below meth c s₁ [] 0 0 := Stand.of_body Bd
  have e0 : s₁.heap = h0 := by rw [← hh, Bd.state]; rfl
  have N0 := Fr.nil n0
  have pre0 : ∀ t, Steps p.tables e below (s₁.setTop (mkF m 0 #[.val (.ref pr1), .val (.int (0 : Int32))] [])) t → Steps p.tables e below (s₁.setTop (entryFrame m #[(.ref pr1), (.int (0 : Int32))] 2)) t := fun t k => castTop (ef_7__2_0 m pr1) k
  have V_c1 := V_pr1
  obtain ⟨c1, Arc1, qc1, Sc1, Nc1, Hc1, Gc1⟩ := V_c1
  obtain ⟨_, _, ⟨T2, L2, k2, n2⟩, -, X2, ⟨Lc2, hQ2, l2, y2, z2⟩, st2⟩ := Jvm.LawKit.callS X0 hx (y := (⟨"java/lang/String", "checkIndex", "(II)V"⟩ : MethodName)) hown (mvT hZ (hw _ (List.mem_of_getElem? (i := 45) rfl))) (mvT hZ (hw _ (List.mem_of_getElem? (i := 46) rfl))) (mvT hZ (hw _ (List.mem_of_getElem? (i := 19) rfl))) (mvT hZ (hw _ (List.mem_of_getElem? (i := 47) rfl))) (by decide) (backOf (W := 0) (rm8 l Z a0 hw [] (0 : Int32) (2 : Int32) w_SIOOBE_FORMATTER h0 n0 Z0 O0 S_SIOOBE_FORMATTER hr_SIOOBE (by decide) (by decide)) hZ (hw _ (List.mem_of_getElem? (i := 47) rfl)) (hw _ (List.mem_of_getElem? (i := 19) rfl)) (by decide) (by decide)) (g := (mkF m 3 #[.val (.ref pr1), .val (.int (0 : Int32))] [(.int (2 : Int32)), (.int (0 : Int32))])) rfl (by rw [hml]; rfl) (argsL := [(.int (0 : Int32)), (.int (2 : Int32))]) (rest := []) (lenOf pd_7 rfl) rfl (by show 2 * 0 + _ ≤ _; exact Nat.le_of_eq rfl) (hb hby d7_3) (fun _ _ => ⟨rfl, e0, (by decide : 0 + 0 ≤ _), (by decide : 0 + 0 ≤ _)⟩)
  dsimp only [Pt.U, Pt.locs, Pt.cells, Pt.slots] at X2 l2 y2 z2 st2 hQ2
  subst l2 y2 z2
  obtain ⟨rfl, N2q, eq2⟩ := hQ2
  have N2 := Fr.app N0 N2q
  have V_c3 := V_pr1
  obtain ⟨c3, Arc3, qc3, Sc3, Nc3, Hc3, Gc3⟩ := V_c3
  have hin4 : ¬ ((0 : Int32) < 0 ∨ c3.slots.size ≤ ((0 : Int32)).toNatClampNeg) := inb_of Sc3 ⟨by decide, by decide⟩
  obtain ⟨fs, hr, hrun, hended, hW, hsame⟩ := X2.leave (v := some (.int (nar .char ((c0_pr1 &&& (255 : Int32)).toUInt32.toUInt16.toUInt32.toInt32)))) (fun h => by rw [Bd.returns] at h; cases h)
  refine ⟨_, _, pre0 _ ?_, hrun, hended, _, _, rfl, ?_, ⟨_, rfl⟩, hW, hsame.mono (by decide) (by decide)⟩
  · show Steps p.tables e below (s₁.setTop (mkF m 0 #[.val (.ref pr1), .val (.int (0 : Int32))] [])) _
    refine XS.iloadN X0.here hx rfl (hb hby d7_0) rfl ?_
    show Steps p.tables e below (s₁.setTop (mkF m 1 #[.val (.ref pr1), .val (.int (0 : Int32))] [(.int (0 : Int32))])) _
    refine XS.aloadN X0.here hx rfl (hb hby d7_1) rfl rfl ?_
    show Steps p.tables e below (s₁.setTop (mkF m 2 #[.val (.ref pr1), .val (.int (0 : Int32))] [(.ref pr1), (.int (0 : Int32))])) _
    refine X0.arraylength hx (by rw [e0]; exact Arc1.1) (State.isArrayOf_alike hZ.alike Arc1.2.1) (g := (mkF m 2 #[.val (.ref pr1), .val (.int (0 : Int32))] [(.ref pr1), (.int (0 : Int32))])) rfl rfl (hb hby d7_2) _ ?_
    rw [len_of Sc1 Nc1]
    show Steps p.tables e below (s₁.setTop (mkF m 3 #[.val (.ref pr1), .val (.int (0 : Int32))] [(.int (2 : Int32)), (.int (0 : Int32))])) _
    refine st2 _ ?_
    show Steps p.tables e below (T2.setTop (mkF m 6 #[.val (.ref pr1), .val (.int (0 : Int32))] [])) _
    refine XS.aloadN X2.here hx rfl (hb hby d7_6) rfl rfl ?_
    show Steps p.tables e below (T2.setTop (mkF m 7 #[.val (.ref pr1), .val (.int (0 : Int32))] [(.ref pr1)])) _
    refine XS.iloadN X2.here hx rfl (hb hby d7_7) rfl ?_
    show Steps p.tables e below (T2.setTop (mkF m 8 #[.val (.ref pr1), .val (.int (0 : Int32))] [(.int (0 : Int32)), (.ref pr1)])) _
    refine X2.baloadBytes hx (j := (0 : Int32)) (v := (.int c0_pr1)) (by rw [eq2]; exact Arc3.1) (State.isArrayOf_alike hZ.alike Arc3.2.1) Arc3.2.2 hin4 (Has.at Hc3 hin4 rfl) (g := (mkF m 8 #[.val (.ref pr1), .val (.int (0 : Int32))] [(.int (0 : Int32)), (.ref pr1)])) rfl rfl (hb hby d7_8) _ ?_
    show Steps p.tables e below (T2.setTop (mkF m 9 #[.val (.ref pr1), .val (.int (0 : Int32))] [(.int c0_pr1)])) _
    refine XS.sipush X2.here hx rfl (hb hby d7_9) ?_
    show Steps p.tables e below (T2.setTop (mkF m 12 #[.val (.ref pr1), .val (.int (0 : Int32))] [(.int (255 : Int32)), (.int c0_pr1)])) _
    refine XS.iand X2.here hx rfl (hb hby d7_12) rfl ?_
    show Steps p.tables e below (T2.setTop (mkF m 13 #[.val (.ref pr1), .val (.int (0 : Int32))] [(.int (c0_pr1 &&& (255 : Int32)))])) _
    refine XS.i2c X2.here hx rfl (hb hby d7_13) rfl ?_
    show Steps p.tables e below (T2.setTop (mkF m 14 #[.val (.ref pr1), .val (.int (0 : Int32))] [(.int ((c0_pr1 &&& (255 : Int32)).toUInt32.toUInt16.toUInt32.toInt32))])) _
    exact retN X2 hx (t := .char) Bd.returns (by simp) (hb hby d7_14) hr
  · show Q7_2_0 Z pr1 kk_pr1 c0_pr1 c1_pr1 w_SIOOBE_FORMATTER h0 n0 _ T2.heap _
    rw [eq2]
    exact ⟨rfl, N2, rfl⟩
theorem ef_5__2_0 (m : MethodId) (pr0 : Addr) : entryFrame m #[(.ref pr0), (.int (0 : Int32))] 2 = mkF m 0 #[.val (.ref pr0), .val (.int (0 : Int32))] [] := by first | (simp [entryFrame, mkF, argsToLocals, Value.category]; done) | rfl
def Q5_2_0 (Z : State) (pr0 : Addr) (w_value_pr0 : Addr) (kk_w_value_pr0 : ClassId) (c0_w_value_pr0 : Int32) (c1_w_value_pr0 : Int32) (w_COMPACT_STRINGS : Int32) (w_coder_pr0 : Int32) (w_SIOOBE_FORMATTER : Value) (h0 : Heap) (n0 : Nat) (v : Option Value) (h : Heap) (L : List Loc) : Prop := v = some (.int (nar .char (nar .char ((c0_w_value_pr0 &&& (255 : Int32)).toUInt32.toUInt16.toUInt32.toInt32)))) ∧ Fr n0 L ∧ h = h0
set_option maxRecDepth 65536 in
set_option maxHeartbeats 40000000 in
theorem rm5_2_0 (l : Launch) (Z : State) (a0 : Array Value) (hw : ∀ d ∈ tables_1, d.before a0 Z = true) (ws : List Jvm.Cond) (pr0 : Addr) (w_value_pr0 : Addr) (kk_w_value_pr0 : ClassId) (c0_w_value_pr0 : Int32) (c1_w_value_pr0 : Int32) (w_COMPACT_STRINGS : Int32) (w_coder_pr0 : Int32) (w_SIOOBE_FORMATTER : Value) (h0 : Heap) (n0 : Nat) (Z0 : n0 ≤ h0.size) (O0 : Old Z n0 h0) (F_value_pr0 : Fld Z h0 pr0 "java/lang/String" "value" "[B" (.ref w_value_pr0)) (V_w_value_pr0 : Arv Z h0 w_value_pr0 kk_w_value_pr0 .byte (2 : Int32) [(.int c0_w_value_pr0), (.int c1_w_value_pr0)] (.int (0 : Int32))) (S_COMPACT_STRINGS : Sta Z Z.heap "java/lang/String" "COMPACT_STRINGS" "Z" (.int w_COMPACT_STRINGS)) (F_coder_pr0 : Fld Z h0 pr0 "java/lang/String" "coder" "B" (.int w_coder_pr0)) (E_pr0 : Exa Z h0 pr0 "java/lang/String") (S_SIOOBE_FORMATTER : Sta Z Z.heap "jdk/internal/util/Preconditions" "SIOOBE_FORMATTER" "Ljava/util/function/BiFunction;" w_SIOOBE_FORMATTER) (hr_SIOOBE : w_SIOOBE_FORMATTER.isRef = true) (hq1_0 : ¬ (w_COMPACT_STRINGS = (0 : Int32))) (hq1_1 : w_coder_pr0 = (0 : Int32)) :
    MetFree l (⟨"java/lang/String", "charAt", "(I)C"⟩ : MethodName) (head1 (Jvm.Cond.code (⟨"java/lang/String", "charAt", "(I)C"⟩ : MethodName) jdk_42_method_56_code 2 (some .char) :: ws) ({ frames := 3, cells := 0, slots := 0, locals := 40 } : Room)) (fun a U => a = #[(.ref pr0), (.int (0 : Int32))] ∧ Z.Warmed39 U.vm ∧ U.heap = h0) (fun _ _ _ _ _ => True) (fun _ U o U' => ∃ v L, o = .returned v ∧ Q5_2_0 Z pr0 w_value_pr0 kk_w_value_pr0 c0_w_value_pr0 c1_w_value_pr0 w_COMPACT_STRINGS w_coder_pr0 w_SIOOBE_FORMATTER h0 n0 v U'.heap L ∧ FrameEnd U o U' L ({ frames := 3, cells := 0, slots := 0, locals := 40 } : Room).cells ({ frames := 3, cells := 0, slots := 0, locals := 40 } : Room).slots) := by
  refine MetFree.of_bodySF (plainFor_of_name pn_5) hisR ?_
  intro p e s m args below meth c s₁ Bd hml0 hP hK
  obtain ⟨rfl, hZ, hh⟩ := hP
  have hx := Bd.exec
  have hby := Bd.bytes
  have hml : c.maxLocals = 2 := hml0
  have hown : s.vm.findClass "java/lang/String" = some m.cls := findClass_of_methodNamed Bd.named
  have hnm := (name_of_methodNamed Bd.named Bd.method).1
  have X0 : Stand p l e ({ frames := 3, cells := 0, slots := 0, locals := 40 } : Room) s m #[(.ref pr0), (.int (0 : Int32))] below meth c s₁ [] 0 0 := Stand.of_body Bd
  have e0 : s₁.heap = h0 := by rw [← hh, Bd.state]; rfl
  have N0 := Fr.nil n0
  have pre0 : ∀ t, Steps p.tables e below (s₁.setTop (mkF m 0 #[.val (.ref pr0), .val (.int (0 : Int32))] [])) t → Steps p.tables e below (s₁.setTop (entryFrame m #[(.ref pr0), (.int (0 : Int32))] 2)) t := fun t k => castTop (ef_5__2_0 m pr0) k
  obtain ⟨cq1, kq1, q1a, q1b, q1c⟩ := isOf hZ e0 E_pr0
  obtain ⟨_, _, ⟨T1, L1, k1, n1⟩, -, X1, ⟨Lc1, hQ1, l1, y1, z1⟩, st1⟩ := X0.virtualBack hx (y := (⟨"java/lang/String", "isLatin1", "()Z"⟩ : MethodName)) (z := (⟨"java/lang/String", "isLatin1", "()Z"⟩ : MethodName)) hown (mvT hZ (hw _ (List.mem_of_getElem? (i := 36) rfl))) (mvT hZ (hw _ (List.mem_of_getElem? (i := 37) rfl))) (notFace_of_selects (args := #[]) (mvT hZ (hw _ (List.mem_of_getElem? (i := 39) rfl)))) (mvT hZ (hw _ (List.mem_of_getElem? (i := 39) rfl))) (mvT hZ (hw _ (List.mem_of_getElem? (i := 38) rfl))) (by decide) (backOf (W := 0) (rm6 l Z a0 hw [] pr0 w_COMPACT_STRINGS w_coder_pr0 h0 n0 Z0 O0 S_COMPACT_STRINGS F_coder_pr0 hq1_0 hq1_1) hZ (hw _ (List.mem_of_getElem? (i := 40) rfl)) (hw _ (List.mem_of_getElem? (i := 19) rfl)) (by decide) (by decide)) q1a q1c (g := (mkF m 1 #[.val (.ref pr0), .val (.int (0 : Int32))] [(.ref pr0)])) rfl (by rw [hml]; rfl) (Steps.refl _) (argsL := []) (rest := []) (lenOf pd_5 rfl) rfl (by show 2 * 0 + _ ≤ _; exact Nat.le_of_eq rfl) (hb hby d5_1) (fun _ _ => ⟨rfl, e0, (by decide : 0 + 0 ≤ _), (by decide : 0 + 0 ≤ _)⟩)
  dsimp only [Pt.U, Pt.locs, Pt.cells, Pt.slots] at X1 l1 y1 z1 st1 hQ1
  subst l1 y1 z1
  obtain ⟨rfl, N1q, eq1⟩ := hQ1
  have N1 := Fr.app N0 N1q
  obtain ⟨T2, X2, e2, st2⟩ := getF X1 hx hZ hown (host := "") (Or.inl (hw _ (List.mem_of_getElem? (i := 21) rfl))) Via.refl eq1 F_value_pr0 (g := (mkF m 8 #[.val (.ref pr0), .val (.int (0 : Int32))] [(.ref pr0)])) rfl rfl (hb hby d5_8)
  obtain ⟨_, _, ⟨T3, L3, k3, n3⟩, -, X3, ⟨Lc3, hQ3, l3, y3, z3⟩, st3⟩ := Jvm.LawKit.callS X2 hx (y := (⟨"java/lang/StringLatin1", "charAt", "([BI)C"⟩ : MethodName)) hown (mvT hZ (hw _ (List.mem_of_getElem? (i := 41) rfl))) (mvT hZ (hw _ (List.mem_of_getElem? (i := 42) rfl))) (mvT hZ (hw _ (List.mem_of_getElem? (i := 43) rfl))) (mvT hZ (hw _ (List.mem_of_getElem? (i := 44) rfl))) (by decide) (backOf (W := 0) (rm7_2_0 l Z a0 hw [] w_value_pr0 kk_w_value_pr0 c0_w_value_pr0 c1_w_value_pr0 w_SIOOBE_FORMATTER h0 n0 Z0 O0 V_w_value_pr0 S_SIOOBE_FORMATTER hr_SIOOBE) hZ (hw _ (List.mem_of_getElem? (i := 44) rfl)) (hw _ (List.mem_of_getElem? (i := 43) rfl)) (by decide) (by decide)) (g := (mkF m 12 #[.val (.ref pr0), .val (.int (0 : Int32))] [(.int (0 : Int32)), (.ref w_value_pr0)])) rfl (by rw [hml]; rfl) (argsL := [(.ref w_value_pr0), (.int (0 : Int32))]) (rest := []) (lenOf pd_6 rfl) rfl (by show 2 * 0 + _ ≤ _; exact Nat.le_of_eq rfl) (hb hby d5_12) (fun _ _ => ⟨rfl, e2, (by decide : 0 + 0 ≤ _), (by decide : 0 + 0 ≤ _)⟩)
  dsimp only [Pt.U, Pt.locs, Pt.cells, Pt.slots] at X3 l3 y3 z3 st3 hQ3
  subst l3 y3 z3
  obtain ⟨rfl, N3q, eq3⟩ := hQ3
  have N3 := Fr.app N1 N3q
  obtain ⟨fs, hr, hrun, hended, hW, hsame⟩ := X3.leave (v := some (.int (nar .char (nar .char ((c0_w_value_pr0 &&& (255 : Int32)).toUInt32.toUInt16.toUInt32.toInt32))))) (fun h => by rw [Bd.returns] at h; cases h)
  refine ⟨_, _, pre0 _ ?_, hrun, hended, _, _, rfl, ?_, ⟨_, rfl⟩, hW, hsame.mono (by decide) (by decide)⟩
  · show Steps p.tables e below (s₁.setTop (mkF m 0 #[.val (.ref pr0), .val (.int (0 : Int32))] [])) _
    refine XS.aloadN X0.here hx rfl (hb hby d5_0) rfl rfl ?_
    show Steps p.tables e below (s₁.setTop (mkF m 1 #[.val (.ref pr0), .val (.int (0 : Int32))] [(.ref pr0)])) _
    refine st1.trans ?_
    show Steps p.tables e below (T1.setTop (mkF m 4 #[.val (.ref pr0), .val (.int (0 : Int32))] [(.int (1 : Int32))])) _
    refine XS.ifNo X1.here hx rfl (hb hby d5_4) rfl ((if0 _ _).trans (feq (by decide : ¬ ((1 : Int32) = (0 : Int32)))).1) ?_
    show Steps p.tables e below (T1.setTop (mkF m 7 #[.val (.ref pr0), .val (.int (0 : Int32))] [])) _
    refine XS.aloadN X1.here hx rfl (hb hby d5_7) rfl rfl ?_
    show Steps p.tables e below (T1.setTop (mkF m 8 #[.val (.ref pr0), .val (.int (0 : Int32))] [(.ref pr0)])) _
    refine st2 _ ?_
    show Steps p.tables e below (T2.setTop (mkF m 11 #[.val (.ref pr0), .val (.int (0 : Int32))] [(.ref w_value_pr0)])) _
    refine XS.iloadN X2.here hx rfl (hb hby d5_11) rfl ?_
    show Steps p.tables e below (T2.setTop (mkF m 12 #[.val (.ref pr0), .val (.int (0 : Int32))] [(.int (0 : Int32)), (.ref w_value_pr0)])) _
    refine st3 _ ?_
    show Steps p.tables e below (T3.setTop (mkF m 15 #[.val (.ref pr0), .val (.int (0 : Int32))] [(.int (nar .char ((c0_w_value_pr0 &&& (255 : Int32)).toUInt32.toUInt16.toUInt32.toInt32)))])) _
    exact retN X3 hx (t := .char) Bd.returns (by simp) (hb hby d5_15) hr
  · show Q5_2_0 Z pr0 w_value_pr0 kk_w_value_pr0 c0_w_value_pr0 c1_w_value_pr0 w_COMPACT_STRINGS w_coder_pr0 w_SIOOBE_FORMATTER h0 n0 _ T3.heap _
    rw [eq3]
    exact ⟨rfl, N3, rfl⟩
theorem ef_7__2_1 (m : MethodId) (pr1 : Addr) : entryFrame m #[(.ref pr1), (.int (1 : Int32))] 2 = mkF m 0 #[.val (.ref pr1), .val (.int (1 : Int32))] [] := by first | (simp [entryFrame, mkF, argsToLocals, Value.category]; done) | rfl
def Q7_2_1 (Z : State) (pr1 : Addr) (kk_pr1 : ClassId) (c0_pr1 : Int32) (c1_pr1 : Int32) (w_SIOOBE_FORMATTER : Value) (h0 : Heap) (n0 : Nat) (v : Option Value) (h : Heap) (L : List Loc) : Prop := v = some (.int (nar .char ((c1_pr1 &&& (255 : Int32)).toUInt32.toUInt16.toUInt32.toInt32))) ∧ Fr n0 L ∧ h = h0
set_option maxRecDepth 65536 in
set_option maxHeartbeats 40000000 in
theorem rm7_2_1 (l : Launch) (Z : State) (a0 : Array Value) (hw : ∀ d ∈ tables_1, d.before a0 Z = true) (ws : List Jvm.Cond) (pr1 : Addr) (kk_pr1 : ClassId) (c0_pr1 : Int32) (c1_pr1 : Int32) (w_SIOOBE_FORMATTER : Value) (h0 : Heap) (n0 : Nat) (Z0 : n0 ≤ h0.size) (O0 : Old Z n0 h0) (V_pr1 : Arv Z h0 pr1 kk_pr1 .byte (2 : Int32) [(.int c0_pr1), (.int c1_pr1)] (.int (0 : Int32))) (S_SIOOBE_FORMATTER : Sta Z Z.heap "jdk/internal/util/Preconditions" "SIOOBE_FORMATTER" "Ljava/util/function/BiFunction;" w_SIOOBE_FORMATTER) (hr_SIOOBE : w_SIOOBE_FORMATTER.isRef = true) :
    MetFree l (⟨"java/lang/StringLatin1", "charAt", "([BI)C"⟩ : MethodName) (head1 (Jvm.Cond.code (⟨"java/lang/StringLatin1", "charAt", "([BI)C"⟩ : MethodName) jdk_43_method_2_code 2 (some .char) :: ws) ({ frames := 2, cells := 0, slots := 0, locals := 27 } : Room)) (fun a U => a = #[(.ref pr1), (.int (1 : Int32))] ∧ Z.Warmed39 U.vm ∧ U.heap = h0) (fun _ _ _ _ _ => True) (fun _ U o U' => ∃ v L, o = .returned v ∧ Q7_2_1 Z pr1 kk_pr1 c0_pr1 c1_pr1 w_SIOOBE_FORMATTER h0 n0 v U'.heap L ∧ FrameEnd U o U' L ({ frames := 2, cells := 0, slots := 0, locals := 27 } : Room).cells ({ frames := 2, cells := 0, slots := 0, locals := 27 } : Room).slots) := by
  refine MetFree.of_bodySF (plainFor_of_name pn_7) hisR ?_
  intro p e s m args below meth c s₁ Bd hml0 hP hK
  obtain ⟨rfl, hZ, hh⟩ := hP
  have hx := Bd.exec
  have hby := Bd.bytes
  have hml : c.maxLocals = 2 := hml0
  have hown : s.vm.findClass "java/lang/StringLatin1" = some m.cls := findClass_of_methodNamed Bd.named
  have hnm := (name_of_methodNamed Bd.named Bd.method).1
  have X0 : Stand p l e ({ frames := 2, cells := 0, slots := 0, locals := 27 } : Room) s m #[(.ref pr1), (.int (1 : Int32))] below meth c s₁ [] 0 0 := Stand.of_body Bd
  have e0 : s₁.heap = h0 := by rw [← hh, Bd.state]; rfl
  have N0 := Fr.nil n0
  have pre0 : ∀ t, Steps p.tables e below (s₁.setTop (mkF m 0 #[.val (.ref pr1), .val (.int (1 : Int32))] [])) t → Steps p.tables e below (s₁.setTop (entryFrame m #[(.ref pr1), (.int (1 : Int32))] 2)) t := fun t k => castTop (ef_7__2_1 m pr1) k
  have V_c1 := V_pr1
  obtain ⟨c1, Arc1, qc1, Sc1, Nc1, Hc1, Gc1⟩ := V_c1
  obtain ⟨_, _, ⟨T2, L2, k2, n2⟩, -, X2, ⟨Lc2, hQ2, l2, y2, z2⟩, st2⟩ := Jvm.LawKit.callS X0 hx (y := (⟨"java/lang/String", "checkIndex", "(II)V"⟩ : MethodName)) hown (mvT hZ (hw _ (List.mem_of_getElem? (i := 45) rfl))) (mvT hZ (hw _ (List.mem_of_getElem? (i := 46) rfl))) (mvT hZ (hw _ (List.mem_of_getElem? (i := 19) rfl))) (mvT hZ (hw _ (List.mem_of_getElem? (i := 47) rfl))) (by decide) (backOf (W := 0) (rm8 l Z a0 hw [] (1 : Int32) (2 : Int32) w_SIOOBE_FORMATTER h0 n0 Z0 O0 S_SIOOBE_FORMATTER hr_SIOOBE (by decide) (by decide)) hZ (hw _ (List.mem_of_getElem? (i := 47) rfl)) (hw _ (List.mem_of_getElem? (i := 19) rfl)) (by decide) (by decide)) (g := (mkF m 3 #[.val (.ref pr1), .val (.int (1 : Int32))] [(.int (2 : Int32)), (.int (1 : Int32))])) rfl (by rw [hml]; rfl) (argsL := [(.int (1 : Int32)), (.int (2 : Int32))]) (rest := []) (lenOf pd_7 rfl) rfl (by show 2 * 0 + _ ≤ _; exact Nat.le_of_eq rfl) (hb hby d7_3) (fun _ _ => ⟨rfl, e0, (by decide : 0 + 0 ≤ _), (by decide : 0 + 0 ≤ _)⟩)
  dsimp only [Pt.U, Pt.locs, Pt.cells, Pt.slots] at X2 l2 y2 z2 st2 hQ2
  subst l2 y2 z2
  obtain ⟨rfl, N2q, eq2⟩ := hQ2
  have N2 := Fr.app N0 N2q
  have V_c3 := V_pr1
  obtain ⟨c3, Arc3, qc3, Sc3, Nc3, Hc3, Gc3⟩ := V_c3
  have hin4 : ¬ ((1 : Int32) < 0 ∨ c3.slots.size ≤ ((1 : Int32)).toNatClampNeg) := inb_of Sc3 ⟨by decide, by decide⟩
  obtain ⟨fs, hr, hrun, hended, hW, hsame⟩ := X2.leave (v := some (.int (nar .char ((c1_pr1 &&& (255 : Int32)).toUInt32.toUInt16.toUInt32.toInt32)))) (fun h => by rw [Bd.returns] at h; cases h)
  refine ⟨_, _, pre0 _ ?_, hrun, hended, _, _, rfl, ?_, ⟨_, rfl⟩, hW, hsame.mono (by decide) (by decide)⟩
  · show Steps p.tables e below (s₁.setTop (mkF m 0 #[.val (.ref pr1), .val (.int (1 : Int32))] [])) _
    refine XS.iloadN X0.here hx rfl (hb hby d7_0) rfl ?_
    show Steps p.tables e below (s₁.setTop (mkF m 1 #[.val (.ref pr1), .val (.int (1 : Int32))] [(.int (1 : Int32))])) _
    refine XS.aloadN X0.here hx rfl (hb hby d7_1) rfl rfl ?_
    show Steps p.tables e below (s₁.setTop (mkF m 2 #[.val (.ref pr1), .val (.int (1 : Int32))] [(.ref pr1), (.int (1 : Int32))])) _
    refine X0.arraylength hx (by rw [e0]; exact Arc1.1) (State.isArrayOf_alike hZ.alike Arc1.2.1) (g := (mkF m 2 #[.val (.ref pr1), .val (.int (1 : Int32))] [(.ref pr1), (.int (1 : Int32))])) rfl rfl (hb hby d7_2) _ ?_
    rw [len_of Sc1 Nc1]
    show Steps p.tables e below (s₁.setTop (mkF m 3 #[.val (.ref pr1), .val (.int (1 : Int32))] [(.int (2 : Int32)), (.int (1 : Int32))])) _
    refine st2 _ ?_
    show Steps p.tables e below (T2.setTop (mkF m 6 #[.val (.ref pr1), .val (.int (1 : Int32))] [])) _
    refine XS.aloadN X2.here hx rfl (hb hby d7_6) rfl rfl ?_
    show Steps p.tables e below (T2.setTop (mkF m 7 #[.val (.ref pr1), .val (.int (1 : Int32))] [(.ref pr1)])) _
    refine XS.iloadN X2.here hx rfl (hb hby d7_7) rfl ?_
    show Steps p.tables e below (T2.setTop (mkF m 8 #[.val (.ref pr1), .val (.int (1 : Int32))] [(.int (1 : Int32)), (.ref pr1)])) _
    refine X2.baloadBytes hx (j := (1 : Int32)) (v := (.int c1_pr1)) (by rw [eq2]; exact Arc3.1) (State.isArrayOf_alike hZ.alike Arc3.2.1) Arc3.2.2 hin4 (Has.at Hc3 hin4 rfl) (g := (mkF m 8 #[.val (.ref pr1), .val (.int (1 : Int32))] [(.int (1 : Int32)), (.ref pr1)])) rfl rfl (hb hby d7_8) _ ?_
    show Steps p.tables e below (T2.setTop (mkF m 9 #[.val (.ref pr1), .val (.int (1 : Int32))] [(.int c1_pr1)])) _
    refine XS.sipush X2.here hx rfl (hb hby d7_9) ?_
    show Steps p.tables e below (T2.setTop (mkF m 12 #[.val (.ref pr1), .val (.int (1 : Int32))] [(.int (255 : Int32)), (.int c1_pr1)])) _
    refine XS.iand X2.here hx rfl (hb hby d7_12) rfl ?_
    show Steps p.tables e below (T2.setTop (mkF m 13 #[.val (.ref pr1), .val (.int (1 : Int32))] [(.int (c1_pr1 &&& (255 : Int32)))])) _
    refine XS.i2c X2.here hx rfl (hb hby d7_13) rfl ?_
    show Steps p.tables e below (T2.setTop (mkF m 14 #[.val (.ref pr1), .val (.int (1 : Int32))] [(.int ((c1_pr1 &&& (255 : Int32)).toUInt32.toUInt16.toUInt32.toInt32))])) _
    exact retN X2 hx (t := .char) Bd.returns (by simp) (hb hby d7_14) hr
  · show Q7_2_1 Z pr1 kk_pr1 c0_pr1 c1_pr1 w_SIOOBE_FORMATTER h0 n0 _ T2.heap _
    rw [eq2]
    exact ⟨rfl, N2, rfl⟩
theorem ef_5__2_1 (m : MethodId) (pr0 : Addr) : entryFrame m #[(.ref pr0), (.int (1 : Int32))] 2 = mkF m 0 #[.val (.ref pr0), .val (.int (1 : Int32))] [] := by first | (simp [entryFrame, mkF, argsToLocals, Value.category]; done) | rfl
def Q5_2_1 (Z : State) (pr0 : Addr) (w_value_pr0 : Addr) (kk_w_value_pr0 : ClassId) (c0_w_value_pr0 : Int32) (c1_w_value_pr0 : Int32) (w_COMPACT_STRINGS : Int32) (w_coder_pr0 : Int32) (w_SIOOBE_FORMATTER : Value) (h0 : Heap) (n0 : Nat) (v : Option Value) (h : Heap) (L : List Loc) : Prop := v = some (.int (nar .char (nar .char ((c1_w_value_pr0 &&& (255 : Int32)).toUInt32.toUInt16.toUInt32.toInt32)))) ∧ Fr n0 L ∧ h = h0
set_option maxRecDepth 65536 in
set_option maxHeartbeats 40000000 in
theorem rm5_2_1 (l : Launch) (Z : State) (a0 : Array Value) (hw : ∀ d ∈ tables_1, d.before a0 Z = true) (ws : List Jvm.Cond) (pr0 : Addr) (w_value_pr0 : Addr) (kk_w_value_pr0 : ClassId) (c0_w_value_pr0 : Int32) (c1_w_value_pr0 : Int32) (w_COMPACT_STRINGS : Int32) (w_coder_pr0 : Int32) (w_SIOOBE_FORMATTER : Value) (h0 : Heap) (n0 : Nat) (Z0 : n0 ≤ h0.size) (O0 : Old Z n0 h0) (F_value_pr0 : Fld Z h0 pr0 "java/lang/String" "value" "[B" (.ref w_value_pr0)) (V_w_value_pr0 : Arv Z h0 w_value_pr0 kk_w_value_pr0 .byte (2 : Int32) [(.int c0_w_value_pr0), (.int c1_w_value_pr0)] (.int (0 : Int32))) (S_COMPACT_STRINGS : Sta Z Z.heap "java/lang/String" "COMPACT_STRINGS" "Z" (.int w_COMPACT_STRINGS)) (F_coder_pr0 : Fld Z h0 pr0 "java/lang/String" "coder" "B" (.int w_coder_pr0)) (E_pr0 : Exa Z h0 pr0 "java/lang/String") (S_SIOOBE_FORMATTER : Sta Z Z.heap "jdk/internal/util/Preconditions" "SIOOBE_FORMATTER" "Ljava/util/function/BiFunction;" w_SIOOBE_FORMATTER) (hr_SIOOBE : w_SIOOBE_FORMATTER.isRef = true) (hq1_0 : ¬ (w_COMPACT_STRINGS = (0 : Int32))) (hq1_1 : w_coder_pr0 = (0 : Int32)) :
    MetFree l (⟨"java/lang/String", "charAt", "(I)C"⟩ : MethodName) (head1 (Jvm.Cond.code (⟨"java/lang/String", "charAt", "(I)C"⟩ : MethodName) jdk_42_method_56_code 2 (some .char) :: ws) ({ frames := 3, cells := 0, slots := 0, locals := 40 } : Room)) (fun a U => a = #[(.ref pr0), (.int (1 : Int32))] ∧ Z.Warmed39 U.vm ∧ U.heap = h0) (fun _ _ _ _ _ => True) (fun _ U o U' => ∃ v L, o = .returned v ∧ Q5_2_1 Z pr0 w_value_pr0 kk_w_value_pr0 c0_w_value_pr0 c1_w_value_pr0 w_COMPACT_STRINGS w_coder_pr0 w_SIOOBE_FORMATTER h0 n0 v U'.heap L ∧ FrameEnd U o U' L ({ frames := 3, cells := 0, slots := 0, locals := 40 } : Room).cells ({ frames := 3, cells := 0, slots := 0, locals := 40 } : Room).slots) := by
  refine MetFree.of_bodySF (plainFor_of_name pn_5) hisR ?_
  intro p e s m args below meth c s₁ Bd hml0 hP hK
  obtain ⟨rfl, hZ, hh⟩ := hP
  have hx := Bd.exec
  have hby := Bd.bytes
  have hml : c.maxLocals = 2 := hml0
  have hown : s.vm.findClass "java/lang/String" = some m.cls := findClass_of_methodNamed Bd.named
  have hnm := (name_of_methodNamed Bd.named Bd.method).1
  have X0 : Stand p l e ({ frames := 3, cells := 0, slots := 0, locals := 40 } : Room) s m #[(.ref pr0), (.int (1 : Int32))] below meth c s₁ [] 0 0 := Stand.of_body Bd
  have e0 : s₁.heap = h0 := by rw [← hh, Bd.state]; rfl
  have N0 := Fr.nil n0
  have pre0 : ∀ t, Steps p.tables e below (s₁.setTop (mkF m 0 #[.val (.ref pr0), .val (.int (1 : Int32))] [])) t → Steps p.tables e below (s₁.setTop (entryFrame m #[(.ref pr0), (.int (1 : Int32))] 2)) t := fun t k => castTop (ef_5__2_1 m pr0) k
  obtain ⟨cq1, kq1, q1a, q1b, q1c⟩ := isOf hZ e0 E_pr0
  obtain ⟨_, _, ⟨T1, L1, k1, n1⟩, -, X1, ⟨Lc1, hQ1, l1, y1, z1⟩, st1⟩ := X0.virtualBack hx (y := (⟨"java/lang/String", "isLatin1", "()Z"⟩ : MethodName)) (z := (⟨"java/lang/String", "isLatin1", "()Z"⟩ : MethodName)) hown (mvT hZ (hw _ (List.mem_of_getElem? (i := 36) rfl))) (mvT hZ (hw _ (List.mem_of_getElem? (i := 37) rfl))) (notFace_of_selects (args := #[]) (mvT hZ (hw _ (List.mem_of_getElem? (i := 39) rfl)))) (mvT hZ (hw _ (List.mem_of_getElem? (i := 39) rfl))) (mvT hZ (hw _ (List.mem_of_getElem? (i := 38) rfl))) (by decide) (backOf (W := 0) (rm6 l Z a0 hw [] pr0 w_COMPACT_STRINGS w_coder_pr0 h0 n0 Z0 O0 S_COMPACT_STRINGS F_coder_pr0 hq1_0 hq1_1) hZ (hw _ (List.mem_of_getElem? (i := 40) rfl)) (hw _ (List.mem_of_getElem? (i := 19) rfl)) (by decide) (by decide)) q1a q1c (g := (mkF m 1 #[.val (.ref pr0), .val (.int (1 : Int32))] [(.ref pr0)])) rfl (by rw [hml]; rfl) (Steps.refl _) (argsL := []) (rest := []) (lenOf pd_5 rfl) rfl (by show 2 * 0 + _ ≤ _; exact Nat.le_of_eq rfl) (hb hby d5_1) (fun _ _ => ⟨rfl, e0, (by decide : 0 + 0 ≤ _), (by decide : 0 + 0 ≤ _)⟩)
  dsimp only [Pt.U, Pt.locs, Pt.cells, Pt.slots] at X1 l1 y1 z1 st1 hQ1
  subst l1 y1 z1
  obtain ⟨rfl, N1q, eq1⟩ := hQ1
  have N1 := Fr.app N0 N1q
  obtain ⟨T2, X2, e2, st2⟩ := getF X1 hx hZ hown (host := "") (Or.inl (hw _ (List.mem_of_getElem? (i := 21) rfl))) Via.refl eq1 F_value_pr0 (g := (mkF m 8 #[.val (.ref pr0), .val (.int (1 : Int32))] [(.ref pr0)])) rfl rfl (hb hby d5_8)
  obtain ⟨_, _, ⟨T3, L3, k3, n3⟩, -, X3, ⟨Lc3, hQ3, l3, y3, z3⟩, st3⟩ := Jvm.LawKit.callS X2 hx (y := (⟨"java/lang/StringLatin1", "charAt", "([BI)C"⟩ : MethodName)) hown (mvT hZ (hw _ (List.mem_of_getElem? (i := 41) rfl))) (mvT hZ (hw _ (List.mem_of_getElem? (i := 42) rfl))) (mvT hZ (hw _ (List.mem_of_getElem? (i := 43) rfl))) (mvT hZ (hw _ (List.mem_of_getElem? (i := 44) rfl))) (by decide) (backOf (W := 0) (rm7_2_1 l Z a0 hw [] w_value_pr0 kk_w_value_pr0 c0_w_value_pr0 c1_w_value_pr0 w_SIOOBE_FORMATTER h0 n0 Z0 O0 V_w_value_pr0 S_SIOOBE_FORMATTER hr_SIOOBE) hZ (hw _ (List.mem_of_getElem? (i := 44) rfl)) (hw _ (List.mem_of_getElem? (i := 43) rfl)) (by decide) (by decide)) (g := (mkF m 12 #[.val (.ref pr0), .val (.int (1 : Int32))] [(.int (1 : Int32)), (.ref w_value_pr0)])) rfl (by rw [hml]; rfl) (argsL := [(.ref w_value_pr0), (.int (1 : Int32))]) (rest := []) (lenOf pd_6 rfl) rfl (by show 2 * 0 + _ ≤ _; exact Nat.le_of_eq rfl) (hb hby d5_12) (fun _ _ => ⟨rfl, e2, (by decide : 0 + 0 ≤ _), (by decide : 0 + 0 ≤ _)⟩)
  dsimp only [Pt.U, Pt.locs, Pt.cells, Pt.slots] at X3 l3 y3 z3 st3 hQ3
  subst l3 y3 z3
  obtain ⟨rfl, N3q, eq3⟩ := hQ3
  have N3 := Fr.app N1 N3q
  obtain ⟨fs, hr, hrun, hended, hW, hsame⟩ := X3.leave (v := some (.int (nar .char (nar .char ((c1_w_value_pr0 &&& (255 : Int32)).toUInt32.toUInt16.toUInt32.toInt32))))) (fun h => by rw [Bd.returns] at h; cases h)
  refine ⟨_, _, pre0 _ ?_, hrun, hended, _, _, rfl, ?_, ⟨_, rfl⟩, hW, hsame.mono (by decide) (by decide)⟩
  · show Steps p.tables e below (s₁.setTop (mkF m 0 #[.val (.ref pr0), .val (.int (1 : Int32))] [])) _
    refine XS.aloadN X0.here hx rfl (hb hby d5_0) rfl rfl ?_
    show Steps p.tables e below (s₁.setTop (mkF m 1 #[.val (.ref pr0), .val (.int (1 : Int32))] [(.ref pr0)])) _
    refine st1.trans ?_
    show Steps p.tables e below (T1.setTop (mkF m 4 #[.val (.ref pr0), .val (.int (1 : Int32))] [(.int (1 : Int32))])) _
    refine XS.ifNo X1.here hx rfl (hb hby d5_4) rfl ((if0 _ _).trans (feq (by decide : ¬ ((1 : Int32) = (0 : Int32)))).1) ?_
    show Steps p.tables e below (T1.setTop (mkF m 7 #[.val (.ref pr0), .val (.int (1 : Int32))] [])) _
    refine XS.aloadN X1.here hx rfl (hb hby d5_7) rfl rfl ?_
    show Steps p.tables e below (T1.setTop (mkF m 8 #[.val (.ref pr0), .val (.int (1 : Int32))] [(.ref pr0)])) _
    refine st2 _ ?_
    show Steps p.tables e below (T2.setTop (mkF m 11 #[.val (.ref pr0), .val (.int (1 : Int32))] [(.ref w_value_pr0)])) _
    refine XS.iloadN X2.here hx rfl (hb hby d5_11) rfl ?_
    show Steps p.tables e below (T2.setTop (mkF m 12 #[.val (.ref pr0), .val (.int (1 : Int32))] [(.int (1 : Int32)), (.ref w_value_pr0)])) _
    refine st3 _ ?_
    show Steps p.tables e below (T3.setTop (mkF m 15 #[.val (.ref pr0), .val (.int (1 : Int32))] [(.int (nar .char ((c1_w_value_pr0 &&& (255 : Int32)).toUInt32.toUInt16.toUInt32.toInt32)))])) _
    exact retN X3 hx (t := .char) Bd.returns (by simp) (hb hby d5_15) hr
  · show Q5_2_1 Z pr0 w_value_pr0 kk_w_value_pr0 c0_w_value_pr0 c1_w_value_pr0 w_COMPACT_STRINGS w_coder_pr0 w_SIOOBE_FORMATTER h0 n0 _ T3.heap _
    rw [eq3]
    exact ⟨rfl, N3, rfl⟩
theorem pd_3 : parseMethodDescriptor "()B" = some ⟨[], some .byte⟩ := by decide +kernel
theorem d3_0 : decode jdk_42_method_54_code 0 = .ok (.aload_n 0, 1) := by decide +kernel
theorem d3_1 : decode jdk_42_method_54_code 1 = .ok (.getfield 9, 3) := by decide +kernel
theorem d3_4 : decode jdk_42_method_54_code 4 = .ok (.arraylength, 1) := by decide +kernel
theorem d3_5 : decode jdk_42_method_54_code 5 = .ok (.aload_n 0, 1) := by decide +kernel
theorem d3_6 : decode jdk_42_method_54_code 6 = .ok (.invokevirtual 335, 3) := by decide +kernel
theorem d3_9 : decode jdk_42_method_54_code 9 = .ok (.ishr, 1) := by decide +kernel
theorem d3_10 : decode jdk_42_method_54_code 10 = .ok (.ireturn, 1) := by decide +kernel
theorem pn_3 : plainName "java/lang/String" = true := by first | (simp [plainName, overriddenIn]; done) | decide +kernel
theorem ef_3 (m : MethodId) (pr0 : Addr) : entryFrame m #[(.ref pr0)] 1 = mkF m 0 #[.val (.ref pr0)] [] := by first | (simp [entryFrame, mkF, argsToLocals, Value.category]; done) | rfl
def Q3_1 (Z : State) (pr0 : Addr) (w_value_pr0 : Addr) (kk_w_value_pr0 : ClassId) (c0_w_value_pr0 : Int32) (w_COMPACT_STRINGS : Int32) (w_coder_pr0 : Int32) (h0 : Heap) (n0 : Nat) (v : Option Value) (h : Heap) (L : List Loc) : Prop := v = some (.int ((1 : Int32) >>> ((nar .byte w_coder_pr0) &&& 31))) ∧ Fr n0 L ∧ h = h0
set_option maxRecDepth 65536 in
set_option maxHeartbeats 40000000 in
theorem rm3_1 (l : Launch) (Z : State) (a0 : Array Value) (hw : ∀ d ∈ tables_1, d.before a0 Z = true) (ws : List Jvm.Cond) (pr0 : Addr) (w_value_pr0 : Addr) (kk_w_value_pr0 : ClassId) (c0_w_value_pr0 : Int32) (w_COMPACT_STRINGS : Int32) (w_coder_pr0 : Int32) (h0 : Heap) (n0 : Nat) (Z0 : n0 ≤ h0.size) (O0 : Old Z n0 h0) (F_value_pr0 : Fld Z h0 pr0 "java/lang/String" "value" "[B" (.ref w_value_pr0)) (V_w_value_pr0 : Arv Z h0 w_value_pr0 kk_w_value_pr0 .byte (1 : Int32) [(.int c0_w_value_pr0)] (.int (0 : Int32))) (S_COMPACT_STRINGS : Sta Z Z.heap "java/lang/String" "COMPACT_STRINGS" "Z" (.int w_COMPACT_STRINGS)) (F_coder_pr0 : Fld Z h0 pr0 "java/lang/String" "coder" "B" (.int w_coder_pr0)) (E_pr0 : Exa Z h0 pr0 "java/lang/String") (hq6_0 : ¬ (w_COMPACT_STRINGS = (0 : Int32))) :
    MetFree l (⟨"java/lang/String", "length", "()I"⟩ : MethodName) (head1 (Jvm.Cond.code (⟨"java/lang/String", "length", "()I"⟩ : MethodName) jdk_42_method_54_code 1 (some .int) :: ws) ({ frames := 1, cells := 0, slots := 0, locals := 13 } : Room)) (fun a U => a = #[(.ref pr0)] ∧ Z.Warmed39 U.vm ∧ U.heap = h0) (fun _ _ _ _ _ => True) (fun _ U o U' => ∃ v L, o = .returned v ∧ Q3_1 Z pr0 w_value_pr0 kk_w_value_pr0 c0_w_value_pr0 w_COMPACT_STRINGS w_coder_pr0 h0 n0 v U'.heap L ∧ FrameEnd U o U' L ({ frames := 1, cells := 0, slots := 0, locals := 13 } : Room).cells ({ frames := 1, cells := 0, slots := 0, locals := 13 } : Room).slots) := by
  refine MetFree.of_bodySF (plainFor_of_name pn_3) hisR ?_
  intro p e s m args below meth c s₁ Bd hml0 hP hK
  obtain ⟨rfl, hZ, hh⟩ := hP
  have hx := Bd.exec
  have hby := Bd.bytes
  have hml : c.maxLocals = 1 := hml0
  have hown : s.vm.findClass "java/lang/String" = some m.cls := findClass_of_methodNamed Bd.named
  have hnm := (name_of_methodNamed Bd.named Bd.method).1
  have X0 : Stand p l e ({ frames := 1, cells := 0, slots := 0, locals := 13 } : Room) s m #[(.ref pr0)] below meth c s₁ [] 0 0 := Stand.of_body Bd
  have e0 : s₁.heap = h0 := by rw [← hh, Bd.state]; rfl
  have N0 := Fr.nil n0
  have pre0 : ∀ t, Steps p.tables e below (s₁.setTop (mkF m 0 #[.val (.ref pr0)] [])) t → Steps p.tables e below (s₁.setTop (entryFrame m #[(.ref pr0)] 1)) t := fun t k => castTop (ef_3 m pr0) k
  obtain ⟨T1, X1, e1, st1⟩ := getF X0 hx hZ hown (host := "") (Or.inl (hw _ (List.mem_of_getElem? (i := 21) rfl))) Via.refl e0 F_value_pr0 (g := (mkF m 1 #[.val (.ref pr0)] [(.ref pr0)])) rfl rfl (hb hby d3_1)
  have V_c2 := V_w_value_pr0
  obtain ⟨c2, Arc2, qc2, Sc2, Nc2, Hc2, Gc2⟩ := V_c2
  obtain ⟨cq3, kq3, q3a, q3b, q3c⟩ := isOf hZ e1 E_pr0
  obtain ⟨_, _, ⟨T3, L3, k3, n3⟩, -, X3, ⟨Lc3, hQ3, l3, y3, z3⟩, st3⟩ := X1.virtualBack hx (y := (⟨"java/lang/String", "coder", "()B"⟩ : MethodName)) (z := (⟨"java/lang/String", "coder", "()B"⟩ : MethodName)) hown (mvT hZ (hw _ (List.mem_of_getElem? (i := 23) rfl))) (mvT hZ (hw _ (List.mem_of_getElem? (i := 24) rfl))) (notFace_of_selects (args := #[]) (mvT hZ (hw _ (List.mem_of_getElem? (i := 26) rfl)))) (mvT hZ (hw _ (List.mem_of_getElem? (i := 26) rfl))) (mvT hZ (hw _ (List.mem_of_getElem? (i := 25) rfl))) (by decide) (backOf (W := 1) (rm4 l Z a0 hw [] pr0 w_COMPACT_STRINGS w_coder_pr0 h0 n0 Z0 O0 S_COMPACT_STRINGS F_coder_pr0 hq6_0) hZ (hw _ (List.mem_of_getElem? (i := 27) rfl)) (hw _ (List.mem_of_getElem? (i := 19) rfl)) (by decide) (by decide)) q3a q3c (g := (mkF m 6 #[.val (.ref pr0)] [(.ref pr0), (.int (1 : Int32))])) rfl (by rw [hml]; rfl) (Steps.refl _) (argsL := []) (rest := [(.int (1 : Int32))]) (lenOf pd_3 rfl) rfl (by show 2 * 0 + _ ≤ _; exact Nat.le_of_eq rfl) (hb hby d3_6) (fun _ _ => ⟨rfl, e1, (by decide : 0 + 0 ≤ _), (by decide : 0 + 0 ≤ _)⟩)
  dsimp only [Pt.U, Pt.locs, Pt.cells, Pt.slots] at X3 l3 y3 z3 st3 hQ3
  subst l3 y3 z3
  obtain ⟨rfl, N3q, eq3⟩ := hQ3
  have N3 := Fr.app N0 N3q
  obtain ⟨fs, hr, hrun, hended, hW, hsame⟩ := X3.leave (v := some (.int ((1 : Int32) >>> ((nar .byte w_coder_pr0) &&& 31)))) (fun h => by rw [Bd.returns] at h; cases h)
  refine ⟨_, _, pre0 _ ?_, hrun, hended, _, _, rfl, ?_, ⟨_, rfl⟩, hW, hsame.mono (by decide) (by decide)⟩
  · show Steps p.tables e below (s₁.setTop (mkF m 0 #[.val (.ref pr0)] [])) _
    refine XS.aloadN X0.here hx rfl (hb hby d3_0) rfl rfl ?_
    show Steps p.tables e below (s₁.setTop (mkF m 1 #[.val (.ref pr0)] [(.ref pr0)])) _
    refine st1 _ ?_
    show Steps p.tables e below (T1.setTop (mkF m 4 #[.val (.ref pr0)] [(.ref w_value_pr0)])) _
    refine X1.arraylength hx (by rw [e1]; exact Arc2.1) (State.isArrayOf_alike hZ.alike Arc2.2.1) (g := (mkF m 4 #[.val (.ref pr0)] [(.ref w_value_pr0)])) rfl rfl (hb hby d3_4) _ ?_
    rw [len_of Sc2 Nc2]
    show Steps p.tables e below (T1.setTop (mkF m 5 #[.val (.ref pr0)] [(.int (1 : Int32))])) _
    refine XS.aloadN X1.here hx rfl (hb hby d3_5) rfl rfl ?_
    show Steps p.tables e below (T1.setTop (mkF m 6 #[.val (.ref pr0)] [(.ref pr0), (.int (1 : Int32))])) _
    refine st3.trans ?_
    show Steps p.tables e below (T3.setTop (mkF m 9 #[.val (.ref pr0)] [(.int (nar .byte w_coder_pr0)), (.int (1 : Int32))])) _
    refine XS.ishr X3.here hx rfl (hb hby d3_9) rfl ?_
    show Steps p.tables e below (T3.setTop (mkF m 10 #[.val (.ref pr0)] [(.int ((1 : Int32) >>> ((nar .byte w_coder_pr0) &&& 31)))])) _
    exact retI X3 hx Bd.returns (hb hby d3_10) hr
  · show Q3_1 Z pr0 w_value_pr0 kk_w_value_pr0 c0_w_value_pr0 w_COMPACT_STRINGS w_coder_pr0 h0 n0 _ T3.heap _
    rw [eq3]
    exact ⟨rfl, N3, rfl⟩
def Q3_2 (Z : State) (pr0 : Addr) (w_value_pr0 : Addr) (kk_w_value_pr0 : ClassId) (c0_w_value_pr0 : Int32) (c1_w_value_pr0 : Int32) (w_COMPACT_STRINGS : Int32) (w_coder_pr0 : Int32) (h0 : Heap) (n0 : Nat) (v : Option Value) (h : Heap) (L : List Loc) : Prop := v = some (.int ((2 : Int32) >>> ((nar .byte w_coder_pr0) &&& 31))) ∧ Fr n0 L ∧ h = h0
set_option maxRecDepth 65536 in
set_option maxHeartbeats 40000000 in
theorem rm3_2 (l : Launch) (Z : State) (a0 : Array Value) (hw : ∀ d ∈ tables_1, d.before a0 Z = true) (ws : List Jvm.Cond) (pr0 : Addr) (w_value_pr0 : Addr) (kk_w_value_pr0 : ClassId) (c0_w_value_pr0 : Int32) (c1_w_value_pr0 : Int32) (w_COMPACT_STRINGS : Int32) (w_coder_pr0 : Int32) (h0 : Heap) (n0 : Nat) (Z0 : n0 ≤ h0.size) (O0 : Old Z n0 h0) (F_value_pr0 : Fld Z h0 pr0 "java/lang/String" "value" "[B" (.ref w_value_pr0)) (V_w_value_pr0 : Arv Z h0 w_value_pr0 kk_w_value_pr0 .byte (2 : Int32) [(.int c0_w_value_pr0), (.int c1_w_value_pr0)] (.int (0 : Int32))) (S_COMPACT_STRINGS : Sta Z Z.heap "java/lang/String" "COMPACT_STRINGS" "Z" (.int w_COMPACT_STRINGS)) (F_coder_pr0 : Fld Z h0 pr0 "java/lang/String" "coder" "B" (.int w_coder_pr0)) (E_pr0 : Exa Z h0 pr0 "java/lang/String") (hq6_0 : ¬ (w_COMPACT_STRINGS = (0 : Int32))) :
    MetFree l (⟨"java/lang/String", "length", "()I"⟩ : MethodName) (head1 (Jvm.Cond.code (⟨"java/lang/String", "length", "()I"⟩ : MethodName) jdk_42_method_54_code 1 (some .int) :: ws) ({ frames := 1, cells := 0, slots := 0, locals := 13 } : Room)) (fun a U => a = #[(.ref pr0)] ∧ Z.Warmed39 U.vm ∧ U.heap = h0) (fun _ _ _ _ _ => True) (fun _ U o U' => ∃ v L, o = .returned v ∧ Q3_2 Z pr0 w_value_pr0 kk_w_value_pr0 c0_w_value_pr0 c1_w_value_pr0 w_COMPACT_STRINGS w_coder_pr0 h0 n0 v U'.heap L ∧ FrameEnd U o U' L ({ frames := 1, cells := 0, slots := 0, locals := 13 } : Room).cells ({ frames := 1, cells := 0, slots := 0, locals := 13 } : Room).slots) := by
  refine MetFree.of_bodySF (plainFor_of_name pn_3) hisR ?_
  intro p e s m args below meth c s₁ Bd hml0 hP hK
  obtain ⟨rfl, hZ, hh⟩ := hP
  have hx := Bd.exec
  have hby := Bd.bytes
  have hml : c.maxLocals = 1 := hml0
  have hown : s.vm.findClass "java/lang/String" = some m.cls := findClass_of_methodNamed Bd.named
  have hnm := (name_of_methodNamed Bd.named Bd.method).1
  have X0 : Stand p l e ({ frames := 1, cells := 0, slots := 0, locals := 13 } : Room) s m #[(.ref pr0)] below meth c s₁ [] 0 0 := Stand.of_body Bd
  have e0 : s₁.heap = h0 := by rw [← hh, Bd.state]; rfl
  have N0 := Fr.nil n0
  have pre0 : ∀ t, Steps p.tables e below (s₁.setTop (mkF m 0 #[.val (.ref pr0)] [])) t → Steps p.tables e below (s₁.setTop (entryFrame m #[(.ref pr0)] 1)) t := fun t k => castTop (ef_3 m pr0) k
  obtain ⟨T1, X1, e1, st1⟩ := getF X0 hx hZ hown (host := "") (Or.inl (hw _ (List.mem_of_getElem? (i := 21) rfl))) Via.refl e0 F_value_pr0 (g := (mkF m 1 #[.val (.ref pr0)] [(.ref pr0)])) rfl rfl (hb hby d3_1)
  have V_c2 := V_w_value_pr0
  obtain ⟨c2, Arc2, qc2, Sc2, Nc2, Hc2, Gc2⟩ := V_c2
  obtain ⟨cq3, kq3, q3a, q3b, q3c⟩ := isOf hZ e1 E_pr0
  obtain ⟨_, _, ⟨T3, L3, k3, n3⟩, -, X3, ⟨Lc3, hQ3, l3, y3, z3⟩, st3⟩ := X1.virtualBack hx (y := (⟨"java/lang/String", "coder", "()B"⟩ : MethodName)) (z := (⟨"java/lang/String", "coder", "()B"⟩ : MethodName)) hown (mvT hZ (hw _ (List.mem_of_getElem? (i := 23) rfl))) (mvT hZ (hw _ (List.mem_of_getElem? (i := 24) rfl))) (notFace_of_selects (args := #[]) (mvT hZ (hw _ (List.mem_of_getElem? (i := 26) rfl)))) (mvT hZ (hw _ (List.mem_of_getElem? (i := 26) rfl))) (mvT hZ (hw _ (List.mem_of_getElem? (i := 25) rfl))) (by decide) (backOf (W := 1) (rm4 l Z a0 hw [] pr0 w_COMPACT_STRINGS w_coder_pr0 h0 n0 Z0 O0 S_COMPACT_STRINGS F_coder_pr0 hq6_0) hZ (hw _ (List.mem_of_getElem? (i := 27) rfl)) (hw _ (List.mem_of_getElem? (i := 19) rfl)) (by decide) (by decide)) q3a q3c (g := (mkF m 6 #[.val (.ref pr0)] [(.ref pr0), (.int (2 : Int32))])) rfl (by rw [hml]; rfl) (Steps.refl _) (argsL := []) (rest := [(.int (2 : Int32))]) (lenOf pd_3 rfl) rfl (by show 2 * 0 + _ ≤ _; exact Nat.le_of_eq rfl) (hb hby d3_6) (fun _ _ => ⟨rfl, e1, (by decide : 0 + 0 ≤ _), (by decide : 0 + 0 ≤ _)⟩)
  dsimp only [Pt.U, Pt.locs, Pt.cells, Pt.slots] at X3 l3 y3 z3 st3 hQ3
  subst l3 y3 z3
  obtain ⟨rfl, N3q, eq3⟩ := hQ3
  have N3 := Fr.app N0 N3q
  obtain ⟨fs, hr, hrun, hended, hW, hsame⟩ := X3.leave (v := some (.int ((2 : Int32) >>> ((nar .byte w_coder_pr0) &&& 31)))) (fun h => by rw [Bd.returns] at h; cases h)
  refine ⟨_, _, pre0 _ ?_, hrun, hended, _, _, rfl, ?_, ⟨_, rfl⟩, hW, hsame.mono (by decide) (by decide)⟩
  · show Steps p.tables e below (s₁.setTop (mkF m 0 #[.val (.ref pr0)] [])) _
    refine XS.aloadN X0.here hx rfl (hb hby d3_0) rfl rfl ?_
    show Steps p.tables e below (s₁.setTop (mkF m 1 #[.val (.ref pr0)] [(.ref pr0)])) _
    refine st1 _ ?_
    show Steps p.tables e below (T1.setTop (mkF m 4 #[.val (.ref pr0)] [(.ref w_value_pr0)])) _
    refine X1.arraylength hx (by rw [e1]; exact Arc2.1) (State.isArrayOf_alike hZ.alike Arc2.2.1) (g := (mkF m 4 #[.val (.ref pr0)] [(.ref w_value_pr0)])) rfl rfl (hb hby d3_4) _ ?_
    rw [len_of Sc2 Nc2]
    show Steps p.tables e below (T1.setTop (mkF m 5 #[.val (.ref pr0)] [(.int (2 : Int32))])) _
    refine XS.aloadN X1.here hx rfl (hb hby d3_5) rfl rfl ?_
    show Steps p.tables e below (T1.setTop (mkF m 6 #[.val (.ref pr0)] [(.ref pr0), (.int (2 : Int32))])) _
    refine st3.trans ?_
    show Steps p.tables e below (T3.setTop (mkF m 9 #[.val (.ref pr0)] [(.int (nar .byte w_coder_pr0)), (.int (2 : Int32))])) _
    refine XS.ishr X3.here hx rfl (hb hby d3_9) rfl ?_
    show Steps p.tables e below (T3.setTop (mkF m 10 #[.val (.ref pr0)] [(.int ((2 : Int32) >>> ((nar .byte w_coder_pr0) &&& 31)))])) _
    exact retI X3 hx Bd.returns (hb hby d3_10) hr
  · show Q3_2 Z pr0 w_value_pr0 kk_w_value_pr0 c0_w_value_pr0 c1_w_value_pr0 w_COMPACT_STRINGS w_coder_pr0 h0 n0 _ T3.heap _
    rw [eq3]
    exact ⟨rfl, N3, rfl⟩
theorem d10_0 : decode prog_62_method_4_code 0 = .ok (.aload_n 0, 1) := by decide +kernel
theorem d10_1 : decode prog_62_method_4_code 1 = .ok (.getstatic 3, 3) := by decide +kernel
theorem d10_4 : decode prog_62_method_4_code 4 = .ok (.if_acmp .ne 7, 3) := by decide +kernel
theorem d10_7 : decode prog_62_method_4_code 7 = .ok (.iconst 1, 1) := by decide +kernel
theorem d10_8 : decode prog_62_method_4_code 8 = .ok (.goto 4, 3) := by decide +kernel
theorem d10_12 : decode prog_62_method_4_code 12 = .ok (.ireturn, 1) := by decide +kernel
theorem pn_10 : plainName "com/example/tyche/tyche/model/Relation" = true := by first | (simp [plainName, overriddenIn]; done) | decide +kernel
theorem ef_10 (m : MethodId) (pr0 : Addr) : entryFrame m #[(.ref pr0)] 1 = mkF m 0 #[.val (.ref pr0)] [] := by first | (simp [entryFrame, mkF, argsToLocals, Value.category]; done) | rfl
def Q10_t (Z : State) (pr0 : Addr) (w_LESS : Addr) (h0 : Heap) (n0 : Nat) (v : Option Value) (h : Heap) (L : List Loc) : Prop := v = some (.int (1 : Int32)) ∧ Fr n0 L ∧ h = h0
set_option maxRecDepth 65536 in
set_option maxHeartbeats 40000000 in
theorem rm10_t (l : Launch) (Z : State) (a0 : Array Value) (hw : ∀ d ∈ tables_1, d.before a0 Z = true) (ws : List Jvm.Cond) (pr0 : Addr) (w_LESS : Addr) (h0 : Heap) (n0 : Nat) (Z0 : n0 ≤ h0.size) (O0 : Old Z n0 h0) (S_LESS : Sta Z Z.heap "com/example/tyche/tyche/model/Relation" "LESS" "Lcom/example/tyche/tyche/model/Relation;" (.ref w_LESS)) (hc4_0 : pr0 = w_LESS) :
    MetFree l (⟨"com/example/tyche/tyche/model/Relation", "isStrict", "()Z"⟩ : MethodName) (head1 (Jvm.Cond.code (⟨"com/example/tyche/tyche/model/Relation", "isStrict", "()Z"⟩ : MethodName) prog_62_method_4_code 1 (some .boolean) :: ws) ({ frames := 0, cells := 0, slots := 0, locals := 0 } : Room)) (fun a U => a = #[(.ref pr0)] ∧ Z.Warmed39 U.vm ∧ U.heap = h0) (fun _ _ _ _ _ => True) (fun _ U o U' => ∃ v L, o = .returned v ∧ Q10_t Z pr0 w_LESS h0 n0 v U'.heap L ∧ FrameEnd U o U' L ({ frames := 0, cells := 0, slots := 0, locals := 0 } : Room).cells ({ frames := 0, cells := 0, slots := 0, locals := 0 } : Room).slots) := by
  refine MetFree.of_bodySF (plainFor_of_name pn_10) hisR ?_
  intro p e s m args below meth c s₁ Bd hml0 hP hK
  obtain ⟨rfl, hZ, hh⟩ := hP
  have hx := Bd.exec
  have hby := Bd.bytes
  have hml : c.maxLocals = 1 := hml0
  have hown : s.vm.findClass "com/example/tyche/tyche/model/Relation" = some m.cls := findClass_of_methodNamed Bd.named
  have hnm := (name_of_methodNamed Bd.named Bd.method).1
  have X0 : Stand p l e ({ frames := 0, cells := 0, slots := 0, locals := 0 } : Room) s m #[(.ref pr0)] below meth c s₁ [] 0 0 := Stand.of_body Bd
  have e0 : s₁.heap = h0 := by rw [← hh, Bd.state]; rfl
  have N0 := Fr.nil n0
  have pre0 : ∀ t, Steps p.tables e below (s₁.setTop (mkF m 0 #[.val (.ref pr0)] [])) t → Steps p.tables e below (s₁.setTop (entryFrame m #[(.ref pr0)] 1)) t := fun t k => castTop (ef_10 m pr0) k
  obtain ⟨T1, X1, e1, st1⟩ := getS2 X0 hx hZ hown (host := "") (Or.inl (hw _ (List.mem_of_getElem? (i := 58) rfl))) Via.refl e0 (S_LESS.ext O0.2) (g := (mkF m 1 #[.val (.ref pr0)] [(.ref pr0)])) rfl (hb hby d10_1)
  obtain ⟨fs, hr, hrun, hended, hW, hsame⟩ := X1.leave (v := some (.int (1 : Int32))) (fun h => by rw [Bd.returns] at h; cases h)
  refine ⟨_, _, pre0 _ ?_, hrun, hended, _, _, rfl, ?_, ⟨_, rfl⟩, hW, hsame.mono (by decide) (by decide)⟩
  · show Steps p.tables e below (s₁.setTop (mkF m 0 #[.val (.ref pr0)] [])) _
    refine XS.aloadN X0.here hx rfl (hb hby d10_0) rfl rfl ?_
    show Steps p.tables e below (s₁.setTop (mkF m 1 #[.val (.ref pr0)] [(.ref pr0)])) _
    refine st1 _ ?_
    show Steps p.tables e below (T1.setTop (mkF m 4 #[.val (.ref pr0)] [(.ref w_LESS), (.ref pr0)])) _
    refine Jvm.RoadKit.acmp (g := (mkF m 4 #[.val (.ref pr0)] [(.ref w_LESS), (.ref pr0)])) X1 hx rfl rfl rfl (pc0 := 4) (pc' := 7) (same := true) rfl (hb hby d10_4) rfl (decide_eq_true (congrArg Value.ref hc4_0)) (by decide) (by decide) ?_
    show Steps p.tables e below (T1.setTop (mkF m 7 #[.val (.ref pr0)] [])) _
    refine XS.iconst X1.here hx rfl (hb hby d10_7) ?_
    show Steps p.tables e below (T1.setTop (mkF m 8 #[.val (.ref pr0)] [(.int (1 : Int32))])) _
    refine XS.goto X1.here hx rfl (pc0 := 8) (pc' := 12) rfl (hb hby d10_8) (by decide) (by decide) ?_
    show Steps p.tables e below (T1.setTop (mkF m 12 #[.val (.ref pr0)] [(.int (1 : Int32))])) _
    exact retN X1 hx (t := .boolean) Bd.returns (by simp) (hb hby d10_12) hr
  · show Q10_t Z pr0 w_LESS h0 n0 _ T1.heap _
    rw [e1]
    exact ⟨rfl, N0, rfl⟩
theorem d10_11 : decode prog_62_method_4_code 11 = .ok (.iconst 0, 1) := by decide +kernel
def Q10_f (Z : State) (pr0 : Addr) (w_LESS : Addr) (h0 : Heap) (n0 : Nat) (v : Option Value) (h : Heap) (L : List Loc) : Prop := v = some (.int (0 : Int32)) ∧ Fr n0 L ∧ h = h0
set_option maxRecDepth 65536 in
set_option maxHeartbeats 40000000 in
theorem rm10_f (l : Launch) (Z : State) (a0 : Array Value) (hw : ∀ d ∈ tables_1, d.before a0 Z = true) (ws : List Jvm.Cond) (pr0 : Addr) (w_LESS : Addr) (h0 : Heap) (n0 : Nat) (Z0 : n0 ≤ h0.size) (O0 : Old Z n0 h0) (S_LESS : Sta Z Z.heap "com/example/tyche/tyche/model/Relation" "LESS" "Lcom/example/tyche/tyche/model/Relation;" (.ref w_LESS)) (hc4_0 : ¬ (pr0 = w_LESS)) :
    MetFree l (⟨"com/example/tyche/tyche/model/Relation", "isStrict", "()Z"⟩ : MethodName) (head1 (Jvm.Cond.code (⟨"com/example/tyche/tyche/model/Relation", "isStrict", "()Z"⟩ : MethodName) prog_62_method_4_code 1 (some .boolean) :: ws) ({ frames := 0, cells := 0, slots := 0, locals := 0 } : Room)) (fun a U => a = #[(.ref pr0)] ∧ Z.Warmed39 U.vm ∧ U.heap = h0) (fun _ _ _ _ _ => True) (fun _ U o U' => ∃ v L, o = .returned v ∧ Q10_f Z pr0 w_LESS h0 n0 v U'.heap L ∧ FrameEnd U o U' L ({ frames := 0, cells := 0, slots := 0, locals := 0 } : Room).cells ({ frames := 0, cells := 0, slots := 0, locals := 0 } : Room).slots) := by
  refine MetFree.of_bodySF (plainFor_of_name pn_10) hisR ?_
  intro p e s m args below meth c s₁ Bd hml0 hP hK
  obtain ⟨rfl, hZ, hh⟩ := hP
  have hx := Bd.exec
  have hby := Bd.bytes
  have hml : c.maxLocals = 1 := hml0
  have hown : s.vm.findClass "com/example/tyche/tyche/model/Relation" = some m.cls := findClass_of_methodNamed Bd.named
  have hnm := (name_of_methodNamed Bd.named Bd.method).1
  have X0 : Stand p l e ({ frames := 0, cells := 0, slots := 0, locals := 0 } : Room) s m #[(.ref pr0)] below meth c s₁ [] 0 0 := Stand.of_body Bd
  have e0 : s₁.heap = h0 := by rw [← hh, Bd.state]; rfl
  have N0 := Fr.nil n0
  have pre0 : ∀ t, Steps p.tables e below (s₁.setTop (mkF m 0 #[.val (.ref pr0)] [])) t → Steps p.tables e below (s₁.setTop (entryFrame m #[(.ref pr0)] 1)) t := fun t k => castTop (ef_10 m pr0) k
  obtain ⟨T1, X1, e1, st1⟩ := getS2 X0 hx hZ hown (host := "") (Or.inl (hw _ (List.mem_of_getElem? (i := 58) rfl))) Via.refl e0 (S_LESS.ext O0.2) (g := (mkF m 1 #[.val (.ref pr0)] [(.ref pr0)])) rfl (hb hby d10_1)
  obtain ⟨fs, hr, hrun, hended, hW, hsame⟩ := X1.leave (v := some (.int (0 : Int32))) (fun h => by rw [Bd.returns] at h; cases h)
  refine ⟨_, _, pre0 _ ?_, hrun, hended, _, _, rfl, ?_, ⟨_, rfl⟩, hW, hsame.mono (by decide) (by decide)⟩
  · show Steps p.tables e below (s₁.setTop (mkF m 0 #[.val (.ref pr0)] [])) _
    refine XS.aloadN X0.here hx rfl (hb hby d10_0) rfl rfl ?_
    show Steps p.tables e below (s₁.setTop (mkF m 1 #[.val (.ref pr0)] [(.ref pr0)])) _
    refine st1 _ ?_
    show Steps p.tables e below (T1.setTop (mkF m 4 #[.val (.ref pr0)] [(.ref w_LESS), (.ref pr0)])) _
    refine Jvm.RoadKit.acmp (g := (mkF m 4 #[.val (.ref pr0)] [(.ref w_LESS), (.ref pr0)])) X1 hx rfl rfl rfl (pc0 := 4) (pc' := 11) (same := false) rfl (hb hby d10_4) rfl (decide_eq_false fun q => hc4_0 (Value.ref.inj q)) (by decide) (by decide) ?_
    show Steps p.tables e below (T1.setTop (mkF m 11 #[.val (.ref pr0)] [])) _
    refine XS.iconst X1.here hx rfl (hb hby d10_11) ?_
    show Steps p.tables e below (T1.setTop (mkF m 12 #[.val (.ref pr0)] [(.int (0 : Int32))])) _
    exact retN X1 hx (t := .boolean) Bd.returns (by simp) (hb hby d10_12) hr
  · show Q10_f Z pr0 w_LESS h0 n0 _ T1.heap _
    rw [e1]
    exact ⟨rfl, N0, rfl⟩
theorem pd_0 : parseMethodDescriptor "(I)Lcom/example/tyche/tyche/model/Relation;" = some ⟨[.int], some (.object "com/example/tyche/tyche/model/Relation")⟩ := by decide +kernel
theorem pd_1 : parseMethodDescriptor "()Ljava/lang/String;" = some ⟨[], some (.object "java/lang/String")⟩ := by decide +kernel
theorem pd_2 : parseMethodDescriptor "()I" = some ⟨[], some .int⟩ := by decide +kernel
theorem pd_4 : parseMethodDescriptor "(I)C" = some ⟨[.int], some .char⟩ := by decide +kernel
theorem pn_0 : plainName "com/example/tyche/tyche/model/RelationIsStrictPinLaw" = true := by first | (simp [plainName, overriddenIn]; done) | decide +kernel
theorem ef_0 (m : MethodId) (pi1 : Int32) : entryFrame m #[(.int pi1)] maxLocals = mkF m 0 #[.val (.int pi1), .unset, .unset, .unset, .unset] [] := by first | (simp [entryFrame, mkF, argsToLocals, Value.category, maxLocals]; done) | rfl
def Q0 (v : Option Value) (L : List Loc) (n0 : Nat) : Prop := v = some (.int (1 : Int32)) ∧ Fr n0 L
set_option maxRecDepth 65536 in
set_option maxHeartbeats 40000000 in
theorem rm0_t (l : Launch) (Z : State) (a0 : Array Value) (hw : ∀ d ∈ tables_1, d.before a0 Z = true) (ws : List Jvm.Cond) (pi1 : Int32) (w_LESS : Addr) (w_EQUAL : Addr) (w_LESS_OR_EQUAL : Addr) (w_LESS_symbol : Addr) (w_LESS_symbol_value : Addr) (kk_w_LESS_symbol_value : ClassId) (w_EQUAL_symbol : Addr) (w_EQUAL_symbol_value : Addr) (kk_w_EQUAL_symbol_value : ClassId) (w_LESS_OR_EQUAL_symbol : Addr) (w_LESS_OR_EQUAL_symbol_value : Addr) (kk_w_LESS_OR_EQUAL_symbol_value : ClassId) (w_COMPACT_STRINGS : Int32) (w_SIOOBE_FORMATTER : Value) (h0 : Heap) (n0 : Nat) (Z0 : n0 ≤ h0.size) (O0 : Old Z n0 h0) (S_LESS : Sta Z Z.heap "com/example/tyche/tyche/model/Relation" "LESS" "Lcom/example/tyche/tyche/model/Relation;" (.ref w_LESS)) (S_EQUAL : Sta Z Z.heap "com/example/tyche/tyche/model/Relation" "EQUAL" "Lcom/example/tyche/tyche/model/Relation;" (.ref w_EQUAL)) (S_LESS_OR_EQUAL : Sta Z Z.heap "com/example/tyche/tyche/model/Relation" "LESS_OR_EQUAL" "Lcom/example/tyche/tyche/model/Relation;" (.ref w_LESS_OR_EQUAL)) (E_w_LESS : Exa Z Z.heap w_LESS "com/example/tyche/tyche/model/Relation") (F_symbol_w_LESS : Fld Z Z.heap w_LESS "com/example/tyche/tyche/model/Relation" "symbol" "Ljava/lang/String;" (.ref w_LESS_symbol)) (E_w_LESS_symbol : Exa Z Z.heap w_LESS_symbol "java/lang/String") (F_value_w_LESS_symbol : Fld Z Z.heap w_LESS_symbol "java/lang/String" "value" "[B" (.ref w_LESS_symbol_value)) (F_coder_w_LESS_symbol : Fld Z Z.heap w_LESS_symbol "java/lang/String" "coder" "B" (.int (0 : Int32))) (V_w_LESS_symbol_value : Arv Z Z.heap w_LESS_symbol_value kk_w_LESS_symbol_value .byte (1 : Int32) [(.int (60 : Int32))] (.int (0 : Int32))) (E_w_EQUAL : Exa Z Z.heap w_EQUAL "com/example/tyche/tyche/model/Relation") (F_symbol_w_EQUAL : Fld Z Z.heap w_EQUAL "com/example/tyche/tyche/model/Relation" "symbol" "Ljava/lang/String;" (.ref w_EQUAL_symbol)) (E_w_EQUAL_symbol : Exa Z Z.heap w_EQUAL_symbol "java/lang/String") (F_value_w_EQUAL_symbol : Fld Z Z.heap w_EQUAL_symbol "java/lang/String" "value" "[B" (.ref w_EQUAL_symbol_value)) (F_coder_w_EQUAL_symbol : Fld Z Z.heap w_EQUAL_symbol "java/lang/String" "coder" "B" (.int (0 : Int32))) (V_w_EQUAL_symbol_value : Arv Z Z.heap w_EQUAL_symbol_value kk_w_EQUAL_symbol_value .byte (1 : Int32) [(.int (61 : Int32))] (.int (0 : Int32))) (E_w_LESS_OR_EQUAL : Exa Z Z.heap w_LESS_OR_EQUAL "com/example/tyche/tyche/model/Relation") (F_symbol_w_LESS_OR_EQUAL : Fld Z Z.heap w_LESS_OR_EQUAL "com/example/tyche/tyche/model/Relation" "symbol" "Ljava/lang/String;" (.ref w_LESS_OR_EQUAL_symbol)) (E_w_LESS_OR_EQUAL_symbol : Exa Z Z.heap w_LESS_OR_EQUAL_symbol "java/lang/String") (F_value_w_LESS_OR_EQUAL_symbol : Fld Z Z.heap w_LESS_OR_EQUAL_symbol "java/lang/String" "value" "[B" (.ref w_LESS_OR_EQUAL_symbol_value)) (F_coder_w_LESS_OR_EQUAL_symbol : Fld Z Z.heap w_LESS_OR_EQUAL_symbol "java/lang/String" "coder" "B" (.int (0 : Int32))) (V_w_LESS_OR_EQUAL_symbol_value : Arv Z Z.heap w_LESS_OR_EQUAL_symbol_value kk_w_LESS_OR_EQUAL_symbol_value .byte (2 : Int32) [(.int (60 : Int32)), (.int (61 : Int32))] (.int (0 : Int32))) (S_COMPACT_STRINGS : Sta Z Z.heap "java/lang/String" "COMPACT_STRINGS" "Z" (.int w_COMPACT_STRINGS)) (hCS : ¬ (w_COMPACT_STRINGS = (0 : Int32))) (hne1 : w_EQUAL ≠ w_LESS) (hne2 : w_LESS_OR_EQUAL ≠ w_LESS) (S_SIOOBE_FORMATTER : Sta Z Z.heap "jdk/internal/util/Preconditions" "SIOOBE_FORMATTER" "Ljava/util/function/BiFunction;" w_SIOOBE_FORMATTER) (hr_SIOOBE : w_SIOOBE_FORMATTER.isRef = true) (hc1_0 : ((pi1 &&& (2147483647 : Int32)) % (3 : Int32)) = (0 : Int32)) :
    MetFree l x (head1 (Jvm.Cond.code x code maxLocals ret :: ws) room_1) (fun a U => a = #[(.int pi1)] ∧ Z.Warmed39 U.vm ∧ U.heap = h0) (fun _ _ _ _ _ => True) (fun _ U o U' => ∃ v L, o = .returned v ∧ Q0 v L n0 ∧ FrameEnd U o U' L room_1.cells room_1.slots) := by
  refine MetFree.of_bodySF (plainFor_of_name pn_0) hisR ?_
  intro p e s m args below meth c s₁ Bd hml0 hP hK
  obtain ⟨rfl, hZ, hh⟩ := hP
  have hx := Bd.exec
  have hby := Bd.bytes
  have hml : c.maxLocals = 5 := hml0
  have hown : s.vm.findClass "com/example/tyche/tyche/model/RelationIsStrictPinLaw" = some m.cls := findClass_of_methodNamed Bd.named
  have hnm := (name_of_methodNamed Bd.named Bd.method).1
  have X0 : Stand p l e room_1 s m #[(.int pi1)] below meth c s₁ [] 0 0 := Stand.of_body Bd
  have e0 : s₁.heap = h0 := by rw [← hh, Bd.state]; rfl
  have N0 := Fr.nil n0
  have pre0 : ∀ t, Steps p.tables e below (s₁.setTop (mkF m 0 #[.val (.int pi1), .unset, .unset, .unset, .unset] [])) t → Steps p.tables e below (s₁.setTop (entryFrame m #[(.int pi1)] maxLocals)) t := fun t k => castTop (ef_0 m pi1) k
  obtain ⟨_, _, ⟨T1, L1, k1, n1⟩, -, X1, ⟨Lc1, hQ1, l1, y1, z1⟩, st1⟩ := Jvm.LawKit.callS X0 hx (y := (⟨"com/example/tyche/tyche/model/RelationIsStrictPinLaw", "pick", "(I)Lcom/example/tyche/tyche/model/Relation;"⟩ : MethodName)) hown (mvT hZ (hw _ (List.mem_of_getElem? (i := 0) rfl))) (mvT hZ (hw _ (List.mem_of_getElem? (i := 1) rfl))) (mvT hZ (hw _ (List.mem_of_getElem? (i := 2) rfl))) (mvT hZ (hw _ (List.mem_of_getElem? (i := 3) rfl))) (by decide) (backOf (W := 0) (rm1_t l Z a0 hw [] pi1 w_LESS h0 n0 Z0 O0 S_LESS hc1_0) hZ (hw _ (List.mem_of_getElem? (i := 3) rfl)) (hw _ (List.mem_of_getElem? (i := 2) rfl)) (by decide) (by decide)) (g := (mkF m 1 #[.val (.int pi1), .unset, .unset, .unset, .unset] [(.int pi1)])) rfl (by rw [hml]; rfl) (argsL := [(.int pi1)]) (rest := []) (lenOf pd_0 rfl) rfl (by show 2 * 0 + _ ≤ _; exact Nat.le_of_eq rfl) (hb hby at_1) (fun _ _ => ⟨rfl, e0, (by decide : 0 + 0 ≤ _), (by decide : 0 + 0 ≤ _)⟩)
  dsimp only [Pt.U, Pt.locs, Pt.cells, Pt.slots] at X1 l1 y1 z1 st1 hQ1
  subst l1 y1 z1
  obtain ⟨rfl, N1q, eq1⟩ := hQ1
  have N1 := Fr.app N0 N1q
  obtain ⟨cq2, kq2, q2a, q2b, q2c⟩ := isOf hZ eq1 (E_w_LESS.ext O0.2)
  obtain ⟨_, _, ⟨T2, L2, k2, n2⟩, -, X2, ⟨Lc2, hQ2, l2, y2, z2⟩, st2⟩ := X1.virtualBack hx (y := (⟨"com/example/tyche/tyche/model/Relation", "toString", "()Ljava/lang/String;"⟩ : MethodName)) (z := (⟨"com/example/tyche/tyche/model/Relation", "toString", "()Ljava/lang/String;"⟩ : MethodName)) hown (mvT hZ (hw _ (List.mem_of_getElem? (i := 8) rfl))) (mvT hZ (hw _ (List.mem_of_getElem? (i := 9) rfl))) (notFace_of_selects (args := #[]) (mvT hZ (hw _ (List.mem_of_getElem? (i := 11) rfl)))) (mvT hZ (hw _ (List.mem_of_getElem? (i := 11) rfl))) (mvT hZ (hw _ (List.mem_of_getElem? (i := 10) rfl))) (by decide) (backOf (W := 0) (rm2 l Z a0 hw [] w_LESS w_LESS_symbol h0 n0 Z0 O0 (F_symbol_w_LESS.ext O0.2)) hZ (hw _ (List.mem_of_getElem? (i := 12) rfl)) (hw _ (List.mem_of_getElem? (i := 6) rfl)) (by decide) (by decide)) q2a q2c (g := (mkF m 6 #[.val (.int pi1), .val (.ref w_LESS), .unset, .unset, .unset] [(.ref w_LESS)])) rfl (by rw [hml]; rfl) (Steps.refl _) (argsL := []) (rest := []) (lenOf pd_1 rfl) rfl (by show 2 * 0 + _ ≤ _; exact Nat.le_of_eq rfl) (hb hby at_6) (fun _ _ => ⟨rfl, eq1, (by decide : 0 + 0 ≤ _), (by decide : 0 + 0 ≤ _)⟩)
  dsimp only [Pt.U, Pt.locs, Pt.cells, Pt.slots] at X2 l2 y2 z2 st2 hQ2
  subst l2 y2 z2
  obtain ⟨rfl, N2q, eq2⟩ := hQ2
  have N2 := Fr.app N1 N2q
  obtain ⟨cq3, kq3, q3a, q3b, q3c⟩ := isOf hZ eq2 (E_w_LESS_symbol.ext O0.2)
  obtain ⟨_, _, ⟨T3, L3, k3, n3⟩, -, X3, ⟨Lc3, hQ3, l3, y3, z3⟩, st3⟩ := X2.virtualBack hx (y := (⟨"java/lang/String", "length", "()I"⟩ : MethodName)) (z := (⟨"java/lang/String", "length", "()I"⟩ : MethodName)) hown (mvT hZ (hw _ (List.mem_of_getElem? (i := 15) rfl))) (mvT hZ (hw _ (List.mem_of_getElem? (i := 16) rfl))) (notFace_of_selects (args := #[]) (mvT hZ (hw _ (List.mem_of_getElem? (i := 18) rfl)))) (mvT hZ (hw _ (List.mem_of_getElem? (i := 18) rfl))) (mvT hZ (hw _ (List.mem_of_getElem? (i := 17) rfl))) (by decide) (backOf (W := 0) (rm3_1 l Z a0 hw [] w_LESS_symbol w_LESS_symbol_value kk_w_LESS_symbol_value (60 : Int32) w_COMPACT_STRINGS (0 : Int32) h0 n0 Z0 O0 (F_value_w_LESS_symbol.ext O0.2) (V_w_LESS_symbol_value.ext O0.2) S_COMPACT_STRINGS (F_coder_w_LESS_symbol.ext O0.2) (E_w_LESS_symbol.ext O0.2) hCS) hZ (hw _ (List.mem_of_getElem? (i := 20) rfl)) (hw _ (List.mem_of_getElem? (i := 19) rfl)) (by decide) (by decide)) q3a q3c (g := (mkF m 11 #[.val (.int pi1), .val (.ref w_LESS), .val (.ref w_LESS_symbol), .unset, .unset] [(.ref w_LESS_symbol)])) rfl (by rw [hml]; rfl) (Steps.refl _) (argsL := []) (rest := []) (lenOf pd_2 rfl) rfl (by show 2 * 0 + _ ≤ _; exact Nat.le_of_eq rfl) (hb hby at_11) (fun _ _ => ⟨rfl, eq2, (by decide : 0 + 0 ≤ _), (by decide : 0 + 0 ≤ _)⟩)
  dsimp only [Pt.U, Pt.locs, Pt.cells, Pt.slots] at X3 l3 y3 z3 st3 hQ3
  subst l3 y3 z3
  obtain ⟨rfl, N3q, eq3⟩ := hQ3
  have N3 := Fr.app N2 N3q
  obtain ⟨cq4, kq4, q4a, q4b, q4c⟩ := isOf hZ eq3 (E_w_LESS_symbol.ext O0.2)
  obtain ⟨_, _, ⟨T4, L4, k4, n4⟩, -, X4, ⟨Lc4, hQ4, l4, y4, z4⟩, st4⟩ := X3.virtualBack hx (y := (⟨"java/lang/String", "charAt", "(I)C"⟩ : MethodName)) (z := (⟨"java/lang/String", "charAt", "(I)C"⟩ : MethodName)) hown (mvT hZ (hw _ (List.mem_of_getElem? (i := 31) rfl))) (mvT hZ (hw _ (List.mem_of_getElem? (i := 32) rfl))) (notFace_of_selects (args := #[]) (mvT hZ (hw _ (List.mem_of_getElem? (i := 34) rfl)))) (mvT hZ (hw _ (List.mem_of_getElem? (i := 34) rfl))) (mvT hZ (hw _ (List.mem_of_getElem? (i := 33) rfl))) (by decide) (backOf (W := 0) (rm5_1_0 l Z a0 hw [] w_LESS_symbol w_LESS_symbol_value kk_w_LESS_symbol_value (60 : Int32) w_COMPACT_STRINGS (0 : Int32) w_SIOOBE_FORMATTER h0 n0 Z0 O0 (F_value_w_LESS_symbol.ext O0.2) (V_w_LESS_symbol_value.ext O0.2) S_COMPACT_STRINGS (F_coder_w_LESS_symbol.ext O0.2) (E_w_LESS_symbol.ext O0.2) S_SIOOBE_FORMATTER hr_SIOOBE hCS (by decide)) hZ (hw _ (List.mem_of_getElem? (i := 35) rfl)) (hw _ (List.mem_of_getElem? (i := 19) rfl)) (by decide) (by decide)) q4a q4c (g := (mkF m 24 #[.val (.int pi1), .val (.ref w_LESS), .val (.ref w_LESS_symbol), .val (.int (1 : Int32)), .val (.int (0 : Int32))] [(.int (0 : Int32)), (.ref w_LESS_symbol)])) rfl (by rw [hml]; rfl) (Steps.refl _) (argsL := [(.int (0 : Int32))]) (rest := []) (lenOf pd_4 rfl) rfl (by show 2 * 0 + _ ≤ _; exact Nat.le_of_eq rfl) (hb hby at_24) (fun _ _ => ⟨rfl, eq3, (by decide : 0 + 0 ≤ _), (by decide : 0 + 0 ≤ _)⟩)
  dsimp only [Pt.U, Pt.locs, Pt.cells, Pt.slots] at X4 l4 y4 z4 st4 hQ4
  subst l4 y4 z4
  obtain ⟨rfl, N4q, eq4⟩ := hQ4
  have N4 := Fr.app N3 N4q
  obtain ⟨cq5, kq5, q5a, q5b, q5c⟩ := isOf hZ eq4 (E_w_LESS.ext O0.2)
  obtain ⟨_, _, ⟨T5, L5, k5, n5⟩, -, X5, ⟨Lc5, hQ5, l5, y5, z5⟩, st5⟩ := X4.virtualBack hx (y := (⟨"com/example/tyche/tyche/model/Relation", "isStrict", "()Z"⟩ : MethodName)) (z := (⟨"com/example/tyche/tyche/model/Relation", "isStrict", "()Z"⟩ : MethodName)) hown (mvT hZ (hw _ (List.mem_of_getElem? (i := 53) rfl))) (mvT hZ (hw _ (List.mem_of_getElem? (i := 54) rfl))) (notFace_of_selects (args := #[]) (mvT hZ (hw _ (List.mem_of_getElem? (i := 56) rfl)))) (mvT hZ (hw _ (List.mem_of_getElem? (i := 56) rfl))) (mvT hZ (hw _ (List.mem_of_getElem? (i := 55) rfl))) (by decide) (backOf (W := 0) (rm10_t l Z a0 hw [] w_LESS w_LESS h0 n0 Z0 O0 S_LESS rfl) hZ (hw _ (List.mem_of_getElem? (i := 57) rfl)) (hw _ (List.mem_of_getElem? (i := 6) rfl)) (by decide) (by decide)) q5a q5c (g := (mkF m 61 #[.val (.int pi1), .val (.ref w_LESS), .val (.ref w_LESS_symbol), .val (.int (1 : Int32)), .val (.int (0 : Int32))] [(.ref w_LESS)])) rfl (by rw [hml]; rfl) (Steps.refl _) (argsL := []) (rest := []) (lenOf pd_5 rfl) rfl (by show 2 * 0 + _ ≤ _; exact Nat.le_of_eq rfl) (hb hby at_61) (fun _ _ => ⟨rfl, eq4, (by decide : 0 + 0 ≤ _), (by decide : 0 + 0 ≤ _)⟩)
  dsimp only [Pt.U, Pt.locs, Pt.cells, Pt.slots] at X5 l5 y5 z5 st5 hQ5
  subst l5 y5 z5
  obtain ⟨rfl, N5q, eq5⟩ := hQ5
  have N5 := Fr.app N4 N5q
  obtain ⟨fs, hr, hrun, hended, hW, hsame⟩ := X5.leave (v := some (.int (1 : Int32))) (fun h => by rw [Bd.returns] at h; cases h)
  refine ⟨_, _, pre0 _ ?_, hrun, hended, _, _, rfl, ?_, ⟨_, rfl⟩, hW, hsame.mono (by decide) (by decide)⟩
  · show Steps p.tables e below (s₁.setTop (mkF m 0 #[.val (.int pi1), .unset, .unset, .unset, .unset] [])) _
    refine XS.iloadN X0.here hx rfl (hb hby at_0) rfl ?_
    show Steps p.tables e below (s₁.setTop (mkF m 1 #[.val (.int pi1), .unset, .unset, .unset, .unset] [(.int pi1)])) _
    refine st1 _ ?_
    show Steps p.tables e below (T1.setTop (mkF m 4 #[.val (.int pi1), .unset, .unset, .unset, .unset] [(.ref w_LESS)])) _
    refine XS.astoreN X1.here hx rfl (hb hby at_4) rfl rfl (l' := #[.val (.int pi1), .val (.ref w_LESS), .unset, .unset, .unset]) rfl ?_
    show Steps p.tables e below (T1.setTop (mkF m 5 #[.val (.int pi1), .val (.ref w_LESS), .unset, .unset, .unset] [])) _
    refine XS.aloadN X1.here hx rfl (hb hby at_5) rfl rfl ?_
    show Steps p.tables e below (T1.setTop (mkF m 6 #[.val (.int pi1), .val (.ref w_LESS), .unset, .unset, .unset] [(.ref w_LESS)])) _
    refine st2.trans ?_
    show Steps p.tables e below (T2.setTop (mkF m 9 #[.val (.int pi1), .val (.ref w_LESS), .unset, .unset, .unset] [(.ref w_LESS_symbol)])) _
    refine XS.astoreN X2.here hx rfl (hb hby at_9) rfl rfl (l' := #[.val (.int pi1), .val (.ref w_LESS), .val (.ref w_LESS_symbol), .unset, .unset]) rfl ?_
    show Steps p.tables e below (T2.setTop (mkF m 10 #[.val (.int pi1), .val (.ref w_LESS), .val (.ref w_LESS_symbol), .unset, .unset] [])) _
    refine XS.aloadN X2.here hx rfl (hb hby at_10) rfl rfl ?_
    show Steps p.tables e below (T2.setTop (mkF m 11 #[.val (.int pi1), .val (.ref w_LESS), .val (.ref w_LESS_symbol), .unset, .unset] [(.ref w_LESS_symbol)])) _
    refine st3.trans ?_
    show Steps p.tables e below (T3.setTop (mkF m 14 #[.val (.int pi1), .val (.ref w_LESS), .val (.ref w_LESS_symbol), .unset, .unset] [(.int (1 : Int32))])) _
    refine XS.istoreN X3.here hx rfl (hb hby at_14) rfl (l' := #[.val (.int pi1), .val (.ref w_LESS), .val (.ref w_LESS_symbol), .val (.int (1 : Int32)), .unset]) rfl ?_
    show Steps p.tables e below (T3.setTop (mkF m 15 #[.val (.int pi1), .val (.ref w_LESS), .val (.ref w_LESS_symbol), .val (.int (1 : Int32)), .unset] [])) _
    refine XS.iconst X3.here hx rfl (hb hby at_15) ?_
    show Steps p.tables e below (T3.setTop (mkF m 16 #[.val (.int pi1), .val (.ref w_LESS), .val (.ref w_LESS_symbol), .val (.int (1 : Int32)), .unset] [(.int (0 : Int32))])) _
    refine XS.istore X3.here hx rfl (hb hby at_16) rfl (l' := #[.val (.int pi1), .val (.ref w_LESS), .val (.ref w_LESS_symbol), .val (.int (1 : Int32)), .val (.int (0 : Int32))]) rfl ?_
    show Steps p.tables e below (T3.setTop (mkF m 18 #[.val (.int pi1), .val (.ref w_LESS), .val (.ref w_LESS_symbol), .val (.int (1 : Int32)), .val (.int (0 : Int32))] [])) _
    refine XS.iloadN X3.here hx rfl (hb hby at_18) rfl ?_
    show Steps p.tables e below (T3.setTop (mkF m 19 #[.val (.int pi1), .val (.ref w_LESS), .val (.ref w_LESS_symbol), .val (.int (1 : Int32)), .val (.int (0 : Int32))] [(.int (1 : Int32))])) _
    refine XS.ifNo X3.here hx rfl (hb hby at_19) rfl ((if0 _ _).trans (tlt (by decide : (0 : Int32) < (1 : Int32))).2.2.2) ?_
    show Steps p.tables e below (T3.setTop (mkF m 22 #[.val (.int pi1), .val (.ref w_LESS), .val (.ref w_LESS_symbol), .val (.int (1 : Int32)), .val (.int (0 : Int32))] [])) _
    refine XS.aloadN X3.here hx rfl (hb hby at_22) rfl rfl ?_
    show Steps p.tables e below (T3.setTop (mkF m 23 #[.val (.int pi1), .val (.ref w_LESS), .val (.ref w_LESS_symbol), .val (.int (1 : Int32)), .val (.int (0 : Int32))] [(.ref w_LESS_symbol)])) _
    refine XS.iconst X3.here hx rfl (hb hby at_23) ?_
    show Steps p.tables e below (T3.setTop (mkF m 24 #[.val (.int pi1), .val (.ref w_LESS), .val (.ref w_LESS_symbol), .val (.int (1 : Int32)), .val (.int (0 : Int32))] [(.int (0 : Int32)), (.ref w_LESS_symbol)])) _
    refine st4.trans ?_
    show Steps p.tables e below (T4.setTop (mkF m 27 #[.val (.int pi1), .val (.ref w_LESS), .val (.ref w_LESS_symbol), .val (.int (1 : Int32)), .val (.int (0 : Int32))] [(.int (60 : Int32))])) _
    refine XS.bipush X4.here hx rfl (hb hby at_27) ?_
    show Steps p.tables e below (T4.setTop (mkF m 29 #[.val (.int pi1), .val (.ref w_LESS), .val (.ref w_LESS_symbol), .val (.int (1 : Int32)), .val (.int (0 : Int32))] [(.int (61 : Int32)), (.int (60 : Int32))])) _
    refine XS.icmpYes X4.here hx rfl (pc0 := 29) (pc' := 35) rfl (hb hby at_29) rfl (feq (by decide : ¬ ((60 : Int32) = (61 : Int32)))).2 (by decide) (by decide) ?_
    show Steps p.tables e below (T4.setTop (mkF m 35 #[.val (.int pi1), .val (.ref w_LESS), .val (.ref w_LESS_symbol), .val (.int (1 : Int32)), .val (.int (0 : Int32))] [])) _
    refine XS.iloadN X4.here hx rfl (hb hby at_35) rfl ?_
    show Steps p.tables e below (T4.setTop (mkF m 36 #[.val (.int pi1), .val (.ref w_LESS), .val (.ref w_LESS_symbol), .val (.int (1 : Int32)), .val (.int (0 : Int32))] [(.int (1 : Int32))])) _
    refine XS.iconst X4.here hx rfl (hb hby at_36) ?_
    show Steps p.tables e below (T4.setTop (mkF m 37 #[.val (.int pi1), .val (.ref w_LESS), .val (.ref w_LESS_symbol), .val (.int (1 : Int32)), .val (.int (0 : Int32))] [(.int (1 : Int32)), (.int (1 : Int32))])) _
    refine XS.icmpYes X4.here hx rfl (pc0 := 37) (pc' := 53) rfl (hb hby at_37) rfl (flt (by simp : ¬ ((1 : Int32) < (1 : Int32)))).2.2.2 (by decide) (by decide) ?_
    show Steps p.tables e below (T4.setTop (mkF m 53 #[.val (.int pi1), .val (.ref w_LESS), .val (.ref w_LESS_symbol), .val (.int (1 : Int32)), .val (.int (0 : Int32))] [])) _
    refine XS.iloadN X4.here hx rfl (hb hby at_53) rfl ?_
    show Steps p.tables e below (T4.setTop (mkF m 54 #[.val (.int pi1), .val (.ref w_LESS), .val (.ref w_LESS_symbol), .val (.int (1 : Int32)), .val (.int (0 : Int32))] [(.int (1 : Int32))])) _
    refine XS.iconst X4.here hx rfl (hb hby at_54) ?_
    show Steps p.tables e below (T4.setTop (mkF m 55 #[.val (.int pi1), .val (.ref w_LESS), .val (.ref w_LESS_symbol), .val (.int (1 : Int32)), .val (.int (0 : Int32))] [(.int (2 : Int32)), (.int (1 : Int32))])) _
    refine XS.icmpYes X4.here hx rfl (pc0 := 55) (pc' := 60) rfl (hb hby at_55) rfl (flt (by decide : ¬ ((2 : Int32) < (1 : Int32)))).2.2.2 (by decide) (by decide) ?_
    show Steps p.tables e below (T4.setTop (mkF m 60 #[.val (.int pi1), .val (.ref w_LESS), .val (.ref w_LESS_symbol), .val (.int (1 : Int32)), .val (.int (0 : Int32))] [])) _
    refine XS.aloadN X4.here hx rfl (hb hby at_60) rfl rfl ?_
    show Steps p.tables e below (T4.setTop (mkF m 61 #[.val (.int pi1), .val (.ref w_LESS), .val (.ref w_LESS_symbol), .val (.int (1 : Int32)), .val (.int (0 : Int32))] [(.ref w_LESS)])) _
    refine st5.trans ?_
    show Steps p.tables e below (T5.setTop (mkF m 64 #[.val (.int pi1), .val (.ref w_LESS), .val (.ref w_LESS_symbol), .val (.int (1 : Int32)), .val (.int (0 : Int32))] [(.int (1 : Int32))])) _
    refine XS.iload X5.here hx rfl (hb hby at_64) rfl ?_
    show Steps p.tables e below (T5.setTop (mkF m 66 #[.val (.int pi1), .val (.ref w_LESS), .val (.ref w_LESS_symbol), .val (.int (1 : Int32)), .val (.int (0 : Int32))] [(.int (0 : Int32)), (.int (1 : Int32))])) _
    refine XS.ifNo X5.here hx rfl (hb hby at_66) rfl ((if0 _ _).trans (teq (rfl : (0 : Int32) = (0 : Int32))).2) ?_
    show Steps p.tables e below (T5.setTop (mkF m 69 #[.val (.int pi1), .val (.ref w_LESS), .val (.ref w_LESS_symbol), .val (.int (1 : Int32)), .val (.int (0 : Int32))] [(.int (1 : Int32))])) _
    refine XS.iconst X5.here hx rfl (hb hby at_69) ?_
    show Steps p.tables e below (T5.setTop (mkF m 70 #[.val (.int pi1), .val (.ref w_LESS), .val (.ref w_LESS_symbol), .val (.int (1 : Int32)), .val (.int (0 : Int32))] [(.int (1 : Int32)), (.int (1 : Int32))])) _
    refine XS.goto X5.here hx rfl (pc0 := 70) (pc' := 74) rfl (hb hby at_70) (by decide) (by decide) ?_
    show Steps p.tables e below (T5.setTop (mkF m 74 #[.val (.int pi1), .val (.ref w_LESS), .val (.ref w_LESS_symbol), .val (.int (1 : Int32)), .val (.int (0 : Int32))] [(.int (1 : Int32)), (.int (1 : Int32))])) _
    refine XS.icmpNo X5.here hx rfl (hb hby at_74) rfl (teq (rfl : (1 : Int32) = (1 : Int32))).2 ?_
    show Steps p.tables e below (T5.setTop (mkF m 77 #[.val (.int pi1), .val (.ref w_LESS), .val (.ref w_LESS_symbol), .val (.int (1 : Int32)), .val (.int (0 : Int32))] [])) _
    refine XS.iconst X5.here hx rfl (hb hby at_77) ?_
    show Steps p.tables e below (T5.setTop (mkF m 78 #[.val (.int pi1), .val (.ref w_LESS), .val (.ref w_LESS_symbol), .val (.int (1 : Int32)), .val (.int (0 : Int32))] [(.int (1 : Int32))])) _
    refine XS.goto X5.here hx rfl (pc0 := 78) (pc' := 82) rfl (hb hby at_78) (by decide) (by decide) ?_
    show Steps p.tables e below (T5.setTop (mkF m 82 #[.val (.int pi1), .val (.ref w_LESS), .val (.ref w_LESS_symbol), .val (.int (1 : Int32)), .val (.int (0 : Int32))] [(.int (1 : Int32))])) _
    exact retN X5 hx (t := .boolean) Bd.returns (by simp) (hb hby at_82) hr
  · exact ⟨rfl, N5⟩
set_option maxRecDepth 65536 in
set_option maxHeartbeats 40000000 in
theorem rm0_ft (l : Launch) (Z : State) (a0 : Array Value) (hw : ∀ d ∈ tables_1, d.before a0 Z = true) (ws : List Jvm.Cond) (pi1 : Int32) (w_LESS : Addr) (w_EQUAL : Addr) (w_LESS_OR_EQUAL : Addr) (w_LESS_symbol : Addr) (w_LESS_symbol_value : Addr) (kk_w_LESS_symbol_value : ClassId) (w_EQUAL_symbol : Addr) (w_EQUAL_symbol_value : Addr) (kk_w_EQUAL_symbol_value : ClassId) (w_LESS_OR_EQUAL_symbol : Addr) (w_LESS_OR_EQUAL_symbol_value : Addr) (kk_w_LESS_OR_EQUAL_symbol_value : ClassId) (w_COMPACT_STRINGS : Int32) (w_SIOOBE_FORMATTER : Value) (h0 : Heap) (n0 : Nat) (Z0 : n0 ≤ h0.size) (O0 : Old Z n0 h0) (S_LESS : Sta Z Z.heap "com/example/tyche/tyche/model/Relation" "LESS" "Lcom/example/tyche/tyche/model/Relation;" (.ref w_LESS)) (S_EQUAL : Sta Z Z.heap "com/example/tyche/tyche/model/Relation" "EQUAL" "Lcom/example/tyche/tyche/model/Relation;" (.ref w_EQUAL)) (S_LESS_OR_EQUAL : Sta Z Z.heap "com/example/tyche/tyche/model/Relation" "LESS_OR_EQUAL" "Lcom/example/tyche/tyche/model/Relation;" (.ref w_LESS_OR_EQUAL)) (E_w_LESS : Exa Z Z.heap w_LESS "com/example/tyche/tyche/model/Relation") (F_symbol_w_LESS : Fld Z Z.heap w_LESS "com/example/tyche/tyche/model/Relation" "symbol" "Ljava/lang/String;" (.ref w_LESS_symbol)) (E_w_LESS_symbol : Exa Z Z.heap w_LESS_symbol "java/lang/String") (F_value_w_LESS_symbol : Fld Z Z.heap w_LESS_symbol "java/lang/String" "value" "[B" (.ref w_LESS_symbol_value)) (F_coder_w_LESS_symbol : Fld Z Z.heap w_LESS_symbol "java/lang/String" "coder" "B" (.int (0 : Int32))) (V_w_LESS_symbol_value : Arv Z Z.heap w_LESS_symbol_value kk_w_LESS_symbol_value .byte (1 : Int32) [(.int (60 : Int32))] (.int (0 : Int32))) (E_w_EQUAL : Exa Z Z.heap w_EQUAL "com/example/tyche/tyche/model/Relation") (F_symbol_w_EQUAL : Fld Z Z.heap w_EQUAL "com/example/tyche/tyche/model/Relation" "symbol" "Ljava/lang/String;" (.ref w_EQUAL_symbol)) (E_w_EQUAL_symbol : Exa Z Z.heap w_EQUAL_symbol "java/lang/String") (F_value_w_EQUAL_symbol : Fld Z Z.heap w_EQUAL_symbol "java/lang/String" "value" "[B" (.ref w_EQUAL_symbol_value)) (F_coder_w_EQUAL_symbol : Fld Z Z.heap w_EQUAL_symbol "java/lang/String" "coder" "B" (.int (0 : Int32))) (V_w_EQUAL_symbol_value : Arv Z Z.heap w_EQUAL_symbol_value kk_w_EQUAL_symbol_value .byte (1 : Int32) [(.int (61 : Int32))] (.int (0 : Int32))) (E_w_LESS_OR_EQUAL : Exa Z Z.heap w_LESS_OR_EQUAL "com/example/tyche/tyche/model/Relation") (F_symbol_w_LESS_OR_EQUAL : Fld Z Z.heap w_LESS_OR_EQUAL "com/example/tyche/tyche/model/Relation" "symbol" "Ljava/lang/String;" (.ref w_LESS_OR_EQUAL_symbol)) (E_w_LESS_OR_EQUAL_symbol : Exa Z Z.heap w_LESS_OR_EQUAL_symbol "java/lang/String") (F_value_w_LESS_OR_EQUAL_symbol : Fld Z Z.heap w_LESS_OR_EQUAL_symbol "java/lang/String" "value" "[B" (.ref w_LESS_OR_EQUAL_symbol_value)) (F_coder_w_LESS_OR_EQUAL_symbol : Fld Z Z.heap w_LESS_OR_EQUAL_symbol "java/lang/String" "coder" "B" (.int (0 : Int32))) (V_w_LESS_OR_EQUAL_symbol_value : Arv Z Z.heap w_LESS_OR_EQUAL_symbol_value kk_w_LESS_OR_EQUAL_symbol_value .byte (2 : Int32) [(.int (60 : Int32)), (.int (61 : Int32))] (.int (0 : Int32))) (S_COMPACT_STRINGS : Sta Z Z.heap "java/lang/String" "COMPACT_STRINGS" "Z" (.int w_COMPACT_STRINGS)) (hCS : ¬ (w_COMPACT_STRINGS = (0 : Int32))) (hne1 : w_EQUAL ≠ w_LESS) (hne2 : w_LESS_OR_EQUAL ≠ w_LESS) (S_SIOOBE_FORMATTER : Sta Z Z.heap "jdk/internal/util/Preconditions" "SIOOBE_FORMATTER" "Ljava/util/function/BiFunction;" w_SIOOBE_FORMATTER) (hr_SIOOBE : w_SIOOBE_FORMATTER.isRef = true) (hc1_0 : ¬ (((pi1 &&& (2147483647 : Int32)) % (3 : Int32)) = (0 : Int32))) (hc1_1 : ((pi1 &&& (2147483647 : Int32)) % (3 : Int32)) = (1 : Int32)) :
    MetFree l x (head1 (Jvm.Cond.code x code maxLocals ret :: ws) room_1) (fun a U => a = #[(.int pi1)] ∧ Z.Warmed39 U.vm ∧ U.heap = h0) (fun _ _ _ _ _ => True) (fun _ U o U' => ∃ v L, o = .returned v ∧ Q0 v L n0 ∧ FrameEnd U o U' L room_1.cells room_1.slots) := by
  refine MetFree.of_bodySF (plainFor_of_name pn_0) hisR ?_
  intro p e s m args below meth c s₁ Bd hml0 hP hK
  obtain ⟨rfl, hZ, hh⟩ := hP
  have hx := Bd.exec
  have hby := Bd.bytes
  have hml : c.maxLocals = 5 := hml0
  have hown : s.vm.findClass "com/example/tyche/tyche/model/RelationIsStrictPinLaw" = some m.cls := findClass_of_methodNamed Bd.named
  have hnm := (name_of_methodNamed Bd.named Bd.method).1
  have X0 : Stand p l e room_1 s m #[(.int pi1)] below meth c s₁ [] 0 0 := Stand.of_body Bd
  have e0 : s₁.heap = h0 := by rw [← hh, Bd.state]; rfl
  have N0 := Fr.nil n0
  have pre0 : ∀ t, Steps p.tables e below (s₁.setTop (mkF m 0 #[.val (.int pi1), .unset, .unset, .unset, .unset] [])) t → Steps p.tables e below (s₁.setTop (entryFrame m #[(.int pi1)] maxLocals)) t := fun t k => castTop (ef_0 m pi1) k
  obtain ⟨_, _, ⟨T1, L1, k1, n1⟩, -, X1, ⟨Lc1, hQ1, l1, y1, z1⟩, st1⟩ := Jvm.LawKit.callS X0 hx (y := (⟨"com/example/tyche/tyche/model/RelationIsStrictPinLaw", "pick", "(I)Lcom/example/tyche/tyche/model/Relation;"⟩ : MethodName)) hown (mvT hZ (hw _ (List.mem_of_getElem? (i := 0) rfl))) (mvT hZ (hw _ (List.mem_of_getElem? (i := 1) rfl))) (mvT hZ (hw _ (List.mem_of_getElem? (i := 2) rfl))) (mvT hZ (hw _ (List.mem_of_getElem? (i := 3) rfl))) (by decide) (backOf (W := 0) (rm1_ft l Z a0 hw [] pi1 w_LESS_OR_EQUAL h0 n0 Z0 O0 S_LESS_OR_EQUAL hc1_0 hc1_1) hZ (hw _ (List.mem_of_getElem? (i := 3) rfl)) (hw _ (List.mem_of_getElem? (i := 2) rfl)) (by decide) (by decide)) (g := (mkF m 1 #[.val (.int pi1), .unset, .unset, .unset, .unset] [(.int pi1)])) rfl (by rw [hml]; rfl) (argsL := [(.int pi1)]) (rest := []) (lenOf pd_0 rfl) rfl (by show 2 * 0 + _ ≤ _; exact Nat.le_of_eq rfl) (hb hby at_1) (fun _ _ => ⟨rfl, e0, (by decide : 0 + 0 ≤ _), (by decide : 0 + 0 ≤ _)⟩)
  dsimp only [Pt.U, Pt.locs, Pt.cells, Pt.slots] at X1 l1 y1 z1 st1 hQ1
  subst l1 y1 z1
  obtain ⟨rfl, N1q, eq1⟩ := hQ1
  have N1 := Fr.app N0 N1q
  obtain ⟨cq2, kq2, q2a, q2b, q2c⟩ := isOf hZ eq1 (E_w_LESS_OR_EQUAL.ext O0.2)
  obtain ⟨_, _, ⟨T2, L2, k2, n2⟩, -, X2, ⟨Lc2, hQ2, l2, y2, z2⟩, st2⟩ := X1.virtualBack hx (y := (⟨"com/example/tyche/tyche/model/Relation", "toString", "()Ljava/lang/String;"⟩ : MethodName)) (z := (⟨"com/example/tyche/tyche/model/Relation", "toString", "()Ljava/lang/String;"⟩ : MethodName)) hown (mvT hZ (hw _ (List.mem_of_getElem? (i := 8) rfl))) (mvT hZ (hw _ (List.mem_of_getElem? (i := 9) rfl))) (notFace_of_selects (args := #[]) (mvT hZ (hw _ (List.mem_of_getElem? (i := 11) rfl)))) (mvT hZ (hw _ (List.mem_of_getElem? (i := 11) rfl))) (mvT hZ (hw _ (List.mem_of_getElem? (i := 10) rfl))) (by decide) (backOf (W := 0) (rm2 l Z a0 hw [] w_LESS_OR_EQUAL w_LESS_OR_EQUAL_symbol h0 n0 Z0 O0 (F_symbol_w_LESS_OR_EQUAL.ext O0.2)) hZ (hw _ (List.mem_of_getElem? (i := 12) rfl)) (hw _ (List.mem_of_getElem? (i := 6) rfl)) (by decide) (by decide)) q2a q2c (g := (mkF m 6 #[.val (.int pi1), .val (.ref w_LESS_OR_EQUAL), .unset, .unset, .unset] [(.ref w_LESS_OR_EQUAL)])) rfl (by rw [hml]; rfl) (Steps.refl _) (argsL := []) (rest := []) (lenOf pd_1 rfl) rfl (by show 2 * 0 + _ ≤ _; exact Nat.le_of_eq rfl) (hb hby at_6) (fun _ _ => ⟨rfl, eq1, (by decide : 0 + 0 ≤ _), (by decide : 0 + 0 ≤ _)⟩)
  dsimp only [Pt.U, Pt.locs, Pt.cells, Pt.slots] at X2 l2 y2 z2 st2 hQ2
  subst l2 y2 z2
  obtain ⟨rfl, N2q, eq2⟩ := hQ2
  have N2 := Fr.app N1 N2q
  obtain ⟨cq3, kq3, q3a, q3b, q3c⟩ := isOf hZ eq2 (E_w_LESS_OR_EQUAL_symbol.ext O0.2)
  obtain ⟨_, _, ⟨T3, L3, k3, n3⟩, -, X3, ⟨Lc3, hQ3, l3, y3, z3⟩, st3⟩ := X2.virtualBack hx (y := (⟨"java/lang/String", "length", "()I"⟩ : MethodName)) (z := (⟨"java/lang/String", "length", "()I"⟩ : MethodName)) hown (mvT hZ (hw _ (List.mem_of_getElem? (i := 15) rfl))) (mvT hZ (hw _ (List.mem_of_getElem? (i := 16) rfl))) (notFace_of_selects (args := #[]) (mvT hZ (hw _ (List.mem_of_getElem? (i := 18) rfl)))) (mvT hZ (hw _ (List.mem_of_getElem? (i := 18) rfl))) (mvT hZ (hw _ (List.mem_of_getElem? (i := 17) rfl))) (by decide) (backOf (W := 0) (rm3_2 l Z a0 hw [] w_LESS_OR_EQUAL_symbol w_LESS_OR_EQUAL_symbol_value kk_w_LESS_OR_EQUAL_symbol_value (60 : Int32) (61 : Int32) w_COMPACT_STRINGS (0 : Int32) h0 n0 Z0 O0 (F_value_w_LESS_OR_EQUAL_symbol.ext O0.2) (V_w_LESS_OR_EQUAL_symbol_value.ext O0.2) S_COMPACT_STRINGS (F_coder_w_LESS_OR_EQUAL_symbol.ext O0.2) (E_w_LESS_OR_EQUAL_symbol.ext O0.2) hCS) hZ (hw _ (List.mem_of_getElem? (i := 20) rfl)) (hw _ (List.mem_of_getElem? (i := 19) rfl)) (by decide) (by decide)) q3a q3c (g := (mkF m 11 #[.val (.int pi1), .val (.ref w_LESS_OR_EQUAL), .val (.ref w_LESS_OR_EQUAL_symbol), .unset, .unset] [(.ref w_LESS_OR_EQUAL_symbol)])) rfl (by rw [hml]; rfl) (Steps.refl _) (argsL := []) (rest := []) (lenOf pd_2 rfl) rfl (by show 2 * 0 + _ ≤ _; exact Nat.le_of_eq rfl) (hb hby at_11) (fun _ _ => ⟨rfl, eq2, (by decide : 0 + 0 ≤ _), (by decide : 0 + 0 ≤ _)⟩)
  dsimp only [Pt.U, Pt.locs, Pt.cells, Pt.slots] at X3 l3 y3 z3 st3 hQ3
  subst l3 y3 z3
  obtain ⟨rfl, N3q, eq3⟩ := hQ3
  have N3 := Fr.app N2 N3q
  obtain ⟨cq4, kq4, q4a, q4b, q4c⟩ := isOf hZ eq3 (E_w_LESS_OR_EQUAL_symbol.ext O0.2)
  obtain ⟨_, _, ⟨T4, L4, k4, n4⟩, -, X4, ⟨Lc4, hQ4, l4, y4, z4⟩, st4⟩ := X3.virtualBack hx (y := (⟨"java/lang/String", "charAt", "(I)C"⟩ : MethodName)) (z := (⟨"java/lang/String", "charAt", "(I)C"⟩ : MethodName)) hown (mvT hZ (hw _ (List.mem_of_getElem? (i := 31) rfl))) (mvT hZ (hw _ (List.mem_of_getElem? (i := 32) rfl))) (notFace_of_selects (args := #[]) (mvT hZ (hw _ (List.mem_of_getElem? (i := 34) rfl)))) (mvT hZ (hw _ (List.mem_of_getElem? (i := 34) rfl))) (mvT hZ (hw _ (List.mem_of_getElem? (i := 33) rfl))) (by decide) (backOf (W := 0) (rm5_2_0 l Z a0 hw [] w_LESS_OR_EQUAL_symbol w_LESS_OR_EQUAL_symbol_value kk_w_LESS_OR_EQUAL_symbol_value (60 : Int32) (61 : Int32) w_COMPACT_STRINGS (0 : Int32) w_SIOOBE_FORMATTER h0 n0 Z0 O0 (F_value_w_LESS_OR_EQUAL_symbol.ext O0.2) (V_w_LESS_OR_EQUAL_symbol_value.ext O0.2) S_COMPACT_STRINGS (F_coder_w_LESS_OR_EQUAL_symbol.ext O0.2) (E_w_LESS_OR_EQUAL_symbol.ext O0.2) S_SIOOBE_FORMATTER hr_SIOOBE hCS (by decide)) hZ (hw _ (List.mem_of_getElem? (i := 35) rfl)) (hw _ (List.mem_of_getElem? (i := 19) rfl)) (by decide) (by decide)) q4a q4c (g := (mkF m 24 #[.val (.int pi1), .val (.ref w_LESS_OR_EQUAL), .val (.ref w_LESS_OR_EQUAL_symbol), .val (.int (2 : Int32)), .val (.int (0 : Int32))] [(.int (0 : Int32)), (.ref w_LESS_OR_EQUAL_symbol)])) rfl (by rw [hml]; rfl) (Steps.refl _) (argsL := [(.int (0 : Int32))]) (rest := []) (lenOf pd_4 rfl) rfl (by show 2 * 0 + _ ≤ _; exact Nat.le_of_eq rfl) (hb hby at_24) (fun _ _ => ⟨rfl, eq3, (by decide : 0 + 0 ≤ _), (by decide : 0 + 0 ≤ _)⟩)
  dsimp only [Pt.U, Pt.locs, Pt.cells, Pt.slots] at X4 l4 y4 z4 st4 hQ4
  subst l4 y4 z4
  obtain ⟨rfl, N4q, eq4⟩ := hQ4
  have N4 := Fr.app N3 N4q
  obtain ⟨cq5, kq5, q5a, q5b, q5c⟩ := isOf hZ eq4 (E_w_LESS_OR_EQUAL_symbol.ext O0.2)
  obtain ⟨_, _, ⟨T5, L5, k5, n5⟩, -, X5, ⟨Lc5, hQ5, l5, y5, z5⟩, st5⟩ := X4.virtualBack hx (y := (⟨"java/lang/String", "charAt", "(I)C"⟩ : MethodName)) (z := (⟨"java/lang/String", "charAt", "(I)C"⟩ : MethodName)) hown (mvT hZ (hw _ (List.mem_of_getElem? (i := 31) rfl))) (mvT hZ (hw _ (List.mem_of_getElem? (i := 32) rfl))) (notFace_of_selects (args := #[]) (mvT hZ (hw _ (List.mem_of_getElem? (i := 34) rfl)))) (mvT hZ (hw _ (List.mem_of_getElem? (i := 34) rfl))) (mvT hZ (hw _ (List.mem_of_getElem? (i := 33) rfl))) (by decide) (backOf (W := 0) (rm5_2_1 l Z a0 hw [] w_LESS_OR_EQUAL_symbol w_LESS_OR_EQUAL_symbol_value kk_w_LESS_OR_EQUAL_symbol_value (60 : Int32) (61 : Int32) w_COMPACT_STRINGS (0 : Int32) w_SIOOBE_FORMATTER h0 n0 Z0 O0 (F_value_w_LESS_OR_EQUAL_symbol.ext O0.2) (V_w_LESS_OR_EQUAL_symbol_value.ext O0.2) S_COMPACT_STRINGS (F_coder_w_LESS_OR_EQUAL_symbol.ext O0.2) (E_w_LESS_OR_EQUAL_symbol.ext O0.2) S_SIOOBE_FORMATTER hr_SIOOBE hCS (by decide)) hZ (hw _ (List.mem_of_getElem? (i := 35) rfl)) (hw _ (List.mem_of_getElem? (i := 19) rfl)) (by decide) (by decide)) q5a q5c (g := (mkF m 42 #[.val (.int pi1), .val (.ref w_LESS_OR_EQUAL), .val (.ref w_LESS_OR_EQUAL_symbol), .val (.int (2 : Int32)), .val (.int (0 : Int32))] [(.int (1 : Int32)), (.ref w_LESS_OR_EQUAL_symbol)])) rfl (by rw [hml]; rfl) (Steps.refl _) (argsL := [(.int (1 : Int32))]) (rest := []) (lenOf pd_4 rfl) rfl (by show 2 * 0 + _ ≤ _; exact Nat.le_of_eq rfl) (hb hby at_42) (fun _ _ => ⟨rfl, eq4, (by decide : 0 + 0 ≤ _), (by decide : 0 + 0 ≤ _)⟩)
  dsimp only [Pt.U, Pt.locs, Pt.cells, Pt.slots] at X5 l5 y5 z5 st5 hQ5
  subst l5 y5 z5
  obtain ⟨rfl, N5q, eq5⟩ := hQ5
  have N5 := Fr.app N4 N5q
  obtain ⟨cq6, kq6, q6a, q6b, q6c⟩ := isOf hZ eq5 (E_w_LESS_OR_EQUAL.ext O0.2)
  obtain ⟨_, _, ⟨T6, L6, k6, n6⟩, -, X6, ⟨Lc6, hQ6, l6, y6, z6⟩, st6⟩ := X5.virtualBack hx (y := (⟨"com/example/tyche/tyche/model/Relation", "isStrict", "()Z"⟩ : MethodName)) (z := (⟨"com/example/tyche/tyche/model/Relation", "isStrict", "()Z"⟩ : MethodName)) hown (mvT hZ (hw _ (List.mem_of_getElem? (i := 53) rfl))) (mvT hZ (hw _ (List.mem_of_getElem? (i := 54) rfl))) (notFace_of_selects (args := #[]) (mvT hZ (hw _ (List.mem_of_getElem? (i := 56) rfl)))) (mvT hZ (hw _ (List.mem_of_getElem? (i := 56) rfl))) (mvT hZ (hw _ (List.mem_of_getElem? (i := 55) rfl))) (by decide) (backOf (W := 0) (rm10_f l Z a0 hw [] w_LESS_OR_EQUAL w_LESS h0 n0 Z0 O0 S_LESS hne2) hZ (hw _ (List.mem_of_getElem? (i := 57) rfl)) (hw _ (List.mem_of_getElem? (i := 6) rfl)) (by decide) (by decide)) q6a q6c (g := (mkF m 61 #[.val (.int pi1), .val (.ref w_LESS_OR_EQUAL), .val (.ref w_LESS_OR_EQUAL_symbol), .val (.int (2 : Int32)), .val (.int (1 : Int32))] [(.ref w_LESS_OR_EQUAL)])) rfl (by rw [hml]; rfl) (Steps.refl _) (argsL := []) (rest := []) (lenOf pd_5 rfl) rfl (by show 2 * 0 + _ ≤ _; exact Nat.le_of_eq rfl) (hb hby at_61) (fun _ _ => ⟨rfl, eq5, (by decide : 0 + 0 ≤ _), (by decide : 0 + 0 ≤ _)⟩)
  dsimp only [Pt.U, Pt.locs, Pt.cells, Pt.slots] at X6 l6 y6 z6 st6 hQ6
  subst l6 y6 z6
  obtain ⟨rfl, N6q, eq6⟩ := hQ6
  have N6 := Fr.app N5 N6q
  obtain ⟨fs, hr, hrun, hended, hW, hsame⟩ := X6.leave (v := some (.int (1 : Int32))) (fun h => by rw [Bd.returns] at h; cases h)
  refine ⟨_, _, pre0 _ ?_, hrun, hended, _, _, rfl, ?_, ⟨_, rfl⟩, hW, hsame.mono (by decide) (by decide)⟩
  · show Steps p.tables e below (s₁.setTop (mkF m 0 #[.val (.int pi1), .unset, .unset, .unset, .unset] [])) _
    refine XS.iloadN X0.here hx rfl (hb hby at_0) rfl ?_
    show Steps p.tables e below (s₁.setTop (mkF m 1 #[.val (.int pi1), .unset, .unset, .unset, .unset] [(.int pi1)])) _
    refine st1 _ ?_
    show Steps p.tables e below (T1.setTop (mkF m 4 #[.val (.int pi1), .unset, .unset, .unset, .unset] [(.ref w_LESS_OR_EQUAL)])) _
    refine XS.astoreN X1.here hx rfl (hb hby at_4) rfl rfl (l' := #[.val (.int pi1), .val (.ref w_LESS_OR_EQUAL), .unset, .unset, .unset]) rfl ?_
    show Steps p.tables e below (T1.setTop (mkF m 5 #[.val (.int pi1), .val (.ref w_LESS_OR_EQUAL), .unset, .unset, .unset] [])) _
    refine XS.aloadN X1.here hx rfl (hb hby at_5) rfl rfl ?_
    show Steps p.tables e below (T1.setTop (mkF m 6 #[.val (.int pi1), .val (.ref w_LESS_OR_EQUAL), .unset, .unset, .unset] [(.ref w_LESS_OR_EQUAL)])) _
    refine st2.trans ?_
    show Steps p.tables e below (T2.setTop (mkF m 9 #[.val (.int pi1), .val (.ref w_LESS_OR_EQUAL), .unset, .unset, .unset] [(.ref w_LESS_OR_EQUAL_symbol)])) _
    refine XS.astoreN X2.here hx rfl (hb hby at_9) rfl rfl (l' := #[.val (.int pi1), .val (.ref w_LESS_OR_EQUAL), .val (.ref w_LESS_OR_EQUAL_symbol), .unset, .unset]) rfl ?_
    show Steps p.tables e below (T2.setTop (mkF m 10 #[.val (.int pi1), .val (.ref w_LESS_OR_EQUAL), .val (.ref w_LESS_OR_EQUAL_symbol), .unset, .unset] [])) _
    refine XS.aloadN X2.here hx rfl (hb hby at_10) rfl rfl ?_
    show Steps p.tables e below (T2.setTop (mkF m 11 #[.val (.int pi1), .val (.ref w_LESS_OR_EQUAL), .val (.ref w_LESS_OR_EQUAL_symbol), .unset, .unset] [(.ref w_LESS_OR_EQUAL_symbol)])) _
    refine st3.trans ?_
    show Steps p.tables e below (T3.setTop (mkF m 14 #[.val (.int pi1), .val (.ref w_LESS_OR_EQUAL), .val (.ref w_LESS_OR_EQUAL_symbol), .unset, .unset] [(.int (2 : Int32))])) _
    refine XS.istoreN X3.here hx rfl (hb hby at_14) rfl (l' := #[.val (.int pi1), .val (.ref w_LESS_OR_EQUAL), .val (.ref w_LESS_OR_EQUAL_symbol), .val (.int (2 : Int32)), .unset]) rfl ?_
    show Steps p.tables e below (T3.setTop (mkF m 15 #[.val (.int pi1), .val (.ref w_LESS_OR_EQUAL), .val (.ref w_LESS_OR_EQUAL_symbol), .val (.int (2 : Int32)), .unset] [])) _
    refine XS.iconst X3.here hx rfl (hb hby at_15) ?_
    show Steps p.tables e below (T3.setTop (mkF m 16 #[.val (.int pi1), .val (.ref w_LESS_OR_EQUAL), .val (.ref w_LESS_OR_EQUAL_symbol), .val (.int (2 : Int32)), .unset] [(.int (0 : Int32))])) _
    refine XS.istore X3.here hx rfl (hb hby at_16) rfl (l' := #[.val (.int pi1), .val (.ref w_LESS_OR_EQUAL), .val (.ref w_LESS_OR_EQUAL_symbol), .val (.int (2 : Int32)), .val (.int (0 : Int32))]) rfl ?_
    show Steps p.tables e below (T3.setTop (mkF m 18 #[.val (.int pi1), .val (.ref w_LESS_OR_EQUAL), .val (.ref w_LESS_OR_EQUAL_symbol), .val (.int (2 : Int32)), .val (.int (0 : Int32))] [])) _
    refine XS.iloadN X3.here hx rfl (hb hby at_18) rfl ?_
    show Steps p.tables e below (T3.setTop (mkF m 19 #[.val (.int pi1), .val (.ref w_LESS_OR_EQUAL), .val (.ref w_LESS_OR_EQUAL_symbol), .val (.int (2 : Int32)), .val (.int (0 : Int32))] [(.int (2 : Int32))])) _
    refine XS.ifNo X3.here hx rfl (hb hby at_19) rfl ((if0 _ _).trans (tlt (by decide : (0 : Int32) < (2 : Int32))).2.2.2) ?_
    show Steps p.tables e below (T3.setTop (mkF m 22 #[.val (.int pi1), .val (.ref w_LESS_OR_EQUAL), .val (.ref w_LESS_OR_EQUAL_symbol), .val (.int (2 : Int32)), .val (.int (0 : Int32))] [])) _
    refine XS.aloadN X3.here hx rfl (hb hby at_22) rfl rfl ?_
    show Steps p.tables e below (T3.setTop (mkF m 23 #[.val (.int pi1), .val (.ref w_LESS_OR_EQUAL), .val (.ref w_LESS_OR_EQUAL_symbol), .val (.int (2 : Int32)), .val (.int (0 : Int32))] [(.ref w_LESS_OR_EQUAL_symbol)])) _
    refine XS.iconst X3.here hx rfl (hb hby at_23) ?_
    show Steps p.tables e below (T3.setTop (mkF m 24 #[.val (.int pi1), .val (.ref w_LESS_OR_EQUAL), .val (.ref w_LESS_OR_EQUAL_symbol), .val (.int (2 : Int32)), .val (.int (0 : Int32))] [(.int (0 : Int32)), (.ref w_LESS_OR_EQUAL_symbol)])) _
    refine st4.trans ?_
    show Steps p.tables e below (T4.setTop (mkF m 27 #[.val (.int pi1), .val (.ref w_LESS_OR_EQUAL), .val (.ref w_LESS_OR_EQUAL_symbol), .val (.int (2 : Int32)), .val (.int (0 : Int32))] [(.int (60 : Int32))])) _
    refine XS.bipush X4.here hx rfl (hb hby at_27) ?_
    show Steps p.tables e below (T4.setTop (mkF m 29 #[.val (.int pi1), .val (.ref w_LESS_OR_EQUAL), .val (.ref w_LESS_OR_EQUAL_symbol), .val (.int (2 : Int32)), .val (.int (0 : Int32))] [(.int (61 : Int32)), (.int (60 : Int32))])) _
    refine XS.icmpYes X4.here hx rfl (pc0 := 29) (pc' := 35) rfl (hb hby at_29) rfl (feq (by decide : ¬ ((60 : Int32) = (61 : Int32)))).2 (by decide) (by decide) ?_
    show Steps p.tables e below (T4.setTop (mkF m 35 #[.val (.int pi1), .val (.ref w_LESS_OR_EQUAL), .val (.ref w_LESS_OR_EQUAL_symbol), .val (.int (2 : Int32)), .val (.int (0 : Int32))] [])) _
    refine XS.iloadN X4.here hx rfl (hb hby at_35) rfl ?_
    show Steps p.tables e below (T4.setTop (mkF m 36 #[.val (.int pi1), .val (.ref w_LESS_OR_EQUAL), .val (.ref w_LESS_OR_EQUAL_symbol), .val (.int (2 : Int32)), .val (.int (0 : Int32))] [(.int (2 : Int32))])) _
    refine XS.iconst X4.here hx rfl (hb hby at_36) ?_
    show Steps p.tables e below (T4.setTop (mkF m 37 #[.val (.int pi1), .val (.ref w_LESS_OR_EQUAL), .val (.ref w_LESS_OR_EQUAL_symbol), .val (.int (2 : Int32)), .val (.int (0 : Int32))] [(.int (1 : Int32)), (.int (2 : Int32))])) _
    refine XS.icmpNo X4.here hx rfl (hb hby at_37) rfl (tlt (by decide : (1 : Int32) < (2 : Int32))).2.2.2 ?_
    show Steps p.tables e below (T4.setTop (mkF m 40 #[.val (.int pi1), .val (.ref w_LESS_OR_EQUAL), .val (.ref w_LESS_OR_EQUAL_symbol), .val (.int (2 : Int32)), .val (.int (0 : Int32))] [])) _
    refine XS.aloadN X4.here hx rfl (hb hby at_40) rfl rfl ?_
    show Steps p.tables e below (T4.setTop (mkF m 41 #[.val (.int pi1), .val (.ref w_LESS_OR_EQUAL), .val (.ref w_LESS_OR_EQUAL_symbol), .val (.int (2 : Int32)), .val (.int (0 : Int32))] [(.ref w_LESS_OR_EQUAL_symbol)])) _
    refine XS.iconst X4.here hx rfl (hb hby at_41) ?_
    show Steps p.tables e below (T4.setTop (mkF m 42 #[.val (.int pi1), .val (.ref w_LESS_OR_EQUAL), .val (.ref w_LESS_OR_EQUAL_symbol), .val (.int (2 : Int32)), .val (.int (0 : Int32))] [(.int (1 : Int32)), (.ref w_LESS_OR_EQUAL_symbol)])) _
    refine st5.trans ?_
    show Steps p.tables e below (T5.setTop (mkF m 45 #[.val (.int pi1), .val (.ref w_LESS_OR_EQUAL), .val (.ref w_LESS_OR_EQUAL_symbol), .val (.int (2 : Int32)), .val (.int (0 : Int32))] [(.int (61 : Int32))])) _
    refine XS.bipush X5.here hx rfl (hb hby at_45) ?_
    show Steps p.tables e below (T5.setTop (mkF m 47 #[.val (.int pi1), .val (.ref w_LESS_OR_EQUAL), .val (.ref w_LESS_OR_EQUAL_symbol), .val (.int (2 : Int32)), .val (.int (0 : Int32))] [(.int (61 : Int32)), (.int (61 : Int32))])) _
    refine XS.icmpNo X5.here hx rfl (hb hby at_47) rfl (teq (rfl : (61 : Int32) = (61 : Int32))).2 ?_
    show Steps p.tables e below (T5.setTop (mkF m 50 #[.val (.int pi1), .val (.ref w_LESS_OR_EQUAL), .val (.ref w_LESS_OR_EQUAL_symbol), .val (.int (2 : Int32)), .val (.int (0 : Int32))] [])) _
    refine XS.iconst X5.here hx rfl (hb hby at_50) ?_
    show Steps p.tables e below (T5.setTop (mkF m 51 #[.val (.int pi1), .val (.ref w_LESS_OR_EQUAL), .val (.ref w_LESS_OR_EQUAL_symbol), .val (.int (2 : Int32)), .val (.int (0 : Int32))] [(.int (1 : Int32))])) _
    refine XS.istore X5.here hx rfl (hb hby at_51) rfl (l' := #[.val (.int pi1), .val (.ref w_LESS_OR_EQUAL), .val (.ref w_LESS_OR_EQUAL_symbol), .val (.int (2 : Int32)), .val (.int (1 : Int32))]) rfl ?_
    show Steps p.tables e below (T5.setTop (mkF m 53 #[.val (.int pi1), .val (.ref w_LESS_OR_EQUAL), .val (.ref w_LESS_OR_EQUAL_symbol), .val (.int (2 : Int32)), .val (.int (1 : Int32))] [])) _
    refine XS.iloadN X5.here hx rfl (hb hby at_53) rfl ?_
    show Steps p.tables e below (T5.setTop (mkF m 54 #[.val (.int pi1), .val (.ref w_LESS_OR_EQUAL), .val (.ref w_LESS_OR_EQUAL_symbol), .val (.int (2 : Int32)), .val (.int (1 : Int32))] [(.int (2 : Int32))])) _
    refine XS.iconst X5.here hx rfl (hb hby at_54) ?_
    show Steps p.tables e below (T5.setTop (mkF m 55 #[.val (.int pi1), .val (.ref w_LESS_OR_EQUAL), .val (.ref w_LESS_OR_EQUAL_symbol), .val (.int (2 : Int32)), .val (.int (1 : Int32))] [(.int (2 : Int32)), (.int (2 : Int32))])) _
    refine XS.icmpYes X5.here hx rfl (pc0 := 55) (pc' := 60) rfl (hb hby at_55) rfl (flt (by simp : ¬ ((2 : Int32) < (2 : Int32)))).2.2.2 (by decide) (by decide) ?_
    show Steps p.tables e below (T5.setTop (mkF m 60 #[.val (.int pi1), .val (.ref w_LESS_OR_EQUAL), .val (.ref w_LESS_OR_EQUAL_symbol), .val (.int (2 : Int32)), .val (.int (1 : Int32))] [])) _
    refine XS.aloadN X5.here hx rfl (hb hby at_60) rfl rfl ?_
    show Steps p.tables e below (T5.setTop (mkF m 61 #[.val (.int pi1), .val (.ref w_LESS_OR_EQUAL), .val (.ref w_LESS_OR_EQUAL_symbol), .val (.int (2 : Int32)), .val (.int (1 : Int32))] [(.ref w_LESS_OR_EQUAL)])) _
    refine st6.trans ?_
    show Steps p.tables e below (T6.setTop (mkF m 64 #[.val (.int pi1), .val (.ref w_LESS_OR_EQUAL), .val (.ref w_LESS_OR_EQUAL_symbol), .val (.int (2 : Int32)), .val (.int (1 : Int32))] [(.int (0 : Int32))])) _
    refine XS.iload X6.here hx rfl (hb hby at_64) rfl ?_
    show Steps p.tables e below (T6.setTop (mkF m 66 #[.val (.int pi1), .val (.ref w_LESS_OR_EQUAL), .val (.ref w_LESS_OR_EQUAL_symbol), .val (.int (2 : Int32)), .val (.int (1 : Int32))] [(.int (1 : Int32)), (.int (0 : Int32))])) _
    refine XS.ifYes X6.here hx rfl (pc0 := 66) (pc' := 73) rfl (hb hby at_66) rfl ((if0 _ _).trans (feq (by decide : ¬ ((1 : Int32) = (0 : Int32)))).2) (by decide) (by decide) ?_
    show Steps p.tables e below (T6.setTop (mkF m 73 #[.val (.int pi1), .val (.ref w_LESS_OR_EQUAL), .val (.ref w_LESS_OR_EQUAL_symbol), .val (.int (2 : Int32)), .val (.int (1 : Int32))] [(.int (0 : Int32))])) _
    refine XS.iconst X6.here hx rfl (hb hby at_73) ?_
    show Steps p.tables e below (T6.setTop (mkF m 74 #[.val (.int pi1), .val (.ref w_LESS_OR_EQUAL), .val (.ref w_LESS_OR_EQUAL_symbol), .val (.int (2 : Int32)), .val (.int (1 : Int32))] [(.int (0 : Int32)), (.int (0 : Int32))])) _
    refine XS.icmpNo X6.here hx rfl (hb hby at_74) rfl (teq (rfl : (0 : Int32) = (0 : Int32))).2 ?_
    show Steps p.tables e below (T6.setTop (mkF m 77 #[.val (.int pi1), .val (.ref w_LESS_OR_EQUAL), .val (.ref w_LESS_OR_EQUAL_symbol), .val (.int (2 : Int32)), .val (.int (1 : Int32))] [])) _
    refine XS.iconst X6.here hx rfl (hb hby at_77) ?_
    show Steps p.tables e below (T6.setTop (mkF m 78 #[.val (.int pi1), .val (.ref w_LESS_OR_EQUAL), .val (.ref w_LESS_OR_EQUAL_symbol), .val (.int (2 : Int32)), .val (.int (1 : Int32))] [(.int (1 : Int32))])) _
    refine XS.goto X6.here hx rfl (pc0 := 78) (pc' := 82) rfl (hb hby at_78) (by decide) (by decide) ?_
    show Steps p.tables e below (T6.setTop (mkF m 82 #[.val (.int pi1), .val (.ref w_LESS_OR_EQUAL), .val (.ref w_LESS_OR_EQUAL_symbol), .val (.int (2 : Int32)), .val (.int (1 : Int32))] [(.int (1 : Int32))])) _
    exact retN X6 hx (t := .boolean) Bd.returns (by simp) (hb hby at_82) hr
  · exact ⟨rfl, N6⟩
set_option maxRecDepth 65536 in
set_option maxHeartbeats 40000000 in
theorem rm0_ff (l : Launch) (Z : State) (a0 : Array Value) (hw : ∀ d ∈ tables_1, d.before a0 Z = true) (ws : List Jvm.Cond) (pi1 : Int32) (w_LESS : Addr) (w_EQUAL : Addr) (w_LESS_OR_EQUAL : Addr) (w_LESS_symbol : Addr) (w_LESS_symbol_value : Addr) (kk_w_LESS_symbol_value : ClassId) (w_EQUAL_symbol : Addr) (w_EQUAL_symbol_value : Addr) (kk_w_EQUAL_symbol_value : ClassId) (w_LESS_OR_EQUAL_symbol : Addr) (w_LESS_OR_EQUAL_symbol_value : Addr) (kk_w_LESS_OR_EQUAL_symbol_value : ClassId) (w_COMPACT_STRINGS : Int32) (w_SIOOBE_FORMATTER : Value) (h0 : Heap) (n0 : Nat) (Z0 : n0 ≤ h0.size) (O0 : Old Z n0 h0) (S_LESS : Sta Z Z.heap "com/example/tyche/tyche/model/Relation" "LESS" "Lcom/example/tyche/tyche/model/Relation;" (.ref w_LESS)) (S_EQUAL : Sta Z Z.heap "com/example/tyche/tyche/model/Relation" "EQUAL" "Lcom/example/tyche/tyche/model/Relation;" (.ref w_EQUAL)) (S_LESS_OR_EQUAL : Sta Z Z.heap "com/example/tyche/tyche/model/Relation" "LESS_OR_EQUAL" "Lcom/example/tyche/tyche/model/Relation;" (.ref w_LESS_OR_EQUAL)) (E_w_LESS : Exa Z Z.heap w_LESS "com/example/tyche/tyche/model/Relation") (F_symbol_w_LESS : Fld Z Z.heap w_LESS "com/example/tyche/tyche/model/Relation" "symbol" "Ljava/lang/String;" (.ref w_LESS_symbol)) (E_w_LESS_symbol : Exa Z Z.heap w_LESS_symbol "java/lang/String") (F_value_w_LESS_symbol : Fld Z Z.heap w_LESS_symbol "java/lang/String" "value" "[B" (.ref w_LESS_symbol_value)) (F_coder_w_LESS_symbol : Fld Z Z.heap w_LESS_symbol "java/lang/String" "coder" "B" (.int (0 : Int32))) (V_w_LESS_symbol_value : Arv Z Z.heap w_LESS_symbol_value kk_w_LESS_symbol_value .byte (1 : Int32) [(.int (60 : Int32))] (.int (0 : Int32))) (E_w_EQUAL : Exa Z Z.heap w_EQUAL "com/example/tyche/tyche/model/Relation") (F_symbol_w_EQUAL : Fld Z Z.heap w_EQUAL "com/example/tyche/tyche/model/Relation" "symbol" "Ljava/lang/String;" (.ref w_EQUAL_symbol)) (E_w_EQUAL_symbol : Exa Z Z.heap w_EQUAL_symbol "java/lang/String") (F_value_w_EQUAL_symbol : Fld Z Z.heap w_EQUAL_symbol "java/lang/String" "value" "[B" (.ref w_EQUAL_symbol_value)) (F_coder_w_EQUAL_symbol : Fld Z Z.heap w_EQUAL_symbol "java/lang/String" "coder" "B" (.int (0 : Int32))) (V_w_EQUAL_symbol_value : Arv Z Z.heap w_EQUAL_symbol_value kk_w_EQUAL_symbol_value .byte (1 : Int32) [(.int (61 : Int32))] (.int (0 : Int32))) (E_w_LESS_OR_EQUAL : Exa Z Z.heap w_LESS_OR_EQUAL "com/example/tyche/tyche/model/Relation") (F_symbol_w_LESS_OR_EQUAL : Fld Z Z.heap w_LESS_OR_EQUAL "com/example/tyche/tyche/model/Relation" "symbol" "Ljava/lang/String;" (.ref w_LESS_OR_EQUAL_symbol)) (E_w_LESS_OR_EQUAL_symbol : Exa Z Z.heap w_LESS_OR_EQUAL_symbol "java/lang/String") (F_value_w_LESS_OR_EQUAL_symbol : Fld Z Z.heap w_LESS_OR_EQUAL_symbol "java/lang/String" "value" "[B" (.ref w_LESS_OR_EQUAL_symbol_value)) (F_coder_w_LESS_OR_EQUAL_symbol : Fld Z Z.heap w_LESS_OR_EQUAL_symbol "java/lang/String" "coder" "B" (.int (0 : Int32))) (V_w_LESS_OR_EQUAL_symbol_value : Arv Z Z.heap w_LESS_OR_EQUAL_symbol_value kk_w_LESS_OR_EQUAL_symbol_value .byte (2 : Int32) [(.int (60 : Int32)), (.int (61 : Int32))] (.int (0 : Int32))) (S_COMPACT_STRINGS : Sta Z Z.heap "java/lang/String" "COMPACT_STRINGS" "Z" (.int w_COMPACT_STRINGS)) (hCS : ¬ (w_COMPACT_STRINGS = (0 : Int32))) (hne1 : w_EQUAL ≠ w_LESS) (hne2 : w_LESS_OR_EQUAL ≠ w_LESS) (S_SIOOBE_FORMATTER : Sta Z Z.heap "jdk/internal/util/Preconditions" "SIOOBE_FORMATTER" "Ljava/util/function/BiFunction;" w_SIOOBE_FORMATTER) (hr_SIOOBE : w_SIOOBE_FORMATTER.isRef = true) (hc1_0 : ¬ (((pi1 &&& (2147483647 : Int32)) % (3 : Int32)) = (0 : Int32))) (hc1_1 : ¬ (((pi1 &&& (2147483647 : Int32)) % (3 : Int32)) = (1 : Int32))) :
    MetFree l x (head1 (Jvm.Cond.code x code maxLocals ret :: ws) room_1) (fun a U => a = #[(.int pi1)] ∧ Z.Warmed39 U.vm ∧ U.heap = h0) (fun _ _ _ _ _ => True) (fun _ U o U' => ∃ v L, o = .returned v ∧ Q0 v L n0 ∧ FrameEnd U o U' L room_1.cells room_1.slots) := by
  refine MetFree.of_bodySF (plainFor_of_name pn_0) hisR ?_
  intro p e s m args below meth c s₁ Bd hml0 hP hK
  obtain ⟨rfl, hZ, hh⟩ := hP
  have hx := Bd.exec
  have hby := Bd.bytes
  have hml : c.maxLocals = 5 := hml0
  have hown : s.vm.findClass "com/example/tyche/tyche/model/RelationIsStrictPinLaw" = some m.cls := findClass_of_methodNamed Bd.named
  have hnm := (name_of_methodNamed Bd.named Bd.method).1
  have X0 : Stand p l e room_1 s m #[(.int pi1)] below meth c s₁ [] 0 0 := Stand.of_body Bd
  have e0 : s₁.heap = h0 := by rw [← hh, Bd.state]; rfl
  have N0 := Fr.nil n0
  have pre0 : ∀ t, Steps p.tables e below (s₁.setTop (mkF m 0 #[.val (.int pi1), .unset, .unset, .unset, .unset] [])) t → Steps p.tables e below (s₁.setTop (entryFrame m #[(.int pi1)] maxLocals)) t := fun t k => castTop (ef_0 m pi1) k
  obtain ⟨_, _, ⟨T1, L1, k1, n1⟩, -, X1, ⟨Lc1, hQ1, l1, y1, z1⟩, st1⟩ := Jvm.LawKit.callS X0 hx (y := (⟨"com/example/tyche/tyche/model/RelationIsStrictPinLaw", "pick", "(I)Lcom/example/tyche/tyche/model/Relation;"⟩ : MethodName)) hown (mvT hZ (hw _ (List.mem_of_getElem? (i := 0) rfl))) (mvT hZ (hw _ (List.mem_of_getElem? (i := 1) rfl))) (mvT hZ (hw _ (List.mem_of_getElem? (i := 2) rfl))) (mvT hZ (hw _ (List.mem_of_getElem? (i := 3) rfl))) (by decide) (backOf (W := 0) (rm1_ff l Z a0 hw [] pi1 w_EQUAL h0 n0 Z0 O0 S_EQUAL hc1_0 hc1_1) hZ (hw _ (List.mem_of_getElem? (i := 3) rfl)) (hw _ (List.mem_of_getElem? (i := 2) rfl)) (by decide) (by decide)) (g := (mkF m 1 #[.val (.int pi1), .unset, .unset, .unset, .unset] [(.int pi1)])) rfl (by rw [hml]; rfl) (argsL := [(.int pi1)]) (rest := []) (lenOf pd_0 rfl) rfl (by show 2 * 0 + _ ≤ _; exact Nat.le_of_eq rfl) (hb hby at_1) (fun _ _ => ⟨rfl, e0, (by decide : 0 + 0 ≤ _), (by decide : 0 + 0 ≤ _)⟩)
  dsimp only [Pt.U, Pt.locs, Pt.cells, Pt.slots] at X1 l1 y1 z1 st1 hQ1
  subst l1 y1 z1
  obtain ⟨rfl, N1q, eq1⟩ := hQ1
  have N1 := Fr.app N0 N1q
  obtain ⟨cq2, kq2, q2a, q2b, q2c⟩ := isOf hZ eq1 (E_w_EQUAL.ext O0.2)
  obtain ⟨_, _, ⟨T2, L2, k2, n2⟩, -, X2, ⟨Lc2, hQ2, l2, y2, z2⟩, st2⟩ := X1.virtualBack hx (y := (⟨"com/example/tyche/tyche/model/Relation", "toString", "()Ljava/lang/String;"⟩ : MethodName)) (z := (⟨"com/example/tyche/tyche/model/Relation", "toString", "()Ljava/lang/String;"⟩ : MethodName)) hown (mvT hZ (hw _ (List.mem_of_getElem? (i := 8) rfl))) (mvT hZ (hw _ (List.mem_of_getElem? (i := 9) rfl))) (notFace_of_selects (args := #[]) (mvT hZ (hw _ (List.mem_of_getElem? (i := 11) rfl)))) (mvT hZ (hw _ (List.mem_of_getElem? (i := 11) rfl))) (mvT hZ (hw _ (List.mem_of_getElem? (i := 10) rfl))) (by decide) (backOf (W := 0) (rm2 l Z a0 hw [] w_EQUAL w_EQUAL_symbol h0 n0 Z0 O0 (F_symbol_w_EQUAL.ext O0.2)) hZ (hw _ (List.mem_of_getElem? (i := 12) rfl)) (hw _ (List.mem_of_getElem? (i := 6) rfl)) (by decide) (by decide)) q2a q2c (g := (mkF m 6 #[.val (.int pi1), .val (.ref w_EQUAL), .unset, .unset, .unset] [(.ref w_EQUAL)])) rfl (by rw [hml]; rfl) (Steps.refl _) (argsL := []) (rest := []) (lenOf pd_1 rfl) rfl (by show 2 * 0 + _ ≤ _; exact Nat.le_of_eq rfl) (hb hby at_6) (fun _ _ => ⟨rfl, eq1, (by decide : 0 + 0 ≤ _), (by decide : 0 + 0 ≤ _)⟩)
  dsimp only [Pt.U, Pt.locs, Pt.cells, Pt.slots] at X2 l2 y2 z2 st2 hQ2
  subst l2 y2 z2
  obtain ⟨rfl, N2q, eq2⟩ := hQ2
  have N2 := Fr.app N1 N2q
  obtain ⟨cq3, kq3, q3a, q3b, q3c⟩ := isOf hZ eq2 (E_w_EQUAL_symbol.ext O0.2)
  obtain ⟨_, _, ⟨T3, L3, k3, n3⟩, -, X3, ⟨Lc3, hQ3, l3, y3, z3⟩, st3⟩ := X2.virtualBack hx (y := (⟨"java/lang/String", "length", "()I"⟩ : MethodName)) (z := (⟨"java/lang/String", "length", "()I"⟩ : MethodName)) hown (mvT hZ (hw _ (List.mem_of_getElem? (i := 15) rfl))) (mvT hZ (hw _ (List.mem_of_getElem? (i := 16) rfl))) (notFace_of_selects (args := #[]) (mvT hZ (hw _ (List.mem_of_getElem? (i := 18) rfl)))) (mvT hZ (hw _ (List.mem_of_getElem? (i := 18) rfl))) (mvT hZ (hw _ (List.mem_of_getElem? (i := 17) rfl))) (by decide) (backOf (W := 0) (rm3_1 l Z a0 hw [] w_EQUAL_symbol w_EQUAL_symbol_value kk_w_EQUAL_symbol_value (61 : Int32) w_COMPACT_STRINGS (0 : Int32) h0 n0 Z0 O0 (F_value_w_EQUAL_symbol.ext O0.2) (V_w_EQUAL_symbol_value.ext O0.2) S_COMPACT_STRINGS (F_coder_w_EQUAL_symbol.ext O0.2) (E_w_EQUAL_symbol.ext O0.2) hCS) hZ (hw _ (List.mem_of_getElem? (i := 20) rfl)) (hw _ (List.mem_of_getElem? (i := 19) rfl)) (by decide) (by decide)) q3a q3c (g := (mkF m 11 #[.val (.int pi1), .val (.ref w_EQUAL), .val (.ref w_EQUAL_symbol), .unset, .unset] [(.ref w_EQUAL_symbol)])) rfl (by rw [hml]; rfl) (Steps.refl _) (argsL := []) (rest := []) (lenOf pd_2 rfl) rfl (by show 2 * 0 + _ ≤ _; exact Nat.le_of_eq rfl) (hb hby at_11) (fun _ _ => ⟨rfl, eq2, (by decide : 0 + 0 ≤ _), (by decide : 0 + 0 ≤ _)⟩)
  dsimp only [Pt.U, Pt.locs, Pt.cells, Pt.slots] at X3 l3 y3 z3 st3 hQ3
  subst l3 y3 z3
  obtain ⟨rfl, N3q, eq3⟩ := hQ3
  have N3 := Fr.app N2 N3q
  obtain ⟨cq4, kq4, q4a, q4b, q4c⟩ := isOf hZ eq3 (E_w_EQUAL_symbol.ext O0.2)
  obtain ⟨_, _, ⟨T4, L4, k4, n4⟩, -, X4, ⟨Lc4, hQ4, l4, y4, z4⟩, st4⟩ := X3.virtualBack hx (y := (⟨"java/lang/String", "charAt", "(I)C"⟩ : MethodName)) (z := (⟨"java/lang/String", "charAt", "(I)C"⟩ : MethodName)) hown (mvT hZ (hw _ (List.mem_of_getElem? (i := 31) rfl))) (mvT hZ (hw _ (List.mem_of_getElem? (i := 32) rfl))) (notFace_of_selects (args := #[]) (mvT hZ (hw _ (List.mem_of_getElem? (i := 34) rfl)))) (mvT hZ (hw _ (List.mem_of_getElem? (i := 34) rfl))) (mvT hZ (hw _ (List.mem_of_getElem? (i := 33) rfl))) (by decide) (backOf (W := 0) (rm5_1_0 l Z a0 hw [] w_EQUAL_symbol w_EQUAL_symbol_value kk_w_EQUAL_symbol_value (61 : Int32) w_COMPACT_STRINGS (0 : Int32) w_SIOOBE_FORMATTER h0 n0 Z0 O0 (F_value_w_EQUAL_symbol.ext O0.2) (V_w_EQUAL_symbol_value.ext O0.2) S_COMPACT_STRINGS (F_coder_w_EQUAL_symbol.ext O0.2) (E_w_EQUAL_symbol.ext O0.2) S_SIOOBE_FORMATTER hr_SIOOBE hCS (by decide)) hZ (hw _ (List.mem_of_getElem? (i := 35) rfl)) (hw _ (List.mem_of_getElem? (i := 19) rfl)) (by decide) (by decide)) q4a q4c (g := (mkF m 24 #[.val (.int pi1), .val (.ref w_EQUAL), .val (.ref w_EQUAL_symbol), .val (.int (1 : Int32)), .val (.int (0 : Int32))] [(.int (0 : Int32)), (.ref w_EQUAL_symbol)])) rfl (by rw [hml]; rfl) (Steps.refl _) (argsL := [(.int (0 : Int32))]) (rest := []) (lenOf pd_4 rfl) rfl (by show 2 * 0 + _ ≤ _; exact Nat.le_of_eq rfl) (hb hby at_24) (fun _ _ => ⟨rfl, eq3, (by decide : 0 + 0 ≤ _), (by decide : 0 + 0 ≤ _)⟩)
  dsimp only [Pt.U, Pt.locs, Pt.cells, Pt.slots] at X4 l4 y4 z4 st4 hQ4
  subst l4 y4 z4
  obtain ⟨rfl, N4q, eq4⟩ := hQ4
  have N4 := Fr.app N3 N4q
  obtain ⟨cq5, kq5, q5a, q5b, q5c⟩ := isOf hZ eq4 (E_w_EQUAL.ext O0.2)
  obtain ⟨_, _, ⟨T5, L5, k5, n5⟩, -, X5, ⟨Lc5, hQ5, l5, y5, z5⟩, st5⟩ := X4.virtualBack hx (y := (⟨"com/example/tyche/tyche/model/Relation", "isStrict", "()Z"⟩ : MethodName)) (z := (⟨"com/example/tyche/tyche/model/Relation", "isStrict", "()Z"⟩ : MethodName)) hown (mvT hZ (hw _ (List.mem_of_getElem? (i := 53) rfl))) (mvT hZ (hw _ (List.mem_of_getElem? (i := 54) rfl))) (notFace_of_selects (args := #[]) (mvT hZ (hw _ (List.mem_of_getElem? (i := 56) rfl)))) (mvT hZ (hw _ (List.mem_of_getElem? (i := 56) rfl))) (mvT hZ (hw _ (List.mem_of_getElem? (i := 55) rfl))) (by decide) (backOf (W := 0) (rm10_f l Z a0 hw [] w_EQUAL w_LESS h0 n0 Z0 O0 S_LESS hne1) hZ (hw _ (List.mem_of_getElem? (i := 57) rfl)) (hw _ (List.mem_of_getElem? (i := 6) rfl)) (by decide) (by decide)) q5a q5c (g := (mkF m 61 #[.val (.int pi1), .val (.ref w_EQUAL), .val (.ref w_EQUAL_symbol), .val (.int (1 : Int32)), .val (.int (1 : Int32))] [(.ref w_EQUAL)])) rfl (by rw [hml]; rfl) (Steps.refl _) (argsL := []) (rest := []) (lenOf pd_5 rfl) rfl (by show 2 * 0 + _ ≤ _; exact Nat.le_of_eq rfl) (hb hby at_61) (fun _ _ => ⟨rfl, eq4, (by decide : 0 + 0 ≤ _), (by decide : 0 + 0 ≤ _)⟩)
  dsimp only [Pt.U, Pt.locs, Pt.cells, Pt.slots] at X5 l5 y5 z5 st5 hQ5
  subst l5 y5 z5
  obtain ⟨rfl, N5q, eq5⟩ := hQ5
  have N5 := Fr.app N4 N5q
  obtain ⟨fs, hr, hrun, hended, hW, hsame⟩ := X5.leave (v := some (.int (1 : Int32))) (fun h => by rw [Bd.returns] at h; cases h)
  refine ⟨_, _, pre0 _ ?_, hrun, hended, _, _, rfl, ?_, ⟨_, rfl⟩, hW, hsame.mono (by decide) (by decide)⟩
  · show Steps p.tables e below (s₁.setTop (mkF m 0 #[.val (.int pi1), .unset, .unset, .unset, .unset] [])) _
    refine XS.iloadN X0.here hx rfl (hb hby at_0) rfl ?_
    show Steps p.tables e below (s₁.setTop (mkF m 1 #[.val (.int pi1), .unset, .unset, .unset, .unset] [(.int pi1)])) _
    refine st1 _ ?_
    show Steps p.tables e below (T1.setTop (mkF m 4 #[.val (.int pi1), .unset, .unset, .unset, .unset] [(.ref w_EQUAL)])) _
    refine XS.astoreN X1.here hx rfl (hb hby at_4) rfl rfl (l' := #[.val (.int pi1), .val (.ref w_EQUAL), .unset, .unset, .unset]) rfl ?_
    show Steps p.tables e below (T1.setTop (mkF m 5 #[.val (.int pi1), .val (.ref w_EQUAL), .unset, .unset, .unset] [])) _
    refine XS.aloadN X1.here hx rfl (hb hby at_5) rfl rfl ?_
    show Steps p.tables e below (T1.setTop (mkF m 6 #[.val (.int pi1), .val (.ref w_EQUAL), .unset, .unset, .unset] [(.ref w_EQUAL)])) _
    refine st2.trans ?_
    show Steps p.tables e below (T2.setTop (mkF m 9 #[.val (.int pi1), .val (.ref w_EQUAL), .unset, .unset, .unset] [(.ref w_EQUAL_symbol)])) _
    refine XS.astoreN X2.here hx rfl (hb hby at_9) rfl rfl (l' := #[.val (.int pi1), .val (.ref w_EQUAL), .val (.ref w_EQUAL_symbol), .unset, .unset]) rfl ?_
    show Steps p.tables e below (T2.setTop (mkF m 10 #[.val (.int pi1), .val (.ref w_EQUAL), .val (.ref w_EQUAL_symbol), .unset, .unset] [])) _
    refine XS.aloadN X2.here hx rfl (hb hby at_10) rfl rfl ?_
    show Steps p.tables e below (T2.setTop (mkF m 11 #[.val (.int pi1), .val (.ref w_EQUAL), .val (.ref w_EQUAL_symbol), .unset, .unset] [(.ref w_EQUAL_symbol)])) _
    refine st3.trans ?_
    show Steps p.tables e below (T3.setTop (mkF m 14 #[.val (.int pi1), .val (.ref w_EQUAL), .val (.ref w_EQUAL_symbol), .unset, .unset] [(.int (1 : Int32))])) _
    refine XS.istoreN X3.here hx rfl (hb hby at_14) rfl (l' := #[.val (.int pi1), .val (.ref w_EQUAL), .val (.ref w_EQUAL_symbol), .val (.int (1 : Int32)), .unset]) rfl ?_
    show Steps p.tables e below (T3.setTop (mkF m 15 #[.val (.int pi1), .val (.ref w_EQUAL), .val (.ref w_EQUAL_symbol), .val (.int (1 : Int32)), .unset] [])) _
    refine XS.iconst X3.here hx rfl (hb hby at_15) ?_
    show Steps p.tables e below (T3.setTop (mkF m 16 #[.val (.int pi1), .val (.ref w_EQUAL), .val (.ref w_EQUAL_symbol), .val (.int (1 : Int32)), .unset] [(.int (0 : Int32))])) _
    refine XS.istore X3.here hx rfl (hb hby at_16) rfl (l' := #[.val (.int pi1), .val (.ref w_EQUAL), .val (.ref w_EQUAL_symbol), .val (.int (1 : Int32)), .val (.int (0 : Int32))]) rfl ?_
    show Steps p.tables e below (T3.setTop (mkF m 18 #[.val (.int pi1), .val (.ref w_EQUAL), .val (.ref w_EQUAL_symbol), .val (.int (1 : Int32)), .val (.int (0 : Int32))] [])) _
    refine XS.iloadN X3.here hx rfl (hb hby at_18) rfl ?_
    show Steps p.tables e below (T3.setTop (mkF m 19 #[.val (.int pi1), .val (.ref w_EQUAL), .val (.ref w_EQUAL_symbol), .val (.int (1 : Int32)), .val (.int (0 : Int32))] [(.int (1 : Int32))])) _
    refine XS.ifNo X3.here hx rfl (hb hby at_19) rfl ((if0 _ _).trans (tlt (by decide : (0 : Int32) < (1 : Int32))).2.2.2) ?_
    show Steps p.tables e below (T3.setTop (mkF m 22 #[.val (.int pi1), .val (.ref w_EQUAL), .val (.ref w_EQUAL_symbol), .val (.int (1 : Int32)), .val (.int (0 : Int32))] [])) _
    refine XS.aloadN X3.here hx rfl (hb hby at_22) rfl rfl ?_
    show Steps p.tables e below (T3.setTop (mkF m 23 #[.val (.int pi1), .val (.ref w_EQUAL), .val (.ref w_EQUAL_symbol), .val (.int (1 : Int32)), .val (.int (0 : Int32))] [(.ref w_EQUAL_symbol)])) _
    refine XS.iconst X3.here hx rfl (hb hby at_23) ?_
    show Steps p.tables e below (T3.setTop (mkF m 24 #[.val (.int pi1), .val (.ref w_EQUAL), .val (.ref w_EQUAL_symbol), .val (.int (1 : Int32)), .val (.int (0 : Int32))] [(.int (0 : Int32)), (.ref w_EQUAL_symbol)])) _
    refine st4.trans ?_
    show Steps p.tables e below (T4.setTop (mkF m 27 #[.val (.int pi1), .val (.ref w_EQUAL), .val (.ref w_EQUAL_symbol), .val (.int (1 : Int32)), .val (.int (0 : Int32))] [(.int (61 : Int32))])) _
    refine XS.bipush X4.here hx rfl (hb hby at_27) ?_
    show Steps p.tables e below (T4.setTop (mkF m 29 #[.val (.int pi1), .val (.ref w_EQUAL), .val (.ref w_EQUAL_symbol), .val (.int (1 : Int32)), .val (.int (0 : Int32))] [(.int (61 : Int32)), (.int (61 : Int32))])) _
    refine XS.icmpNo X4.here hx rfl (hb hby at_29) rfl (teq (rfl : (61 : Int32) = (61 : Int32))).2 ?_
    show Steps p.tables e below (T4.setTop (mkF m 32 #[.val (.int pi1), .val (.ref w_EQUAL), .val (.ref w_EQUAL_symbol), .val (.int (1 : Int32)), .val (.int (0 : Int32))] [])) _
    refine XS.iconst X4.here hx rfl (hb hby at_32) ?_
    show Steps p.tables e below (T4.setTop (mkF m 33 #[.val (.int pi1), .val (.ref w_EQUAL), .val (.ref w_EQUAL_symbol), .val (.int (1 : Int32)), .val (.int (0 : Int32))] [(.int (1 : Int32))])) _
    refine XS.istore X4.here hx rfl (hb hby at_33) rfl (l' := #[.val (.int pi1), .val (.ref w_EQUAL), .val (.ref w_EQUAL_symbol), .val (.int (1 : Int32)), .val (.int (1 : Int32))]) rfl ?_
    show Steps p.tables e below (T4.setTop (mkF m 35 #[.val (.int pi1), .val (.ref w_EQUAL), .val (.ref w_EQUAL_symbol), .val (.int (1 : Int32)), .val (.int (1 : Int32))] [])) _
    refine XS.iloadN X4.here hx rfl (hb hby at_35) rfl ?_
    show Steps p.tables e below (T4.setTop (mkF m 36 #[.val (.int pi1), .val (.ref w_EQUAL), .val (.ref w_EQUAL_symbol), .val (.int (1 : Int32)), .val (.int (1 : Int32))] [(.int (1 : Int32))])) _
    refine XS.iconst X4.here hx rfl (hb hby at_36) ?_
    show Steps p.tables e below (T4.setTop (mkF m 37 #[.val (.int pi1), .val (.ref w_EQUAL), .val (.ref w_EQUAL_symbol), .val (.int (1 : Int32)), .val (.int (1 : Int32))] [(.int (1 : Int32)), (.int (1 : Int32))])) _
    refine XS.icmpYes X4.here hx rfl (pc0 := 37) (pc' := 53) rfl (hb hby at_37) rfl (flt (by simp : ¬ ((1 : Int32) < (1 : Int32)))).2.2.2 (by decide) (by decide) ?_
    show Steps p.tables e below (T4.setTop (mkF m 53 #[.val (.int pi1), .val (.ref w_EQUAL), .val (.ref w_EQUAL_symbol), .val (.int (1 : Int32)), .val (.int (1 : Int32))] [])) _
    refine XS.iloadN X4.here hx rfl (hb hby at_53) rfl ?_
    show Steps p.tables e below (T4.setTop (mkF m 54 #[.val (.int pi1), .val (.ref w_EQUAL), .val (.ref w_EQUAL_symbol), .val (.int (1 : Int32)), .val (.int (1 : Int32))] [(.int (1 : Int32))])) _
    refine XS.iconst X4.here hx rfl (hb hby at_54) ?_
    show Steps p.tables e below (T4.setTop (mkF m 55 #[.val (.int pi1), .val (.ref w_EQUAL), .val (.ref w_EQUAL_symbol), .val (.int (1 : Int32)), .val (.int (1 : Int32))] [(.int (2 : Int32)), (.int (1 : Int32))])) _
    refine XS.icmpYes X4.here hx rfl (pc0 := 55) (pc' := 60) rfl (hb hby at_55) rfl (flt (by decide : ¬ ((2 : Int32) < (1 : Int32)))).2.2.2 (by decide) (by decide) ?_
    show Steps p.tables e below (T4.setTop (mkF m 60 #[.val (.int pi1), .val (.ref w_EQUAL), .val (.ref w_EQUAL_symbol), .val (.int (1 : Int32)), .val (.int (1 : Int32))] [])) _
    refine XS.aloadN X4.here hx rfl (hb hby at_60) rfl rfl ?_
    show Steps p.tables e below (T4.setTop (mkF m 61 #[.val (.int pi1), .val (.ref w_EQUAL), .val (.ref w_EQUAL_symbol), .val (.int (1 : Int32)), .val (.int (1 : Int32))] [(.ref w_EQUAL)])) _
    refine st5.trans ?_
    show Steps p.tables e below (T5.setTop (mkF m 64 #[.val (.int pi1), .val (.ref w_EQUAL), .val (.ref w_EQUAL_symbol), .val (.int (1 : Int32)), .val (.int (1 : Int32))] [(.int (0 : Int32))])) _
    refine XS.iload X5.here hx rfl (hb hby at_64) rfl ?_
    show Steps p.tables e below (T5.setTop (mkF m 66 #[.val (.int pi1), .val (.ref w_EQUAL), .val (.ref w_EQUAL_symbol), .val (.int (1 : Int32)), .val (.int (1 : Int32))] [(.int (1 : Int32)), (.int (0 : Int32))])) _
    refine XS.ifYes X5.here hx rfl (pc0 := 66) (pc' := 73) rfl (hb hby at_66) rfl ((if0 _ _).trans (feq (by decide : ¬ ((1 : Int32) = (0 : Int32)))).2) (by decide) (by decide) ?_
    show Steps p.tables e below (T5.setTop (mkF m 73 #[.val (.int pi1), .val (.ref w_EQUAL), .val (.ref w_EQUAL_symbol), .val (.int (1 : Int32)), .val (.int (1 : Int32))] [(.int (0 : Int32))])) _
    refine XS.iconst X5.here hx rfl (hb hby at_73) ?_
    show Steps p.tables e below (T5.setTop (mkF m 74 #[.val (.int pi1), .val (.ref w_EQUAL), .val (.ref w_EQUAL_symbol), .val (.int (1 : Int32)), .val (.int (1 : Int32))] [(.int (0 : Int32)), (.int (0 : Int32))])) _
    refine XS.icmpNo X5.here hx rfl (hb hby at_74) rfl (teq (rfl : (0 : Int32) = (0 : Int32))).2 ?_
    show Steps p.tables e below (T5.setTop (mkF m 77 #[.val (.int pi1), .val (.ref w_EQUAL), .val (.ref w_EQUAL_symbol), .val (.int (1 : Int32)), .val (.int (1 : Int32))] [])) _
    refine XS.iconst X5.here hx rfl (hb hby at_77) ?_
    show Steps p.tables e below (T5.setTop (mkF m 78 #[.val (.int pi1), .val (.ref w_EQUAL), .val (.ref w_EQUAL_symbol), .val (.int (1 : Int32)), .val (.int (1 : Int32))] [(.int (1 : Int32))])) _
    refine XS.goto X5.here hx rfl (pc0 := 78) (pc' := 82) rfl (hb hby at_78) (by decide) (by decide) ?_
    show Steps p.tables e below (T5.setTop (mkF m 82 #[.val (.int pi1), .val (.ref w_EQUAL), .val (.ref w_EQUAL_symbol), .val (.int (1 : Int32)), .val (.int (1 : Int32))] [(.int (1 : Int32))])) _
    exact retN X5 hx (t := .boolean) Bd.returns (by simp) (hb hby at_82) hr
  · exact ⟨rfl, N5⟩
set_option maxRecDepth 65536 in
set_option maxHeartbeats 40000000 in
theorem rm0 (l : Launch) (Z : State) (a0 : Array Value) (hw : ∀ d ∈ tables_1, d.before a0 Z = true) (ws : List Jvm.Cond) (pi1 : Int32) (w_LESS : Addr) (w_EQUAL : Addr) (w_LESS_OR_EQUAL : Addr) (w_LESS_symbol : Addr) (w_LESS_symbol_value : Addr) (kk_w_LESS_symbol_value : ClassId) (w_EQUAL_symbol : Addr) (w_EQUAL_symbol_value : Addr) (kk_w_EQUAL_symbol_value : ClassId) (w_LESS_OR_EQUAL_symbol : Addr) (w_LESS_OR_EQUAL_symbol_value : Addr) (kk_w_LESS_OR_EQUAL_symbol_value : ClassId) (w_COMPACT_STRINGS : Int32) (w_SIOOBE_FORMATTER : Value) (h0 : Heap) (n0 : Nat) (Z0 : n0 ≤ h0.size) (O0 : Old Z n0 h0) (S_LESS : Sta Z Z.heap "com/example/tyche/tyche/model/Relation" "LESS" "Lcom/example/tyche/tyche/model/Relation;" (.ref w_LESS)) (S_EQUAL : Sta Z Z.heap "com/example/tyche/tyche/model/Relation" "EQUAL" "Lcom/example/tyche/tyche/model/Relation;" (.ref w_EQUAL)) (S_LESS_OR_EQUAL : Sta Z Z.heap "com/example/tyche/tyche/model/Relation" "LESS_OR_EQUAL" "Lcom/example/tyche/tyche/model/Relation;" (.ref w_LESS_OR_EQUAL)) (E_w_LESS : Exa Z Z.heap w_LESS "com/example/tyche/tyche/model/Relation") (F_symbol_w_LESS : Fld Z Z.heap w_LESS "com/example/tyche/tyche/model/Relation" "symbol" "Ljava/lang/String;" (.ref w_LESS_symbol)) (E_w_LESS_symbol : Exa Z Z.heap w_LESS_symbol "java/lang/String") (F_value_w_LESS_symbol : Fld Z Z.heap w_LESS_symbol "java/lang/String" "value" "[B" (.ref w_LESS_symbol_value)) (F_coder_w_LESS_symbol : Fld Z Z.heap w_LESS_symbol "java/lang/String" "coder" "B" (.int (0 : Int32))) (V_w_LESS_symbol_value : Arv Z Z.heap w_LESS_symbol_value kk_w_LESS_symbol_value .byte (1 : Int32) [(.int (60 : Int32))] (.int (0 : Int32))) (E_w_EQUAL : Exa Z Z.heap w_EQUAL "com/example/tyche/tyche/model/Relation") (F_symbol_w_EQUAL : Fld Z Z.heap w_EQUAL "com/example/tyche/tyche/model/Relation" "symbol" "Ljava/lang/String;" (.ref w_EQUAL_symbol)) (E_w_EQUAL_symbol : Exa Z Z.heap w_EQUAL_symbol "java/lang/String") (F_value_w_EQUAL_symbol : Fld Z Z.heap w_EQUAL_symbol "java/lang/String" "value" "[B" (.ref w_EQUAL_symbol_value)) (F_coder_w_EQUAL_symbol : Fld Z Z.heap w_EQUAL_symbol "java/lang/String" "coder" "B" (.int (0 : Int32))) (V_w_EQUAL_symbol_value : Arv Z Z.heap w_EQUAL_symbol_value kk_w_EQUAL_symbol_value .byte (1 : Int32) [(.int (61 : Int32))] (.int (0 : Int32))) (E_w_LESS_OR_EQUAL : Exa Z Z.heap w_LESS_OR_EQUAL "com/example/tyche/tyche/model/Relation") (F_symbol_w_LESS_OR_EQUAL : Fld Z Z.heap w_LESS_OR_EQUAL "com/example/tyche/tyche/model/Relation" "symbol" "Ljava/lang/String;" (.ref w_LESS_OR_EQUAL_symbol)) (E_w_LESS_OR_EQUAL_symbol : Exa Z Z.heap w_LESS_OR_EQUAL_symbol "java/lang/String") (F_value_w_LESS_OR_EQUAL_symbol : Fld Z Z.heap w_LESS_OR_EQUAL_symbol "java/lang/String" "value" "[B" (.ref w_LESS_OR_EQUAL_symbol_value)) (F_coder_w_LESS_OR_EQUAL_symbol : Fld Z Z.heap w_LESS_OR_EQUAL_symbol "java/lang/String" "coder" "B" (.int (0 : Int32))) (V_w_LESS_OR_EQUAL_symbol_value : Arv Z Z.heap w_LESS_OR_EQUAL_symbol_value kk_w_LESS_OR_EQUAL_symbol_value .byte (2 : Int32) [(.int (60 : Int32)), (.int (61 : Int32))] (.int (0 : Int32))) (S_COMPACT_STRINGS : Sta Z Z.heap "java/lang/String" "COMPACT_STRINGS" "Z" (.int w_COMPACT_STRINGS)) (hCS : ¬ (w_COMPACT_STRINGS = (0 : Int32))) (hne1 : w_EQUAL ≠ w_LESS) (hne2 : w_LESS_OR_EQUAL ≠ w_LESS) (S_SIOOBE_FORMATTER : Sta Z Z.heap "jdk/internal/util/Preconditions" "SIOOBE_FORMATTER" "Ljava/util/function/BiFunction;" w_SIOOBE_FORMATTER) (hr_SIOOBE : w_SIOOBE_FORMATTER.isRef = true) :
    MetFree l x (head1 (Jvm.Cond.code x code maxLocals ret :: ws) room_1) (fun a U => a = #[(.int pi1)] ∧ Z.Warmed39 U.vm ∧ U.heap = h0) (fun _ _ _ _ _ => True) (fun _ U o U' => ∃ v L, o = .returned v ∧ Q0 v L n0 ∧ FrameEnd U o U' L room_1.cells room_1.slots) := by
  by_cases H1 : ((pi1 &&& (2147483647 : Int32)) % (3 : Int32)) = (0 : Int32)
  · exact rm0_t l Z a0 hw ws pi1 w_LESS w_EQUAL w_LESS_OR_EQUAL w_LESS_symbol w_LESS_symbol_value kk_w_LESS_symbol_value w_EQUAL_symbol w_EQUAL_symbol_value kk_w_EQUAL_symbol_value w_LESS_OR_EQUAL_symbol w_LESS_OR_EQUAL_symbol_value kk_w_LESS_OR_EQUAL_symbol_value w_COMPACT_STRINGS w_SIOOBE_FORMATTER h0 n0 Z0 O0 S_LESS S_EQUAL S_LESS_OR_EQUAL E_w_LESS F_symbol_w_LESS E_w_LESS_symbol F_value_w_LESS_symbol F_coder_w_LESS_symbol V_w_LESS_symbol_value E_w_EQUAL F_symbol_w_EQUAL E_w_EQUAL_symbol F_value_w_EQUAL_symbol F_coder_w_EQUAL_symbol V_w_EQUAL_symbol_value E_w_LESS_OR_EQUAL F_symbol_w_LESS_OR_EQUAL E_w_LESS_OR_EQUAL_symbol F_value_w_LESS_OR_EQUAL_symbol F_coder_w_LESS_OR_EQUAL_symbol V_w_LESS_OR_EQUAL_symbol_value S_COMPACT_STRINGS hCS hne1 hne2 S_SIOOBE_FORMATTER hr_SIOOBE H1
  · by_cases H2 : ((pi1 &&& (2147483647 : Int32)) % (3 : Int32)) = (1 : Int32)
    · exact rm0_ft l Z a0 hw ws pi1 w_LESS w_EQUAL w_LESS_OR_EQUAL w_LESS_symbol w_LESS_symbol_value kk_w_LESS_symbol_value w_EQUAL_symbol w_EQUAL_symbol_value kk_w_EQUAL_symbol_value w_LESS_OR_EQUAL_symbol w_LESS_OR_EQUAL_symbol_value kk_w_LESS_OR_EQUAL_symbol_value w_COMPACT_STRINGS w_SIOOBE_FORMATTER h0 n0 Z0 O0 S_LESS S_EQUAL S_LESS_OR_EQUAL E_w_LESS F_symbol_w_LESS E_w_LESS_symbol F_value_w_LESS_symbol F_coder_w_LESS_symbol V_w_LESS_symbol_value E_w_EQUAL F_symbol_w_EQUAL E_w_EQUAL_symbol F_value_w_EQUAL_symbol F_coder_w_EQUAL_symbol V_w_EQUAL_symbol_value E_w_LESS_OR_EQUAL F_symbol_w_LESS_OR_EQUAL E_w_LESS_OR_EQUAL_symbol F_value_w_LESS_OR_EQUAL_symbol F_coder_w_LESS_OR_EQUAL_symbol V_w_LESS_OR_EQUAL_symbol_value S_COMPACT_STRINGS hCS hne1 hne2 S_SIOOBE_FORMATTER hr_SIOOBE H1 H2
    · exact rm0_ff l Z a0 hw ws pi1 w_LESS w_EQUAL w_LESS_OR_EQUAL w_LESS_symbol w_LESS_symbol_value kk_w_LESS_symbol_value w_EQUAL_symbol w_EQUAL_symbol_value kk_w_EQUAL_symbol_value w_LESS_OR_EQUAL_symbol w_LESS_OR_EQUAL_symbol_value kk_w_LESS_OR_EQUAL_symbol_value w_COMPACT_STRINGS w_SIOOBE_FORMATTER h0 n0 Z0 O0 S_LESS S_EQUAL S_LESS_OR_EQUAL E_w_LESS F_symbol_w_LESS E_w_LESS_symbol F_value_w_LESS_symbol F_coder_w_LESS_symbol V_w_LESS_symbol_value E_w_EQUAL F_symbol_w_EQUAL E_w_EQUAL_symbol F_value_w_EQUAL_symbol F_coder_w_EQUAL_symbol V_w_EQUAL_symbol_value E_w_LESS_OR_EQUAL F_symbol_w_LESS_OR_EQUAL E_w_LESS_OR_EQUAL_symbol F_value_w_LESS_OR_EQUAL_symbol F_coder_w_LESS_OR_EQUAL_symbol V_w_LESS_OR_EQUAL_symbol_value S_COMPACT_STRINGS hCS hne1 hne2 S_SIOOBE_FORMATTER hr_SIOOBE H1 H2
set_option maxRecDepth 65536 in
set_option maxHeartbeats 40000000 in
theorem comes_1 {Post : Tables → Env → Array Value → State → Outcome → State → Prop} (hpost : ∀ tb e args s v u, (limb_1_1.after args s (.returned v) u = true ∧ limb_1_2.after args s (.returned v) u = true ∧ True) → FrameEnd s (.returned v) u (Jvm.fieldLocs frame_1_writes args s ++ Jvm.arrayLocs frame_1_arrays args s ++ Jvm.staticLocs frame_1_statics s) 0 0 → Post tb e args s (.returned v) u) :
    ArmFor flags0 classFile x code maxLocals ret World_1 tables_1 room_1 Calls_1 rest_1 Pre_1 Post := by
  intro l hfl _ _ p e ha hc hk s m args below hf hA hF happ hP
  obtain ⟨hcalls, hrest, hpre⟩ := hP
  obtain ⟨-, -, -, hnamed, -, -, -, hat⟩ := (Spec.applies_iff hf).mp happ
  obtain ⟨hg, hn⟩ := and_e (Cond.before_iff.mp (show (Jvm.Cond.and given_1 narrow_1).before args s = true from hpre))
  obtain ⟨g1, g2⟩ := and_e hg
  obtain ⟨w0, rfl⟩ : ∃ w0 : Value, args = #[w0] := by
    have hs : args.size = 1 := by simpa [Cond.value, given_1] using g1
    obtain ⟨L⟩ := args
    match L, hs with
    | [w0], _ => exact ⟨w0, rfl⟩
  have hw := fun d (hd : d ∈ tables_1) => atoms_spec (ws := Jvm.Cond.code x code maxLocals ret :: tables_1) hat d (List.mem_cons_of_mem _ hd)
  have hfit : Fit s := fun {y c} hc i hi => by
    obtain ⟨ha, rfl⟩ := Array.getElem?_eq_some_iff.mp hc
    have q := List.all_eq_true.mp ((Array.all_eq_true_iff_forall_mem.mp hF) _ (Array.getElem_mem ha)) i (List.mem_range.mpr hi)
    simpa [Array.getElem?_eq_getElem hi] using q
  obtain ⟨hsets, hown0⟩ := atoms_of _ (rest_1_c_eq ▸ (show rest_1_c.before _ s = true from hrest))
  have hr0 := Cond.before_iff.mp hown0
  obtain ⟨i0, ei0⟩ := is_v g2
  obtain rfl : w0 = (.int i0) := Option.some.inj ei0
  obtain ⟨nn1, nr1⟩ := and_e hn
  obtain ⟨nn2, nr2⟩ := and_e nr1
  obtain ⟨nn3, nr3⟩ := and_e nr2
  obtain ⟨nn4, nr4⟩ := and_e nr3
  obtain ⟨nn5, nr5⟩ := and_e nr4
  obtain ⟨nn6, nr6⟩ := and_e nr5
  obtain ⟨nn7, nr7⟩ := and_e nr6
  obtain ⟨nn8, nr8⟩ := and_e nr7
  obtain ⟨nn9, nr9⟩ := and_e nr8
  obtain ⟨nn10, nr10⟩ := and_e nr9
  obtain ⟨nn11, nr11⟩ := and_e nr10
  obtain ⟨nn12, nr12⟩ := and_e nr11
  obtain ⟨nn13, nr13⟩ := and_e nr12
  obtain ⟨nn14, nr14⟩ := and_e nr13
  obtain ⟨nn15, nr15⟩ := and_e nr14
  obtain ⟨nn16, nr16⟩ := and_e nr15
  obtain ⟨nn17, nr17⟩ := and_e nr16
  obtain ⟨nn18, nr18⟩ := and_e nr17
  obtain ⟨nn19, nr19⟩ := and_e nr18
  obtain ⟨nn20, nr20⟩ := and_e nr19
  obtain ⟨nn21, nr21⟩ := and_e nr20
  obtain ⟨w_LESS, ev_LESS⟩ := exa_v nn1
  have S_LESS : Sta s s.heap "com/example/tyche/tyche/model/Relation" "LESS" "Lcom/example/tyche/tyche/model/Relation;" (.ref w_LESS) := Sta.start ev_LESS (Or.inr ⟨(hw _ (List.mem_of_getElem? (i := 6) rfl)), (hw _ (List.mem_of_getElem? (i := 7) rfl))⟩)
  have E_w_LESS : Exa s s.heap w_LESS "com/example/tyche/tyche/model/Relation" := Exa.start ev_LESS nn1
  obtain ⟨w_LESS_symbol, ev_w_LESS_symbol⟩ := exa_v nn2
  have F_symbol_w_LESS : Fld s s.heap w_LESS "com/example/tyche/tyche/model/Relation" "symbol" "Ljava/lang/String;" (.ref w_LESS_symbol) := Fld.start ((fld_at ev_LESS).symm.trans ev_w_LESS_symbol)
  have E_w_LESS_symbol : Exa s s.heap w_LESS_symbol "java/lang/String" := Exa.start ev_w_LESS_symbol nn2
  obtain ⟨w_EQUAL, ev_EQUAL⟩ := exa_v nn7
  have S_EQUAL : Sta s s.heap "com/example/tyche/tyche/model/Relation" "EQUAL" "Lcom/example/tyche/tyche/model/Relation;" (.ref w_EQUAL) := Sta.start ev_EQUAL (Or.inr ⟨(hw _ (List.mem_of_getElem? (i := 6) rfl)), (hw _ (List.mem_of_getElem? (i := 60) rfl))⟩)
  have E_w_EQUAL : Exa s s.heap w_EQUAL "com/example/tyche/tyche/model/Relation" := Exa.start ev_EQUAL nn7
  obtain ⟨w_EQUAL_symbol, ev_w_EQUAL_symbol⟩ := exa_v nn8
  have F_symbol_w_EQUAL : Fld s s.heap w_EQUAL "com/example/tyche/tyche/model/Relation" "symbol" "Ljava/lang/String;" (.ref w_EQUAL_symbol) := Fld.start ((fld_at ev_EQUAL).symm.trans ev_w_EQUAL_symbol)
  have E_w_EQUAL_symbol : Exa s s.heap w_EQUAL_symbol "java/lang/String" := Exa.start ev_w_EQUAL_symbol nn8
  obtain ⟨w_LESS_OR_EQUAL, ev_LESS_OR_EQUAL⟩ := exa_v nn15
  have S_LESS_OR_EQUAL : Sta s s.heap "com/example/tyche/tyche/model/Relation" "LESS_OR_EQUAL" "Lcom/example/tyche/tyche/model/Relation;" (.ref w_LESS_OR_EQUAL) := Sta.start ev_LESS_OR_EQUAL (Or.inr ⟨(hw _ (List.mem_of_getElem? (i := 6) rfl)), (hw _ (List.mem_of_getElem? (i := 62) rfl))⟩)
  have E_w_LESS_OR_EQUAL : Exa s s.heap w_LESS_OR_EQUAL "com/example/tyche/tyche/model/Relation" := Exa.start ev_LESS_OR_EQUAL nn15
  obtain ⟨w_LESS_OR_EQUAL_symbol, ev_w_LESS_OR_EQUAL_symbol⟩ := exa_v nn16
  have F_symbol_w_LESS_OR_EQUAL : Fld s s.heap w_LESS_OR_EQUAL "com/example/tyche/tyche/model/Relation" "symbol" "Ljava/lang/String;" (.ref w_LESS_OR_EQUAL_symbol) := Fld.start ((fld_at ev_LESS_OR_EQUAL).symm.trans ev_w_LESS_OR_EQUAL_symbol)
  have E_w_LESS_OR_EQUAL_symbol : Exa s s.heap w_LESS_OR_EQUAL_symbol "java/lang/String" := Exa.start ev_w_LESS_OR_EQUAL_symbol nn16
  obtain ⟨w_LESS_symbol_value, ev_w_LESS_symbol_value⟩ := arr_v nn3
  have F_value_w_LESS_symbol : Fld s s.heap w_LESS_symbol "java/lang/String" "value" "[B" (.ref w_LESS_symbol_value) := Fld.start ((fld_at ev_w_LESS_symbol).symm.trans ev_w_LESS_symbol_value)
  obtain ⟨cl_w_LESS_symbol_value, Ar_w_LESS_symbol_value⟩ := Arr.start ev_w_LESS_symbol_value nn3
  obtain ⟨w_EQUAL_symbol_value, ev_w_EQUAL_symbol_value⟩ := arr_v nn9
  have F_value_w_EQUAL_symbol : Fld s s.heap w_EQUAL_symbol "java/lang/String" "value" "[B" (.ref w_EQUAL_symbol_value) := Fld.start ((fld_at ev_w_EQUAL_symbol).symm.trans ev_w_EQUAL_symbol_value)
  obtain ⟨cl_w_EQUAL_symbol_value, Ar_w_EQUAL_symbol_value⟩ := Arr.start ev_w_EQUAL_symbol_value nn9
  obtain ⟨w_LESS_OR_EQUAL_symbol_value, ev_w_LESS_OR_EQUAL_symbol_value⟩ := arr_v nn17
  have F_value_w_LESS_OR_EQUAL_symbol : Fld s s.heap w_LESS_OR_EQUAL_symbol "java/lang/String" "value" "[B" (.ref w_LESS_OR_EQUAL_symbol_value) := Fld.start ((fld_at ev_w_LESS_OR_EQUAL_symbol).symm.trans ev_w_LESS_OR_EQUAL_symbol_value)
  obtain ⟨cl_w_LESS_OR_EQUAL_symbol_value, Ar_w_LESS_OR_EQUAL_symbol_value⟩ := Arr.start ev_w_LESS_OR_EQUAL_symbol_value nn17
  have F_coder_w_LESS_symbol : Fld s s.heap w_LESS_symbol "java/lang/String" "coder" "B" (.int (0 : Int32)) := Fld.start ((fld_at ev_w_LESS_symbol).symm.trans (own_eqv nn5 (Term.int_eval (0))))
  have F_coder_w_EQUAL_symbol : Fld s s.heap w_EQUAL_symbol "java/lang/String" "coder" "B" (.int (0 : Int32)) := Fld.start ((fld_at ev_w_EQUAL_symbol).symm.trans (own_eqv nn11 (Term.int_eval (0))))
  have F_ordinal_w_EQUAL : Fld s s.heap w_EQUAL "java/lang/Enum" "ordinal" "I" (.int (2 : Int32)) := Fld.start ((fld_at ev_EQUAL).symm.trans (own_eqv nn13 (Term.int_eval (2))))
  have F_ordinal_w_LESS : Fld s s.heap w_LESS "java/lang/Enum" "ordinal" "I" (.int (0 : Int32)) := Fld.start ((fld_at ev_LESS).symm.trans (own_eqv nn14 (Term.int_eval (0))))
  have F_coder_w_LESS_OR_EQUAL_symbol : Fld s s.heap w_LESS_OR_EQUAL_symbol "java/lang/String" "coder" "B" (.int (0 : Int32)) := Fld.start ((fld_at ev_w_LESS_OR_EQUAL_symbol).symm.trans (own_eqv nn19 (Term.int_eval (0))))
  have F_ordinal_w_LESS_OR_EQUAL : Fld s s.heap w_LESS_OR_EQUAL "java/lang/Enum" "ordinal" "I" (.int (1 : Int32)) := Fld.start ((fld_at ev_LESS_OR_EQUAL).symm.trans (own_eqv nr21 (Term.int_eval (1))))
  have ln_w_LESS_symbol_value := own_len ev_w_LESS_symbol_value (Ar_w_LESS_symbol_value.fin (Vm.Alike.refl _)) (own_eqv nn4 (Term.int_eval (1)))
  obtain ⟨kk_w_LESS_symbol_value, hkk_w_LESS_symbol_value⟩ : ∃ z, z = cl_w_LESS_symbol_value.cls := ⟨_, rfl⟩
  have V_w_LESS_symbol_value : Arv s s.heap w_LESS_symbol_value kk_w_LESS_symbol_value .byte (1 : Int32) [(.int (60 : Int32))] (.int (0 : Int32)) := hkk_w_LESS_symbol_value ▸ Arv.start hfit Ar_w_LESS_symbol_value ln_w_LESS_symbol_value.1 ln_w_LESS_symbol_value.2 (by decide) rfl ⟨(elem_f ev_w_LESS_symbol_value (Term.int_eval (0)) (Ar_w_LESS_symbol_value.fin (Vm.Alike.refl _)) (by decide)).symm.trans (own_eqv nn6 (Term.int_eval (60))), trivial⟩
  have ln_w_EQUAL_symbol_value := own_len ev_w_EQUAL_symbol_value (Ar_w_EQUAL_symbol_value.fin (Vm.Alike.refl _)) (own_eqv nn10 (Term.int_eval (1)))
  obtain ⟨kk_w_EQUAL_symbol_value, hkk_w_EQUAL_symbol_value⟩ : ∃ z, z = cl_w_EQUAL_symbol_value.cls := ⟨_, rfl⟩
  have V_w_EQUAL_symbol_value : Arv s s.heap w_EQUAL_symbol_value kk_w_EQUAL_symbol_value .byte (1 : Int32) [(.int (61 : Int32))] (.int (0 : Int32)) := hkk_w_EQUAL_symbol_value ▸ Arv.start hfit Ar_w_EQUAL_symbol_value ln_w_EQUAL_symbol_value.1 ln_w_EQUAL_symbol_value.2 (by decide) rfl ⟨(elem_f ev_w_EQUAL_symbol_value (Term.int_eval (0)) (Ar_w_EQUAL_symbol_value.fin (Vm.Alike.refl _)) (by decide)).symm.trans (own_eqv nn12 (Term.int_eval (61))), trivial⟩
  have ln_w_LESS_OR_EQUAL_symbol_value := own_len ev_w_LESS_OR_EQUAL_symbol_value (Ar_w_LESS_OR_EQUAL_symbol_value.fin (Vm.Alike.refl _)) (own_eqv nn18 (Term.int_eval (2)))
  obtain ⟨kk_w_LESS_OR_EQUAL_symbol_value, hkk_w_LESS_OR_EQUAL_symbol_value⟩ : ∃ z, z = cl_w_LESS_OR_EQUAL_symbol_value.cls := ⟨_, rfl⟩
  have V_w_LESS_OR_EQUAL_symbol_value : Arv s s.heap w_LESS_OR_EQUAL_symbol_value kk_w_LESS_OR_EQUAL_symbol_value .byte (2 : Int32) [(.int (60 : Int32)), (.int (61 : Int32))] (.int (0 : Int32)) := hkk_w_LESS_OR_EQUAL_symbol_value ▸ Arv.start hfit Ar_w_LESS_OR_EQUAL_symbol_value ln_w_LESS_OR_EQUAL_symbol_value.1 ln_w_LESS_OR_EQUAL_symbol_value.2 (by decide) rfl ⟨(elem_f ev_w_LESS_OR_EQUAL_symbol_value (Term.int_eval (0)) (Ar_w_LESS_OR_EQUAL_symbol_value.fin (Vm.Alike.refl _)) (by decide)).symm.trans (own_eqv nn20 (Term.int_eval (60))), (elem_f ev_w_LESS_OR_EQUAL_symbol_value (Term.int_eval (1)) (Ar_w_LESS_OR_EQUAL_symbol_value.fin (Vm.Alike.refl _)) (by decide)).symm.trans (own_eqv nn21 (Term.int_eval (61))), trivial⟩
  have hne1 : w_EQUAL ≠ w_LESS := Fld.ne F_ordinal_w_EQUAL F_ordinal_w_LESS (by decide)
  have hne2 : w_LESS_OR_EQUAL ≠ w_LESS := Fld.ne F_ordinal_w_LESS_OR_EQUAL F_ordinal_w_LESS (by decide)
  obtain ⟨w_COMPACT_STRINGS, ev_CS⟩ := is_v (Cond.before_iff.mp (hsets _ (List.mem_of_getElem? (i := 1) rfl)))
  have S_COMPACT_STRINGS : Sta s s.heap "java/lang/String" "COMPACT_STRINGS" "Z" (.int w_COMPACT_STRINGS) := Sta.start ev_CS (Or.inl (hsets _ (List.mem_of_getElem? (i := 0) rfl)))
  have hCS : ¬ (w_COMPACT_STRINGS = (0 : Int32)) := own_ni (not_v (Cond.before_iff.mp (hsets _ (List.mem_of_getElem? (i := 2) rfl)))) ev_CS (Term.int_eval (0))
  obtain ⟨w_SIOOBE_FORMATTER, ev_SF, hr_SIOOBE⟩ := isR_v (Cond.before_iff.mp (hsets _ (List.mem_of_getElem? (i := 8) rfl)))
  have S_SIOOBE_FORMATTER : Sta s s.heap "jdk/internal/util/Preconditions" "SIOOBE_FORMATTER" "Ljava/util/function/BiFunction;" w_SIOOBE_FORMATTER := Sta.start ev_SF (Or.inl (hsets _ (List.mem_of_getElem? (i := 7) rfl)))
  obtain ⟨n, o, h1, h2, h3, _, L, rfl, ⟨rfl, N⟩, hq⟩ := rm0 l s _ hw tables_1 i0 w_LESS w_EQUAL w_LESS_OR_EQUAL w_LESS_symbol w_LESS_symbol_value kk_w_LESS_symbol_value w_EQUAL_symbol w_EQUAL_symbol_value kk_w_EQUAL_symbol_value w_LESS_OR_EQUAL_symbol w_LESS_OR_EQUAL_symbol_value kk_w_LESS_OR_EQUAL_symbol_value w_COMPACT_STRINGS w_SIOOBE_FORMATTER s.heap s.heap.size (Nat.le_refl _) (Old.start s) S_LESS S_EQUAL S_LESS_OR_EQUAL E_w_LESS F_symbol_w_LESS E_w_LESS_symbol F_value_w_LESS_symbol F_coder_w_LESS_symbol V_w_LESS_symbol_value E_w_EQUAL F_symbol_w_EQUAL E_w_EQUAL_symbol F_value_w_EQUAL_symbol F_coder_w_EQUAL_symbol V_w_EQUAL_symbol_value E_w_LESS_OR_EQUAL F_symbol_w_LESS_OR_EQUAL E_w_LESS_OR_EQUAL_symbol F_value_w_LESS_OR_EQUAL_symbol F_coder_w_LESS_OR_EQUAL_symbol V_w_LESS_OR_EQUAL_symbol_value S_COMPACT_STRINGS hCS hne1 hne2 S_SIOOBE_FORMATTER hr_SIOOBE p e ha hc hk s m _ below hf ((Spec.applies_iff_loose hf).mp happ).1 ⟨rfl, State.Warmed39.refl s, rfl⟩ trivial
  refine ⟨n, _, h1, h2, h3, hpost _ _ _ _ _ _ ⟨Cond.after_iff.mpr rfl, Cond.after_iff.mpr (eq_i res_at (Term.int_eval (1)) rfl), trivial⟩ ⟨hq.1, hq.2.1, (hq.2.2.sift fun y hy => Or.inr (N y hy)).mono (by decide) (by decide)⟩⟩
theorem main_1_1 : Claimed_1_1 := comes_1 fun _ _ _ _ _ _ h hF => ⟨h.1, hF⟩
theorem main_1_2 : Claimed_1_2 := comes_1 fun _ _ _ _ _ _ h hF => ⟨h.2.1, hF⟩
end Jvm.Pilot.@@N@@
namespace Jvm.Pilot.@@N@@
open Jvm Jvm.ClassFile Sem Op Lib Jvm.Free Jvm.Stand Jvm.Pilot.@@N@@.Jvm.D
/-! MADE BY PROGRAM (witnessworld.py) out of the Statement's table words and the real class files: 18 classes; the members and pool entries that the words name. The judged class is class 1, her method 2. -/
namespace start1
open Jvm.ClassFile
def u (s : String) : CpInfo := .utf8 (stringToUtf16 s)
/-- a pool by its gaps: so many unusable entries, then the entry; so many at the end -/
def gap : Nat → List CpInfo → List CpInfo
  | 0, r => r
  | n + 1, r => .unusable :: gap n r
def poolList (es : List (Nat × CpInfo)) (last : Nat) : List CpInfo := es.foldr (fun e r => gap e.1 (e.2 :: r)) (gap last [])
def pool (es : List (Nat × CpInfo)) (last : Nat) : Array CpInfo := ⟨poolList es last⟩
def fileOf (pool : Array CpInfo) (this : Nat) (attrs : Array Attribute := #[]) (ms : Array MethodInfo := #[]) (fl : Nat := 33) (sup : Nat := 0) (ifs : Array Nat := #[]) (fds : Array FieldInfo := #[]) : ClassFile where
  minorVersion := 0
  majorVersion := 65
  constantPool := pool
  accessFlags := fl
  thisClass := this
  superClass := sup
  interfaces := ifs
  fields := fds
  methods := ms
  attributes := attrs
def plain (name : String) (sup : Option ClassId) : Class where
  name := name
  kind := .ordinary
  loader := none
  accessFlags := 33
  super := sup
  interfaces := #[]
  cf := none
  fields := #[]
  methods := #[]
  instanceTypes := #[]
  staticTypes := #[]
  resolved := #[]
  callSites := []
  init := .initialized
  statics := none
  mirror := none

def pool0 : Array CpInfo := pool [(5, u "<init>"), (0, u "()V"), (1, .class_ 10), (1, u "java/lang/Object")] 113

def k0m0 : Method := { name := "<init>", desc := "()V", sig := { parameters := [], returnType := none }, accessFlags := 1, code := none }
/-- java/lang/Object -/
def k0 : Class := { plain "java/lang/Object" none with
  accessFlags := 33
  interfaces := #[]
  cf := some (fileOf pool0 8 #[] #[{ accessFlags := 1, nameIndex := 5, descriptorIndex := 6, attributes := #[] }] 33 0 #[] #[])
  fields := #[]
  methods := #[k0m0]
  instanceTypes := #[]
  staticTypes := #[]
  resolved := Array.replicate 124 none
  statics := none }

def pool1 : Array CpInfo := pool [(2, .class_ 4), (1, u "java/lang/Object"), (0, u "<init>"), (0, u "()V"), (0, .integer 2147483647), (0, .fieldref 9 10), (0, .class_ 11), (0, .nameAndType 12 13), (0, u "com/example/tyche/tyche/model/Relation"), (0, u "LESS"), (0, u "Lcom/example/tyche/tyche/model/Relation;"), (0, .fieldref 9 15), (0, .nameAndType 16 13), (0, u "LESS_OR_EQUAL"), (0, .fieldref 9 18), (0, .nameAndType 19 13), (0, u "EQUAL"), (0, .methodref 21 22), (0, .class_ 23), (0, .nameAndType 24 25), (0, u "com/example/tyche/tyche/model/RelationIsStrictPinLaw"), (0, u "pick"), (0, u "(I)Lcom/example/tyche/tyche/model/Relation;"), (0, .methodref 9 27), (0, .nameAndType 28 29), (0, u "toString"), (0, u "()Ljava/lang/String;"), (0, .methodref 31 32), (0, .class_ 33), (0, .nameAndType 34 35), (0, u "java/lang/String"), (0, u "length"), (0, u "()I"), (0, .methodref 31 37), (0, .nameAndType 38 39), (0, u "charAt"), (0, u "(I)C"), (0, .methodref 9 41), (0, .nameAndType 42 43), (0, u "isStrict"), (0, u "()Z"), (3, u "law"), (0, u "(I)Z")] 2

def k1m0 : Method := { name := "<init>", desc := "()V", sig := { parameters := [], returnType := none }, accessFlags := 2, code := none }
def k1c1 : Code := { maxStack := 2, maxLocals := 2, code := method_2_code, exceptionTable := #[], attributes := #[] }
def k1m1 : Method := { name := "pick", desc := "(I)Lcom/example/tyche/tyche/model/Relation;", sig := { parameters := [.int], returnType := some (.object "com/example/tyche/tyche/model/Relation") }, accessFlags := 10, code := some k1c1 }
def k1c2 : Code := { maxStack := 2, maxLocals := 5, code := code, exceptionTable := #[], attributes := #[] }
def k1m2 : Method := { name := "law", desc := "(I)Z", sig := { parameters := [.int], returnType := some .boolean }, accessFlags := 9, code := some k1c2 }
/-- com/example/tyche/tyche/model/RelationIsStrictPinLaw -/
def k1 : Class := { plain "com/example/tyche/tyche/model/RelationIsStrictPinLaw" (some 0) with
  accessFlags := 49
  interfaces := #[]
  cf := some (fileOf pool1 21 #[] #[{ accessFlags := 2, nameIndex := 5, descriptorIndex := 6, attributes := #[] }, { accessFlags := 10, nameIndex := 24, descriptorIndex := 25, attributes := #[] }, { accessFlags := 9, nameIndex := 47, descriptorIndex := 48, attributes := #[] }] 49 2 #[] #[])
  fields := #[]
  methods := #[k1m0, k1m1, k1m2]
  instanceTypes := #[]
  staticTypes := #[]
  resolved := Array.replicate 51 none
  statics := none }

def pool2 : Array CpInfo := pool [(1, .class_ 2), (0, u "java/lang/constant/Constable"), (0, .class_ 4), (0, u "java/lang/Object")] 6

/-- java/lang/constant/Constable -/
def k2 : Class := { plain "java/lang/constant/Constable" (some 0) with
  accessFlags := 1537
  interfaces := #[]
  cf := some (fileOf pool2 1 #[] #[] 1537 3 #[] #[])
  fields := #[]
  methods := #[]
  instanceTypes := #[]
  staticTypes := #[]
  resolved := Array.replicate 11 none
  statics := none }

def pool3 : Array CpInfo := pool [(1, .class_ 2), (0, u "java/lang/Comparable"), (0, .class_ 4), (0, u "java/lang/Object")] 7

/-- java/lang/Comparable -/
def k3 : Class := { plain "java/lang/Comparable" (some 0) with
  accessFlags := 1537
  interfaces := #[]
  cf := some (fileOf pool3 1 #[] #[] 1537 3 #[] #[])
  fields := #[]
  methods := #[]
  instanceTypes := #[]
  staticTypes := #[]
  resolved := Array.replicate 12 none
  statics := none }

def pool4 : Array CpInfo := pool [(1, .class_ 2), (0, u "java/io/Serializable"), (0, .class_ 4), (0, u "java/lang/Object")] 2

/-- java/io/Serializable -/
def k4 : Class := { plain "java/io/Serializable" (some 0) with
  accessFlags := 1537
  interfaces := #[]
  cf := some (fileOf pool4 1 #[] #[] 1537 3 #[] #[])
  fields := #[]
  methods := #[]
  instanceTypes := #[]
  staticTypes := #[]
  resolved := Array.replicate 7 none
  statics := none }

def pool5 : Array CpInfo := pool [(2, .class_ 4), (1, u "java/lang/Enum"), (0, u "name"), (0, u "Ljava/lang/String;"), (2, u "ordinal"), (0, u "I"), (1, .class_ 14), (1, u "java/lang/Object"), (4, u "hash"), (86, .class_ 108), (1, u "java/lang/Enum$EnumDesc"), (2, .class_ 112), (0, u "java/lang/constant/Constable"), (0, .class_ 114), (0, u "java/lang/Comparable"), (0, .class_ 116), (0, u "java/io/Serializable")] 87

/-- java/lang/Enum -/
def k5 : Class := { plain "java/lang/Enum" (some 0) with
  accessFlags := 1057
  interfaces := #[2, 3, 4]
  cf := some (fileOf pool5 2 #[.nestMembers #[106]] #[] 1057 12 #[111, 113, 115] #[{ accessFlags := 18, nameIndex := 5, descriptorIndex := 6, attributes := #[] }, { accessFlags := 18, nameIndex := 9, descriptorIndex := 10, attributes := #[] }, { accessFlags := 2, nameIndex := 19, descriptorIndex := 10, attributes := #[] }])
  fields := #[{ name := "name", type := (.object "java/lang/String"), accessFlags := 18, slot := 0, constantValue := 0 }, { name := "ordinal", type := .int, accessFlags := 18, slot := 1, constantValue := 0 }, { name := "hash", type := .int, accessFlags := 2, slot := 2, constantValue := 0 }]
  methods := #[]
  instanceTypes := #[(.object "java/lang/String"), .int, .int]
  staticTypes := #[]
  resolved := Array.replicate 204 none
  statics := none }

def pool6 : Array CpInfo := pool [(1, .class_ 2), (0, u "com/example/tyche/tyche/model/Relation"), (0, .fieldref 1 4), (0, .nameAndType 5 6), (0, u "LESS"), (0, u "Lcom/example/tyche/tyche/model/Relation;"), (2, u "LESS_OR_EQUAL"), (2, u "EQUAL"), (2, u "$VALUES"), (0, u "[Lcom/example/tyche/tyche/model/Relation;"), (6, .class_ 25), (1, u "java/lang/Enum"), (6, .fieldref 1 33), (0, .nameAndType 34 35), (0, u "symbol"), (0, u "Ljava/lang/String;"), (23, u "isStrict"), (0, u "()Z"), (1, u "toString"), (0, u "()Ljava/lang/String;")] 5

def k6c0 : Code := { maxStack := 2, maxLocals := 1, code := prog_62_method_4_code, exceptionTable := #[], attributes := #[] }
def k6m0 : Method := { name := "isStrict", desc := "()Z", sig := { parameters := [], returnType := some .boolean }, accessFlags := 1, code := some k6c0 }
def k6c1 : Code := { maxStack := 1, maxLocals := 1, code := prog_62_method_5_code, exceptionTable := #[], attributes := #[] }
def k6m1 : Method := { name := "toString", desc := "()Ljava/lang/String;", sig := { parameters := [], returnType := some (.object "java/lang/String") }, accessFlags := 1, code := some k6c1 }
/-- com/example/tyche/tyche/model/Relation -/
def k6 : Class := { plain "com/example/tyche/tyche/model/Relation" (some 5) with
  accessFlags := 16433
  interfaces := #[]
  cf := some (fileOf pool6 1 #[] #[{ accessFlags := 1, nameIndex := 59, descriptorIndex := 60, attributes := #[] }, { accessFlags := 1, nameIndex := 62, descriptorIndex := 63, attributes := #[] }] 16433 23 #[] #[{ accessFlags := 16409, nameIndex := 5, descriptorIndex := 6, attributes := #[] }, { accessFlags := 16409, nameIndex := 9, descriptorIndex := 6, attributes := #[] }, { accessFlags := 16409, nameIndex := 12, descriptorIndex := 6, attributes := #[] }, { accessFlags := 18, nameIndex := 34, descriptorIndex := 35, attributes := #[] }, { accessFlags := 4122, nameIndex := 15, descriptorIndex := 16, attributes := #[] }])
  fields := #[{ name := "LESS", type := (.object "com/example/tyche/tyche/model/Relation"), accessFlags := 16409, slot := 0, constantValue := 0 }, { name := "LESS_OR_EQUAL", type := (.object "com/example/tyche/tyche/model/Relation"), accessFlags := 16409, slot := 1, constantValue := 0 }, { name := "EQUAL", type := (.object "com/example/tyche/tyche/model/Relation"), accessFlags := 16409, slot := 2, constantValue := 0 }, { name := "symbol", type := (.object "java/lang/String"), accessFlags := 18, slot := 3, constantValue := 0 }, { name := "$VALUES", type := (.array (.object "com/example/tyche/tyche/model/Relation")), accessFlags := 4122, slot := 3, constantValue := 0 }]
  methods := #[k6m0, k6m1]
  instanceTypes := #[(.object "java/lang/String"), .int, .int, (.object "java/lang/String")]
  staticTypes := #[(.object "com/example/tyche/tyche/model/Relation"), (.object "com/example/tyche/tyche/model/Relation"), (.object "com/example/tyche/tyche/model/Relation"), (.array (.object "com/example/tyche/tyche/model/Relation"))]
  resolved := Array.replicate 69 none
  statics := some 0 }

def pool7 : Array CpInfo := pool [(2, .class_ 4), (1, u "java/lang/CharSequence"), (42, .class_ 48), (0, u "java/lang/CharSequence$1CodePointIterator"), (10, .class_ 60), (0, u "java/lang/CharSequence$1CharIterator"), (5, .class_ 67), (0, u "java/lang/Object")] 63

/-- java/lang/CharSequence -/
def k7 : Class := { plain "java/lang/CharSequence" (some 0) with
  accessFlags := 1537
  interfaces := #[]
  cf := some (fileOf pool7 2 #[.nestMembers #[47, 59]] #[] 1537 66 #[] #[])
  fields := #[]
  methods := #[]
  instanceTypes := #[]
  staticTypes := #[]
  resolved := Array.replicate 131 none
  statics := none }

def pool8 : Array CpInfo := pool [(1, .class_ 2), (0, u "java/lang/constant/ConstantDesc"), (0, .class_ 4), (0, u "java/lang/Object")] 32

/-- java/lang/constant/ConstantDesc -/
def k8 : Class := { plain "java/lang/constant/ConstantDesc" (some 0) with
  accessFlags := 1537
  interfaces := #[]
  cf := some (fileOf pool8 1 #[] #[] 1537 3 #[] #[])
  fields := #[]
  methods := #[]
  instanceTypes := #[]
  staticTypes := #[]
  resolved := Array.replicate 37 none
  statics := none }

def pool9 : Array CpInfo := pool [(2, .class_ 4), (1, u "java/lang/Object"), (0, u "<init>"), (0, u "()V"), (2, .fieldref 10 11), (0, .class_ 12), (0, .nameAndType 13 14), (0, u "java/lang/String"), (0, u "value"), (0, u "[B"), (0, .fieldref 10 16), (0, .nameAndType 17 18), (0, u "coder"), (0, u "B"), (2, u "hash"), (0, u "I"), (2, u "hashIsZero"), (0, u "Z"), (11, .fieldref 10 39), (0, .nameAndType 40 26), (0, u "COMPACT_STRINGS"), (66, .class_ 109), (1, u "java/lang/StringLatin1"), (32, u "()Z"), (191, u "()I"), (0, .methodref 10 336), (0, .nameAndType 17 337), (0, u "()B"), (25, u "([BI)C"), (27, u "(II)V"), (35, u "(I)C"), (64, .methodref 10 493), (0, .nameAndType 494 142), (0, u "isLatin1"), (0, .methodref 107 496), (0, .nameAndType 497 363), (0, u "charAt"), (3, u "checkIndex"), (5, u "length"), (67, .class_ 576), (0, u "java/lang/CharSequence"), (22, u "CASE_INSENSITIVE_ORDER"), (0, u "Ljava/util/Comparator;"), (452, .fieldref 1054 1055), (0, .class_ 1056), (0, .nameAndType 1057 1058), (0, u "jdk/internal/util/Preconditions"), (0, u "SIOOBE_FORMATTER"), (0, u "Ljava/util/function/BiFunction;"), (0, .methodref 1054 1060), (0, .nameAndType 501 1061), (0, u "(IILjava/util/function/BiFunction;)I"), (39, u "serialPersistentFields"), (0, u "[Ljava/io/ObjectStreamField;"), (0, .class_ 1104), (0, u "java/lang/String$CaseInsensitiveComparator"), (1, .class_ 1107), (0, u "java/io/Serializable"), (0, .class_ 1109), (0, u "java/lang/Comparable"), (0, .class_ 1111), (0, u "java/lang/constant/Constable"), (0, .class_ 1113), (0, u "java/lang/constant/ConstantDesc"), (2, u "serialVersionUID"), (0, u "J"), (3, u "REPL"), (0, u "C"), (2, u "LATIN1"), (1, u "UTF16")] 323

def k9m0 : Method := { name := "<init>", desc := "()V", sig := { parameters := [], returnType := none }, accessFlags := 1, code := none }
def k9c1 : Code := { maxStack := 2, maxLocals := 1, code := jdk_42_method_54_code, exceptionTable := #[], attributes := #[] }
def k9m1 : Method := { name := "length", desc := "()I", sig := { parameters := [], returnType := some .int }, accessFlags := 1, code := some k9c1 }
def k9c2 : Code := { maxStack := 2, maxLocals := 2, code := jdk_42_method_56_code, exceptionTable := #[], attributes := #[] }
def k9m2 : Method := { name := "charAt", desc := "(I)C", sig := { parameters := [.int], returnType := some .char }, accessFlags := 1, code := some k9c2 }
def k9c3 : Code := { maxStack := 1, maxLocals := 1, code := jdk_42_method_152_code, exceptionTable := #[], attributes := #[] }
def k9m3 : Method := { name := "coder", desc := "()B", sig := { parameters := [], returnType := some .byte }, accessFlags := 0, code := some k9c3 }
def k9c4 : Code := { maxStack := 1, maxLocals := 1, code := jdk_42_method_154_code, exceptionTable := #[], attributes := #[] }
def k9m4 : Method := { name := "isLatin1", desc := "()Z", sig := { parameters := [], returnType := some .boolean }, accessFlags := 0, code := some k9c4 }
def k9c5 : Code := { maxStack := 3, maxLocals := 2, code := jdk_42_method_155_code, exceptionTable := #[], attributes := #[] }
def k9m5 : Method := { name := "checkIndex", desc := "(II)V", sig := { parameters := [.int, .int], returnType := none }, accessFlags := 8, code := some k9c5 }
/-- java/lang/String -/
def k9 : Class := { plain "java/lang/String" (some 0) with
  accessFlags := 49
  interfaces := #[4, 3, 7, 2, 8]
  cf := some (fileOf pool9 10 #[.nestMembers #[1103]] #[{ accessFlags := 1, nameIndex := 5, descriptorIndex := 6, attributes := #[] }, { accessFlags := 1, nameIndex := 507, descriptorIndex := 334, attributes := #[] }, { accessFlags := 1, nameIndex := 497, descriptorIndex := 427, attributes := #[] }, { accessFlags := 0, nameIndex := 17, descriptorIndex := 337, attributes := #[] }, { accessFlags := 0, nameIndex := 494, descriptorIndex := 142, attributes := #[] }, { accessFlags := 8, nameIndex := 501, descriptorIndex := 391, attributes := #[] }] 49 2 #[1106, 1108, 575, 1110, 1112] #[{ accessFlags := 18, nameIndex := 13, descriptorIndex := 14, attributes := #[] }, { accessFlags := 18, nameIndex := 17, descriptorIndex := 18, attributes := #[] }, { accessFlags := 2, nameIndex := 21, descriptorIndex := 22, attributes := #[] }, { accessFlags := 2, nameIndex := 25, descriptorIndex := 26, attributes := #[] }, { accessFlags := 26, nameIndex := 1116, descriptorIndex := 1117, attributes := #[] }, { accessFlags := 24, nameIndex := 40, descriptorIndex := 26, attributes := #[] }, { accessFlags := 26, nameIndex := 1101, descriptorIndex := 1102, attributes := #[] }, { accessFlags := 26, nameIndex := 1121, descriptorIndex := 1122, attributes := #[] }, { accessFlags := 25, nameIndex := 599, descriptorIndex := 600, attributes := #[] }, { accessFlags := 24, nameIndex := 1125, descriptorIndex := 18, attributes := #[] }, { accessFlags := 24, nameIndex := 1127, descriptorIndex := 18, attributes := #[] }])
  fields := #[{ name := "value", type := (.array .byte), accessFlags := 18, slot := 0, constantValue := 0 }, { name := "coder", type := .byte, accessFlags := 18, slot := 1, constantValue := 0 }, { name := "hash", type := .int, accessFlags := 2, slot := 2, constantValue := 0 }, { name := "hashIsZero", type := .boolean, accessFlags := 2, slot := 3, constantValue := 0 }, { name := "serialVersionUID", type := .long, accessFlags := 26, slot := 0, constantValue := 0 }, { name := "COMPACT_STRINGS", type := .boolean, accessFlags := 24, slot := 1, constantValue := 0 }, { name := "serialPersistentFields", type := (.array (.object "java/io/ObjectStreamField")), accessFlags := 26, slot := 2, constantValue := 0 }, { name := "REPL", type := .char, accessFlags := 26, slot := 3, constantValue := 0 }, { name := "CASE_INSENSITIVE_ORDER", type := (.object "java/util/Comparator"), accessFlags := 25, slot := 4, constantValue := 0 }, { name := "LATIN1", type := .byte, accessFlags := 24, slot := 5, constantValue := 0 }, { name := "UTF16", type := .byte, accessFlags := 24, slot := 6, constantValue := 0 }]
  methods := #[k9m0, k9m1, k9m2, k9m3, k9m4, k9m5]
  instanceTypes := #[(.array .byte), .byte, .int, .boolean]
  staticTypes := #[.long, .boolean, (.array (.object "java/io/ObjectStreamField")), .char, (.object "java/util/Comparator"), .byte, .byte]
  resolved := Array.replicate 1451 none
  statics := some 1 }

def pool10 : Array CpInfo := pool [(1, .class_ 2), (0, u "java/lang/String"), (1, .class_ 6), (1, u "java/lang/Object"), (0, u "<init>"), (0, u "()V"), (0, .methodref 1 10), (0, .nameAndType 11 12), (0, u "checkIndex"), (0, u "(II)V"), (1, .class_ 16), (1, u "java/lang/StringLatin1"), (36, u "([BI)C"), (67, u "$assertionsDisabled"), (0, u "Z"), (98, .class_ 223), (1, u "java/lang/StringLatin1$LinesSpliterator"), (28, u "charAt"), (137, .class_ 391), (0, u "java/lang/StringLatin1$CharsSpliterator")] 3

def k10m0 : Method := { name := "<init>", desc := "()V", sig := { parameters := [], returnType := none }, accessFlags := 0, code := none }
def k10c1 : Code := { maxStack := 2, maxLocals := 2, code := jdk_43_method_2_code, exceptionTable := #[], attributes := #[] }
def k10m1 : Method := { name := "charAt", desc := "([BI)C", sig := { parameters := [(.array .byte), .int], returnType := some .char }, accessFlags := 9, code := some k10c1 }
/-- java/lang/StringLatin1 -/
def k10 : Class := { plain "java/lang/StringLatin1" (some 0) with
  accessFlags := 48
  interfaces := #[]
  cf := some (fileOf pool10 14 #[.nestMembers #[390, 221]] #[{ accessFlags := 0, nameIndex := 7, descriptorIndex := 8, attributes := #[] }, { accessFlags := 9, nameIndex := 252, descriptorIndex := 53, attributes := #[] }] 48 4 #[] #[{ accessFlags := 4120, nameIndex := 121, descriptorIndex := 122, attributes := #[] }])
  fields := #[{ name := "$assertionsDisabled", type := .boolean, accessFlags := 4120, slot := 0, constantValue := 0 }]
  methods := #[k10m0, k10m1]
  instanceTypes := #[]
  staticTypes := #[.boolean]
  resolved := Array.replicate 395 none
  statics := none }

def pool11 : Array CpInfo := pool [(2, .class_ 4), (1, u "java/lang/Object"), (0, u "<init>"), (0, u "()V"), (17, .class_ 26), (1, u "jdk/internal/util/Preconditions"), (6, u "checkIndex"), (21, .class_ 56), (0, u "jdk/internal/util/Preconditions$4"), (57, .class_ 115), (0, u "jdk/internal/util/Preconditions$1"), (7, u "SIOOBE_FORMATTER"), (0, u "Ljava/util/function/BiFunction;"), (0, .class_ 126), (0, u "jdk/internal/util/Preconditions$2"), (3, u "AIOOBE_FORMATTER"), (0, .class_ 132), (0, u "jdk/internal/util/Preconditions$3"), (3, u "IOOBE_FORMATTER"), (41, u "(IILjava/util/function/BiFunction;)I")] 15

def k11m0 : Method := { name := "<init>", desc := "()V", sig := { parameters := [], returnType := none }, accessFlags := 1, code := none }
def k11c1 : Code := { maxStack := 3, maxLocals := 3, code := jdk_41_method_11_code, exceptionTable := #[], attributes := #[] }
def k11m1 : Method := { name := "checkIndex", desc := "(IILjava/util/function/BiFunction;)I", sig := { parameters := [.int, .int, (.object "java/util/function/BiFunction")], returnType := some .int }, accessFlags := 9, code := some k11c1 }
/-- jdk/internal/util/Preconditions -/
def k11 : Class := { plain "jdk/internal/util/Preconditions" (some 0) with
  accessFlags := 33
  interfaces := #[]
  cf := some (fileOf pool11 24 #[.nestMembers #[55, 131, 125, 114]] #[{ accessFlags := 1, nameIndex := 5, descriptorIndex := 6, attributes := #[] }, { accessFlags := 9, nameIndex := 33, descriptorIndex := 178, attributes := #[] }] 33 2 #[] #[{ accessFlags := 25, nameIndex := 123, descriptorIndex := 124, attributes := #[] }, { accessFlags := 25, nameIndex := 130, descriptorIndex := 124, attributes := #[] }, { accessFlags := 25, nameIndex := 136, descriptorIndex := 124, attributes := #[] }])
  fields := #[{ name := "SIOOBE_FORMATTER", type := (.object "java/util/function/BiFunction"), accessFlags := 25, slot := 0, constantValue := 0 }, { name := "AIOOBE_FORMATTER", type := (.object "java/util/function/BiFunction"), accessFlags := 25, slot := 1, constantValue := 0 }, { name := "IOOBE_FORMATTER", type := (.object "java/util/function/BiFunction"), accessFlags := 25, slot := 2, constantValue := 0 }]
  methods := #[k11m0, k11m1]
  instanceTypes := #[]
  staticTypes := #[(.object "java/util/function/BiFunction"), (.object "java/util/function/BiFunction"), (.object "java/util/function/BiFunction")]
  resolved := Array.replicate 194 none
  statics := some 2 }

def pool12 : Array CpInfo := pool [(9, u "<init>"), (6, .class_ 18), (1, u "java/lang/Object"), (0, u "()V"), (1, .class_ 23), (1, u "jdk/internal/util/ArraysSupport"), (0, u "LOG2_ARRAY_LONG_INDEX_SCALE"), (0, u "I"), (2, u "U"), (0, u "Ljdk/internal/misc/Unsafe;"), (8, u "BIG_ENDIAN"), (0, u "Z"), (8, u "LOG2_BYTE_BIT_SIZE"), (4, u "LOG2_ARRAY_INT_INDEX_SCALE"), (54, u "JLA"), (0, u "Ljdk/internal/access/JavaLangAccess;"), (11, u "LOG2_ARRAY_BOOLEAN_INDEX_SCALE"), (9, u "LOG2_ARRAY_BYTE_INDEX_SCALE"), (5, u "LOG2_ARRAY_CHAR_INDEX_SCALE"), (5, u "LOG2_ARRAY_SHORT_INDEX_SCALE"), (18, u "LOG2_ARRAY_FLOAT_INDEX_SCALE"), (24, u "LOG2_ARRAY_DOUBLE_INDEX_SCALE"), (89, u "T_BOOLEAN"), (2, u "T_CHAR"), (1, u "T_FLOAT"), (1, u "T_DOUBLE"), (1, u "T_BYTE"), (1, u "T_SHORT"), (1, u "T_INT"), (1, u "T_LONG"), (1, u "SOFT_MAX_ARRAY_LENGTH")] 83

def k12m0 : Method := { name := "<init>", desc := "()V", sig := { parameters := [], returnType := none }, accessFlags := 2, code := none }
/-- jdk/internal/util/ArraysSupport -/
def k12 : Class := { plain "jdk/internal/util/ArraysSupport" (some 0) with
  accessFlags := 33
  interfaces := #[]
  cf := some (fileOf pool12 21 #[] #[{ accessFlags := 2, nameIndex := 9, descriptorIndex := 19, attributes := #[] }] 33 16 #[] #[{ accessFlags := 24, nameIndex := 28, descriptorIndex := 29, attributes := #[] }, { accessFlags := 26, nameIndex := 38, descriptorIndex := 39, attributes := #[] }, { accessFlags := 25, nameIndex := 121, descriptorIndex := 25, attributes := #[] }, { accessFlags := 25, nameIndex := 131, descriptorIndex := 25, attributes := #[] }, { accessFlags := 25, nameIndex := 137, descriptorIndex := 25, attributes := #[] }, { accessFlags := 25, nameIndex := 143, descriptorIndex := 25, attributes := #[] }, { accessFlags := 25, nameIndex := 53, descriptorIndex := 25, attributes := #[] }, { accessFlags := 25, nameIndex := 24, descriptorIndex := 25, attributes := #[] }, { accessFlags := 25, nameIndex := 162, descriptorIndex := 25, attributes := #[] }, { accessFlags := 25, nameIndex := 187, descriptorIndex := 25, attributes := #[] }, { accessFlags := 26, nameIndex := 48, descriptorIndex := 25, attributes := #[] }, { accessFlags := 25, nameIndex := 277, descriptorIndex := 25, attributes := #[] }, { accessFlags := 25, nameIndex := 280, descriptorIndex := 25, attributes := #[] }, { accessFlags := 25, nameIndex := 282, descriptorIndex := 25, attributes := #[] }, { accessFlags := 25, nameIndex := 284, descriptorIndex := 25, attributes := #[] }, { accessFlags := 25, nameIndex := 286, descriptorIndex := 25, attributes := #[] }, { accessFlags := 25, nameIndex := 288, descriptorIndex := 25, attributes := #[] }, { accessFlags := 25, nameIndex := 290, descriptorIndex := 25, attributes := #[] }, { accessFlags := 25, nameIndex := 292, descriptorIndex := 25, attributes := #[] }, { accessFlags := 26, nameIndex := 108, descriptorIndex := 109, attributes := #[] }, { accessFlags := 25, nameIndex := 294, descriptorIndex := 25, attributes := #[] }])
  fields := #[{ name := "U", type := (.object "jdk/internal/misc/Unsafe"), accessFlags := 24, slot := 0, constantValue := 0 }, { name := "BIG_ENDIAN", type := .boolean, accessFlags := 26, slot := 1, constantValue := 0 }, { name := "LOG2_ARRAY_BOOLEAN_INDEX_SCALE", type := .int, accessFlags := 25, slot := 2, constantValue := 0 }, { name := "LOG2_ARRAY_BYTE_INDEX_SCALE", type := .int, accessFlags := 25, slot := 3, constantValue := 0 }, { name := "LOG2_ARRAY_CHAR_INDEX_SCALE", type := .int, accessFlags := 25, slot := 4, constantValue := 0 }, { name := "LOG2_ARRAY_SHORT_INDEX_SCALE", type := .int, accessFlags := 25, slot := 5, constantValue := 0 }, { name := "LOG2_ARRAY_INT_INDEX_SCALE", type := .int, accessFlags := 25, slot := 6, constantValue := 0 }, { name := "LOG2_ARRAY_LONG_INDEX_SCALE", type := .int, accessFlags := 25, slot := 7, constantValue := 0 }, { name := "LOG2_ARRAY_FLOAT_INDEX_SCALE", type := .int, accessFlags := 25, slot := 8, constantValue := 0 }, { name := "LOG2_ARRAY_DOUBLE_INDEX_SCALE", type := .int, accessFlags := 25, slot := 9, constantValue := 0 }, { name := "LOG2_BYTE_BIT_SIZE", type := .int, accessFlags := 26, slot := 10, constantValue := 0 }, { name := "T_BOOLEAN", type := .int, accessFlags := 25, slot := 11, constantValue := 0 }, { name := "T_CHAR", type := .int, accessFlags := 25, slot := 12, constantValue := 0 }, { name := "T_FLOAT", type := .int, accessFlags := 25, slot := 13, constantValue := 0 }, { name := "T_DOUBLE", type := .int, accessFlags := 25, slot := 14, constantValue := 0 }, { name := "T_BYTE", type := .int, accessFlags := 25, slot := 15, constantValue := 0 }, { name := "T_SHORT", type := .int, accessFlags := 25, slot := 16, constantValue := 0 }, { name := "T_INT", type := .int, accessFlags := 25, slot := 17, constantValue := 0 }, { name := "T_LONG", type := .int, accessFlags := 25, slot := 18, constantValue := 0 }, { name := "JLA", type := (.object "jdk/internal/access/JavaLangAccess"), accessFlags := 26, slot := 19, constantValue := 0 }, { name := "SOFT_MAX_ARRAY_LENGTH", type := .int, accessFlags := 25, slot := 20, constantValue := 0 }]
  methods := #[k12m0]
  instanceTypes := #[]
  staticTypes := #[(.object "jdk/internal/misc/Unsafe"), .boolean, .int, .int, .int, .int, .int, .int, .int, .int, .int, .int, .int, .int, .int, .int, .int, .int, .int, (.object "jdk/internal/access/JavaLangAccess"), .int]
  resolved := Array.replicate 378 none
  statics := none }

def pool13 : Array CpInfo := pool [(1, u "java/lang/Cloneable"), (0, .class_ 1), (0, u "java/lang/Object"), (0, .class_ 3)] 3

/-- java/lang/Cloneable -/
def k13 : Class := { plain "java/lang/Cloneable" (some 0) with
  accessFlags := 1537
  interfaces := #[]
  cf := some (fileOf pool13 2 #[] #[] 1537 4 #[] #[])
  fields := #[]
  methods := #[]
  instanceTypes := #[]
  staticTypes := #[]
  resolved := Array.replicate 8 none
  statics := none }

/-- the primitive byte -/
def k14 : Class := { plain "byte" none with kind := .primitive 'B', accessFlags := 0x411 }
/-- [B -/
def k15 : Class := { plain "[B" (some 0) with kind := .array 14 .byte, interfaces := #[13, 4], accessFlags := 1041 }

/-- the primitive int -/
def k16 : Class := { plain "int" none with kind := .primitive 'I', accessFlags := 0x411 }
/-- [I -/
def k17 : Class := { plain "[I" (some 0) with kind := .array 16 .int, interfaces := #[13, 4], accessFlags := 1041 }

def heap : Heap := #[{ cls := 6, slots := #[.ref 5, .ref 8, .ref 11, .null], vm := .statics 6 },
  { cls := 9, slots := #[.long 0, .int 1, .null, .int 0, .null, .int 0, .int 0], vm := .statics 9 },
  { cls := 11, slots := #[.null, .null, .null], vm := .statics 11 },
  { cls := 15, slots := #[.int 60], vm := .none },
  { cls := 9, slots := #[.ref 3, .int 0, .int 0, .int 0], vm := .none },
  { cls := 6, slots := #[.null, .int 0, .int 0, .ref 4], vm := .none },
  { cls := 15, slots := #[.int 60, .int 61], vm := .none },
  { cls := 9, slots := #[.ref 6, .int 0, .int 0, .int 0], vm := .none },
  { cls := 6, slots := #[.null, .int 1, .int 0, .ref 7], vm := .none },
  { cls := 15, slots := #[.int 61], vm := .none },
  { cls := 9, slots := #[.ref 9, .int 0, .int 0, .int 0], vm := .none },
  { cls := 6, slots := #[.null, .int 2, .int 0, .ref 10], vm := .none }]
def classes : Array Class := #[k0, k1, k2, k3, k4, k5, k6, k7, k8, k9, k10, k11, k12, k13, k14, k15, k16, k17]
def interned : List (Array UInt16 × Addr) := []
def slotsUsed : Nat := 42
def theMethod : MethodId := ⟨1, 2⟩
def args0 : Array Value := #[.int 3]
def aboutOver (below : List Frame) : State where
  vm := { classes := classes, interned := interned.toArray }
  heap := heap
  slotsUsed := slotsUsed
  threads := #[{ frames := .invoking theMethod args0 :: below }]
def below0 : List Frame := [.native { method := ⟨0, 0⟩, args := #[] }]
def about1 : State := aboutOver below0
def p0 : Program := .bare "" "" ""
def e0 : Env := launch0.env 0 0 0
theorem w_frames : about1.frames = Frame.invoking theMethod args0 :: below0 := rfl
set_option maxRecDepth 65536 in
theorem w_args : argsFit about1.vm theMethod args0 = true := by decide +kernel
set_option maxRecDepth 65536 in
theorem w_heap : heapFits about1 = true := by decide +kernel
set_option maxRecDepth 65536 in
theorem w_runnable : about1.curStatus? = some .runnable := by decide +kernel
set_option maxRecDepth 65536 in
theorem w_alone : about1.alone = true := by decide +kernel
set_option maxRecDepth 65536 in
theorem w_named : about1.methodNamed? x = some theMethod := by decide +kernel
set_option maxRecDepth 65536 in
theorem w_hears : about1.hears theMethod below0 = true := by decide +kernel
set_option maxRecDepth 65536 in
theorem w_ripe : about1.ripe theMethod args0 below0 = true := by decide +kernel
theorem w_running : about1.status = .running := rfl
set_option maxRecDepth 65536 in
theorem w_room : about1.hasRoom e0.platform room_1 = true :=
  launch0.hasRoom_least _ room_1 (by decide +kernel) (by decide +kernel) (by decide +kernel) (by decide +kernel) (by decide +kernel) (by decide +kernel)
theorem allAtoms_all (ts : List Jvm.Cond) (a : Array Jvm.Value) (st : Jvm.State) : (allAtoms ts).before a st = ts.all (fun c => c.before a st) := by
  induction ts with
  | nil => rfl
  | cons c t ih =>
    show (Jvm.Cond.and c (allAtoms t)).before a st = _
    rw [Jvm.Cond.before_and, ih, List.all_cons]
def words1 : List Jvm.Cond := Jvm.Cond.code x code maxLocals ret :: tables_1
/-- a 'code' word, met by the world's own term for the bytes: nothing is compared byte by byte -/
theorem code_word {y : MethodName} {bytes : ByteArray} {mx : Nat} {rt : Option FieldType} {a : Array Value} {s : State} {m : MethodId} {meth : Method} {c : Code} (h1 : s.methodNamed? y = some m) (h2 : s.vm.method? m = some meth) (h3 : meth.code = some c) (h4 : c.code = bytes)
    (h5 : (c.maxLocals == mx && c.exceptionTable.isEmpty && decide (c.maxStack ≤ mostOperands) && decide (meth.sig.returnType = rt) && !meth.locks && decide (parseMethodDescriptor y.desc = some meth.sig)) = true) : (Jvm.Cond.code y bytes mx rt).before a s = true := by
  simp only [Bool.and_eq_true, beq_iff_eq, Bool.not_eq_true', decide_eq_true_eq] at h5
  obtain ⟨⟨⟨⟨⟨g1, g2⟩, g3⟩, g4⟩, g5⟩, g6⟩ := h5
  simp [Cond.before, Cond.holds, Cond.value, h1, h2, h3, h4, g1, g2, g3, g4, g5, g6]
def isCode : Jvm.Cond → Bool
  | .code _ _ _ _ => true
  | _ => false
theorem all_split {L : List Jvm.Cond} {P : Jvm.Cond → Bool} (h1 : L.all (fun c => isCode c || P c) = true) (h2 : ∀ c ∈ L.filter isCode, P c = true) : L.all P = true := by
  refine List.all_eq_true.mpr fun c hc => ?_
  have h := List.all_eq_true.mp h1 c hc
  rcases Bool.eq_false_or_eq_true (isCode c) with hi | hi
  · exact h2 c (List.mem_filter.mpr ⟨hc, hi⟩)
  · simpa [hi] using h
set_option maxRecDepth 65536 in
theorem w_c0 : (Jvm.Cond.code x code maxLocals ret).before args0 about1 = true := code_word (m := ⟨1, 2⟩) (meth := k1m2) (c := k1c2) (by decide +kernel) rfl rfl rfl (by decide +kernel)
set_option maxRecDepth 65536 in
theorem w_c1 : (Jvm.Cond.code ({ cls := "com/example/tyche/tyche/model/RelationIsStrictPinLaw", name := "pick", desc := "(I)Lcom/example/tyche/tyche/model/Relation;" } : Jvm.MethodName) method_2_code (2 : Nat) (Option.some (Jvm.ClassFile.FieldType.object "com/example/tyche/tyche/model/Relation"))).before args0 about1 = true := code_word (m := ⟨1, 1⟩) (meth := k1m1) (c := k1c1) (by decide +kernel) rfl rfl rfl (by decide +kernel)
set_option maxRecDepth 65536 in
theorem w_c2 : (Jvm.Cond.code ({ cls := "com/example/tyche/tyche/model/Relation", name := "toString", desc := "()Ljava/lang/String;" } : Jvm.MethodName) prog_62_method_5_code (1 : Nat) (Option.some (Jvm.ClassFile.FieldType.object "java/lang/String"))).before args0 about1 = true := code_word (m := ⟨6, 1⟩) (meth := k6m1) (c := k6c1) (by decide +kernel) rfl rfl rfl (by decide +kernel)
set_option maxRecDepth 65536 in
theorem w_c3 : (Jvm.Cond.code ({ cls := "java/lang/String", name := "length", desc := "()I" } : Jvm.MethodName) jdk_42_method_54_code (1 : Nat) (Option.some Jvm.ClassFile.FieldType.int)).before args0 about1 = true := code_word (m := ⟨9, 1⟩) (meth := k9m1) (c := k9c1) (by decide +kernel) rfl rfl rfl (by decide +kernel)
set_option maxRecDepth 65536 in
theorem w_c4 : (Jvm.Cond.code ({ cls := "java/lang/String", name := "coder", desc := "()B" } : Jvm.MethodName) jdk_42_method_152_code (1 : Nat) (Option.some Jvm.ClassFile.FieldType.byte)).before args0 about1 = true := code_word (m := ⟨9, 3⟩) (meth := k9m3) (c := k9c3) (by decide +kernel) rfl rfl rfl (by decide +kernel)
set_option maxRecDepth 65536 in
theorem w_c5 : (Jvm.Cond.code ({ cls := "java/lang/String", name := "charAt", desc := "(I)C" } : Jvm.MethodName) jdk_42_method_56_code (2 : Nat) (Option.some Jvm.ClassFile.FieldType.char)).before args0 about1 = true := code_word (m := ⟨9, 2⟩) (meth := k9m2) (c := k9c2) (by decide +kernel) rfl rfl rfl (by decide +kernel)
set_option maxRecDepth 65536 in
theorem w_c6 : (Jvm.Cond.code ({ cls := "java/lang/String", name := "isLatin1", desc := "()Z" } : Jvm.MethodName) jdk_42_method_154_code (1 : Nat) (Option.some Jvm.ClassFile.FieldType.boolean)).before args0 about1 = true := code_word (m := ⟨9, 4⟩) (meth := k9m4) (c := k9c4) (by decide +kernel) rfl rfl rfl (by decide +kernel)
set_option maxRecDepth 65536 in
theorem w_c7 : (Jvm.Cond.code ({ cls := "java/lang/StringLatin1", name := "charAt", desc := "([BI)C" } : Jvm.MethodName) jdk_43_method_2_code (2 : Nat) (Option.some Jvm.ClassFile.FieldType.char)).before args0 about1 = true := code_word (m := ⟨10, 1⟩) (meth := k10m1) (c := k10c1) (by decide +kernel) rfl rfl rfl (by decide +kernel)
set_option maxRecDepth 65536 in
theorem w_c8 : (Jvm.Cond.code ({ cls := "java/lang/String", name := "checkIndex", desc := "(II)V" } : Jvm.MethodName) jdk_42_method_155_code (2 : Nat) (Option.none : Option Jvm.ClassFile.FieldType)).before args0 about1 = true := code_word (m := ⟨9, 5⟩) (meth := k9m5) (c := k9c5) (by decide +kernel) rfl rfl rfl (by decide +kernel)
set_option maxRecDepth 65536 in
theorem w_c9 : (Jvm.Cond.code ({ cls := "jdk/internal/util/Preconditions", name := "checkIndex", desc := "(IILjava/util/function/BiFunction;)I" } : Jvm.MethodName) jdk_41_method_11_code (3 : Nat) (Option.some Jvm.ClassFile.FieldType.int)).before args0 about1 = true := code_word (m := ⟨11, 1⟩) (meth := k11m1) (c := k11c1) (by decide +kernel) rfl rfl rfl (by decide +kernel)
set_option maxRecDepth 65536 in
theorem w_c10 : (Jvm.Cond.code ({ cls := "com/example/tyche/tyche/model/Relation", name := "isStrict", desc := "()Z" } : Jvm.MethodName) prog_62_method_4_code (1 : Nat) (Option.some Jvm.ClassFile.FieldType.boolean)).before args0 about1 = true := code_word (m := ⟨6, 0⟩) (meth := k6m0) (c := k6c0) (by decide +kernel) rfl rfl rfl (by decide +kernel)
def codes1 : List Jvm.Cond := [Jvm.Cond.code x code maxLocals ret, Jvm.Cond.code ({ cls := "com/example/tyche/tyche/model/RelationIsStrictPinLaw", name := "pick", desc := "(I)Lcom/example/tyche/tyche/model/Relation;" } : Jvm.MethodName) method_2_code (2 : Nat) (Option.some (Jvm.ClassFile.FieldType.object "com/example/tyche/tyche/model/Relation")), Jvm.Cond.code ({ cls := "com/example/tyche/tyche/model/Relation", name := "toString", desc := "()Ljava/lang/String;" } : Jvm.MethodName) prog_62_method_5_code (1 : Nat) (Option.some (Jvm.ClassFile.FieldType.object "java/lang/String")), Jvm.Cond.code ({ cls := "java/lang/String", name := "length", desc := "()I" } : Jvm.MethodName) jdk_42_method_54_code (1 : Nat) (Option.some Jvm.ClassFile.FieldType.int), Jvm.Cond.code ({ cls := "java/lang/String", name := "coder", desc := "()B" } : Jvm.MethodName) jdk_42_method_152_code (1 : Nat) (Option.some Jvm.ClassFile.FieldType.byte), Jvm.Cond.code ({ cls := "java/lang/String", name := "charAt", desc := "(I)C" } : Jvm.MethodName) jdk_42_method_56_code (2 : Nat) (Option.some Jvm.ClassFile.FieldType.char), Jvm.Cond.code ({ cls := "java/lang/String", name := "isLatin1", desc := "()Z" } : Jvm.MethodName) jdk_42_method_154_code (1 : Nat) (Option.some Jvm.ClassFile.FieldType.boolean), Jvm.Cond.code ({ cls := "java/lang/StringLatin1", name := "charAt", desc := "([BI)C" } : Jvm.MethodName) jdk_43_method_2_code (2 : Nat) (Option.some Jvm.ClassFile.FieldType.char), Jvm.Cond.code ({ cls := "java/lang/String", name := "checkIndex", desc := "(II)V" } : Jvm.MethodName) jdk_42_method_155_code (2 : Nat) (Option.none : Option Jvm.ClassFile.FieldType), Jvm.Cond.code ({ cls := "jdk/internal/util/Preconditions", name := "checkIndex", desc := "(IILjava/util/function/BiFunction;)I" } : Jvm.MethodName) jdk_41_method_11_code (3 : Nat) (Option.some Jvm.ClassFile.FieldType.int), Jvm.Cond.code ({ cls := "com/example/tyche/tyche/model/Relation", name := "isStrict", desc := "()Z" } : Jvm.MethodName) prog_62_method_4_code (1 : Nat) (Option.some Jvm.ClassFile.FieldType.boolean)]
set_option maxRecDepth 65536 in
theorem codes_eq : words1.filter isCode = codes1 := rfl
theorem w_codes : ∀ c ∈ words1.filter isCode, c.before args0 about1 = true := by
  rw [codes_eq]
  intro c hc
  simp only [codes1, List.mem_cons, List.not_mem_nil, or_false] at hc
  rcases hc with rfl | rfl | rfl | rfl | rfl | rfl | rfl | rfl | rfl | rfl | rfl
  · exact w_c0
  · exact w_c1
  · exact w_c2
  · exact w_c3
  · exact w_c4
  · exact w_c5
  · exact w_c6
  · exact w_c7
  · exact w_c8
  · exact w_c9
  · exact w_c10
set_option maxRecDepth 65536 in
theorem w_t1 : (words1.take 24).all (fun c => isCode c || c.before args0 about1) = true := by decide +kernel
set_option maxRecDepth 65536 in
theorem w_t2 : ((words1.drop 24).take 24).all (fun c => isCode c || c.before args0 about1) = true := by decide +kernel
set_option maxRecDepth 65536 in
theorem w_t3 : ((words1.drop 24).drop 24).all (fun c => isCode c || c.before args0 about1) = true := by decide +kernel
theorem w_tables : (allAtoms (Jvm.Cond.code x code maxLocals ret :: tables_1)).before args0 about1 = true := by
  rw [allAtoms_all]
  show words1.all (fun c => c.before args0 about1) = true
  refine all_split ?_ w_codes
  rw [← List.take_append_drop 24 words1, List.all_append, w_t1, ← List.take_append_drop 24 (words1.drop 24), List.all_append, w_t2, w_t3]
  rfl
set_option maxRecDepth 65536 in
theorem w_rest : rest_1_c.before args0 about1 = true := by decide +kernel
set_option maxRecDepth 65536 in
theorem w_case : (Jvm.Cond.and given_1 narrow_1).before args0 about1 = true := by decide +kernel
theorem w_applies : (headSpec (Jvm.Cond.code x code maxLocals ret :: tables_1) room_1).applies x e0.platform about1 = true :=
  (Spec.applies_iff w_frames).mpr ⟨w_running, w_runnable, w_alone, w_named, w_hears, w_ripe, w_room, w_tables⟩
theorem atStart : AtStart classFile x code maxLocals ret World_1 tables_1 room_1 Calls_1 rest_1 Pre_1 launch0 p0 e0 about1 theMethod args0 below0 :=
  ⟨lists_1, trivial, launch0.admits_env _ _ _, launch0.least_env, fairChoices_fair.cas, fairChoices_fair.clock, w_frames, w_args, w_heap, w_applies, trivial, w_rest, w_case⟩
end start1
theorem witness_1 : WitnessClaimed_1 := ⟨start1.p0, start1.e0, start1.about1, start1.theMethod, start1.args0, start1.below0, start1.atStart⟩
end Jvm.Pilot.@@N@@
