import JvmDerived
import JvmDerived.Pilot.@@N@@Statement
import JvmDerived.Pilot.@@N@@Code
set_option linter.unusedVariables false
set_option linter.unusedSimpArgs false
namespace Jvm.RoadKit
open Sem ClassFile Op Lib Jvm.Stand Jvm.Free Jvm.LawKit
section New
variable {p : Program} {l : Launch} {e : Env} {R : Room} {s : State} {m : MethodId} {args : Array Value} {below : List Frame} {meth : Method} {c : Code} {T : State} {locs : List Loc} {cells slots : Nat}
theorem retI (X : Stand p l e R s m args below meth c T locs cells slots) (hx : p.tables.exec = Jvm.exec) {pc : Nat} {Ls : Array Slot} {z : Int32} {rest : List Value} (hret : meth.sig.returnType = some .int) (hd : decode c.code pc = .ok (.ireturn, 1)) {fs : List Frame}
    (hl : ∀ (f : JFrame) (acts : List Action), f.method = m → f.locked = none → f.entered = [] → (doReturn e (T.setTop f) acts (some (.int z))).1 = T.setFrames fs) : Steps p.tables e below (T.setTop (mkF m pc Ls (.int z :: rest))) (T.setFrames fs) := by
  have hm' : T.vm.method? m = some meth := X.method'
  have hn : narrow .int (.int z) = .int z := rfl
  show Steps p.tables e below (T.setTop { method := m, pc := pc, locals := Ls, stack := _ :: rest, locked := none }) _
  jvm_step X.here [X.here.top, hx, hd, hm', hret, hn]
  first | (intro acts; rw [hl _ acts rfl rfl rfl]) | rw [hl _ _ rfl rfl rfl]
  exact Steps.refl _
theorem own_dia {c : Prop} [Decidable c] {tb : Tables} {S tgt : State} {F : Int32 → State} {A B : Int32} (hy : c → ∀ t, Steps tb e below (F A) t → Steps tb e below S t) (hn : ¬ c → ∀ t, Steps tb e below (F B) t → Steps tb e below S t) (k : Steps tb e below (F (if c then A else B)) tgt) : Steps tb e below S tgt := by
  by_cases q : c
  · rw [if_pos q] at k; exact hy q _ k
  · rw [if_neg q] at k; exact hn q _ k
abbrev Stp (p : Program) (e : Env) (below : List Frame) (T : State) (m : MethodId) (pc : Nat) (Ls : Array Slot) (st : List Value) (t : State) : Prop := Steps p.tables e below (T.setTop (mkF m pc Ls st)) t
end New
end Jvm.RoadKit
namespace Jvm.Pilot.@@N@@
open Jvm Jvm.ClassFile Sem Op Lib Jvm.Free Jvm.Stand Jvm.LawKit Jvm.RoadKit Bundle Jvm.Pilot.@@N@@.Jvm.D
theorem own_W {a0 : Array Value} {Z : State} (hw : ∀ d ∈ tables_1, d.before a0 Z = true) (i : Nat) {d : Jvm.Cond} (h : tables_1[i]? = some d) : d.before a0 Z = true := hw _ (List.mem_of_getElem? h)
theorem own_eqv {args : Array Value} {first s : State} {o : Option Outcome} {idx : List Nat} {a b : Term} {y : Value} (h : (Jvm.Cond.eq a b).value args first o s idx = some true) (hb : b.eval args first o idx s = some y) : a.eval args first o idx s = some y := by
  obtain ⟨x, y', ha, hb', k1, k2⟩ := cmp_v (Or.inl h)
  cases hb.symm.trans hb'
  cases x <;> cases y <;> simp_all [Cond.value, Kin]
theorem own_len {args : Array Value} {first s : State} {o : Option Outcome} {idx : List Nat} {t : Term} {x : Addr} {cl : Cell} {n : Int32} (ht : t.eval args first o idx s = some (.ref x)) (ha : s.arrayAt? x = some cl) (h : (Term.length t).eval args first o idx s = some (.int n)) : cl.slots.size < 2 ^ 31 ∧ cl.slots.size.toInt32 = n := by
  by_cases q : cl.slots.size < 2 ^ 31
  · have e := len_f ht ha q
    rw [e] at h; cases h; exact ⟨q, rfl⟩
  · simp [Term.eval, ht, ha, q] at h
theorem own_ni {args : Array Value} {first s : State} {o : Option Outcome} {idx : List Nat} {a b : Term} {x y : Int32} (h : (Jvm.Cond.eq a b).value args first o s idx = some false) (ha : a.eval args first o idx s = some (.int x)) (hb : b.eval args first o idx s = some (.int y)) : ¬ (x = y) := by
  simp [Cond.value, ha, hb] at h; exact h
theorem d3_0 : decode jdk_22_method_1_code 0 = .ok (.aload_n 0, 1) := by decide +kernel
theorem d3_1 : decode jdk_22_method_1_code 1 = .ok (.invokespecial 1, 3) := by decide +kernel
theorem d3_4 : decode jdk_22_method_1_code 4 = .ok (.return_, 1) := by decide +kernel
theorem pn_3 : plainName "java/util/AbstractCollection" = true := by first | (simp [plainName, overriddenIn]; done) | decide +kernel
theorem ef_3 (m : MethodId) (pr0 : Addr) : entryFrame m #[(.ref pr0)] 1 = mkF m 0 #[.val (.ref pr0)] [] := by first | (simp [entryFrame, mkF, argsToLocals, Value.category]; done) | rfl
def Q3 (Z : State) (pr0 : Addr) (h0 : Heap) (n0 : Nat) (v : Option Value) (h : Heap) (L : List Loc) : Prop := v = none ∧ Fr n0 L ∧ h = h0
set_option maxRecDepth 65536 in
set_option maxHeartbeats 40000000 in
theorem rm3 (l : Launch) (Z : State) (a0 : Array Value) (hw : ∀ d ∈ tables_1, d.before a0 Z = true) (ws : List Jvm.Cond) (pr0 : Addr) (h0 : Heap) (n0 : Nat) (Z0 : n0 ≤ h0.size) (O0 : Old Z n0 h0) :
    MetFree l (⟨"java/util/AbstractCollection", "<init>", "()V"⟩ : MethodName) (head1 (Jvm.Cond.code (⟨"java/util/AbstractCollection", "<init>", "()V"⟩ : MethodName) jdk_22_method_1_code 1 none :: ws) ({ frames := 1, cells := 0, slots := 0, locals := 12 } : Room)) (fun a U => a = #[(.ref pr0)] ∧ Z.Warmed39 U.vm ∧ U.heap = h0) (fun _ _ _ _ _ => True) (fun _ U o U' => ∃ v L, o = .returned v ∧ Q3 Z pr0 h0 n0 v U'.heap L ∧ FrameEnd U o U' L ({ frames := 1, cells := 0, slots := 0, locals := 12 } : Room).cells ({ frames := 1, cells := 0, slots := 0, locals := 12 } : Room).slots) := by
  refine MetFree.of_bodySF (plainFor_of_name pn_3) hisR ?_
  intro p e s m args below meth c s₁ Bd hml0 hP hK
  obtain ⟨rfl, hZ, hh⟩ := hP
  have hx := Bd.exec
  have hby := Bd.bytes
  have hml : c.maxLocals = 1 := hml0
  have hown : s.vm.findClass "java/util/AbstractCollection" = some m.cls := findClass_of_methodNamed Bd.named
  have hnm := (name_of_methodNamed Bd.named Bd.method).1
  have X0 : Stand p l e ({ frames := 1, cells := 0, slots := 0, locals := 12 } : Room) s m #[(.ref pr0)] below meth c s₁ [] 0 0 := Stand.of_body Bd
  have e0 : s₁.heap = h0 := by rw [← hh, Bd.state]; rfl
  have N0 := Fr.nil n0
  have pre0 : ∀ t, Steps p.tables e below (s₁.setTop (mkF m 0 #[.val (.ref pr0)] [])) t → Steps p.tables e below (s₁.setTop (entryFrame m #[(.ref pr0)] 1)) t := fun t k => castTop (ef_3 m pr0) k
  obtain ⟨T1, X1, e1, st1⟩ := initO X0 hx hZ hown (own_W hw 19 rfl) (own_W hw 20 rfl) (own_W hw 21 rfl) e0 (g := (mkF m 1 #[.val (.ref pr0)] [(.ref pr0)])) rfl (by rw [hml]; rfl) rfl (hb hby d3_1) (by decide) (W := 0) (by show 2 * 0 + _ ≤ _; exact Nat.le_of_eq rfl) (by decide)
  obtain ⟨fs, hr, hrun, hended, hW, hsame⟩ := X1.leave (v := none) (fun _ => rfl)
  refine ⟨_, _, pre0 _ ?_, hrun, hended, _, _, rfl, ?_, ⟨_, rfl⟩, hW, hsame.mono (by decide) (by decide)⟩
  · show Stp p e below s₁ m 0 #[.val (.ref pr0)] [] _
    refine XS.aloadN X0.here hx rfl (hb hby d3_0) rfl rfl ?_
    show Stp p e below s₁ m 1 #[.val (.ref pr0)] [(.ref pr0)] _
    refine st1 _ ?_
    show Stp p e below T1 m 4 #[.val (.ref pr0)] [] _
    exact X1.returnOut hx Bd.returns (hb hby d3_4) hr
  · show Q3 Z pr0 h0 n0 _ T1.heap _
    rw [e1]
    exact ⟨rfl, N0, rfl⟩
theorem pd_0 : parseMethodDescriptor "()V" = some ⟨[], none⟩ := by decide +kernel
theorem d2_0 : decode jdk_39_method_1_code 0 = .ok (.aload_n 0, 1) := by decide +kernel
theorem d2_1 : decode jdk_39_method_1_code 1 = .ok (.invokespecial 1, 3) := by decide +kernel
theorem d2_4 : decode jdk_39_method_1_code 4 = .ok (.aload_n 0, 1) := by decide +kernel
theorem d2_5 : decode jdk_39_method_1_code 5 = .ok (.iconst 0, 1) := by decide +kernel
theorem d2_6 : decode jdk_39_method_1_code 6 = .ok (.putfield 7, 3) := by decide +kernel
theorem d2_9 : decode jdk_39_method_1_code 9 = .ok (.return_, 1) := by decide +kernel
theorem pn_2 : plainName "java/util/AbstractList" = true := by first | (simp [plainName, overriddenIn]; done) | decide +kernel
theorem ef_2 (m : MethodId) (pr0 : Addr) : entryFrame m #[(.ref pr0)] 1 = mkF m 0 #[.val (.ref pr0)] [] := by first | (simp [entryFrame, mkF, argsToLocals, Value.category]; done) | rfl
def Q2 (Z : State) (pr0 : Addr) (u_modCount_pr0 : Value) (u_elementData_pr0 : Value) (u_size_pr0 : Value) (h0 : Heap) (n0 : Nat) (v : Option Value) (h : Heap) (L : List Loc) : Prop := v = none ∧ Fr n0 L ∧ Keep h0 h [pr0] ∧ Exa Z h pr0 "java/util/ArrayList" ∧ Fld Z h pr0 "java/util/AbstractList" "modCount" "I" (.int (0 : Int32)) ∧ Fld Z h pr0 "java/util/ArrayList" "elementData" "[Ljava/lang/Object;" u_elementData_pr0 ∧ Fld Z h pr0 "java/util/ArrayList" "size" "I" u_size_pr0
set_option maxRecDepth 65536 in
set_option maxHeartbeats 40000000 in
theorem rm2 (l : Launch) (Z : State) (a0 : Array Value) (hw : ∀ d ∈ tables_1, d.before a0 Z = true) (ws : List Jvm.Cond) (pr0 : Addr) (u_modCount_pr0 : Value) (u_elementData_pr0 : Value) (u_size_pr0 : Value) (h0 : Heap) (n0 : Nat) (Z0 : n0 ≤ h0.size) (O0 : Old Z n0 h0) (E_pr0 : Exa Z h0 pr0 "java/util/ArrayList") (F_modCount_pr0 : Fld Z h0 pr0 "java/util/AbstractList" "modCount" "I" u_modCount_pr0) (F_elementData_pr0 : Fld Z h0 pr0 "java/util/ArrayList" "elementData" "[Ljava/lang/Object;" u_elementData_pr0) (F_size_pr0 : Fld Z h0 pr0 "java/util/ArrayList" "size" "I" u_size_pr0) (g_pr0 : n0 ≤ pr0) :
    MetFree l (⟨"java/util/AbstractList", "<init>", "()V"⟩ : MethodName) (head1 (Jvm.Cond.code (⟨"java/util/AbstractList", "<init>", "()V"⟩ : MethodName) jdk_39_method_1_code 1 none :: ws) ({ frames := 2, cells := 0, slots := 0, locals := 24 } : Room)) (fun a U => a = #[(.ref pr0)] ∧ Z.Warmed39 U.vm ∧ U.heap = h0) (fun _ _ _ _ _ => True) (fun _ U o U' => ∃ v L, o = .returned v ∧ Q2 Z pr0 u_modCount_pr0 u_elementData_pr0 u_size_pr0 h0 n0 v U'.heap L ∧ FrameEnd U o U' L ({ frames := 2, cells := 0, slots := 0, locals := 24 } : Room).cells ({ frames := 2, cells := 0, slots := 0, locals := 24 } : Room).slots) := by
  refine MetFree.of_bodySF (plainFor_of_name pn_2) hisR ?_
  intro p e s m args below meth c s₁ Bd hml0 hP hK
  obtain ⟨rfl, hZ, hh⟩ := hP
  have hx := Bd.exec
  have hby := Bd.bytes
  have hml : c.maxLocals = 1 := hml0
  have hown : s.vm.findClass "java/util/AbstractList" = some m.cls := findClass_of_methodNamed Bd.named
  have hnm := (name_of_methodNamed Bd.named Bd.method).1
  have X0 : Stand p l e ({ frames := 2, cells := 0, slots := 0, locals := 24 } : Room) s m #[(.ref pr0)] below meth c s₁ [] 0 0 := Stand.of_body Bd
  have e0 : s₁.heap = h0 := by rw [← hh, Bd.state]; rfl
  have N0 := Fr.nil n0
  have pre0 : ∀ t, Steps p.tables e below (s₁.setTop (mkF m 0 #[.val (.ref pr0)] [])) t → Steps p.tables e below (s₁.setTop (entryFrame m #[(.ref pr0)] 1)) t := fun t k => castTop (ef_2 m pr0) k
  obtain ⟨_, _, ⟨T1, L1, k1, n1⟩, -, X1, ⟨Lc1, hQ1, l1, y1, z1⟩, st1⟩ := X0.specialBack hx (y := (⟨"java/util/AbstractCollection", "<init>", "()V"⟩ : MethodName)) rfl hown (mvT hZ (own_W hw 13 rfl)) (mvT hZ (own_W hw 14 rfl)) (mvT hZ (own_W hw 18 rfl)) (by decide) (backOf (W := 0) (rm3 l Z a0 hw [] pr0 h0 n0 Z0 O0 ) hZ (own_W hw 18 rfl) (own_W hw 17 rfl) (by decide) (by decide)) (g := (mkF m 1 #[.val (.ref pr0)] [(.ref pr0)])) rfl (by rw [hml]; rfl) (Steps.refl _) (a := pr0) (argsL := []) (rest := []) (lenOf pd_0 rfl) rfl (by show 2 * 0 + _ ≤ _; exact Nat.le_of_eq rfl) (hb hby d2_1) (fun _ _ => ⟨rfl, e0, (by decide : 0 + 0 ≤ _), (by decide : 0 + 0 ≤ _)⟩)
  dsimp only [Pt.U, Pt.locs, Pt.cells, Pt.slots] at X1 l1 y1 z1 st1 hQ1
  subst l1 y1 z1
  obtain ⟨rfl, N1q, eq1⟩ := hQ1
  have N1 := Fr.app N0 N1q
  obtain ⟨T2, h2, X2, e2, W2, st2⟩ := putF X1 hx hZ hown (host := "") (Or.inl (own_W hw 22 rfl)) Via.refl eq1 F_modCount_pr0 E_pr0 (Or.inl (own_W hw 23 rfl)) (own_W hw 2 rfl) (ty := .int) (by decide) rfl rfl (g := (mkF m 6 #[.val (.ref pr0)] [(.int (0 : Int32)), (.ref pr0)])) rfl rfl (hb hby d2_6)
  have Fw2 := F_modCount_pr0.same W2
  have N2 := Fr.snoc X2 N1 g_pr0
  have k3 : Keep h0 h2 [pr0] := (Keep.refl h0 [pr0]).wr W2 (Or.inl (List.mem_of_getElem? (i := 0) rfl))
  have f4 := E_pr0.wr W2
  have f5 := F_elementData_pr0.other W2 (Or.inr (slot_ne (Or.inl (own_W hw 26 rfl)) (Or.inl (own_W hw 23 rfl)) (by decide) (t := (.array (.object "java/lang/Object"))) (t' := .int) (by decide) (by decide)))
  have f6 := F_size_pr0.other W2 (Or.inr (slot_ne (Or.inl (own_W hw 43 rfl)) (Or.inl (own_W hw 23 rfl)) (by decide) (t := .int) (t' := .int) (by decide) (by decide)))
  obtain ⟨fs, hr, hrun, hended, hW, hsame⟩ := X2.leave (v := none) (fun _ => rfl)
  refine ⟨_, _, pre0 _ ?_, hrun, hended, _, _, rfl, ?_, ⟨_, rfl⟩, hW, hsame.mono (by decide) (by decide)⟩
  · show Stp p e below s₁ m 0 #[.val (.ref pr0)] [] _
    refine XS.aloadN X0.here hx rfl (hb hby d2_0) rfl rfl ?_
    show Stp p e below s₁ m 1 #[.val (.ref pr0)] [(.ref pr0)] _
    refine st1.trans ?_
    show Stp p e below T1 m 4 #[.val (.ref pr0)] [] _
    refine XS.aloadN X1.here hx rfl (hb hby d2_4) rfl rfl ?_
    show Stp p e below T1 m 5 #[.val (.ref pr0)] [(.ref pr0)] _
    refine XS.iconst X1.here hx rfl (hb hby d2_5) ?_
    show Stp p e below T1 m 6 #[.val (.ref pr0)] [(.int (0 : Int32)), (.ref pr0)] _
    refine st2 _ ?_
    show Stp p e below T2 m 9 #[.val (.ref pr0)] [] _
    exact X2.returnOut hx Bd.returns (hb hby d2_9) hr
  · show Q2 Z pr0 u_modCount_pr0 u_elementData_pr0 u_size_pr0 h0 n0 _ T2.heap _
    rw [e2]
    exact ⟨rfl, N2, k3, f4, Fw2, f5, f6⟩
theorem d1_0 : decode jdk_38_method_2_code 0 = .ok (.aload_n 0, 1) := by decide +kernel
theorem d1_1 : decode jdk_38_method_2_code 1 = .ok (.invokespecial 1, 3) := by decide +kernel
theorem d1_4 : decode jdk_38_method_2_code 4 = .ok (.aload_n 0, 1) := by decide +kernel
theorem d1_5 : decode jdk_38_method_2_code 5 = .ok (.getstatic 39, 3) := by decide +kernel
theorem d1_8 : decode jdk_38_method_2_code 8 = .ok (.putfield 9, 3) := by decide +kernel
theorem d1_11 : decode jdk_38_method_2_code 11 = .ok (.return_, 1) := by decide +kernel
theorem pn_1 : plainName "java/util/ArrayList" = true := by first | (simp [plainName, overriddenIn]; done) | decide +kernel
theorem ef_1 (m : MethodId) (pr0 : Addr) : entryFrame m #[(.ref pr0)] 1 = mkF m 0 #[.val (.ref pr0)] [] := by first | (simp [entryFrame, mkF, argsToLocals, Value.category]; done) | rfl
def Q1 (Z : State) (pr0 : Addr) (w_DEF : Addr) (u_modCount_pr0 : Value) (u_elementData_pr0 : Value) (u_size_pr0 : Value) (h0 : Heap) (n0 : Nat) (v : Option Value) (h : Heap) (L : List Loc) : Prop := v = none ∧ Fr n0 L ∧ Keep h0 h [pr0] ∧ Exa Z h pr0 "java/util/ArrayList" ∧ Fld Z h pr0 "java/util/AbstractList" "modCount" "I" (.int (0 : Int32)) ∧ Fld Z h pr0 "java/util/ArrayList" "elementData" "[Ljava/lang/Object;" (.ref w_DEF) ∧ Fld Z h pr0 "java/util/ArrayList" "size" "I" u_size_pr0
set_option maxRecDepth 65536 in
set_option maxHeartbeats 40000000 in
theorem rm1 (l : Launch) (Z : State) (a0 : Array Value) (hw : ∀ d ∈ tables_1, d.before a0 Z = true) (ws : List Jvm.Cond) (pr0 : Addr) (w_DEF : Addr) (u_modCount_pr0 : Value) (u_elementData_pr0 : Value) (u_size_pr0 : Value) (h0 : Heap) (n0 : Nat) (Z0 : n0 ≤ h0.size) (O0 : Old Z n0 h0) (E_pr0 : Exa Z h0 pr0 "java/util/ArrayList") (S_DEFAULTCAPACITY_EMPTY_ELEMENTDATA : Sta Z Z.heap "java/util/ArrayList" "DEFAULTCAPACITY_EMPTY_ELEMENTDATA" "[Ljava/lang/Object;" (.ref w_DEF)) (F_modCount_pr0 : Fld Z h0 pr0 "java/util/AbstractList" "modCount" "I" u_modCount_pr0) (F_elementData_pr0 : Fld Z h0 pr0 "java/util/ArrayList" "elementData" "[Ljava/lang/Object;" u_elementData_pr0) (F_size_pr0 : Fld Z h0 pr0 "java/util/ArrayList" "size" "I" u_size_pr0) (g_pr0 : n0 ≤ pr0) :
    MetFree l (⟨"java/util/ArrayList", "<init>", "()V"⟩ : MethodName) (head1 (Jvm.Cond.code (⟨"java/util/ArrayList", "<init>", "()V"⟩ : MethodName) jdk_38_method_2_code 1 none :: ws) ({ frames := 3, cells := 0, slots := 0, locals := 36 } : Room)) (fun a U => a = #[(.ref pr0)] ∧ Z.Warmed39 U.vm ∧ U.heap = h0) (fun _ _ _ _ _ => True) (fun _ U o U' => ∃ v L, o = .returned v ∧ Q1 Z pr0 w_DEF u_modCount_pr0 u_elementData_pr0 u_size_pr0 h0 n0 v U'.heap L ∧ FrameEnd U o U' L ({ frames := 3, cells := 0, slots := 0, locals := 36 } : Room).cells ({ frames := 3, cells := 0, slots := 0, locals := 36 } : Room).slots) := by
  refine MetFree.of_bodySF (plainFor_of_name pn_1) hisR ?_
  intro p e s m args below meth c s₁ Bd hml0 hP hK
  obtain ⟨rfl, hZ, hh⟩ := hP
  have hx := Bd.exec
  have hby := Bd.bytes
  have hml : c.maxLocals = 1 := hml0
  have hown : s.vm.findClass "java/util/ArrayList" = some m.cls := findClass_of_methodNamed Bd.named
  have hnm := (name_of_methodNamed Bd.named Bd.method).1
  have X0 : Stand p l e ({ frames := 3, cells := 0, slots := 0, locals := 36 } : Room) s m #[(.ref pr0)] below meth c s₁ [] 0 0 := Stand.of_body Bd
  have e0 : s₁.heap = h0 := by rw [← hh, Bd.state]; rfl
  have N0 := Fr.nil n0
  have pre0 : ∀ t, Steps p.tables e below (s₁.setTop (mkF m 0 #[.val (.ref pr0)] [])) t → Steps p.tables e below (s₁.setTop (entryFrame m #[(.ref pr0)] 1)) t := fun t k => castTop (ef_1 m pr0) k
  obtain ⟨_, _, ⟨T1, L1, k1, n1⟩, -, X1, ⟨Lc1, hQ1, l1, y1, z1⟩, st1⟩ := X0.specialBack hx (y := (⟨"java/util/AbstractList", "<init>", "()V"⟩ : MethodName)) rfl hown (mvT hZ (own_W hw 7 rfl)) (mvT hZ (own_W hw 8 rfl)) (mvT hZ (own_W hw 12 rfl)) (by decide) (backOf (W := 0) (rm2 l Z a0 hw [] pr0 u_modCount_pr0 u_elementData_pr0 u_size_pr0 h0 n0 Z0 O0 E_pr0 F_modCount_pr0 F_elementData_pr0 F_size_pr0 g_pr0) hZ (own_W hw 12 rfl) (own_W hw 11 rfl) (by decide) (by decide)) (g := (mkF m 1 #[.val (.ref pr0)] [(.ref pr0)])) rfl (by rw [hml]; rfl) (Steps.refl _) (a := pr0) (argsL := []) (rest := []) (lenOf pd_0 rfl) rfl (by show 2 * 0 + _ ≤ _; exact Nat.le_of_eq rfl) (hb hby d1_1) (fun _ _ => ⟨rfl, e0, (by decide : 0 + 0 ≤ _), (by decide : 0 + 0 ≤ _)⟩)
  dsimp only [Pt.U, Pt.locs, Pt.cells, Pt.slots] at X1 l1 y1 z1 st1 hQ1
  subst l1 y1 z1
  obtain ⟨rfl, N1q, K1, qf1_0, qf1_1, qf1_2, qf1_3⟩ := hQ1
  have N1 := Fr.app N0 N1q
  have o3 := O0.keep K1 (allS g_pr0 all0)
  obtain ⟨T2, X2, e2, st2⟩ := getS2 X1 hx hZ hown (host := "") (Or.inl (own_W hw 24 rfl)) Via.refl rfl (S_DEFAULTCAPACITY_EMPTY_ELEMENTDATA.ext o3.2) (g := (mkF m 5 #[.val (.ref pr0)] [(.ref pr0)])) rfl (hb hby d1_5)
  obtain ⟨T4, h4, X4, e4, W4, st4⟩ := putF X2 hx hZ hown (host := "") (Or.inl (own_W hw 25 rfl)) Via.refl e2 qf1_2 qf1_0 (Or.inl (own_W hw 26 rfl)) (own_W hw 2 rfl) (ty := (.array (.object "java/lang/Object"))) (by decide) rfl rfl (g := (mkF m 8 #[.val (.ref pr0)] [(.ref w_DEF), (.ref pr0)])) rfl rfl (hb hby d1_8)
  have Fw4 := qf1_2.same W4
  have N4 := Fr.snoc X4 N1 g_pr0
  have k5 : Keep h0 T1.heap [pr0] := (Keep.refl h0 [pr0]).trans K1 (allS (Or.inl (List.mem_of_getElem? (i := 0) rfl)) all0)
  have k6 : Keep h0 h4 [pr0] := k5.wr W4 (Or.inl (List.mem_of_getElem? (i := 0) rfl))
  have f7 := qf1_0.wr W4
  have f8 := qf1_1.other W4 (Or.inr (slot_ne (Or.inl (own_W hw 23 rfl)) (Or.inl (own_W hw 26 rfl)) (by decide) (t := .int) (t' := (.array (.object "java/lang/Object"))) (by decide) (by decide)))
  have f9 := qf1_3.other W4 (Or.inr (slot_ne (Or.inl (own_W hw 43 rfl)) (Or.inl (own_W hw 26 rfl)) (by decide) (t := .int) (t' := (.array (.object "java/lang/Object"))) (by decide) (by decide)))
  obtain ⟨fs, hr, hrun, hended, hW, hsame⟩ := X4.leave (v := none) (fun _ => rfl)
  refine ⟨_, _, pre0 _ ?_, hrun, hended, _, _, rfl, ?_, ⟨_, rfl⟩, hW, hsame.mono (by decide) (by decide)⟩
  · show Stp p e below s₁ m 0 #[.val (.ref pr0)] [] _
    refine XS.aloadN X0.here hx rfl (hb hby d1_0) rfl rfl ?_
    show Stp p e below s₁ m 1 #[.val (.ref pr0)] [(.ref pr0)] _
    refine st1.trans ?_
    show Stp p e below T1 m 4 #[.val (.ref pr0)] [] _
    refine XS.aloadN X1.here hx rfl (hb hby d1_4) rfl rfl ?_
    show Stp p e below T1 m 5 #[.val (.ref pr0)] [(.ref pr0)] _
    refine st2 _ ?_
    show Stp p e below T2 m 8 #[.val (.ref pr0)] [(.ref w_DEF), (.ref pr0)] _
    refine st4 _ ?_
    show Stp p e below T4 m 11 #[.val (.ref pr0)] [] _
    exact X4.returnOut hx Bd.returns (hb hby d1_11) hr
  · show Q1 Z pr0 w_DEF u_modCount_pr0 u_elementData_pr0 u_size_pr0 h0 n0 _ T4.heap _
    rw [e4]
    exact ⟨rfl, N4, k6, f7, f8, Fw4, f9⟩
theorem d10_0 : decode jdk_29_method_65_code 0 = .ok (.iload_n 0, 1) := by decide +kernel
theorem d10_1 : decode jdk_29_method_65_code 1 = .ok (.iload_n 1, 1) := by decide +kernel
theorem d10_2 : decode jdk_29_method_65_code 2 = .ok (.if_icmp .lt 7, 3) := by decide +kernel
theorem d10_5 : decode jdk_29_method_65_code 5 = .ok (.iload_n 0, 1) := by decide +kernel
theorem d10_6 : decode jdk_29_method_65_code 6 = .ok (.goto 4, 3) := by decide +kernel
theorem d10_10 : decode jdk_29_method_65_code 10 = .ok (.ireturn, 1) := by decide +kernel
theorem ef_10 (m : MethodId) (pi1 : Int32) (pi2 : Int32) : entryFrame m #[(.int pi1), (.int pi2)] 2 = mkF m 0 #[.val (.int pi1), .val (.int pi2)] [] := by first | (simp [entryFrame, mkF, argsToLocals, Value.category]; done) | rfl
def Q10 (Z : State) (pi1 : Int32) (pi2 : Int32) (h0 : Heap) (n0 : Nat) (v : Option Value) (h : Heap) (L : List Loc) : Prop := v = some (.int pi1) ∧ Fr n0 L ∧ h = h0
set_option maxRecDepth 65536 in
set_option maxHeartbeats 40000000 in
theorem rm10 (l : Launch) (Z : State) (a0 : Array Value) (hw : ∀ d ∈ tables_1, d.before a0 Z = true) (ws : List Jvm.Cond) (pi1 : Int32) (pi2 : Int32) (h0 : Heap) (n0 : Nat) (Z0 : n0 ≤ h0.size) (O0 : Old Z n0 h0) (hc2_0 : ¬ (pi1 < pi2)) :
    MetFree l (⟨"java/lang/Math", "max", "(II)I"⟩ : MethodName) (head1 (Jvm.Cond.code (⟨"java/lang/Math", "max", "(II)I"⟩ : MethodName) jdk_29_method_65_code 2 (some .int) :: ws) ({ frames := 0, cells := 0, slots := 0, locals := 0 } : Room)) (fun a U => a = #[(.int pi1), (.int pi2)] ∧ Z.Warmed39 U.vm ∧ U.heap = h0) (fun _ _ _ _ _ => True) (fun _ U o U' => ∃ v L, o = .returned v ∧ Q10 Z pi1 pi2 h0 n0 v U'.heap L ∧ FrameEnd U o U' L ({ frames := 0, cells := 0, slots := 0, locals := 0 } : Room).cells ({ frames := 0, cells := 0, slots := 0, locals := 0 } : Room).slots) := by
  refine MetFree.of_bodySF (Jvm.Free.JP.mathPlain rfl (by decide +kernel)) hisR ?_
  intro p e s m args below meth c s₁ Bd hml0 hP hK
  obtain ⟨rfl, hZ, hh⟩ := hP
  have hx := Bd.exec
  have hby := Bd.bytes
  have hml : c.maxLocals = 2 := hml0
  have hown : s.vm.findClass "java/lang/Math" = some m.cls := findClass_of_methodNamed Bd.named
  have hnm := (name_of_methodNamed Bd.named Bd.method).1
  have X0 : Stand p l e ({ frames := 0, cells := 0, slots := 0, locals := 0 } : Room) s m #[(.int pi1), (.int pi2)] below meth c s₁ [] 0 0 := Stand.of_body Bd
  have e0 : s₁.heap = h0 := by rw [← hh, Bd.state]; rfl
  have N0 := Fr.nil n0
  have pre0 : ∀ t, Steps p.tables e below (s₁.setTop (mkF m 0 #[.val (.int pi1), .val (.int pi2)] [])) t → Steps p.tables e below (s₁.setTop (entryFrame m #[(.int pi1), (.int pi2)] 2)) t := fun t k => castTop (ef_10 m pi1 pi2) k
  obtain ⟨fs, hr, hrun, hended, hW, hsame⟩ := X0.leave (v := some (.int pi1)) (fun h => by rw [Bd.returns] at h; cases h)
  refine ⟨_, _, pre0 _ ?_, hrun, hended, _, _, rfl, ?_, ⟨_, rfl⟩, hW, hsame.mono (by decide) (by decide)⟩
  · show Stp p e below s₁ m 0 #[.val (.int pi1), .val (.int pi2)] [] _
    refine XS.iloadN X0.here hx rfl (hb hby d10_0) rfl ?_
    show Stp p e below s₁ m 1 #[.val (.int pi1), .val (.int pi2)] [(.int pi1)] _
    refine XS.iloadN X0.here hx rfl (hb hby d10_1) rfl ?_
    show Stp p e below s₁ m 2 #[.val (.int pi1), .val (.int pi2)] [(.int pi2), (.int pi1)] _
    refine XS.icmpNo X0.here hx rfl (hb hby d10_2) rfl (flt hc2_0).1 ?_
    show Stp p e below s₁ m 5 #[.val (.int pi1), .val (.int pi2)] [] _
    refine XS.iloadN X0.here hx rfl (hb hby d10_5) rfl ?_
    show Stp p e below s₁ m 6 #[.val (.int pi1), .val (.int pi2)] [(.int pi1)] _
    refine XS.goto X0.here hx rfl (pc0 := 6) (pc' := 10) rfl (hb hby d10_6) (by decide) (by decide) ?_
    show Stp p e below s₁ m 10 #[.val (.int pi1), .val (.int pi2)] [(.int pi1)] _
    exact retI X0 hx Bd.returns (hb hby d10_10) hr
  · show Q10 Z pi1 pi2 h0 n0 _ s₁.heap _
    rw [e0]
    exact ⟨rfl, N0, rfl⟩
theorem pd_6 : parseMethodDescriptor "(II)I" = some ⟨[.int, .int], some .int⟩ := by decide +kernel
theorem d9_0 : decode jdk_38_method_6_code 0 = .ok (.aload_n 0, 1) := by decide +kernel
theorem d9_1 : decode jdk_38_method_6_code 1 = .ok (.getfield 9, 3) := by decide +kernel
theorem d9_4 : decode jdk_38_method_6_code 4 = .ok (.arraylength, 1) := by decide +kernel
theorem d9_5 : decode jdk_38_method_6_code 5 = .ok (.istore_n 2, 1) := by decide +kernel
theorem d9_6 : decode jdk_38_method_6_code 6 = .ok (.iload_n 2, 1) := by decide +kernel
theorem d9_7 : decode jdk_38_method_6_code 7 = .ok (.ifCond .gt 13, 3) := by decide +kernel
theorem d9_10 : decode jdk_38_method_6_code 10 = .ok (.aload_n 0, 1) := by decide +kernel
theorem d9_11 : decode jdk_38_method_6_code 11 = .ok (.getfield 9, 3) := by decide +kernel
theorem d9_14 : decode jdk_38_method_6_code 14 = .ok (.getstatic 39, 3) := by decide +kernel
theorem d9_17 : decode jdk_38_method_6_code 17 = .ok (.if_acmp .eq 28, 3) := by decide +kernel
theorem d9_45 : decode jdk_38_method_6_code 45 = .ok (.aload_n 0, 1) := by decide +kernel
theorem d9_46 : decode jdk_38_method_6_code 46 = .ok (.bipush 10, 2) := by decide +kernel
theorem d9_48 : decode jdk_38_method_6_code 48 = .ok (.iload_n 1, 1) := by decide +kernel
theorem d9_49 : decode jdk_38_method_6_code 49 = .ok (.invokestatic 79, 3) := by decide +kernel
theorem d9_52 : decode jdk_38_method_6_code 52 = .ok (.anewarray 7, 3) := by decide +kernel
theorem d9_55 : decode jdk_38_method_6_code 55 = .ok (.dup_x1, 1) := by decide +kernel
theorem d9_56 : decode jdk_38_method_6_code 56 = .ok (.putfield 9, 3) := by decide +kernel
theorem d9_59 : decode jdk_38_method_6_code 59 = .ok (.areturn, 1) := by decide +kernel
theorem pn_9 : plainName "java/util/ArrayList" = true := by first | (simp [plainName, overriddenIn]; done) | decide +kernel
theorem ef_9_ (m : MethodId) (pr0 : Addr) : entryFrame m #[(.ref pr0), (.int (1 : Int32))] 4 = mkF m 0 #[.val (.ref pr0), .val (.int (1 : Int32)), .unset, .unset] [] := by first | (simp [entryFrame, mkF, argsToLocals, Value.category]; done) | rfl
def Q9 (Z : State) (pr0 : Addr) (w_DEF : Addr) (kk_w_DEF : ClassId) (u_modCount_pr0 : Value) (u_size_pr0 : Value) (h0 : Heap) (n0 : Nat) (v : Option Value) (h : Heap) (L : List Loc) : Prop := ∃ b6 : Addr, ∃ k6 : ClassId, v = some (.ref b6) ∧ Fr n0 L ∧ Keep h0 h [pr0] ∧ Exa Z h pr0 "java/util/ArrayList" ∧ Fld Z h pr0 "java/util/AbstractList" "modCount" "I" u_modCount_pr0 ∧ Fld Z h pr0 "java/util/ArrayList" "elementData" "[Ljava/lang/Object;" (.ref b6) ∧ Fld Z h pr0 "java/util/ArrayList" "size" "I" u_size_pr0 ∧ h0.size ≤ b6 ∧ Arv Z h b6 k6 (.object "java/lang/Object") (10 : Int32) [.null, .null, .null, .null, .null, .null, .null, .null, .null, .null] .null ∧ Ovr Z k6 "java/lang/Object"
set_option maxRecDepth 65536 in
set_option maxHeartbeats 40000000 in
theorem rm9 (l : Launch) (Z : State) (a0 : Array Value) (hw : ∀ d ∈ tables_1, d.before a0 Z = true) (ws : List Jvm.Cond) (pr0 : Addr) (w_DEF : Addr) (kk_w_DEF : ClassId) (u_modCount_pr0 : Value) (u_size_pr0 : Value) (h0 : Heap) (n0 : Nat) (Z0 : n0 ≤ h0.size) (O0 : Old Z n0 h0) (E_pr0 : Exa Z h0 pr0 "java/util/ArrayList") (S_DEFAULTCAPACITY_EMPTY_ELEMENTDATA : Sta Z Z.heap "java/util/ArrayList" "DEFAULTCAPACITY_EMPTY_ELEMENTDATA" "[Ljava/lang/Object;" (.ref w_DEF)) (V_w_DEF : Arv Z Z.heap w_DEF kk_w_DEF (.object "java/lang/Object") (0 : Int32) [] .null) (F_modCount_pr0 : Fld Z h0 pr0 "java/util/AbstractList" "modCount" "I" u_modCount_pr0) (F_elementData_pr0 : Fld Z h0 pr0 "java/util/ArrayList" "elementData" "[Ljava/lang/Object;" (.ref w_DEF)) (F_size_pr0 : Fld Z h0 pr0 "java/util/ArrayList" "size" "I" u_size_pr0) (g_pr0 : n0 ≤ pr0) :
    MetFree l (⟨"java/util/ArrayList", "grow", "(I)[Ljava/lang/Object;"⟩ : MethodName) (head1 (Jvm.Cond.code (⟨"java/util/ArrayList", "grow", "(I)[Ljava/lang/Object;"⟩ : MethodName) jdk_38_method_6_code 4 (some (.array (.object "java/lang/Object"))) :: ws) ({ frames := 1, cells := 1, slots := 10, locals := 14 } : Room)) (fun a U => a = #[(.ref pr0), (.int (1 : Int32))] ∧ Z.Warmed39 U.vm ∧ U.heap = h0) (fun _ _ _ _ _ => True) (fun _ U o U' => ∃ v L, o = .returned v ∧ Q9 Z pr0 w_DEF kk_w_DEF u_modCount_pr0 u_size_pr0 h0 n0 v U'.heap L ∧ FrameEnd U o U' L ({ frames := 1, cells := 1, slots := 10, locals := 14 } : Room).cells ({ frames := 1, cells := 1, slots := 10, locals := 14 } : Room).slots) := by
  refine MetFree.of_bodySF (plainFor_of_name pn_9) hisR ?_
  intro p e s m args below meth c s₁ Bd hml0 hP hK
  obtain ⟨rfl, hZ, hh⟩ := hP
  have hx := Bd.exec
  have hby := Bd.bytes
  have hml : c.maxLocals = 4 := hml0
  have hown : s.vm.findClass "java/util/ArrayList" = some m.cls := findClass_of_methodNamed Bd.named
  have hnm := (name_of_methodNamed Bd.named Bd.method).1
  have X0 : Stand p l e ({ frames := 1, cells := 1, slots := 10, locals := 14 } : Room) s m #[(.ref pr0), (.int (1 : Int32))] below meth c s₁ [] 0 0 := Stand.of_body Bd
  have e0 : s₁.heap = h0 := by rw [← hh, Bd.state]; rfl
  have N0 := Fr.nil n0
  have pre0 : ∀ t, Steps p.tables e below (s₁.setTop (mkF m 0 #[.val (.ref pr0), .val (.int (1 : Int32)), .unset, .unset] [])) t → Steps p.tables e below (s₁.setTop (entryFrame m #[(.ref pr0), (.int (1 : Int32))] 4)) t := fun t k => castTop (ef_9_ m pr0) k
  obtain ⟨T1, X1, e1, st1⟩ := getF X0 hx hZ hown (host := "") (Or.inl (own_W hw 25 rfl)) Via.refl e0 F_elementData_pr0 (g := (mkF m 1 #[.val (.ref pr0), .val (.int (1 : Int32)), .unset, .unset] [(.ref pr0)])) rfl rfl (hb hby d9_1)
  have V_c2 := (V_w_DEF.ext O0.2)
  obtain ⟨c2, Arc2, qc2, Sc2, Nc2, Hc2, Gc2⟩ := V_c2
  obtain ⟨T3, X3, e3, st3⟩ := getF X1 hx hZ hown (host := "") (Or.inl (own_W hw 25 rfl)) Via.refl e1 F_elementData_pr0 (g := (mkF m 11 #[.val (.ref pr0), .val (.int (1 : Int32)), .val (.int (0 : Int32)), .unset] [(.ref pr0)])) rfl rfl (hb hby d9_11)
  obtain ⟨T4, X4, e4, st4⟩ := getS2 X3 hx hZ hown (host := "") (Or.inl (own_W hw 24 rfl)) Via.refl e3 (S_DEFAULTCAPACITY_EMPTY_ELEMENTDATA.ext O0.2) (g := (mkF m 14 #[.val (.ref pr0), .val (.int (1 : Int32)), .val (.int (0 : Int32)), .unset] [(.ref w_DEF)])) rfl (hb hby d9_14)
  obtain ⟨_, _, ⟨T5, L5, k5, n5⟩, -, X5, ⟨Lc5, hQ5, l5, y5, z5⟩, st5⟩ := Jvm.LawKit.callS X4 hx (y := (⟨"java/lang/Math", "max", "(II)I"⟩ : MethodName)) hown (mvT hZ (own_W hw 59 rfl)) (mvT hZ (own_W hw 60 rfl)) (mvT hZ (own_W hw 61 rfl)) (mvT hZ (own_W hw 62 rfl)) (by decide) (backOf (W := 1) (rm10 l Z a0 hw [] (10 : Int32) (1 : Int32) h0 n0 Z0 O0 (by decide)) hZ (own_W hw 62 rfl) (own_W hw 61 rfl) (by decide) (by decide)) (g := (mkF m 49 #[.val (.ref pr0), .val (.int (1 : Int32)), .val (.int (0 : Int32)), .unset] [(.int (1 : Int32)), (.int (10 : Int32)), (.ref pr0)])) rfl (by rw [hml]; rfl) (argsL := [(.int (10 : Int32)), (.int (1 : Int32))]) (rest := [(.ref pr0)]) (lenOf pd_6 rfl) rfl (by show 2 * 0 + _ ≤ _; exact Nat.le_of_eq rfl) (hb hby d9_49) (fun _ _ => ⟨rfl, e4, (by decide : 0 + 0 ≤ _), (by decide : 0 + 0 ≤ _)⟩)
  dsimp only [Pt.U, Pt.locs, Pt.cells, Pt.slots] at X5 l5 y5 z5 st5 hQ5
  subst l5 y5 z5
  obtain ⟨rfl, N5q, eq5⟩ := hQ5
  have N5 := Fr.app N0 N5q
  obtain ⟨T6, h6, k6, X6, e6, E6, A6, O6, st6⟩ := newR X5 hx hZ hown (own_W hw 63 rfl) (own_W hw 64 rfl) eq5 (g := (mkF m 52 #[.val (.ref pr0), .val (.int (1 : Int32)), .val (.int (0 : Int32)), .unset] [(.int (10 : Int32)), (.ref pr0)])) rfl (hb hby d9_52) rfl (by decide) (cap := 10) (by decide) (by decide) (by decide) (by decide)
  obtain ⟨b6, g6⟩ : ∃ z, z = h0.size := ⟨_, rfl⟩
  rw [← g6] at A6 st6
  have V6 : Arv Z h6 b6 k6 (.object "java/lang/Object") (10 : Int32) [.null, .null, .null, .null, .null, .null, .null, .null, .null, .null] .null := (Arv.new A6 (by decide)).pad (pad_rep [] .null 10)
  have f7 := F_elementData_pr0.ext E6
  have f8 := E_pr0.ext E6
  obtain ⟨T9, h9, X9, e9, W9, st9⟩ := putF X6 hx hZ hown (host := "") (Or.inl (own_W hw 25 rfl)) Via.refl e6 f7 f8 (Or.inl (own_W hw 26 rfl)) (own_W hw 2 rfl) (ty := (.array (.object "java/lang/Object"))) (by decide) rfl rfl (g := (mkF m 56 #[.val (.ref pr0), .val (.int (1 : Int32)), .val (.int (0 : Int32)), .unset] [(.ref b6), (.ref pr0), (.ref b6)])) rfl rfl (hb hby d9_56)
  have Fw9 := f7.same W9
  have N9 := Fr.snoc X9 N5 g_pr0
  have k10 : Keep h0 h6 [pr0] := (Keep.refl h0 [pr0]).ext E6
  have k11 : Keep h0 h9 [pr0] := k10.wr W9 (Or.inl (List.mem_of_getElem? (i := 0) rfl))
  have f12 := f8.wr W9
  have f13 := F_modCount_pr0.ext E6
  have f14 := f13.other W9 (Or.inr (slot_ne (Or.inl (own_W hw 23 rfl)) (Or.inl (own_W hw 26 rfl)) (by decide) (t := .int) (t' := (.array (.object "java/lang/Object"))) (by decide) (by decide)))
  have f15 := F_size_pr0.ext E6
  have f16 := f15.other W9 (Or.inr (slot_ne (Or.inl (own_W hw 43 rfl)) (Or.inl (own_W hw 26 rfl)) (by decide) (t := .int) (t' := (.array (.object "java/lang/Object"))) (by decide) (by decide)))
  have f17 := V6.other W9 (Ne.symm (Nat.ne_of_lt (Nat.lt_of_lt_of_le E_pr0.lt (Nat.le_of_eq g6.symm))))
  obtain ⟨fs, hr, hrun, hended, hW, hsame⟩ := X9.leave (v := some (.ref b6)) (fun h => by rw [Bd.returns] at h; cases h)
  refine ⟨_, _, pre0 _ ?_, hrun, hended, _, _, rfl, ?_, ⟨_, rfl⟩, hW, hsame.mono (by decide) (by decide)⟩
  · show Stp p e below s₁ m 0 #[.val (.ref pr0), .val (.int (1 : Int32)), .unset, .unset] [] _
    refine XS.aloadN X0.here hx rfl (hb hby d9_0) rfl rfl ?_
    show Stp p e below s₁ m 1 #[.val (.ref pr0), .val (.int (1 : Int32)), .unset, .unset] [(.ref pr0)] _
    refine st1 _ ?_
    show Stp p e below T1 m 4 #[.val (.ref pr0), .val (.int (1 : Int32)), .unset, .unset] [(.ref w_DEF)] _
    refine X1.arraylength hx (by rw [e1]; exact Arc2.1) (State.isArrayOf_alike hZ.alike Arc2.2.1) (g := (mkF m 4 #[.val (.ref pr0), .val (.int (1 : Int32)), .unset, .unset] [(.ref w_DEF)])) rfl rfl (hb hby d9_4) _ ?_
    rw [len_of Sc2 Nc2]
    show Stp p e below T1 m 5 #[.val (.ref pr0), .val (.int (1 : Int32)), .unset, .unset] [(.int (0 : Int32))] _
    refine XS.istoreN X1.here hx rfl (hb hby d9_5) rfl (l' := #[.val (.ref pr0), .val (.int (1 : Int32)), .val (.int (0 : Int32)), .unset]) rfl ?_
    show Stp p e below T1 m 6 #[.val (.ref pr0), .val (.int (1 : Int32)), .val (.int (0 : Int32)), .unset] [] _
    refine XS.iloadN X1.here hx rfl (hb hby d9_6) rfl ?_
    show Stp p e below T1 m 7 #[.val (.ref pr0), .val (.int (1 : Int32)), .val (.int (0 : Int32)), .unset] [(.int (0 : Int32))] _
    refine XS.ifNo X1.here hx rfl (hb hby d9_7) rfl ((if0 _ _).trans (flt (by simp : ¬ ((0 : Int32) < (0 : Int32)))).2.2.1) ?_
    show Stp p e below T1 m 10 #[.val (.ref pr0), .val (.int (1 : Int32)), .val (.int (0 : Int32)), .unset] [] _
    refine XS.aloadN X1.here hx rfl (hb hby d9_10) rfl rfl ?_
    show Stp p e below T1 m 11 #[.val (.ref pr0), .val (.int (1 : Int32)), .val (.int (0 : Int32)), .unset] [(.ref pr0)] _
    refine st3 _ ?_
    show Stp p e below T3 m 14 #[.val (.ref pr0), .val (.int (1 : Int32)), .val (.int (0 : Int32)), .unset] [(.ref w_DEF)] _
    refine st4 _ ?_
    show Stp p e below T4 m 17 #[.val (.ref pr0), .val (.int (1 : Int32)), .val (.int (0 : Int32)), .unset] [(.ref w_DEF), (.ref w_DEF)] _
    refine Jvm.RoadKit.acmp (g := (mkF m 17 #[.val (.ref pr0), .val (.int (1 : Int32)), .val (.int (0 : Int32)), .unset] [(.ref w_DEF), (.ref w_DEF)])) X4 hx rfl rfl rfl (pc0 := 17) (pc' := 45) (same := true) rfl (hb hby d9_17) rfl (decide_eq_true rfl) (by decide) (by decide) ?_
    show Stp p e below T4 m 45 #[.val (.ref pr0), .val (.int (1 : Int32)), .val (.int (0 : Int32)), .unset] [] _
    refine XS.aloadN X4.here hx rfl (hb hby d9_45) rfl rfl ?_
    show Stp p e below T4 m 46 #[.val (.ref pr0), .val (.int (1 : Int32)), .val (.int (0 : Int32)), .unset] [(.ref pr0)] _
    refine XS.bipush X4.here hx rfl (hb hby d9_46) ?_
    show Stp p e below T4 m 48 #[.val (.ref pr0), .val (.int (1 : Int32)), .val (.int (0 : Int32)), .unset] [(.int (10 : Int32)), (.ref pr0)] _
    refine XS.iloadN X4.here hx rfl (hb hby d9_48) rfl ?_
    show Stp p e below T4 m 49 #[.val (.ref pr0), .val (.int (1 : Int32)), .val (.int (0 : Int32)), .unset] [(.int (1 : Int32)), (.int (10 : Int32)), (.ref pr0)] _
    refine st5 _ ?_
    show Stp p e below T5 m 52 #[.val (.ref pr0), .val (.int (1 : Int32)), .val (.int (0 : Int32)), .unset] [(.int (10 : Int32)), (.ref pr0)] _
    refine st6 _ ?_
    show Stp p e below T6 m 55 #[.val (.ref pr0), .val (.int (1 : Int32)), .val (.int (0 : Int32)), .unset] [(.ref b6), (.ref pr0)] _
    refine XS.dupX1 X6.here hx rfl (hb hby d9_55) rfl rfl rfl ?_
    show Stp p e below T6 m 56 #[.val (.ref pr0), .val (.int (1 : Int32)), .val (.int (0 : Int32)), .unset] [(.ref b6), (.ref pr0), (.ref b6)] _
    refine st9 _ ?_
    show Stp p e below T9 m 59 #[.val (.ref pr0), .val (.int (1 : Int32)), .val (.int (0 : Int32)), .unset] [(.ref b6)] _
    jvm_step X9.here [X9.here.top, hx, (hb hby d9_59), X9.method', Bd.returns, Value.isRef, FieldType.isReference]
    first | (intro acts; rw [hr _ acts rfl rfl rfl]) | rw [hr _ _ rfl rfl rfl]
    exact Steps.refl _
  · show Q9 Z pr0 w_DEF kk_w_DEF u_modCount_pr0 u_size_pr0 h0 n0 _ T9.heap _
    rw [e9]
    exact ⟨b6, k6, rfl, N9, k11, f12, f14, Fw9, f16, (Nat.le_trans (Keep.refl h0 [pr0]).1 (Nat.le_of_eq g6.symm)), f17, O6⟩
theorem pd_5 : parseMethodDescriptor "(I)[Ljava/lang/Object;" = some ⟨[.int], some (.array (.object "java/lang/Object"))⟩ := by decide +kernel
theorem d8_0 : decode jdk_38_method_7_code 0 = .ok (.aload_n 0, 1) := by decide +kernel
theorem d8_1 : decode jdk_38_method_7_code 1 = .ok (.aload_n 0, 1) := by decide +kernel
theorem d8_2 : decode jdk_38_method_7_code 2 = .ok (.getfield 48, 3) := by decide +kernel
theorem d8_5 : decode jdk_38_method_7_code 5 = .ok (.iconst 1, 1) := by decide +kernel
theorem d8_6 : decode jdk_38_method_7_code 6 = .ok (.iadd, 1) := by decide +kernel
theorem d8_7 : decode jdk_38_method_7_code 7 = .ok (.invokevirtual 69, 3) := by decide +kernel
theorem d8_10 : decode jdk_38_method_7_code 10 = .ok (.areturn, 1) := by decide +kernel
theorem pn_8 : plainName "java/util/ArrayList" = true := by first | (simp [plainName, overriddenIn]; done) | decide +kernel
theorem ef_8 (m : MethodId) (pr0 : Addr) : entryFrame m #[(.ref pr0)] 1 = mkF m 0 #[.val (.ref pr0)] [] := by first | (simp [entryFrame, mkF, argsToLocals, Value.category]; done) | rfl
def Q8 (Z : State) (pr0 : Addr) (w_DEF : Addr) (kk_w_DEF : ClassId) (u_modCount_pr0 : Value) (h0 : Heap) (n0 : Nat) (v : Option Value) (h : Heap) (L : List Loc) : Prop := ∃ b2 : Addr, ∃ b2_1 : ClassId, v = some (.ref b2) ∧ Fr n0 L ∧ Keep h0 h [pr0] ∧ Exa Z h pr0 "java/util/ArrayList" ∧ Fld Z h pr0 "java/util/AbstractList" "modCount" "I" u_modCount_pr0 ∧ Fld Z h pr0 "java/util/ArrayList" "elementData" "[Ljava/lang/Object;" (.ref b2) ∧ Fld Z h pr0 "java/util/ArrayList" "size" "I" (.int (0 : Int32)) ∧ h0.size ≤ b2 ∧ Arv Z h b2 b2_1 (.object "java/lang/Object") (10 : Int32) [.null, .null, .null, .null, .null, .null, .null, .null, .null, .null] .null ∧ Ovr Z b2_1 "java/lang/Object"
set_option maxRecDepth 65536 in
set_option maxHeartbeats 40000000 in
theorem rm8 (l : Launch) (Z : State) (a0 : Array Value) (hw : ∀ d ∈ tables_1, d.before a0 Z = true) (ws : List Jvm.Cond) (pr0 : Addr) (w_DEF : Addr) (kk_w_DEF : ClassId) (u_modCount_pr0 : Value) (h0 : Heap) (n0 : Nat) (Z0 : n0 ≤ h0.size) (O0 : Old Z n0 h0) (E_pr0 : Exa Z h0 pr0 "java/util/ArrayList") (S_DEFAULTCAPACITY_EMPTY_ELEMENTDATA : Sta Z Z.heap "java/util/ArrayList" "DEFAULTCAPACITY_EMPTY_ELEMENTDATA" "[Ljava/lang/Object;" (.ref w_DEF)) (V_w_DEF : Arv Z Z.heap w_DEF kk_w_DEF (.object "java/lang/Object") (0 : Int32) [] .null) (F_modCount_pr0 : Fld Z h0 pr0 "java/util/AbstractList" "modCount" "I" u_modCount_pr0) (F_elementData_pr0 : Fld Z h0 pr0 "java/util/ArrayList" "elementData" "[Ljava/lang/Object;" (.ref w_DEF)) (F_size_pr0 : Fld Z h0 pr0 "java/util/ArrayList" "size" "I" (.int (0 : Int32))) (g_pr0 : n0 ≤ pr0) :
    MetFree l (⟨"java/util/ArrayList", "grow", "()[Ljava/lang/Object;"⟩ : MethodName) (head1 (Jvm.Cond.code (⟨"java/util/ArrayList", "grow", "()[Ljava/lang/Object;"⟩ : MethodName) jdk_38_method_7_code 1 (some (.array (.object "java/lang/Object"))) :: ws) ({ frames := 2, cells := 1, slots := 10, locals := 29 } : Room)) (fun a U => a = #[(.ref pr0)] ∧ Z.Warmed39 U.vm ∧ U.heap = h0) (fun _ _ _ _ _ => True) (fun _ U o U' => ∃ v L, o = .returned v ∧ Q8 Z pr0 w_DEF kk_w_DEF u_modCount_pr0 h0 n0 v U'.heap L ∧ FrameEnd U o U' L ({ frames := 2, cells := 1, slots := 10, locals := 29 } : Room).cells ({ frames := 2, cells := 1, slots := 10, locals := 29 } : Room).slots) := by
  refine MetFree.of_bodySF (plainFor_of_name pn_8) hisR ?_
  intro p e s m args below meth c s₁ Bd hml0 hP hK
  obtain ⟨rfl, hZ, hh⟩ := hP
  have hx := Bd.exec
  have hby := Bd.bytes
  have hml : c.maxLocals = 1 := hml0
  have hown : s.vm.findClass "java/util/ArrayList" = some m.cls := findClass_of_methodNamed Bd.named
  have hnm := (name_of_methodNamed Bd.named Bd.method).1
  have X0 : Stand p l e ({ frames := 2, cells := 1, slots := 10, locals := 29 } : Room) s m #[(.ref pr0)] below meth c s₁ [] 0 0 := Stand.of_body Bd
  have e0 : s₁.heap = h0 := by rw [← hh, Bd.state]; rfl
  have N0 := Fr.nil n0
  have pre0 : ∀ t, Steps p.tables e below (s₁.setTop (mkF m 0 #[.val (.ref pr0)] [])) t → Steps p.tables e below (s₁.setTop (entryFrame m #[(.ref pr0)] 1)) t := fun t k => castTop (ef_8 m pr0) k
  obtain ⟨T1, X1, e1, st1⟩ := getF X0 hx hZ hown (host := "") (Or.inl (own_W hw 42 rfl)) Via.refl e0 F_size_pr0 (g := (mkF m 2 #[.val (.ref pr0)] [(.ref pr0), (.ref pr0)])) rfl rfl (hb hby d8_2)
  obtain ⟨cq2, q2, q2'⟩ := E_pr0.cell
  obtain ⟨_, _, ⟨T2, L2, k2, n2⟩, -, X2, ⟨Lc2, hQ2, l2, y2, z2⟩, st2⟩ := X1.privateBack hx (y := (⟨"java/util/ArrayList", "grow", "(I)[Ljava/lang/Object;"⟩ : MethodName)) hown (mvT hZ (own_W hw 54 rfl)) (mvT hZ (own_W hw 55 rfl)) (mvT hZ (own_W hw 57 rfl)) (Cond.privateMethod_at (mvP hZ (own_W hw 56 rfl) (args := #[]))) (mvT hZ (own_W hw 58 rfl)) (by decide) (backOf (W := 0) (rm9 l Z a0 hw [] pr0 w_DEF kk_w_DEF u_modCount_pr0 (.int (0 : Int32)) h0 n0 Z0 O0 E_pr0 S_DEFAULTCAPACITY_EMPTY_ELEMENTDATA V_w_DEF F_modCount_pr0 F_elementData_pr0 F_size_pr0 g_pr0) hZ (own_W hw 58 rfl) (own_W hw 3 rfl) (by decide) (by decide)) (g := (mkF m 7 #[.val (.ref pr0)] [(.int (1 : Int32)), (.ref pr0)])) rfl (by rw [hml]; rfl) (Steps.refl _) (a := pr0) (by rw [e1]; exact q2) q2' (argsL := [(.int (1 : Int32))]) (rest := []) (lenOf pd_5 rfl) rfl (by show 2 * 0 + _ ≤ _; exact Nat.le_of_eq rfl) (hb hby d8_7) (fun _ _ => ⟨rfl, e1, (by decide : 0 + 1 ≤ _), (by decide : 0 + 10 ≤ _)⟩)
  dsimp only [Pt.U, Pt.locs, Pt.cells, Pt.slots] at X2 l2 y2 z2 st2 hQ2
  subst l2 y2 z2
  obtain ⟨b2, b2_1, rfl, N2q, K2, qf2_0, qf2_1, qf2_2, qf2_3, qf2_4, qf2_5, qf2_6⟩ := hQ2
  have N2 := Fr.app N0 N2q
  have k3 : Keep h0 T2.heap [pr0] := (Keep.refl h0 [pr0]).trans K2 (allS (Or.inl (List.mem_of_getElem? (i := 0) rfl)) all0)
  obtain ⟨fs, hr, hrun, hended, hW, hsame⟩ := X2.leave (v := some (.ref b2)) (fun h => by rw [Bd.returns] at h; cases h)
  refine ⟨_, _, pre0 _ ?_, hrun, hended, _, _, rfl, ?_, ⟨_, rfl⟩, hW, hsame.mono (by decide) (by decide)⟩
  · show Stp p e below s₁ m 0 #[.val (.ref pr0)] [] _
    refine XS.aloadN X0.here hx rfl (hb hby d8_0) rfl rfl ?_
    show Stp p e below s₁ m 1 #[.val (.ref pr0)] [(.ref pr0)] _
    refine XS.aloadN X0.here hx rfl (hb hby d8_1) rfl rfl ?_
    show Stp p e below s₁ m 2 #[.val (.ref pr0)] [(.ref pr0), (.ref pr0)] _
    refine st1 _ ?_
    show Stp p e below T1 m 5 #[.val (.ref pr0)] [(.int (0 : Int32)), (.ref pr0)] _
    refine XS.iconst X1.here hx rfl (hb hby d8_5) ?_
    show Stp p e below T1 m 6 #[.val (.ref pr0)] [(.int (1 : Int32)), (.int (0 : Int32)), (.ref pr0)] _
    refine XS.iadd X1.here hx rfl (hb hby d8_6) rfl ?_
    show Stp p e below T1 m 7 #[.val (.ref pr0)] [(.int (1 : Int32)), (.ref pr0)] _
    refine st2.trans ?_
    show Stp p e below T2 m 10 #[.val (.ref pr0)] [(.ref b2)] _
    jvm_step X2.here [X2.here.top, hx, (hb hby d8_10), X2.method', Bd.returns, Value.isRef, FieldType.isReference]
    first | (intro acts; rw [hr _ acts rfl rfl rfl]) | rw [hr _ _ rfl rfl rfl]
    exact Steps.refl _
  · show Q8 Z pr0 w_DEF kk_w_DEF u_modCount_pr0 h0 n0 _ T2.heap _
    exact ⟨b2, b2_1, rfl, N2, k3, qf2_0, qf2_1, qf2_2, qf2_3, (Nat.le_trans (Keep.refl h0 [pr0]).1 qf2_4), qf2_5, qf2_6⟩
theorem pd_4 : parseMethodDescriptor "()[Ljava/lang/Object;" = some ⟨[], some (.array (.object "java/lang/Object"))⟩ := by decide +kernel
theorem d7_0 : decode jdk_38_method_24_code 0 = .ok (.iload_n 3, 1) := by decide +kernel
theorem d7_1 : decode jdk_38_method_24_code 1 = .ok (.aload_n 2, 1) := by decide +kernel
theorem d7_2 : decode jdk_38_method_24_code 2 = .ok (.arraylength, 1) := by decide +kernel
theorem d7_3 : decode jdk_38_method_24_code 3 = .ok (.if_icmp .ne 8, 3) := by decide +kernel
theorem d7_6 : decode jdk_38_method_24_code 6 = .ok (.aload_n 0, 1) := by decide +kernel
theorem d7_7 : decode jdk_38_method_24_code 7 = .ok (.invokevirtual 129, 3) := by decide +kernel
theorem d7_10 : decode jdk_38_method_24_code 10 = .ok (.astore_n 2, 1) := by decide +kernel
theorem d7_11 : decode jdk_38_method_24_code 11 = .ok (.aload_n 2, 1) := by decide +kernel
theorem d7_12 : decode jdk_38_method_24_code 12 = .ok (.iload_n 3, 1) := by decide +kernel
theorem d7_13 : decode jdk_38_method_24_code 13 = .ok (.aload_n 1, 1) := by decide +kernel
theorem d7_14 : decode jdk_38_method_24_code 14 = .ok (.aastore, 1) := by decide +kernel
theorem d7_15 : decode jdk_38_method_24_code 15 = .ok (.aload_n 0, 1) := by decide +kernel
theorem d7_16 : decode jdk_38_method_24_code 16 = .ok (.iload_n 3, 1) := by decide +kernel
theorem d7_17 : decode jdk_38_method_24_code 17 = .ok (.iconst 1, 1) := by decide +kernel
theorem d7_18 : decode jdk_38_method_24_code 18 = .ok (.iadd, 1) := by decide +kernel
theorem d7_19 : decode jdk_38_method_24_code 19 = .ok (.putfield 48, 3) := by decide +kernel
theorem d7_22 : decode jdk_38_method_24_code 22 = .ok (.return_, 1) := by decide +kernel
theorem pn_7 : plainName "java/util/ArrayList" = true := by first | (simp [plainName, overriddenIn]; done) | decide +kernel
theorem ef_7__0 (m : MethodId) (pr0 : Addr) (pr1 : Addr) (w_DEF : Addr) : entryFrame m #[(.ref pr0), (.ref pr1), (.ref w_DEF), (.int (0 : Int32))] 4 = mkF m 0 #[.val (.ref pr0), .val (.ref pr1), .val (.ref w_DEF), .val (.int (0 : Int32))] [] := by first | (simp [entryFrame, mkF, argsToLocals, Value.category]; done) | rfl
def Q7_0 (Z : State) (pr0 : Addr) (pr1 : Addr) (w_DEF : Addr) (kk_w_DEF : ClassId) (u_modCount_pr0 : Value) (h0 : Heap) (n0 : Nat) (v : Option Value) (h : Heap) (L : List Loc) : Prop := ∃ b2 : Addr, ∃ b2_1 : ClassId, v = none ∧ Fr n0 L ∧ Keep h0 h [pr0] ∧ Exa Z h pr0 "java/util/ArrayList" ∧ Fld Z h pr0 "java/util/AbstractList" "modCount" "I" u_modCount_pr0 ∧ Fld Z h pr0 "java/util/ArrayList" "elementData" "[Ljava/lang/Object;" (.ref b2) ∧ Fld Z h pr0 "java/util/ArrayList" "size" "I" (.int (1 : Int32)) ∧ h0.size ≤ b2 ∧ Arv Z h b2 b2_1 (.object "java/lang/Object") (10 : Int32) [(.ref pr1), .null, .null, .null, .null, .null, .null, .null, .null, .null] .null ∧ Ovr Z b2_1 "java/lang/Object"
set_option maxRecDepth 65536 in
set_option maxHeartbeats 40000000 in
theorem rm7_0 (l : Launch) (Z : State) (a0 : Array Value) (hw : ∀ d ∈ tables_1, d.before a0 Z = true) (ws : List Jvm.Cond) (pr0 : Addr) (pr1 : Addr) (w_DEF : Addr) (kk_w_DEF : ClassId) (u_modCount_pr0 : Value) (h0 : Heap) (n0 : Nat) (Z0 : n0 ≤ h0.size) (O0 : Old Z n0 h0) (E_pr0 : Exa Z h0 pr0 "java/util/ArrayList") (E_pr1 : Exa Z h0 pr1 "[B") (S_DEFAULTCAPACITY_EMPTY_ELEMENTDATA : Sta Z Z.heap "java/util/ArrayList" "DEFAULTCAPACITY_EMPTY_ELEMENTDATA" "[Ljava/lang/Object;" (.ref w_DEF)) (V_w_DEF : Arv Z Z.heap w_DEF kk_w_DEF (.object "java/lang/Object") (0 : Int32) [] .null) (F_modCount_pr0 : Fld Z h0 pr0 "java/util/AbstractList" "modCount" "I" u_modCount_pr0) (F_elementData_pr0 : Fld Z h0 pr0 "java/util/ArrayList" "elementData" "[Ljava/lang/Object;" (.ref w_DEF)) (F_size_pr0 : Fld Z h0 pr0 "java/util/ArrayList" "size" "I" (.int (0 : Int32))) (g_pr0 : n0 ≤ pr0) :
    MetFree l (⟨"java/util/ArrayList", "add", "(Ljava/lang/Object;[Ljava/lang/Object;I)V"⟩ : MethodName) (head1 (Jvm.Cond.code (⟨"java/util/ArrayList", "add", "(Ljava/lang/Object;[Ljava/lang/Object;I)V"⟩ : MethodName) jdk_38_method_24_code 4 none :: ws) ({ frames := 3, cells := 1, slots := 10, locals := 41 } : Room)) (fun a U => a = #[(.ref pr0), (.ref pr1), (.ref w_DEF), (.int (0 : Int32))] ∧ Z.Warmed39 U.vm ∧ U.heap = h0) (fun _ _ _ _ _ => True) (fun _ U o U' => ∃ v L, o = .returned v ∧ Q7_0 Z pr0 pr1 w_DEF kk_w_DEF u_modCount_pr0 h0 n0 v U'.heap L ∧ FrameEnd U o U' L ({ frames := 3, cells := 1, slots := 10, locals := 41 } : Room).cells ({ frames := 3, cells := 1, slots := 10, locals := 41 } : Room).slots) := by
  refine MetFree.of_bodySF (plainFor_of_name pn_7) hisR ?_
  intro p e s m args below meth c s₁ Bd hml0 hP hK
  obtain ⟨rfl, hZ, hh⟩ := hP
  have hx := Bd.exec
  have hby := Bd.bytes
  have hml : c.maxLocals = 4 := hml0
  have hown : s.vm.findClass "java/util/ArrayList" = some m.cls := findClass_of_methodNamed Bd.named
  have hnm := (name_of_methodNamed Bd.named Bd.method).1
  have X0 : Stand p l e ({ frames := 3, cells := 1, slots := 10, locals := 41 } : Room) s m #[(.ref pr0), (.ref pr1), (.ref w_DEF), (.int (0 : Int32))] below meth c s₁ [] 0 0 := Stand.of_body Bd
  have e0 : s₁.heap = h0 := by rw [← hh, Bd.state]; rfl
  have N0 := Fr.nil n0
  have pre0 : ∀ t, Steps p.tables e below (s₁.setTop (mkF m 0 #[.val (.ref pr0), .val (.ref pr1), .val (.ref w_DEF), .val (.int (0 : Int32))] [])) t → Steps p.tables e below (s₁.setTop (entryFrame m #[(.ref pr0), (.ref pr1), (.ref w_DEF), (.int (0 : Int32))] 4)) t := fun t k => castTop (ef_7__0 m pr0 pr1 w_DEF) k
  have V_c1 := (V_w_DEF.ext O0.2)
  obtain ⟨c1, Arc1, qc1, Sc1, Nc1, Hc1, Gc1⟩ := V_c1
  obtain ⟨cq2, q2, q2'⟩ := E_pr0.cell
  obtain ⟨_, _, ⟨T2, L2, k2, n2⟩, -, X2, ⟨Lc2, hQ2, l2, y2, z2⟩, st2⟩ := X0.privateBack hx (y := (⟨"java/util/ArrayList", "grow", "()[Ljava/lang/Object;"⟩ : MethodName)) hown (mvT hZ (own_W hw 49 rfl)) (mvT hZ (own_W hw 50 rfl)) (mvT hZ (own_W hw 52 rfl)) (Cond.privateMethod_at (mvP hZ (own_W hw 51 rfl) (args := #[]))) (mvT hZ (own_W hw 53 rfl)) (by decide) (backOf (W := 0) (rm8 l Z a0 hw [] pr0 w_DEF kk_w_DEF u_modCount_pr0 h0 n0 Z0 O0 E_pr0 S_DEFAULTCAPACITY_EMPTY_ELEMENTDATA V_w_DEF F_modCount_pr0 F_elementData_pr0 F_size_pr0 g_pr0) hZ (own_W hw 53 rfl) (own_W hw 3 rfl) (by decide) (by decide)) (g := (mkF m 7 #[.val (.ref pr0), .val (.ref pr1), .val (.ref w_DEF), .val (.int (0 : Int32))] [(.ref pr0)])) rfl (by rw [hml]; rfl) (Steps.refl _) (a := pr0) (by rw [e0]; exact q2) q2' (argsL := []) (rest := []) (lenOf pd_4 rfl) rfl (by show 2 * 0 + _ ≤ _; exact Nat.le_of_eq rfl) (hb hby d7_7) (fun _ _ => ⟨rfl, e0, (by decide : 0 + 1 ≤ _), (by decide : 0 + 10 ≤ _)⟩)
  dsimp only [Pt.U, Pt.locs, Pt.cells, Pt.slots] at X2 l2 y2 z2 st2 hQ2
  subst l2 y2 z2
  obtain ⟨b2, b2_1, rfl, N2q, K2, qf2_0, qf2_1, qf2_2, qf2_3, qf2_4, qf2_5, qf2_6⟩ := hQ2
  have N2 := Fr.app N0 N2q
  have g_b2 : n0 ≤ b2 := Nat.le_trans Z0 qf2_4
  have V_c3 := qf2_5
  obtain ⟨c3, Arc3, qc3, Sc3, Nc3, Hc3, Gc3⟩ := V_c3
  have hin4 : ¬ ((0 : Int32) < 0 ∨ c3.slots.size ≤ ((0 : Int32)).toNatClampNeg) := inb_of Sc3 ⟨by decide, by decide⟩
  have f5 := E_pr1.keep K2
  obtain ⟨T4, h4, X4, e4, W4, st4⟩ := stR X2 hx hZ rfl Arc3 (j := (0 : Int32)) hin4 rfl (Sto.ofV Arc3 qc3 qf2_6 (Ins.of_exa f5 (own_W hw 65 rfl))) (g := (mkF m 14 #[.val (.ref pr0), .val (.ref pr1), .val (.ref b2), .val (.int (0 : Int32))] [(.ref pr1), (.int (0 : Int32)), (.ref b2)])) rfl rfl (hb hby d7_14)
  have V4 : Arv Z h4 b2 b2_1 (.object "java/lang/Object") (10 : Int32) [(.ref pr1), .null, .null, .null, .null, .null, .null, .null, .null, .null] .null := Arv.set Arc3 qc3 Sc3 Nc3 Hc3 Gc3 rfl W4 0 rfl (Nat.le_of_ble_eq_true rfl)
  have N4 := Fr.snoc X4 N2 g_b2
  have f6 := qf2_3.other W4 (Or.inl (Nat.ne_of_lt (Nat.lt_of_lt_of_le E_pr0.lt qf2_4)))
  have f7 := qf2_0.wr W4
  obtain ⟨T8, h8, X8, e8, W8, st8⟩ := putF X4 hx hZ hown (host := "") (Or.inl (own_W hw 42 rfl)) Via.refl e4 f6 f7 (Or.inl (own_W hw 43 rfl)) (own_W hw 2 rfl) (ty := .int) (by decide) rfl rfl (g := (mkF m 19 #[.val (.ref pr0), .val (.ref pr1), .val (.ref b2), .val (.int (0 : Int32))] [(.int (1 : Int32)), (.ref pr0)])) rfl rfl (hb hby d7_19)
  have Fw8 := f6.same W8
  have N8 := Fr.snoc X8 N4 g_pr0
  have k9 : Keep h0 T2.heap [pr0] := (Keep.refl h0 [pr0]).trans K2 (allS (Or.inl (List.mem_of_getElem? (i := 0) rfl)) all0)
  have k10 : Keep h0 h4 [pr0] := k9.wr W4 (Or.inr (Nat.le_trans (Keep.refl h0 [pr0]).1 qf2_4))
  have k11 : Keep h0 h8 [pr0] := k10.wr W8 (Or.inl (List.mem_of_getElem? (i := 0) rfl))
  have f12 := f7.wr W8
  have f13 := qf2_1.other W4 (Or.inl (Nat.ne_of_lt (Nat.lt_of_lt_of_le E_pr0.lt qf2_4)))
  have f14 := f13.other W8 (Or.inr (slot_ne (Or.inl (own_W hw 23 rfl)) (Or.inl (own_W hw 43 rfl)) (by decide) (t := .int) (t' := .int) (by decide) (by decide)))
  have f15 := qf2_2.other W4 (Or.inl (Nat.ne_of_lt (Nat.lt_of_lt_of_le E_pr0.lt qf2_4)))
  have f16 := f15.other W8 (Or.inr (slot_ne (Or.inl (own_W hw 26 rfl)) (Or.inl (own_W hw 43 rfl)) (by decide) (t := (.array (.object "java/lang/Object"))) (t' := .int) (by decide) (by decide)))
  have f17 := V4.other W8 (Ne.symm (Nat.ne_of_lt (Nat.lt_of_lt_of_le E_pr0.lt qf2_4)))
  obtain ⟨fs, hr, hrun, hended, hW, hsame⟩ := X8.leave (v := none) (fun _ => rfl)
  refine ⟨_, _, pre0 _ ?_, hrun, hended, _, _, rfl, ?_, ⟨_, rfl⟩, hW, hsame.mono (by decide) (by decide)⟩
  · show Stp p e below s₁ m 0 #[.val (.ref pr0), .val (.ref pr1), .val (.ref w_DEF), .val (.int (0 : Int32))] [] _
    refine XS.iloadN X0.here hx rfl (hb hby d7_0) rfl ?_
    show Stp p e below s₁ m 1 #[.val (.ref pr0), .val (.ref pr1), .val (.ref w_DEF), .val (.int (0 : Int32))] [(.int (0 : Int32))] _
    refine XS.aloadN X0.here hx rfl (hb hby d7_1) rfl rfl ?_
    show Stp p e below s₁ m 2 #[.val (.ref pr0), .val (.ref pr1), .val (.ref w_DEF), .val (.int (0 : Int32))] [(.ref w_DEF), (.int (0 : Int32))] _
    refine X0.arraylength hx (by rw [e0]; exact Arc1.1) (State.isArrayOf_alike hZ.alike Arc1.2.1) (g := (mkF m 2 #[.val (.ref pr0), .val (.ref pr1), .val (.ref w_DEF), .val (.int (0 : Int32))] [(.ref w_DEF), (.int (0 : Int32))])) rfl rfl (hb hby d7_2) _ ?_
    rw [len_of Sc1 Nc1]
    show Stp p e below s₁ m 3 #[.val (.ref pr0), .val (.ref pr1), .val (.ref w_DEF), .val (.int (0 : Int32))] [(.int (0 : Int32)), (.int (0 : Int32))] _
    refine XS.icmpNo X0.here hx rfl (hb hby d7_3) rfl (teq (rfl : (0 : Int32) = (0 : Int32))).2 ?_
    show Stp p e below s₁ m 6 #[.val (.ref pr0), .val (.ref pr1), .val (.ref w_DEF), .val (.int (0 : Int32))] [] _
    refine XS.aloadN X0.here hx rfl (hb hby d7_6) rfl rfl ?_
    show Stp p e below s₁ m 7 #[.val (.ref pr0), .val (.ref pr1), .val (.ref w_DEF), .val (.int (0 : Int32))] [(.ref pr0)] _
    refine st2.trans ?_
    show Stp p e below T2 m 10 #[.val (.ref pr0), .val (.ref pr1), .val (.ref w_DEF), .val (.int (0 : Int32))] [(.ref b2)] _
    refine XS.astoreN X2.here hx rfl (hb hby d7_10) rfl rfl (l' := #[.val (.ref pr0), .val (.ref pr1), .val (.ref b2), .val (.int (0 : Int32))]) rfl ?_
    show Stp p e below T2 m 11 #[.val (.ref pr0), .val (.ref pr1), .val (.ref b2), .val (.int (0 : Int32))] [] _
    refine XS.aloadN X2.here hx rfl (hb hby d7_11) rfl rfl ?_
    show Stp p e below T2 m 12 #[.val (.ref pr0), .val (.ref pr1), .val (.ref b2), .val (.int (0 : Int32))] [(.ref b2)] _
    refine XS.iloadN X2.here hx rfl (hb hby d7_12) rfl ?_
    show Stp p e below T2 m 13 #[.val (.ref pr0), .val (.ref pr1), .val (.ref b2), .val (.int (0 : Int32))] [(.int (0 : Int32)), (.ref b2)] _
    refine XS.aloadN X2.here hx rfl (hb hby d7_13) rfl rfl ?_
    show Stp p e below T2 m 14 #[.val (.ref pr0), .val (.ref pr1), .val (.ref b2), .val (.int (0 : Int32))] [(.ref pr1), (.int (0 : Int32)), (.ref b2)] _
    refine st4 _ ?_
    show Stp p e below T4 m 15 #[.val (.ref pr0), .val (.ref pr1), .val (.ref b2), .val (.int (0 : Int32))] [] _
    refine XS.aloadN X4.here hx rfl (hb hby d7_15) rfl rfl ?_
    show Stp p e below T4 m 16 #[.val (.ref pr0), .val (.ref pr1), .val (.ref b2), .val (.int (0 : Int32))] [(.ref pr0)] _
    refine XS.iloadN X4.here hx rfl (hb hby d7_16) rfl ?_
    show Stp p e below T4 m 17 #[.val (.ref pr0), .val (.ref pr1), .val (.ref b2), .val (.int (0 : Int32))] [(.int (0 : Int32)), (.ref pr0)] _
    refine XS.iconst X4.here hx rfl (hb hby d7_17) ?_
    show Stp p e below T4 m 18 #[.val (.ref pr0), .val (.ref pr1), .val (.ref b2), .val (.int (0 : Int32))] [(.int (1 : Int32)), (.int (0 : Int32)), (.ref pr0)] _
    refine XS.iadd X4.here hx rfl (hb hby d7_18) rfl ?_
    show Stp p e below T4 m 19 #[.val (.ref pr0), .val (.ref pr1), .val (.ref b2), .val (.int (0 : Int32))] [(.int (1 : Int32)), (.ref pr0)] _
    refine st8 _ ?_
    show Stp p e below T8 m 22 #[.val (.ref pr0), .val (.ref pr1), .val (.ref b2), .val (.int (0 : Int32))] [] _
    exact X8.returnOut hx Bd.returns (hb hby d7_22) hr
  · show Q7_0 Z pr0 pr1 w_DEF kk_w_DEF u_modCount_pr0 h0 n0 _ T8.heap _
    rw [e8]
    exact ⟨b2, b2_1, rfl, N8, k11, f12, f14, f16, Fw8, (Nat.le_trans (Keep.refl h0 [pr0]).1 qf2_4), f17, qf2_6⟩
theorem ef_7__1 (m : MethodId) (pr0 : Addr) (pr1 : Addr) (pr2 : Addr) : entryFrame m #[(.ref pr0), (.ref pr1), (.ref pr2), (.int (1 : Int32))] 4 = mkF m 0 #[.val (.ref pr0), .val (.ref pr1), .val (.ref pr2), .val (.int (1 : Int32))] [] := by first | (simp [entryFrame, mkF, argsToLocals, Value.category]; done) | rfl
def Q7_1 (Z : State) (pr0 : Addr) (pr1 : Addr) (pr2 : Addr) (kk_pr2 : ClassId) (c0_pr2 : Value) (c1_pr2 : Value) (c2_pr2 : Value) (c3_pr2 : Value) (c4_pr2 : Value) (c5_pr2 : Value) (c6_pr2 : Value) (c7_pr2 : Value) (c8_pr2 : Value) (c9_pr2 : Value) (u_modCount_pr0 : Value) (h0 : Heap) (n0 : Nat) (v : Option Value) (h : Heap) (L : List Loc) : Prop := v = none ∧ Fr n0 L ∧ Keep h0 h [pr0, pr2] ∧ Exa Z h pr0 "java/util/ArrayList" ∧ Fld Z h pr0 "java/util/AbstractList" "modCount" "I" u_modCount_pr0 ∧ Fld Z h pr0 "java/util/ArrayList" "elementData" "[Ljava/lang/Object;" (.ref pr2) ∧ Fld Z h pr0 "java/util/ArrayList" "size" "I" (.int (2 : Int32)) ∧ Arv Z h pr2 kk_pr2 (.object "java/lang/Object") (10 : Int32) [c0_pr2, (.ref pr1), c2_pr2, c3_pr2, c4_pr2, c5_pr2, c6_pr2, c7_pr2, c8_pr2, c9_pr2] .null ∧ Ovr Z kk_pr2 "java/lang/Object"
set_option maxRecDepth 65536 in
set_option maxHeartbeats 40000000 in
theorem rm7_1 (l : Launch) (Z : State) (a0 : Array Value) (hw : ∀ d ∈ tables_1, d.before a0 Z = true) (ws : List Jvm.Cond) (pr0 : Addr) (pr1 : Addr) (pr2 : Addr) (kk_pr2 : ClassId) (c0_pr2 : Value) (c1_pr2 : Value) (c2_pr2 : Value) (c3_pr2 : Value) (c4_pr2 : Value) (c5_pr2 : Value) (c6_pr2 : Value) (c7_pr2 : Value) (c8_pr2 : Value) (c9_pr2 : Value) (u_modCount_pr0 : Value) (h0 : Heap) (n0 : Nat) (Z0 : n0 ≤ h0.size) (O0 : Old Z n0 h0) (E_pr0 : Exa Z h0 pr0 "java/util/ArrayList") (E_pr1 : Exa Z h0 pr1 "[B") (V_pr2 : Arv Z h0 pr2 kk_pr2 (.object "java/lang/Object") (10 : Int32) [c0_pr2, c1_pr2, c2_pr2, c3_pr2, c4_pr2, c5_pr2, c6_pr2, c7_pr2, c8_pr2, c9_pr2] .null) (ovr_pr2 : Ovr Z kk_pr2 "java/lang/Object") (F_modCount_pr0 : Fld Z h0 pr0 "java/util/AbstractList" "modCount" "I" u_modCount_pr0) (F_elementData_pr0 : Fld Z h0 pr0 "java/util/ArrayList" "elementData" "[Ljava/lang/Object;" (.ref pr2)) (F_size_pr0 : Fld Z h0 pr0 "java/util/ArrayList" "size" "I" (.int (1 : Int32))) (g_pr2 : n0 ≤ pr2) (ne_pr0_pr2 : pr0 ≠ pr2) (g_pr0 : n0 ≤ pr0) :
    MetFree l (⟨"java/util/ArrayList", "add", "(Ljava/lang/Object;[Ljava/lang/Object;I)V"⟩ : MethodName) (head1 (Jvm.Cond.code (⟨"java/util/ArrayList", "add", "(Ljava/lang/Object;[Ljava/lang/Object;I)V"⟩ : MethodName) jdk_38_method_24_code 4 none :: ws) ({ frames := 0, cells := 0, slots := 0, locals := 0 } : Room)) (fun a U => a = #[(.ref pr0), (.ref pr1), (.ref pr2), (.int (1 : Int32))] ∧ Z.Warmed39 U.vm ∧ U.heap = h0) (fun _ _ _ _ _ => True) (fun _ U o U' => ∃ v L, o = .returned v ∧ Q7_1 Z pr0 pr1 pr2 kk_pr2 c0_pr2 c1_pr2 c2_pr2 c3_pr2 c4_pr2 c5_pr2 c6_pr2 c7_pr2 c8_pr2 c9_pr2 u_modCount_pr0 h0 n0 v U'.heap L ∧ FrameEnd U o U' L ({ frames := 0, cells := 0, slots := 0, locals := 0 } : Room).cells ({ frames := 0, cells := 0, slots := 0, locals := 0 } : Room).slots) := by
  refine MetFree.of_bodySF (plainFor_of_name pn_7) hisR ?_
  intro p e s m args below meth c s₁ Bd hml0 hP hK
  obtain ⟨rfl, hZ, hh⟩ := hP
  have hx := Bd.exec
  have hby := Bd.bytes
  have hml : c.maxLocals = 4 := hml0
  have hown : s.vm.findClass "java/util/ArrayList" = some m.cls := findClass_of_methodNamed Bd.named
  have hnm := (name_of_methodNamed Bd.named Bd.method).1
  have X0 : Stand p l e ({ frames := 0, cells := 0, slots := 0, locals := 0 } : Room) s m #[(.ref pr0), (.ref pr1), (.ref pr2), (.int (1 : Int32))] below meth c s₁ [] 0 0 := Stand.of_body Bd
  have e0 : s₁.heap = h0 := by rw [← hh, Bd.state]; rfl
  have N0 := Fr.nil n0
  have pre0 : ∀ t, Steps p.tables e below (s₁.setTop (mkF m 0 #[.val (.ref pr0), .val (.ref pr1), .val (.ref pr2), .val (.int (1 : Int32))] [])) t → Steps p.tables e below (s₁.setTop (entryFrame m #[(.ref pr0), (.ref pr1), (.ref pr2), (.int (1 : Int32))] 4)) t := fun t k => castTop (ef_7__1 m pr0 pr1 pr2) k
  have V_c1 := V_pr2
  obtain ⟨c1, Arc1, qc1, Sc1, Nc1, Hc1, Gc1⟩ := V_c1
  have V_c2 := V_pr2
  obtain ⟨c2, Arc2, qc2, Sc2, Nc2, Hc2, Gc2⟩ := V_c2
  have hin3 : ¬ ((1 : Int32) < 0 ∨ c2.slots.size ≤ ((1 : Int32)).toNatClampNeg) := inb_of Sc2 ⟨by decide, by decide⟩
  obtain ⟨T3, h3, X3, e3, W3, st3⟩ := stR X0 hx hZ e0 Arc2 (j := (1 : Int32)) hin3 rfl (Sto.ofV Arc2 qc2 ovr_pr2 (Ins.of_exa E_pr1 (own_W hw 65 rfl))) (g := (mkF m 14 #[.val (.ref pr0), .val (.ref pr1), .val (.ref pr2), .val (.int (1 : Int32))] [(.ref pr1), (.int (1 : Int32)), (.ref pr2)])) rfl rfl (hb hby d7_14)
  have V3 : Arv Z h3 pr2 kk_pr2 (.object "java/lang/Object") (10 : Int32) [c0_pr2, (.ref pr1), c2_pr2, c3_pr2, c4_pr2, c5_pr2, c6_pr2, c7_pr2, c8_pr2, c9_pr2] .null := Arv.set Arc2 qc2 Sc2 Nc2 Hc2 Gc2 rfl W3 1 rfl (Nat.le_of_ble_eq_true rfl)
  have N3 := Fr.snoc X3 N0 g_pr2
  have f4 := F_size_pr0.other W3 (Or.inl ne_pr0_pr2)
  have f5 := E_pr0.wr W3
  obtain ⟨T6, h6, X6, e6, W6, st6⟩ := putF X3 hx hZ hown (host := "") (Or.inl (own_W hw 42 rfl)) Via.refl e3 f4 f5 (Or.inl (own_W hw 43 rfl)) (own_W hw 2 rfl) (ty := .int) (by decide) rfl rfl (g := (mkF m 19 #[.val (.ref pr0), .val (.ref pr1), .val (.ref pr2), .val (.int (1 : Int32))] [(.int (2 : Int32)), (.ref pr0)])) rfl rfl (hb hby d7_19)
  have Fw6 := f4.same W6
  have N6 := Fr.snoc X6 N3 g_pr0
  have k7 : Keep h0 h3 [pr0, pr2] := (Keep.refl h0 [pr0, pr2]).wr W3 (Or.inl (List.mem_of_getElem? (i := 1) rfl))
  have k8 : Keep h0 h6 [pr0, pr2] := k7.wr W6 (Or.inl (List.mem_of_getElem? (i := 0) rfl))
  have f9 := f5.wr W6
  have f10 := F_modCount_pr0.other W3 (Or.inl ne_pr0_pr2)
  have f11 := f10.other W6 (Or.inr (slot_ne (Or.inl (own_W hw 23 rfl)) (Or.inl (own_W hw 43 rfl)) (by decide) (t := .int) (t' := .int) (by decide) (by decide)))
  have f12 := F_elementData_pr0.other W3 (Or.inl ne_pr0_pr2)
  have f13 := f12.other W6 (Or.inr (slot_ne (Or.inl (own_W hw 26 rfl)) (Or.inl (own_W hw 43 rfl)) (by decide) (t := (.array (.object "java/lang/Object"))) (t' := .int) (by decide) (by decide)))
  have f14 := V3.other W6 (Ne.symm ne_pr0_pr2)
  obtain ⟨fs, hr, hrun, hended, hW, hsame⟩ := X6.leave (v := none) (fun _ => rfl)
  refine ⟨_, _, pre0 _ ?_, hrun, hended, _, _, rfl, ?_, ⟨_, rfl⟩, hW, hsame.mono (by decide) (by decide)⟩
  · show Stp p e below s₁ m 0 #[.val (.ref pr0), .val (.ref pr1), .val (.ref pr2), .val (.int (1 : Int32))] [] _
    refine XS.iloadN X0.here hx rfl (hb hby d7_0) rfl ?_
    show Stp p e below s₁ m 1 #[.val (.ref pr0), .val (.ref pr1), .val (.ref pr2), .val (.int (1 : Int32))] [(.int (1 : Int32))] _
    refine XS.aloadN X0.here hx rfl (hb hby d7_1) rfl rfl ?_
    show Stp p e below s₁ m 2 #[.val (.ref pr0), .val (.ref pr1), .val (.ref pr2), .val (.int (1 : Int32))] [(.ref pr2), (.int (1 : Int32))] _
    refine X0.arraylength hx (by rw [e0]; exact Arc1.1) (State.isArrayOf_alike hZ.alike Arc1.2.1) (g := (mkF m 2 #[.val (.ref pr0), .val (.ref pr1), .val (.ref pr2), .val (.int (1 : Int32))] [(.ref pr2), (.int (1 : Int32))])) rfl rfl (hb hby d7_2) _ ?_
    rw [len_of Sc1 Nc1]
    show Stp p e below s₁ m 3 #[.val (.ref pr0), .val (.ref pr1), .val (.ref pr2), .val (.int (1 : Int32))] [(.int (10 : Int32)), (.int (1 : Int32))] _
    refine XS.icmpYes X0.here hx rfl (pc0 := 3) (pc' := 11) rfl (hb hby d7_3) rfl (feq (by decide : ¬ ((1 : Int32) = (10 : Int32)))).2 (by decide) (by decide) ?_
    show Stp p e below s₁ m 11 #[.val (.ref pr0), .val (.ref pr1), .val (.ref pr2), .val (.int (1 : Int32))] [] _
    refine XS.aloadN X0.here hx rfl (hb hby d7_11) rfl rfl ?_
    show Stp p e below s₁ m 12 #[.val (.ref pr0), .val (.ref pr1), .val (.ref pr2), .val (.int (1 : Int32))] [(.ref pr2)] _
    refine XS.iloadN X0.here hx rfl (hb hby d7_12) rfl ?_
    show Stp p e below s₁ m 13 #[.val (.ref pr0), .val (.ref pr1), .val (.ref pr2), .val (.int (1 : Int32))] [(.int (1 : Int32)), (.ref pr2)] _
    refine XS.aloadN X0.here hx rfl (hb hby d7_13) rfl rfl ?_
    show Stp p e below s₁ m 14 #[.val (.ref pr0), .val (.ref pr1), .val (.ref pr2), .val (.int (1 : Int32))] [(.ref pr1), (.int (1 : Int32)), (.ref pr2)] _
    refine st3 _ ?_
    show Stp p e below T3 m 15 #[.val (.ref pr0), .val (.ref pr1), .val (.ref pr2), .val (.int (1 : Int32))] [] _
    refine XS.aloadN X3.here hx rfl (hb hby d7_15) rfl rfl ?_
    show Stp p e below T3 m 16 #[.val (.ref pr0), .val (.ref pr1), .val (.ref pr2), .val (.int (1 : Int32))] [(.ref pr0)] _
    refine XS.iloadN X3.here hx rfl (hb hby d7_16) rfl ?_
    show Stp p e below T3 m 17 #[.val (.ref pr0), .val (.ref pr1), .val (.ref pr2), .val (.int (1 : Int32))] [(.int (1 : Int32)), (.ref pr0)] _
    refine XS.iconst X3.here hx rfl (hb hby d7_17) ?_
    show Stp p e below T3 m 18 #[.val (.ref pr0), .val (.ref pr1), .val (.ref pr2), .val (.int (1 : Int32))] [(.int (1 : Int32)), (.int (1 : Int32)), (.ref pr0)] _
    refine XS.iadd X3.here hx rfl (hb hby d7_18) rfl ?_
    show Stp p e below T3 m 19 #[.val (.ref pr0), .val (.ref pr1), .val (.ref pr2), .val (.int (1 : Int32))] [(.int (2 : Int32)), (.ref pr0)] _
    refine st6 _ ?_
    show Stp p e below T6 m 22 #[.val (.ref pr0), .val (.ref pr1), .val (.ref pr2), .val (.int (1 : Int32))] [] _
    exact X6.returnOut hx Bd.returns (hb hby d7_22) hr
  · show Q7_1 Z pr0 pr1 pr2 kk_pr2 c0_pr2 c1_pr2 c2_pr2 c3_pr2 c4_pr2 c5_pr2 c6_pr2 c7_pr2 c8_pr2 c9_pr2 u_modCount_pr0 h0 n0 _ T6.heap _
    rw [e6]
    exact ⟨rfl, N6, k8, f9, f11, f13, Fw6, f14, ovr_pr2⟩
theorem ef_7__2 (m : MethodId) (pr0 : Addr) (pr1 : Addr) (pr2 : Addr) : entryFrame m #[(.ref pr0), (.ref pr1), (.ref pr2), (.int (2 : Int32))] 4 = mkF m 0 #[.val (.ref pr0), .val (.ref pr1), .val (.ref pr2), .val (.int (2 : Int32))] [] := by first | (simp [entryFrame, mkF, argsToLocals, Value.category]; done) | rfl
def Q7_2 (Z : State) (pr0 : Addr) (pr1 : Addr) (pr2 : Addr) (kk_pr2 : ClassId) (c0_pr2 : Value) (c1_pr2 : Value) (c2_pr2 : Value) (c3_pr2 : Value) (c4_pr2 : Value) (c5_pr2 : Value) (c6_pr2 : Value) (c7_pr2 : Value) (c8_pr2 : Value) (c9_pr2 : Value) (u_modCount_pr0 : Value) (h0 : Heap) (n0 : Nat) (v : Option Value) (h : Heap) (L : List Loc) : Prop := v = none ∧ Fr n0 L ∧ Keep h0 h [pr0, pr2] ∧ Exa Z h pr0 "java/util/ArrayList" ∧ Fld Z h pr0 "java/util/AbstractList" "modCount" "I" u_modCount_pr0 ∧ Fld Z h pr0 "java/util/ArrayList" "elementData" "[Ljava/lang/Object;" (.ref pr2) ∧ Fld Z h pr0 "java/util/ArrayList" "size" "I" (.int (3 : Int32)) ∧ Arv Z h pr2 kk_pr2 (.object "java/lang/Object") (10 : Int32) [c0_pr2, c1_pr2, (.ref pr1), c3_pr2, c4_pr2, c5_pr2, c6_pr2, c7_pr2, c8_pr2, c9_pr2] .null ∧ Ovr Z kk_pr2 "java/lang/Object"
set_option maxRecDepth 65536 in
set_option maxHeartbeats 40000000 in
theorem rm7_2 (l : Launch) (Z : State) (a0 : Array Value) (hw : ∀ d ∈ tables_1, d.before a0 Z = true) (ws : List Jvm.Cond) (pr0 : Addr) (pr1 : Addr) (pr2 : Addr) (kk_pr2 : ClassId) (c0_pr2 : Value) (c1_pr2 : Value) (c2_pr2 : Value) (c3_pr2 : Value) (c4_pr2 : Value) (c5_pr2 : Value) (c6_pr2 : Value) (c7_pr2 : Value) (c8_pr2 : Value) (c9_pr2 : Value) (u_modCount_pr0 : Value) (h0 : Heap) (n0 : Nat) (Z0 : n0 ≤ h0.size) (O0 : Old Z n0 h0) (E_pr0 : Exa Z h0 pr0 "java/util/ArrayList") (E_pr1 : Exa Z h0 pr1 "[B") (V_pr2 : Arv Z h0 pr2 kk_pr2 (.object "java/lang/Object") (10 : Int32) [c0_pr2, c1_pr2, c2_pr2, c3_pr2, c4_pr2, c5_pr2, c6_pr2, c7_pr2, c8_pr2, c9_pr2] .null) (ovr_pr2 : Ovr Z kk_pr2 "java/lang/Object") (F_modCount_pr0 : Fld Z h0 pr0 "java/util/AbstractList" "modCount" "I" u_modCount_pr0) (F_elementData_pr0 : Fld Z h0 pr0 "java/util/ArrayList" "elementData" "[Ljava/lang/Object;" (.ref pr2)) (F_size_pr0 : Fld Z h0 pr0 "java/util/ArrayList" "size" "I" (.int (2 : Int32))) (g_pr2 : n0 ≤ pr2) (ne_pr0_pr2 : pr0 ≠ pr2) (g_pr0 : n0 ≤ pr0) :
    MetFree l (⟨"java/util/ArrayList", "add", "(Ljava/lang/Object;[Ljava/lang/Object;I)V"⟩ : MethodName) (head1 (Jvm.Cond.code (⟨"java/util/ArrayList", "add", "(Ljava/lang/Object;[Ljava/lang/Object;I)V"⟩ : MethodName) jdk_38_method_24_code 4 none :: ws) ({ frames := 0, cells := 0, slots := 0, locals := 0 } : Room)) (fun a U => a = #[(.ref pr0), (.ref pr1), (.ref pr2), (.int (2 : Int32))] ∧ Z.Warmed39 U.vm ∧ U.heap = h0) (fun _ _ _ _ _ => True) (fun _ U o U' => ∃ v L, o = .returned v ∧ Q7_2 Z pr0 pr1 pr2 kk_pr2 c0_pr2 c1_pr2 c2_pr2 c3_pr2 c4_pr2 c5_pr2 c6_pr2 c7_pr2 c8_pr2 c9_pr2 u_modCount_pr0 h0 n0 v U'.heap L ∧ FrameEnd U o U' L ({ frames := 0, cells := 0, slots := 0, locals := 0 } : Room).cells ({ frames := 0, cells := 0, slots := 0, locals := 0 } : Room).slots) := by
  refine MetFree.of_bodySF (plainFor_of_name pn_7) hisR ?_
  intro p e s m args below meth c s₁ Bd hml0 hP hK
  obtain ⟨rfl, hZ, hh⟩ := hP
  have hx := Bd.exec
  have hby := Bd.bytes
  have hml : c.maxLocals = 4 := hml0
  have hown : s.vm.findClass "java/util/ArrayList" = some m.cls := findClass_of_methodNamed Bd.named
  have hnm := (name_of_methodNamed Bd.named Bd.method).1
  have X0 : Stand p l e ({ frames := 0, cells := 0, slots := 0, locals := 0 } : Room) s m #[(.ref pr0), (.ref pr1), (.ref pr2), (.int (2 : Int32))] below meth c s₁ [] 0 0 := Stand.of_body Bd
  have e0 : s₁.heap = h0 := by rw [← hh, Bd.state]; rfl
  have N0 := Fr.nil n0
  have pre0 : ∀ t, Steps p.tables e below (s₁.setTop (mkF m 0 #[.val (.ref pr0), .val (.ref pr1), .val (.ref pr2), .val (.int (2 : Int32))] [])) t → Steps p.tables e below (s₁.setTop (entryFrame m #[(.ref pr0), (.ref pr1), (.ref pr2), (.int (2 : Int32))] 4)) t := fun t k => castTop (ef_7__2 m pr0 pr1 pr2) k
  have V_c1 := V_pr2
  obtain ⟨c1, Arc1, qc1, Sc1, Nc1, Hc1, Gc1⟩ := V_c1
  have V_c2 := V_pr2
  obtain ⟨c2, Arc2, qc2, Sc2, Nc2, Hc2, Gc2⟩ := V_c2
  have hin3 : ¬ ((2 : Int32) < 0 ∨ c2.slots.size ≤ ((2 : Int32)).toNatClampNeg) := inb_of Sc2 ⟨by decide, by decide⟩
  obtain ⟨T3, h3, X3, e3, W3, st3⟩ := stR X0 hx hZ e0 Arc2 (j := (2 : Int32)) hin3 rfl (Sto.ofV Arc2 qc2 ovr_pr2 (Ins.of_exa E_pr1 (own_W hw 65 rfl))) (g := (mkF m 14 #[.val (.ref pr0), .val (.ref pr1), .val (.ref pr2), .val (.int (2 : Int32))] [(.ref pr1), (.int (2 : Int32)), (.ref pr2)])) rfl rfl (hb hby d7_14)
  have V3 : Arv Z h3 pr2 kk_pr2 (.object "java/lang/Object") (10 : Int32) [c0_pr2, c1_pr2, (.ref pr1), c3_pr2, c4_pr2, c5_pr2, c6_pr2, c7_pr2, c8_pr2, c9_pr2] .null := Arv.set Arc2 qc2 Sc2 Nc2 Hc2 Gc2 rfl W3 2 rfl (Nat.le_of_ble_eq_true rfl)
  have N3 := Fr.snoc X3 N0 g_pr2
  have f4 := F_size_pr0.other W3 (Or.inl ne_pr0_pr2)
  have f5 := E_pr0.wr W3
  obtain ⟨T6, h6, X6, e6, W6, st6⟩ := putF X3 hx hZ hown (host := "") (Or.inl (own_W hw 42 rfl)) Via.refl e3 f4 f5 (Or.inl (own_W hw 43 rfl)) (own_W hw 2 rfl) (ty := .int) (by decide) rfl rfl (g := (mkF m 19 #[.val (.ref pr0), .val (.ref pr1), .val (.ref pr2), .val (.int (2 : Int32))] [(.int (3 : Int32)), (.ref pr0)])) rfl rfl (hb hby d7_19)
  have Fw6 := f4.same W6
  have N6 := Fr.snoc X6 N3 g_pr0
  have k7 : Keep h0 h3 [pr0, pr2] := (Keep.refl h0 [pr0, pr2]).wr W3 (Or.inl (List.mem_of_getElem? (i := 1) rfl))
  have k8 : Keep h0 h6 [pr0, pr2] := k7.wr W6 (Or.inl (List.mem_of_getElem? (i := 0) rfl))
  have f9 := f5.wr W6
  have f10 := F_modCount_pr0.other W3 (Or.inl ne_pr0_pr2)
  have f11 := f10.other W6 (Or.inr (slot_ne (Or.inl (own_W hw 23 rfl)) (Or.inl (own_W hw 43 rfl)) (by decide) (t := .int) (t' := .int) (by decide) (by decide)))
  have f12 := F_elementData_pr0.other W3 (Or.inl ne_pr0_pr2)
  have f13 := f12.other W6 (Or.inr (slot_ne (Or.inl (own_W hw 26 rfl)) (Or.inl (own_W hw 43 rfl)) (by decide) (t := (.array (.object "java/lang/Object"))) (t' := .int) (by decide) (by decide)))
  have f14 := V3.other W6 (Ne.symm ne_pr0_pr2)
  obtain ⟨fs, hr, hrun, hended, hW, hsame⟩ := X6.leave (v := none) (fun _ => rfl)
  refine ⟨_, _, pre0 _ ?_, hrun, hended, _, _, rfl, ?_, ⟨_, rfl⟩, hW, hsame.mono (by decide) (by decide)⟩
  · show Stp p e below s₁ m 0 #[.val (.ref pr0), .val (.ref pr1), .val (.ref pr2), .val (.int (2 : Int32))] [] _
    refine XS.iloadN X0.here hx rfl (hb hby d7_0) rfl ?_
    show Stp p e below s₁ m 1 #[.val (.ref pr0), .val (.ref pr1), .val (.ref pr2), .val (.int (2 : Int32))] [(.int (2 : Int32))] _
    refine XS.aloadN X0.here hx rfl (hb hby d7_1) rfl rfl ?_
    show Stp p e below s₁ m 2 #[.val (.ref pr0), .val (.ref pr1), .val (.ref pr2), .val (.int (2 : Int32))] [(.ref pr2), (.int (2 : Int32))] _
    refine X0.arraylength hx (by rw [e0]; exact Arc1.1) (State.isArrayOf_alike hZ.alike Arc1.2.1) (g := (mkF m 2 #[.val (.ref pr0), .val (.ref pr1), .val (.ref pr2), .val (.int (2 : Int32))] [(.ref pr2), (.int (2 : Int32))])) rfl rfl (hb hby d7_2) _ ?_
    rw [len_of Sc1 Nc1]
    show Stp p e below s₁ m 3 #[.val (.ref pr0), .val (.ref pr1), .val (.ref pr2), .val (.int (2 : Int32))] [(.int (10 : Int32)), (.int (2 : Int32))] _
    refine XS.icmpYes X0.here hx rfl (pc0 := 3) (pc' := 11) rfl (hb hby d7_3) rfl (feq (by decide : ¬ ((2 : Int32) = (10 : Int32)))).2 (by decide) (by decide) ?_
    show Stp p e below s₁ m 11 #[.val (.ref pr0), .val (.ref pr1), .val (.ref pr2), .val (.int (2 : Int32))] [] _
    refine XS.aloadN X0.here hx rfl (hb hby d7_11) rfl rfl ?_
    show Stp p e below s₁ m 12 #[.val (.ref pr0), .val (.ref pr1), .val (.ref pr2), .val (.int (2 : Int32))] [(.ref pr2)] _
    refine XS.iloadN X0.here hx rfl (hb hby d7_12) rfl ?_
    show Stp p e below s₁ m 13 #[.val (.ref pr0), .val (.ref pr1), .val (.ref pr2), .val (.int (2 : Int32))] [(.int (2 : Int32)), (.ref pr2)] _
    refine XS.aloadN X0.here hx rfl (hb hby d7_13) rfl rfl ?_
    show Stp p e below s₁ m 14 #[.val (.ref pr0), .val (.ref pr1), .val (.ref pr2), .val (.int (2 : Int32))] [(.ref pr1), (.int (2 : Int32)), (.ref pr2)] _
    refine st3 _ ?_
    show Stp p e below T3 m 15 #[.val (.ref pr0), .val (.ref pr1), .val (.ref pr2), .val (.int (2 : Int32))] [] _
    refine XS.aloadN X3.here hx rfl (hb hby d7_15) rfl rfl ?_
    show Stp p e below T3 m 16 #[.val (.ref pr0), .val (.ref pr1), .val (.ref pr2), .val (.int (2 : Int32))] [(.ref pr0)] _
    refine XS.iloadN X3.here hx rfl (hb hby d7_16) rfl ?_
    show Stp p e below T3 m 17 #[.val (.ref pr0), .val (.ref pr1), .val (.ref pr2), .val (.int (2 : Int32))] [(.int (2 : Int32)), (.ref pr0)] _
    refine XS.iconst X3.here hx rfl (hb hby d7_17) ?_
    show Stp p e below T3 m 18 #[.val (.ref pr0), .val (.ref pr1), .val (.ref pr2), .val (.int (2 : Int32))] [(.int (1 : Int32)), (.int (2 : Int32)), (.ref pr0)] _
    refine XS.iadd X3.here hx rfl (hb hby d7_18) rfl ?_
    show Stp p e below T3 m 19 #[.val (.ref pr0), .val (.ref pr1), .val (.ref pr2), .val (.int (2 : Int32))] [(.int (3 : Int32)), (.ref pr0)] _
    refine st6 _ ?_
    show Stp p e below T6 m 22 #[.val (.ref pr0), .val (.ref pr1), .val (.ref pr2), .val (.int (2 : Int32))] [] _
    exact X6.returnOut hx Bd.returns (hb hby d7_22) hr
  · show Q7_2 Z pr0 pr1 pr2 kk_pr2 c0_pr2 c1_pr2 c2_pr2 c3_pr2 c4_pr2 c5_pr2 c6_pr2 c7_pr2 c8_pr2 c9_pr2 u_modCount_pr0 h0 n0 _ T6.heap _
    rw [e6]
    exact ⟨rfl, N6, k8, f9, f11, f13, Fw6, f14, ovr_pr2⟩
theorem pd_3 : parseMethodDescriptor "(Ljava/lang/Object;[Ljava/lang/Object;I)V" = some ⟨[(.object "java/lang/Object"), (.array (.object "java/lang/Object")), .int], none⟩ := by decide +kernel
theorem d6_0 : decode jdk_38_method_25_code 0 = .ok (.aload_n 0, 1) := by decide +kernel
theorem d6_1 : decode jdk_38_method_25_code 1 = .ok (.dup, 1) := by decide +kernel
theorem d6_2 : decode jdk_38_method_25_code 2 = .ok (.getfield 63, 3) := by decide +kernel
theorem d6_5 : decode jdk_38_method_25_code 5 = .ok (.iconst 1, 1) := by decide +kernel
theorem d6_6 : decode jdk_38_method_25_code 6 = .ok (.iadd, 1) := by decide +kernel
theorem d6_7 : decode jdk_38_method_25_code 7 = .ok (.putfield 63, 3) := by decide +kernel
theorem d6_10 : decode jdk_38_method_25_code 10 = .ok (.aload_n 0, 1) := by decide +kernel
theorem d6_11 : decode jdk_38_method_25_code 11 = .ok (.aload_n 1, 1) := by decide +kernel
theorem d6_12 : decode jdk_38_method_25_code 12 = .ok (.aload_n 0, 1) := by decide +kernel
theorem d6_13 : decode jdk_38_method_25_code 13 = .ok (.getfield 9, 3) := by decide +kernel
theorem d6_16 : decode jdk_38_method_25_code 16 = .ok (.aload_n 0, 1) := by decide +kernel
theorem d6_17 : decode jdk_38_method_25_code 17 = .ok (.getfield 48, 3) := by decide +kernel
theorem d6_20 : decode jdk_38_method_25_code 20 = .ok (.invokevirtual 131, 3) := by decide +kernel
theorem d6_23 : decode jdk_38_method_25_code 23 = .ok (.iconst 1, 1) := by decide +kernel
theorem d6_24 : decode jdk_38_method_25_code 24 = .ok (.ireturn, 1) := by decide +kernel
theorem pn_6 : plainName "java/util/ArrayList" = true := by first | (simp [plainName, overriddenIn]; done) | decide +kernel
theorem ef_6 (m : MethodId) (pr0 : Addr) (pr1 : Addr) : entryFrame m #[(.ref pr0), (.ref pr1)] 2 = mkF m 0 #[.val (.ref pr0), .val (.ref pr1)] [] := by first | (simp [entryFrame, mkF, argsToLocals, Value.category]; done) | rfl
def Q6_0 (Z : State) (pr0 : Addr) (pr1 : Addr) (w_DEF : Addr) (kk_w_DEF : ClassId) (w_mod : Int32) (h0 : Heap) (n0 : Nat) (v : Option Value) (h : Heap) (L : List Loc) : Prop := ∃ b9 : Addr, ∃ b9_1 : ClassId, v = some (.int (1 : Int32)) ∧ Fr n0 L ∧ Keep h0 h [pr0] ∧ Exa Z h pr0 "java/util/ArrayList" ∧ Fld Z h pr0 "java/util/AbstractList" "modCount" "I" (.int (w_mod + (1 : Int32))) ∧ Fld Z h pr0 "java/util/ArrayList" "elementData" "[Ljava/lang/Object;" (.ref b9) ∧ Fld Z h pr0 "java/util/ArrayList" "size" "I" (.int (1 : Int32)) ∧ h0.size ≤ b9 ∧ Arv Z h b9 b9_1 (.object "java/lang/Object") (10 : Int32) [(.ref pr1), .null, .null, .null, .null, .null, .null, .null, .null, .null] .null ∧ Ovr Z b9_1 "java/lang/Object"
set_option maxRecDepth 65536 in
set_option maxHeartbeats 40000000 in
theorem rm6_0 (l : Launch) (Z : State) (a0 : Array Value) (hw : ∀ d ∈ tables_1, d.before a0 Z = true) (ws : List Jvm.Cond) (pr0 : Addr) (pr1 : Addr) (w_DEF : Addr) (kk_w_DEF : ClassId) (w_mod : Int32) (h0 : Heap) (n0 : Nat) (Z0 : n0 ≤ h0.size) (O0 : Old Z n0 h0) (E_pr0 : Exa Z h0 pr0 "java/util/ArrayList") (E_pr1 : Exa Z h0 pr1 "[B") (S_DEFAULTCAPACITY_EMPTY_ELEMENTDATA : Sta Z Z.heap "java/util/ArrayList" "DEFAULTCAPACITY_EMPTY_ELEMENTDATA" "[Ljava/lang/Object;" (.ref w_DEF)) (V_w_DEF : Arv Z Z.heap w_DEF kk_w_DEF (.object "java/lang/Object") (0 : Int32) [] .null) (F_modCount_pr0 : Fld Z h0 pr0 "java/util/AbstractList" "modCount" "I" (.int w_mod)) (F_elementData_pr0 : Fld Z h0 pr0 "java/util/ArrayList" "elementData" "[Ljava/lang/Object;" (.ref w_DEF)) (F_size_pr0 : Fld Z h0 pr0 "java/util/ArrayList" "size" "I" (.int (0 : Int32))) (g_pr0 : n0 ≤ pr0) :
    MetFree l (⟨"java/util/ArrayList", "add", "(Ljava/lang/Object;)Z"⟩ : MethodName) (head1 (Jvm.Cond.code (⟨"java/util/ArrayList", "add", "(Ljava/lang/Object;)Z"⟩ : MethodName) jdk_38_method_25_code 2 (some .boolean) :: ws) ({ frames := 4, cells := 1, slots := 10, locals := 56 } : Room)) (fun a U => a = #[(.ref pr0), (.ref pr1)] ∧ Z.Warmed39 U.vm ∧ U.heap = h0) (fun _ _ _ _ _ => True) (fun _ U o U' => ∃ v L, o = .returned v ∧ Q6_0 Z pr0 pr1 w_DEF kk_w_DEF w_mod h0 n0 v U'.heap L ∧ FrameEnd U o U' L ({ frames := 4, cells := 1, slots := 10, locals := 56 } : Room).cells ({ frames := 4, cells := 1, slots := 10, locals := 56 } : Room).slots) := by
  refine MetFree.of_bodySF (plainFor_of_name pn_6) hisR ?_
  intro p e s m args below meth c s₁ Bd hml0 hP hK
  obtain ⟨rfl, hZ, hh⟩ := hP
  have hx := Bd.exec
  have hby := Bd.bytes
  have hml : c.maxLocals = 2 := hml0
  have hown : s.vm.findClass "java/util/ArrayList" = some m.cls := findClass_of_methodNamed Bd.named
  have hnm := (name_of_methodNamed Bd.named Bd.method).1
  have X0 : Stand p l e ({ frames := 4, cells := 1, slots := 10, locals := 56 } : Room) s m #[(.ref pr0), (.ref pr1)] below meth c s₁ [] 0 0 := Stand.of_body Bd
  have e0 : s₁.heap = h0 := by rw [← hh, Bd.state]; rfl
  have N0 := Fr.nil n0
  have pre0 : ∀ t, Steps p.tables e below (s₁.setTop (mkF m 0 #[.val (.ref pr0), .val (.ref pr1)] [])) t → Steps p.tables e below (s₁.setTop (entryFrame m #[(.ref pr0), (.ref pr1)] 2)) t := fun t k => castTop (ef_6 m pr0 pr1) k
  obtain ⟨T1, X1, e1, st1⟩ := getF X0 hx hZ hown (host := "") (Or.inl (own_W hw 40 rfl)) (Via.of (own_W hw 41 rfl)) e0 F_modCount_pr0 (g := (mkF m 2 #[.val (.ref pr0), .val (.ref pr1)] [(.ref pr0), (.ref pr0)])) rfl rfl (hb hby d6_2)
  obtain ⟨T2, h2, X2, e2, W2, st2⟩ := putF X1 hx hZ hown (host := "") (Or.inl (own_W hw 40 rfl)) (Via.of (own_W hw 41 rfl)) e1 F_modCount_pr0 E_pr0 (Or.inl (own_W hw 23 rfl)) (own_W hw 2 rfl) (ty := .int) (by decide) rfl rfl (g := (mkF m 7 #[.val (.ref pr0), .val (.ref pr1)] [(.int (w_mod + (1 : Int32))), (.ref pr0)])) rfl rfl (hb hby d6_7)
  have Fw2 := F_modCount_pr0.same W2
  have N2 := Fr.snoc X2 N0 g_pr0
  have f4 := F_elementData_pr0.other W2 (Or.inr (slot_ne (Or.inl (own_W hw 26 rfl)) (Or.inl (own_W hw 23 rfl)) (by decide) (t := (.array (.object "java/lang/Object"))) (t' := .int) (by decide) (by decide)))
  obtain ⟨T3, X3, e3, st3⟩ := getF X2 hx hZ hown (host := "") (Or.inl (own_W hw 25 rfl)) Via.refl e2 f4 (g := (mkF m 13 #[.val (.ref pr0), .val (.ref pr1)] [(.ref pr0), (.ref pr1), (.ref pr0)])) rfl rfl (hb hby d6_13)
  have f6 := F_size_pr0.other W2 (Or.inr (slot_ne (Or.inl (own_W hw 43 rfl)) (Or.inl (own_W hw 23 rfl)) (by decide) (t := .int) (t' := .int) (by decide) (by decide)))
  obtain ⟨T5, X5, e5, st5⟩ := getF X3 hx hZ hown (host := "") (Or.inl (own_W hw 42 rfl)) Via.refl e3 f6 (g := (mkF m 17 #[.val (.ref pr0), .val (.ref pr1)] [(.ref pr0), (.ref w_DEF), (.ref pr1), (.ref pr0)])) rfl rfl (hb hby d6_17)
  have f7 := E_pr0.wr W2
  have f8 := E_pr1.wr W2
  have z10 := Nat.le_trans Z0 (Keep.of_wr W2).1
  have o11 := O0.wr W2 g_pr0
  obtain ⟨cq9, q9, q9'⟩ := f7.cell
  obtain ⟨_, _, ⟨T9, L9, k9, n9⟩, -, X9, ⟨Lc9, hQ9, l9, y9, z9⟩, st9⟩ := X5.privateBack hx (y := (⟨"java/util/ArrayList", "add", "(Ljava/lang/Object;[Ljava/lang/Object;I)V"⟩ : MethodName)) hown (mvT hZ (own_W hw 44 rfl)) (mvT hZ (own_W hw 45 rfl)) (mvT hZ (own_W hw 47 rfl)) (Cond.privateMethod_at (mvP hZ (own_W hw 46 rfl) (args := #[]))) (mvT hZ (own_W hw 48 rfl)) (by decide) (backOf (W := 0) (rm7_0 l Z a0 hw [] pr0 pr1 w_DEF kk_w_DEF (.int (w_mod + (1 : Int32))) h2 n0 z10 o11 f7 f8 S_DEFAULTCAPACITY_EMPTY_ELEMENTDATA V_w_DEF Fw2 f4 f6 g_pr0) hZ (own_W hw 48 rfl) (own_W hw 3 rfl) (by decide) (by decide)) (g := (mkF m 20 #[.val (.ref pr0), .val (.ref pr1)] [(.int (0 : Int32)), (.ref w_DEF), (.ref pr1), (.ref pr0)])) rfl (by rw [hml]; rfl) (Steps.refl _) (a := pr0) (by rw [e5]; exact q9) q9' (argsL := [(.ref pr1), (.ref w_DEF), (.int (0 : Int32))]) (rest := []) (lenOf pd_3 rfl) rfl (by show 2 * 0 + _ ≤ _; exact Nat.le_of_eq rfl) (hb hby d6_20) (fun _ _ => ⟨rfl, e5, (by decide : 0 + 1 ≤ _), (by decide : 0 + 10 ≤ _)⟩)
  dsimp only [Pt.U, Pt.locs, Pt.cells, Pt.slots] at X9 l9 y9 z9 st9 hQ9
  subst l9 y9 z9
  obtain ⟨b9, b9_1, rfl, N9q, K9, qf9_0, qf9_1, qf9_2, qf9_3, qf9_4, qf9_5, qf9_6⟩ := hQ9
  have N9 := Fr.app N2 N9q
  have k12 : Keep h0 h2 [pr0] := (Keep.refl h0 [pr0]).wr W2 (Or.inl (List.mem_of_getElem? (i := 0) rfl))
  have k13 : Keep h0 T9.heap [pr0] := k12.trans K9 (allS (Or.inl (List.mem_of_getElem? (i := 0) rfl)) all0)
  obtain ⟨fs, hr, hrun, hended, hW, hsame⟩ := X9.leave (v := some (.int (1 : Int32))) (fun h => by rw [Bd.returns] at h; cases h)
  refine ⟨_, _, pre0 _ ?_, hrun, hended, _, _, rfl, ?_, ⟨_, rfl⟩, hW, hsame.mono (by decide) (by decide)⟩
  · show Stp p e below s₁ m 0 #[.val (.ref pr0), .val (.ref pr1)] [] _
    refine XS.aloadN X0.here hx rfl (hb hby d6_0) rfl rfl ?_
    show Stp p e below s₁ m 1 #[.val (.ref pr0), .val (.ref pr1)] [(.ref pr0)] _
    refine XS.dup X0.here hx rfl (hb hby d6_1) rfl rfl ?_
    show Stp p e below s₁ m 2 #[.val (.ref pr0), .val (.ref pr1)] [(.ref pr0), (.ref pr0)] _
    refine st1 _ ?_
    show Stp p e below T1 m 5 #[.val (.ref pr0), .val (.ref pr1)] [(.int w_mod), (.ref pr0)] _
    refine XS.iconst X1.here hx rfl (hb hby d6_5) ?_
    show Stp p e below T1 m 6 #[.val (.ref pr0), .val (.ref pr1)] [(.int (1 : Int32)), (.int w_mod), (.ref pr0)] _
    refine XS.iadd X1.here hx rfl (hb hby d6_6) rfl ?_
    show Stp p e below T1 m 7 #[.val (.ref pr0), .val (.ref pr1)] [(.int (w_mod + (1 : Int32))), (.ref pr0)] _
    refine st2 _ ?_
    show Stp p e below T2 m 10 #[.val (.ref pr0), .val (.ref pr1)] [] _
    refine XS.aloadN X2.here hx rfl (hb hby d6_10) rfl rfl ?_
    show Stp p e below T2 m 11 #[.val (.ref pr0), .val (.ref pr1)] [(.ref pr0)] _
    refine XS.aloadN X2.here hx rfl (hb hby d6_11) rfl rfl ?_
    show Stp p e below T2 m 12 #[.val (.ref pr0), .val (.ref pr1)] [(.ref pr1), (.ref pr0)] _
    refine XS.aloadN X2.here hx rfl (hb hby d6_12) rfl rfl ?_
    show Stp p e below T2 m 13 #[.val (.ref pr0), .val (.ref pr1)] [(.ref pr0), (.ref pr1), (.ref pr0)] _
    refine st3 _ ?_
    show Stp p e below T3 m 16 #[.val (.ref pr0), .val (.ref pr1)] [(.ref w_DEF), (.ref pr1), (.ref pr0)] _
    refine XS.aloadN X3.here hx rfl (hb hby d6_16) rfl rfl ?_
    show Stp p e below T3 m 17 #[.val (.ref pr0), .val (.ref pr1)] [(.ref pr0), (.ref w_DEF), (.ref pr1), (.ref pr0)] _
    refine st5 _ ?_
    show Stp p e below T5 m 20 #[.val (.ref pr0), .val (.ref pr1)] [(.int (0 : Int32)), (.ref w_DEF), (.ref pr1), (.ref pr0)] _
    refine st9.trans ?_
    show Stp p e below T9 m 23 #[.val (.ref pr0), .val (.ref pr1)] [] _
    refine XS.iconst X9.here hx rfl (hb hby d6_23) ?_
    show Stp p e below T9 m 24 #[.val (.ref pr0), .val (.ref pr1)] [(.int (1 : Int32))] _
    exact retN X9 hx (t := .boolean) Bd.returns (by simp) (hb hby d6_24) hr
  · show Q6_0 Z pr0 pr1 w_DEF kk_w_DEF w_mod h0 n0 _ T9.heap _
    exact ⟨b9, b9_1, rfl, N9, k13, qf9_0, qf9_1, qf9_2, qf9_3, (Nat.le_trans k12.1 qf9_4), qf9_5, qf9_6⟩
def Q6_1 (Z : State) (pr0 : Addr) (pr1 : Addr) (w_mod : Int32) (w_arr : Addr) (kk_w_arr : ClassId) (c0_w_arr : Value) (c1_w_arr : Value) (c2_w_arr : Value) (c3_w_arr : Value) (c4_w_arr : Value) (c5_w_arr : Value) (c6_w_arr : Value) (c7_w_arr : Value) (c8_w_arr : Value) (c9_w_arr : Value) (h0 : Heap) (n0 : Nat) (v : Option Value) (h : Heap) (L : List Loc) : Prop := v = some (.int (1 : Int32)) ∧ Fr n0 L ∧ Keep h0 h [pr0, w_arr] ∧ Exa Z h pr0 "java/util/ArrayList" ∧ Fld Z h pr0 "java/util/AbstractList" "modCount" "I" (.int (w_mod + (1 : Int32))) ∧ Fld Z h pr0 "java/util/ArrayList" "elementData" "[Ljava/lang/Object;" (.ref w_arr) ∧ Fld Z h pr0 "java/util/ArrayList" "size" "I" (.int (2 : Int32)) ∧ Arv Z h w_arr kk_w_arr (.object "java/lang/Object") (10 : Int32) [c0_w_arr, (.ref pr1), c2_w_arr, c3_w_arr, c4_w_arr, c5_w_arr, c6_w_arr, c7_w_arr, c8_w_arr, c9_w_arr] .null ∧ Ovr Z kk_w_arr "java/lang/Object"
set_option maxRecDepth 65536 in
set_option maxHeartbeats 40000000 in
theorem rm6_1 (l : Launch) (Z : State) (a0 : Array Value) (hw : ∀ d ∈ tables_1, d.before a0 Z = true) (ws : List Jvm.Cond) (pr0 : Addr) (pr1 : Addr) (w_mod : Int32) (w_arr : Addr) (kk_w_arr : ClassId) (c0_w_arr : Value) (c1_w_arr : Value) (c2_w_arr : Value) (c3_w_arr : Value) (c4_w_arr : Value) (c5_w_arr : Value) (c6_w_arr : Value) (c7_w_arr : Value) (c8_w_arr : Value) (c9_w_arr : Value) (h0 : Heap) (n0 : Nat) (Z0 : n0 ≤ h0.size) (O0 : Old Z n0 h0) (E_pr0 : Exa Z h0 pr0 "java/util/ArrayList") (E_pr1 : Exa Z h0 pr1 "[B") (F_modCount_pr0 : Fld Z h0 pr0 "java/util/AbstractList" "modCount" "I" (.int w_mod)) (F_elementData_pr0 : Fld Z h0 pr0 "java/util/ArrayList" "elementData" "[Ljava/lang/Object;" (.ref w_arr)) (V_w_arr : Arv Z h0 w_arr kk_w_arr (.object "java/lang/Object") (10 : Int32) [c0_w_arr, c1_w_arr, c2_w_arr, c3_w_arr, c4_w_arr, c5_w_arr, c6_w_arr, c7_w_arr, c8_w_arr, c9_w_arr] .null) (ovr_w_arr : Ovr Z kk_w_arr "java/lang/Object") (F_size_pr0 : Fld Z h0 pr0 "java/util/ArrayList" "size" "I" (.int (1 : Int32))) (g_pr0 : n0 ≤ pr0) (ne_w_arr_pr0 : w_arr ≠ pr0) (g_w_arr : n0 ≤ w_arr) :
    MetFree l (⟨"java/util/ArrayList", "add", "(Ljava/lang/Object;)Z"⟩ : MethodName) (head1 (Jvm.Cond.code (⟨"java/util/ArrayList", "add", "(Ljava/lang/Object;)Z"⟩ : MethodName) jdk_38_method_25_code 2 (some .boolean) :: ws) ({ frames := 1, cells := 0, slots := 0, locals := 15 } : Room)) (fun a U => a = #[(.ref pr0), (.ref pr1)] ∧ Z.Warmed39 U.vm ∧ U.heap = h0) (fun _ _ _ _ _ => True) (fun _ U o U' => ∃ v L, o = .returned v ∧ Q6_1 Z pr0 pr1 w_mod w_arr kk_w_arr c0_w_arr c1_w_arr c2_w_arr c3_w_arr c4_w_arr c5_w_arr c6_w_arr c7_w_arr c8_w_arr c9_w_arr h0 n0 v U'.heap L ∧ FrameEnd U o U' L ({ frames := 1, cells := 0, slots := 0, locals := 15 } : Room).cells ({ frames := 1, cells := 0, slots := 0, locals := 15 } : Room).slots) := by
  refine MetFree.of_bodySF (plainFor_of_name pn_6) hisR ?_
  intro p e s m args below meth c s₁ Bd hml0 hP hK
  obtain ⟨rfl, hZ, hh⟩ := hP
  have hx := Bd.exec
  have hby := Bd.bytes
  have hml : c.maxLocals = 2 := hml0
  have hown : s.vm.findClass "java/util/ArrayList" = some m.cls := findClass_of_methodNamed Bd.named
  have hnm := (name_of_methodNamed Bd.named Bd.method).1
  have X0 : Stand p l e ({ frames := 1, cells := 0, slots := 0, locals := 15 } : Room) s m #[(.ref pr0), (.ref pr1)] below meth c s₁ [] 0 0 := Stand.of_body Bd
  have e0 : s₁.heap = h0 := by rw [← hh, Bd.state]; rfl
  have N0 := Fr.nil n0
  have pre0 : ∀ t, Steps p.tables e below (s₁.setTop (mkF m 0 #[.val (.ref pr0), .val (.ref pr1)] [])) t → Steps p.tables e below (s₁.setTop (entryFrame m #[(.ref pr0), (.ref pr1)] 2)) t := fun t k => castTop (ef_6 m pr0 pr1) k
  obtain ⟨T1, X1, e1, st1⟩ := getF X0 hx hZ hown (host := "") (Or.inl (own_W hw 40 rfl)) (Via.of (own_W hw 41 rfl)) e0 F_modCount_pr0 (g := (mkF m 2 #[.val (.ref pr0), .val (.ref pr1)] [(.ref pr0), (.ref pr0)])) rfl rfl (hb hby d6_2)
  obtain ⟨T2, h2, X2, e2, W2, st2⟩ := putF X1 hx hZ hown (host := "") (Or.inl (own_W hw 40 rfl)) (Via.of (own_W hw 41 rfl)) e1 F_modCount_pr0 E_pr0 (Or.inl (own_W hw 23 rfl)) (own_W hw 2 rfl) (ty := .int) (by decide) rfl rfl (g := (mkF m 7 #[.val (.ref pr0), .val (.ref pr1)] [(.int (w_mod + (1 : Int32))), (.ref pr0)])) rfl rfl (hb hby d6_7)
  have Fw2 := F_modCount_pr0.same W2
  have N2 := Fr.snoc X2 N0 g_pr0
  have f4 := F_elementData_pr0.other W2 (Or.inr (slot_ne (Or.inl (own_W hw 26 rfl)) (Or.inl (own_W hw 23 rfl)) (by decide) (t := (.array (.object "java/lang/Object"))) (t' := .int) (by decide) (by decide)))
  obtain ⟨T3, X3, e3, st3⟩ := getF X2 hx hZ hown (host := "") (Or.inl (own_W hw 25 rfl)) Via.refl e2 f4 (g := (mkF m 13 #[.val (.ref pr0), .val (.ref pr1)] [(.ref pr0), (.ref pr1), (.ref pr0)])) rfl rfl (hb hby d6_13)
  have f6 := F_size_pr0.other W2 (Or.inr (slot_ne (Or.inl (own_W hw 43 rfl)) (Or.inl (own_W hw 23 rfl)) (by decide) (t := .int) (t' := .int) (by decide) (by decide)))
  obtain ⟨T5, X5, e5, st5⟩ := getF X3 hx hZ hown (host := "") (Or.inl (own_W hw 42 rfl)) Via.refl e3 f6 (g := (mkF m 17 #[.val (.ref pr0), .val (.ref pr1)] [(.ref pr0), (.ref w_arr), (.ref pr1), (.ref pr0)])) rfl rfl (hb hby d6_17)
  have f7 := E_pr0.wr W2
  have f8 := E_pr1.wr W2
  have f9 := V_w_arr.other W2 ne_w_arr_pr0
  have z11 := Nat.le_trans Z0 (Keep.of_wr W2).1
  have o12 := O0.wr W2 g_pr0
  obtain ⟨cq10, q10, q10'⟩ := f7.cell
  obtain ⟨_, _, ⟨T10, L10, k10, n10⟩, -, X10, ⟨Lc10, hQ10, l10, y10, z10⟩, st10⟩ := X5.privateBack hx (y := (⟨"java/util/ArrayList", "add", "(Ljava/lang/Object;[Ljava/lang/Object;I)V"⟩ : MethodName)) hown (mvT hZ (own_W hw 44 rfl)) (mvT hZ (own_W hw 45 rfl)) (mvT hZ (own_W hw 47 rfl)) (Cond.privateMethod_at (mvP hZ (own_W hw 46 rfl) (args := #[]))) (mvT hZ (own_W hw 48 rfl)) (by decide) (backOf (W := 0) (rm7_1 l Z a0 hw [] pr0 pr1 w_arr kk_w_arr c0_w_arr c1_w_arr c2_w_arr c3_w_arr c4_w_arr c5_w_arr c6_w_arr c7_w_arr c8_w_arr c9_w_arr (.int (w_mod + (1 : Int32))) h2 n0 z11 o12 f7 f8 f9 ovr_w_arr Fw2 f4 f6 g_w_arr (Ne.symm ne_w_arr_pr0) g_pr0) hZ (own_W hw 48 rfl) (own_W hw 3 rfl) (by decide) (by decide)) (g := (mkF m 20 #[.val (.ref pr0), .val (.ref pr1)] [(.int (1 : Int32)), (.ref w_arr), (.ref pr1), (.ref pr0)])) rfl (by rw [hml]; rfl) (Steps.refl _) (a := pr0) (by rw [e5]; exact q10) q10' (argsL := [(.ref pr1), (.ref w_arr), (.int (1 : Int32))]) (rest := []) (lenOf pd_3 rfl) rfl (by show 2 * 0 + _ ≤ _; exact Nat.le_of_eq rfl) (hb hby d6_20) (fun _ _ => ⟨rfl, e5, (by decide : 0 + 0 ≤ _), (by decide : 0 + 0 ≤ _)⟩)
  dsimp only [Pt.U, Pt.locs, Pt.cells, Pt.slots] at X10 l10 y10 z10 st10 hQ10
  subst l10 y10 z10
  obtain ⟨rfl, N10q, K10, qf10_0, qf10_1, qf10_2, qf10_3, qf10_4, qf10_5⟩ := hQ10
  have N10 := Fr.app N2 N10q
  have k13 : Keep h0 h2 [pr0, w_arr] := (Keep.refl h0 [pr0, w_arr]).wr W2 (Or.inl (List.mem_of_getElem? (i := 0) rfl))
  have k14 : Keep h0 T10.heap [pr0, w_arr] := k13.trans K10 (allS (Or.inl (List.mem_of_getElem? (i := 0) rfl)) (allS (Or.inl (List.mem_of_getElem? (i := 1) rfl)) all0))
  obtain ⟨fs, hr, hrun, hended, hW, hsame⟩ := X10.leave (v := some (.int (1 : Int32))) (fun h => by rw [Bd.returns] at h; cases h)
  refine ⟨_, _, pre0 _ ?_, hrun, hended, _, _, rfl, ?_, ⟨_, rfl⟩, hW, hsame.mono (by decide) (by decide)⟩
  · show Stp p e below s₁ m 0 #[.val (.ref pr0), .val (.ref pr1)] [] _
    refine XS.aloadN X0.here hx rfl (hb hby d6_0) rfl rfl ?_
    show Stp p e below s₁ m 1 #[.val (.ref pr0), .val (.ref pr1)] [(.ref pr0)] _
    refine XS.dup X0.here hx rfl (hb hby d6_1) rfl rfl ?_
    show Stp p e below s₁ m 2 #[.val (.ref pr0), .val (.ref pr1)] [(.ref pr0), (.ref pr0)] _
    refine st1 _ ?_
    show Stp p e below T1 m 5 #[.val (.ref pr0), .val (.ref pr1)] [(.int w_mod), (.ref pr0)] _
    refine XS.iconst X1.here hx rfl (hb hby d6_5) ?_
    show Stp p e below T1 m 6 #[.val (.ref pr0), .val (.ref pr1)] [(.int (1 : Int32)), (.int w_mod), (.ref pr0)] _
    refine XS.iadd X1.here hx rfl (hb hby d6_6) rfl ?_
    show Stp p e below T1 m 7 #[.val (.ref pr0), .val (.ref pr1)] [(.int (w_mod + (1 : Int32))), (.ref pr0)] _
    refine st2 _ ?_
    show Stp p e below T2 m 10 #[.val (.ref pr0), .val (.ref pr1)] [] _
    refine XS.aloadN X2.here hx rfl (hb hby d6_10) rfl rfl ?_
    show Stp p e below T2 m 11 #[.val (.ref pr0), .val (.ref pr1)] [(.ref pr0)] _
    refine XS.aloadN X2.here hx rfl (hb hby d6_11) rfl rfl ?_
    show Stp p e below T2 m 12 #[.val (.ref pr0), .val (.ref pr1)] [(.ref pr1), (.ref pr0)] _
    refine XS.aloadN X2.here hx rfl (hb hby d6_12) rfl rfl ?_
    show Stp p e below T2 m 13 #[.val (.ref pr0), .val (.ref pr1)] [(.ref pr0), (.ref pr1), (.ref pr0)] _
    refine st3 _ ?_
    show Stp p e below T3 m 16 #[.val (.ref pr0), .val (.ref pr1)] [(.ref w_arr), (.ref pr1), (.ref pr0)] _
    refine XS.aloadN X3.here hx rfl (hb hby d6_16) rfl rfl ?_
    show Stp p e below T3 m 17 #[.val (.ref pr0), .val (.ref pr1)] [(.ref pr0), (.ref w_arr), (.ref pr1), (.ref pr0)] _
    refine st5 _ ?_
    show Stp p e below T5 m 20 #[.val (.ref pr0), .val (.ref pr1)] [(.int (1 : Int32)), (.ref w_arr), (.ref pr1), (.ref pr0)] _
    refine st10.trans ?_
    show Stp p e below T10 m 23 #[.val (.ref pr0), .val (.ref pr1)] [] _
    refine XS.iconst X10.here hx rfl (hb hby d6_23) ?_
    show Stp p e below T10 m 24 #[.val (.ref pr0), .val (.ref pr1)] [(.int (1 : Int32))] _
    exact retN X10 hx (t := .boolean) Bd.returns (by simp) (hb hby d6_24) hr
  · show Q6_1 Z pr0 pr1 w_mod w_arr kk_w_arr c0_w_arr c1_w_arr c2_w_arr c3_w_arr c4_w_arr c5_w_arr c6_w_arr c7_w_arr c8_w_arr c9_w_arr h0 n0 _ T10.heap _
    exact ⟨rfl, N10, k14, qf10_0, qf10_1, qf10_2, qf10_3, qf10_4, qf10_5⟩
def Q6_2 (Z : State) (pr0 : Addr) (pr1 : Addr) (w_mod : Int32) (w_arr : Addr) (kk_w_arr : ClassId) (c0_w_arr : Value) (c1_w_arr : Value) (c2_w_arr : Value) (c3_w_arr : Value) (c4_w_arr : Value) (c5_w_arr : Value) (c6_w_arr : Value) (c7_w_arr : Value) (c8_w_arr : Value) (c9_w_arr : Value) (h0 : Heap) (n0 : Nat) (v : Option Value) (h : Heap) (L : List Loc) : Prop := v = some (.int (1 : Int32)) ∧ Fr n0 L ∧ Keep h0 h [pr0, w_arr] ∧ Exa Z h pr0 "java/util/ArrayList" ∧ Fld Z h pr0 "java/util/AbstractList" "modCount" "I" (.int (w_mod + (1 : Int32))) ∧ Fld Z h pr0 "java/util/ArrayList" "elementData" "[Ljava/lang/Object;" (.ref w_arr) ∧ Fld Z h pr0 "java/util/ArrayList" "size" "I" (.int (3 : Int32)) ∧ Arv Z h w_arr kk_w_arr (.object "java/lang/Object") (10 : Int32) [c0_w_arr, c1_w_arr, (.ref pr1), c3_w_arr, c4_w_arr, c5_w_arr, c6_w_arr, c7_w_arr, c8_w_arr, c9_w_arr] .null ∧ Ovr Z kk_w_arr "java/lang/Object"
set_option maxRecDepth 65536 in
set_option maxHeartbeats 40000000 in
theorem rm6_2 (l : Launch) (Z : State) (a0 : Array Value) (hw : ∀ d ∈ tables_1, d.before a0 Z = true) (ws : List Jvm.Cond) (pr0 : Addr) (pr1 : Addr) (w_mod : Int32) (w_arr : Addr) (kk_w_arr : ClassId) (c0_w_arr : Value) (c1_w_arr : Value) (c2_w_arr : Value) (c3_w_arr : Value) (c4_w_arr : Value) (c5_w_arr : Value) (c6_w_arr : Value) (c7_w_arr : Value) (c8_w_arr : Value) (c9_w_arr : Value) (h0 : Heap) (n0 : Nat) (Z0 : n0 ≤ h0.size) (O0 : Old Z n0 h0) (E_pr0 : Exa Z h0 pr0 "java/util/ArrayList") (E_pr1 : Exa Z h0 pr1 "[B") (F_modCount_pr0 : Fld Z h0 pr0 "java/util/AbstractList" "modCount" "I" (.int w_mod)) (F_elementData_pr0 : Fld Z h0 pr0 "java/util/ArrayList" "elementData" "[Ljava/lang/Object;" (.ref w_arr)) (V_w_arr : Arv Z h0 w_arr kk_w_arr (.object "java/lang/Object") (10 : Int32) [c0_w_arr, c1_w_arr, c2_w_arr, c3_w_arr, c4_w_arr, c5_w_arr, c6_w_arr, c7_w_arr, c8_w_arr, c9_w_arr] .null) (ovr_w_arr : Ovr Z kk_w_arr "java/lang/Object") (F_size_pr0 : Fld Z h0 pr0 "java/util/ArrayList" "size" "I" (.int (2 : Int32))) (g_pr0 : n0 ≤ pr0) (ne_w_arr_pr0 : w_arr ≠ pr0) (g_w_arr : n0 ≤ w_arr) :
    MetFree l (⟨"java/util/ArrayList", "add", "(Ljava/lang/Object;)Z"⟩ : MethodName) (head1 (Jvm.Cond.code (⟨"java/util/ArrayList", "add", "(Ljava/lang/Object;)Z"⟩ : MethodName) jdk_38_method_25_code 2 (some .boolean) :: ws) ({ frames := 1, cells := 0, slots := 0, locals := 15 } : Room)) (fun a U => a = #[(.ref pr0), (.ref pr1)] ∧ Z.Warmed39 U.vm ∧ U.heap = h0) (fun _ _ _ _ _ => True) (fun _ U o U' => ∃ v L, o = .returned v ∧ Q6_2 Z pr0 pr1 w_mod w_arr kk_w_arr c0_w_arr c1_w_arr c2_w_arr c3_w_arr c4_w_arr c5_w_arr c6_w_arr c7_w_arr c8_w_arr c9_w_arr h0 n0 v U'.heap L ∧ FrameEnd U o U' L ({ frames := 1, cells := 0, slots := 0, locals := 15 } : Room).cells ({ frames := 1, cells := 0, slots := 0, locals := 15 } : Room).slots) := by
  refine MetFree.of_bodySF (plainFor_of_name pn_6) hisR ?_
  intro p e s m args below meth c s₁ Bd hml0 hP hK
  obtain ⟨rfl, hZ, hh⟩ := hP
  have hx := Bd.exec
  have hby := Bd.bytes
  have hml : c.maxLocals = 2 := hml0
  have hown : s.vm.findClass "java/util/ArrayList" = some m.cls := findClass_of_methodNamed Bd.named
  have hnm := (name_of_methodNamed Bd.named Bd.method).1
  have X0 : Stand p l e ({ frames := 1, cells := 0, slots := 0, locals := 15 } : Room) s m #[(.ref pr0), (.ref pr1)] below meth c s₁ [] 0 0 := Stand.of_body Bd
  have e0 : s₁.heap = h0 := by rw [← hh, Bd.state]; rfl
  have N0 := Fr.nil n0
  have pre0 : ∀ t, Steps p.tables e below (s₁.setTop (mkF m 0 #[.val (.ref pr0), .val (.ref pr1)] [])) t → Steps p.tables e below (s₁.setTop (entryFrame m #[(.ref pr0), (.ref pr1)] 2)) t := fun t k => castTop (ef_6 m pr0 pr1) k
  obtain ⟨T1, X1, e1, st1⟩ := getF X0 hx hZ hown (host := "") (Or.inl (own_W hw 40 rfl)) (Via.of (own_W hw 41 rfl)) e0 F_modCount_pr0 (g := (mkF m 2 #[.val (.ref pr0), .val (.ref pr1)] [(.ref pr0), (.ref pr0)])) rfl rfl (hb hby d6_2)
  obtain ⟨T2, h2, X2, e2, W2, st2⟩ := putF X1 hx hZ hown (host := "") (Or.inl (own_W hw 40 rfl)) (Via.of (own_W hw 41 rfl)) e1 F_modCount_pr0 E_pr0 (Or.inl (own_W hw 23 rfl)) (own_W hw 2 rfl) (ty := .int) (by decide) rfl rfl (g := (mkF m 7 #[.val (.ref pr0), .val (.ref pr1)] [(.int (w_mod + (1 : Int32))), (.ref pr0)])) rfl rfl (hb hby d6_7)
  have Fw2 := F_modCount_pr0.same W2
  have N2 := Fr.snoc X2 N0 g_pr0
  have f4 := F_elementData_pr0.other W2 (Or.inr (slot_ne (Or.inl (own_W hw 26 rfl)) (Or.inl (own_W hw 23 rfl)) (by decide) (t := (.array (.object "java/lang/Object"))) (t' := .int) (by decide) (by decide)))
  obtain ⟨T3, X3, e3, st3⟩ := getF X2 hx hZ hown (host := "") (Or.inl (own_W hw 25 rfl)) Via.refl e2 f4 (g := (mkF m 13 #[.val (.ref pr0), .val (.ref pr1)] [(.ref pr0), (.ref pr1), (.ref pr0)])) rfl rfl (hb hby d6_13)
  have f6 := F_size_pr0.other W2 (Or.inr (slot_ne (Or.inl (own_W hw 43 rfl)) (Or.inl (own_W hw 23 rfl)) (by decide) (t := .int) (t' := .int) (by decide) (by decide)))
  obtain ⟨T5, X5, e5, st5⟩ := getF X3 hx hZ hown (host := "") (Or.inl (own_W hw 42 rfl)) Via.refl e3 f6 (g := (mkF m 17 #[.val (.ref pr0), .val (.ref pr1)] [(.ref pr0), (.ref w_arr), (.ref pr1), (.ref pr0)])) rfl rfl (hb hby d6_17)
  have f7 := E_pr0.wr W2
  have f8 := E_pr1.wr W2
  have f9 := V_w_arr.other W2 ne_w_arr_pr0
  have z11 := Nat.le_trans Z0 (Keep.of_wr W2).1
  have o12 := O0.wr W2 g_pr0
  obtain ⟨cq10, q10, q10'⟩ := f7.cell
  obtain ⟨_, _, ⟨T10, L10, k10, n10⟩, -, X10, ⟨Lc10, hQ10, l10, y10, z10⟩, st10⟩ := X5.privateBack hx (y := (⟨"java/util/ArrayList", "add", "(Ljava/lang/Object;[Ljava/lang/Object;I)V"⟩ : MethodName)) hown (mvT hZ (own_W hw 44 rfl)) (mvT hZ (own_W hw 45 rfl)) (mvT hZ (own_W hw 47 rfl)) (Cond.privateMethod_at (mvP hZ (own_W hw 46 rfl) (args := #[]))) (mvT hZ (own_W hw 48 rfl)) (by decide) (backOf (W := 0) (rm7_2 l Z a0 hw [] pr0 pr1 w_arr kk_w_arr c0_w_arr c1_w_arr c2_w_arr c3_w_arr c4_w_arr c5_w_arr c6_w_arr c7_w_arr c8_w_arr c9_w_arr (.int (w_mod + (1 : Int32))) h2 n0 z11 o12 f7 f8 f9 ovr_w_arr Fw2 f4 f6 g_w_arr (Ne.symm ne_w_arr_pr0) g_pr0) hZ (own_W hw 48 rfl) (own_W hw 3 rfl) (by decide) (by decide)) (g := (mkF m 20 #[.val (.ref pr0), .val (.ref pr1)] [(.int (2 : Int32)), (.ref w_arr), (.ref pr1), (.ref pr0)])) rfl (by rw [hml]; rfl) (Steps.refl _) (a := pr0) (by rw [e5]; exact q10) q10' (argsL := [(.ref pr1), (.ref w_arr), (.int (2 : Int32))]) (rest := []) (lenOf pd_3 rfl) rfl (by show 2 * 0 + _ ≤ _; exact Nat.le_of_eq rfl) (hb hby d6_20) (fun _ _ => ⟨rfl, e5, (by decide : 0 + 0 ≤ _), (by decide : 0 + 0 ≤ _)⟩)
  dsimp only [Pt.U, Pt.locs, Pt.cells, Pt.slots] at X10 l10 y10 z10 st10 hQ10
  subst l10 y10 z10
  obtain ⟨rfl, N10q, K10, qf10_0, qf10_1, qf10_2, qf10_3, qf10_4, qf10_5⟩ := hQ10
  have N10 := Fr.app N2 N10q
  have k13 : Keep h0 h2 [pr0, w_arr] := (Keep.refl h0 [pr0, w_arr]).wr W2 (Or.inl (List.mem_of_getElem? (i := 0) rfl))
  have k14 : Keep h0 T10.heap [pr0, w_arr] := k13.trans K10 (allS (Or.inl (List.mem_of_getElem? (i := 0) rfl)) (allS (Or.inl (List.mem_of_getElem? (i := 1) rfl)) all0))
  obtain ⟨fs, hr, hrun, hended, hW, hsame⟩ := X10.leave (v := some (.int (1 : Int32))) (fun h => by rw [Bd.returns] at h; cases h)
  refine ⟨_, _, pre0 _ ?_, hrun, hended, _, _, rfl, ?_, ⟨_, rfl⟩, hW, hsame.mono (by decide) (by decide)⟩
  · show Stp p e below s₁ m 0 #[.val (.ref pr0), .val (.ref pr1)] [] _
    refine XS.aloadN X0.here hx rfl (hb hby d6_0) rfl rfl ?_
    show Stp p e below s₁ m 1 #[.val (.ref pr0), .val (.ref pr1)] [(.ref pr0)] _
    refine XS.dup X0.here hx rfl (hb hby d6_1) rfl rfl ?_
    show Stp p e below s₁ m 2 #[.val (.ref pr0), .val (.ref pr1)] [(.ref pr0), (.ref pr0)] _
    refine st1 _ ?_
    show Stp p e below T1 m 5 #[.val (.ref pr0), .val (.ref pr1)] [(.int w_mod), (.ref pr0)] _
    refine XS.iconst X1.here hx rfl (hb hby d6_5) ?_
    show Stp p e below T1 m 6 #[.val (.ref pr0), .val (.ref pr1)] [(.int (1 : Int32)), (.int w_mod), (.ref pr0)] _
    refine XS.iadd X1.here hx rfl (hb hby d6_6) rfl ?_
    show Stp p e below T1 m 7 #[.val (.ref pr0), .val (.ref pr1)] [(.int (w_mod + (1 : Int32))), (.ref pr0)] _
    refine st2 _ ?_
    show Stp p e below T2 m 10 #[.val (.ref pr0), .val (.ref pr1)] [] _
    refine XS.aloadN X2.here hx rfl (hb hby d6_10) rfl rfl ?_
    show Stp p e below T2 m 11 #[.val (.ref pr0), .val (.ref pr1)] [(.ref pr0)] _
    refine XS.aloadN X2.here hx rfl (hb hby d6_11) rfl rfl ?_
    show Stp p e below T2 m 12 #[.val (.ref pr0), .val (.ref pr1)] [(.ref pr1), (.ref pr0)] _
    refine XS.aloadN X2.here hx rfl (hb hby d6_12) rfl rfl ?_
    show Stp p e below T2 m 13 #[.val (.ref pr0), .val (.ref pr1)] [(.ref pr0), (.ref pr1), (.ref pr0)] _
    refine st3 _ ?_
    show Stp p e below T3 m 16 #[.val (.ref pr0), .val (.ref pr1)] [(.ref w_arr), (.ref pr1), (.ref pr0)] _
    refine XS.aloadN X3.here hx rfl (hb hby d6_16) rfl rfl ?_
    show Stp p e below T3 m 17 #[.val (.ref pr0), .val (.ref pr1)] [(.ref pr0), (.ref w_arr), (.ref pr1), (.ref pr0)] _
    refine st5 _ ?_
    show Stp p e below T5 m 20 #[.val (.ref pr0), .val (.ref pr1)] [(.int (2 : Int32)), (.ref w_arr), (.ref pr1), (.ref pr0)] _
    refine st10.trans ?_
    show Stp p e below T10 m 23 #[.val (.ref pr0), .val (.ref pr1)] [] _
    refine XS.iconst X10.here hx rfl (hb hby d6_23) ?_
    show Stp p e below T10 m 24 #[.val (.ref pr0), .val (.ref pr1)] [(.int (1 : Int32))] _
    exact retN X10 hx (t := .boolean) Bd.returns (by simp) (hb hby d6_24) hr
  · show Q6_2 Z pr0 pr1 w_mod w_arr kk_w_arr c0_w_arr c1_w_arr c2_w_arr c3_w_arr c4_w_arr c5_w_arr c6_w_arr c7_w_arr c8_w_arr c9_w_arr h0 n0 _ T10.heap _
    exact ⟨rfl, N10, k14, qf10_0, qf10_1, qf10_2, qf10_3, qf10_4, qf10_5⟩
theorem d5_0 : decode method_2_code 0 = .ok (.iload_n 0, 1) := by decide +kernel
theorem d5_1 : decode method_2_code 1 = .ok (.iconst 1, 1) := by decide +kernel
theorem d5_2 : decode method_2_code 2 = .ok (.iand, 1) := by decide +kernel
theorem d5_3 : decode method_2_code 3 = .ok (.ifCond .eq 14, 3) := by decide +kernel
theorem d5_17 : decode method_2_code 17 = .ok (.iconst 0, 1) := by decide +kernel
theorem d5_18 : decode method_2_code 18 = .ok (.newarray .byte, 2) := by decide +kernel
theorem d5_20 : decode method_2_code 20 = .ok (.areturn, 1) := by decide +kernel
theorem pn_5 : plainName "com/example/shardwright/shardwright/cli/RowIsBlankPinLaw" = true := by first | (simp [plainName, overriddenIn]; done) | decide +kernel
theorem ef_5 (m : MethodId) (pi1 : Int32) (pi2 : Int32) : entryFrame m #[(.int pi1), (.int pi2)] 3 = mkF m 0 #[.val (.int pi1), .val (.int pi2), .unset] [] := by first | (simp [entryFrame, mkF, argsToLocals, Value.category]; done) | rfl
def Q5_t (Z : State) (pi1 : Int32) (pi2 : Int32) (h0 : Heap) (n0 : Nat) (v : Option Value) (h : Heap) (L : List Loc) : Prop := ∃ b1 : Addr, v = some (.ref b1) ∧ Fr n0 L ∧ Keep h0 h [] ∧ h0.size ≤ b1 ∧ Exa Z h b1 "[B"
set_option maxRecDepth 65536 in
set_option maxHeartbeats 40000000 in
theorem rm5_t (l : Launch) (Z : State) (a0 : Array Value) (hw : ∀ d ∈ tables_1, d.before a0 Z = true) (ws : List Jvm.Cond) (pi1 : Int32) (pi2 : Int32) (h0 : Heap) (n0 : Nat) (Z0 : n0 ≤ h0.size) (O0 : Old Z n0 h0) (hc3_0 : (pi1 &&& (1 : Int32)) = (0 : Int32)) :
    MetFree l (⟨"com/example/shardwright/shardwright/cli/RowIsBlankPinLaw", "field", "(II)[B"⟩ : MethodName) (head1 (Jvm.Cond.code (⟨"com/example/shardwright/shardwright/cli/RowIsBlankPinLaw", "field", "(II)[B"⟩ : MethodName) method_2_code 3 (some (.array .byte)) :: ws) ({ frames := 0, cells := 1, slots := 1, locals := 0 } : Room)) (fun a U => a = #[(.int pi1), (.int pi2)] ∧ Z.Warmed39 U.vm ∧ U.heap = h0) (fun _ _ _ _ _ => True) (fun _ U o U' => ∃ v L, o = .returned v ∧ Q5_t Z pi1 pi2 h0 n0 v U'.heap L ∧ FrameEnd U o U' L ({ frames := 0, cells := 1, slots := 1, locals := 0 } : Room).cells ({ frames := 0, cells := 1, slots := 1, locals := 0 } : Room).slots) := by
  refine MetFree.of_bodySF (plainFor_of_name pn_5) hisR ?_
  intro p e s m args below meth c s₁ Bd hml0 hP hK
  obtain ⟨rfl, hZ, hh⟩ := hP
  have hx := Bd.exec
  have hby := Bd.bytes
  have hml : c.maxLocals = 3 := hml0
  have hown : s.vm.findClass "com/example/shardwright/shardwright/cli/RowIsBlankPinLaw" = some m.cls := findClass_of_methodNamed Bd.named
  have hnm := (name_of_methodNamed Bd.named Bd.method).1
  have X0 : Stand p l e ({ frames := 0, cells := 1, slots := 1, locals := 0 } : Room) s m #[(.int pi1), (.int pi2)] below meth c s₁ [] 0 0 := Stand.of_body Bd
  have e0 : s₁.heap = h0 := by rw [← hh, Bd.state]; rfl
  have N0 := Fr.nil n0
  have pre0 : ∀ t, Steps p.tables e below (s₁.setTop (mkF m 0 #[.val (.int pi1), .val (.int pi2), .unset] [])) t → Steps p.tables e below (s₁.setTop (entryFrame m #[(.int pi1), (.int pi2)] 3)) t := fun t k => castTop (ef_5 m pi1 pi2) k
  obtain ⟨T1, h1, k1, X1, e1, E1, A1, B1, st1⟩ := newPE X0 hx hZ (own_W hw 0 rfl) e0 (g := (mkF m 18 #[.val (.int pi1), .val (.int pi2), .unset] [(.int (0 : Int32))])) rfl (hb hby d5_18) rfl (by decide) (cap := 0) (by decide) (by decide) (by decide) (by decide) (ad := "[B") rfl
  obtain ⟨b1, g1⟩ : ∃ z, z = h0.size := ⟨_, rfl⟩
  rw [← g1] at A1 B1 st1
  have V1 : Arv Z h1 b1 k1 .byte (0 : Int32) [] (.int (0 : Int32)) := (Arv.new A1 (by decide)).pad (pad_rep [] (.int (0 : Int32)) 0)
  have k2 : Keep h0 h1 [] := (Keep.refl h0 []).ext E1
  obtain ⟨fs, hr, hrun, hended, hW, hsame⟩ := X1.leave (v := some (.ref b1)) (fun h => by rw [Bd.returns] at h; cases h)
  refine ⟨_, _, pre0 _ ?_, hrun, hended, _, _, rfl, ?_, ⟨_, rfl⟩, hW, hsame.mono (by decide) (by decide)⟩
  · show Stp p e below s₁ m 0 #[.val (.int pi1), .val (.int pi2), .unset] [] _
    refine XS.iloadN X0.here hx rfl (hb hby d5_0) rfl ?_
    show Stp p e below s₁ m 1 #[.val (.int pi1), .val (.int pi2), .unset] [(.int pi1)] _
    refine XS.iconst X0.here hx rfl (hb hby d5_1) ?_
    show Stp p e below s₁ m 2 #[.val (.int pi1), .val (.int pi2), .unset] [(.int (1 : Int32)), (.int pi1)] _
    refine XS.iand X0.here hx rfl (hb hby d5_2) rfl ?_
    show Stp p e below s₁ m 3 #[.val (.int pi1), .val (.int pi2), .unset] [(.int (pi1 &&& (1 : Int32)))] _
    refine XS.ifYes X0.here hx rfl (pc0 := 3) (pc' := 17) rfl (hb hby d5_3) rfl ((if0 _ _).trans (teq hc3_0).1) (by decide) (by decide) ?_
    show Stp p e below s₁ m 17 #[.val (.int pi1), .val (.int pi2), .unset] [] _
    refine XS.iconst X0.here hx rfl (hb hby d5_17) ?_
    show Stp p e below s₁ m 18 #[.val (.int pi1), .val (.int pi2), .unset] [(.int (0 : Int32))] _
    refine st1 _ ?_
    show Stp p e below T1 m 20 #[.val (.int pi1), .val (.int pi2), .unset] [(.ref b1)] _
    jvm_step X1.here [X1.here.top, hx, (hb hby d5_20), X1.method', Bd.returns, Value.isRef, FieldType.isReference]
    first | (intro acts; rw [hr _ acts rfl rfl rfl]) | rw [hr _ _ rfl rfl rfl]
    exact Steps.refl _
  · show Q5_t Z pi1 pi2 h0 n0 _ T1.heap _
    rw [e1]
    exact ⟨b1, rfl, N0, k2, (Nat.le_trans (Keep.refl h0 []).1 (Nat.le_of_eq g1.symm)), B1⟩
theorem d5_6 : decode method_2_code 6 = .ok (.iconst 1, 1) := by decide +kernel
theorem d5_7 : decode method_2_code 7 = .ok (.newarray .byte, 2) := by decide +kernel
theorem d5_9 : decode method_2_code 9 = .ok (.astore_n 2, 1) := by decide +kernel
theorem d5_10 : decode method_2_code 10 = .ok (.aload_n 2, 1) := by decide +kernel
theorem d5_11 : decode method_2_code 11 = .ok (.iconst 0, 1) := by decide +kernel
theorem d5_12 : decode method_2_code 12 = .ok (.iload_n 1, 1) := by decide +kernel
theorem d5_13 : decode method_2_code 13 = .ok (.i2b, 1) := by decide +kernel
theorem d5_14 : decode method_2_code 14 = .ok (.bastore, 1) := by decide +kernel
theorem d5_15 : decode method_2_code 15 = .ok (.aload_n 2, 1) := by decide +kernel
theorem d5_16 : decode method_2_code 16 = .ok (.areturn, 1) := by decide +kernel
def Q5_f (Z : State) (pi1 : Int32) (pi2 : Int32) (h0 : Heap) (n0 : Nat) (v : Option Value) (h : Heap) (L : List Loc) : Prop := ∃ b1 : Addr, v = some (.ref b1) ∧ Fr n0 L ∧ Keep h0 h [] ∧ h0.size ≤ b1 ∧ Exa Z h b1 "[B"
set_option maxRecDepth 65536 in
set_option maxHeartbeats 40000000 in
theorem rm5_f (l : Launch) (Z : State) (a0 : Array Value) (hw : ∀ d ∈ tables_1, d.before a0 Z = true) (ws : List Jvm.Cond) (pi1 : Int32) (pi2 : Int32) (h0 : Heap) (n0 : Nat) (Z0 : n0 ≤ h0.size) (O0 : Old Z n0 h0) (hc3_0 : ¬ ((pi1 &&& (1 : Int32)) = (0 : Int32))) :
    MetFree l (⟨"com/example/shardwright/shardwright/cli/RowIsBlankPinLaw", "field", "(II)[B"⟩ : MethodName) (head1 (Jvm.Cond.code (⟨"com/example/shardwright/shardwright/cli/RowIsBlankPinLaw", "field", "(II)[B"⟩ : MethodName) method_2_code 3 (some (.array .byte)) :: ws) ({ frames := 0, cells := 1, slots := 1, locals := 0 } : Room)) (fun a U => a = #[(.int pi1), (.int pi2)] ∧ Z.Warmed39 U.vm ∧ U.heap = h0) (fun _ _ _ _ _ => True) (fun _ U o U' => ∃ v L, o = .returned v ∧ Q5_f Z pi1 pi2 h0 n0 v U'.heap L ∧ FrameEnd U o U' L ({ frames := 0, cells := 1, slots := 1, locals := 0 } : Room).cells ({ frames := 0, cells := 1, slots := 1, locals := 0 } : Room).slots) := by
  refine MetFree.of_bodySF (plainFor_of_name pn_5) hisR ?_
  intro p e s m args below meth c s₁ Bd hml0 hP hK
  obtain ⟨rfl, hZ, hh⟩ := hP
  have hx := Bd.exec
  have hby := Bd.bytes
  have hml : c.maxLocals = 3 := hml0
  have hown : s.vm.findClass "com/example/shardwright/shardwright/cli/RowIsBlankPinLaw" = some m.cls := findClass_of_methodNamed Bd.named
  have hnm := (name_of_methodNamed Bd.named Bd.method).1
  have X0 : Stand p l e ({ frames := 0, cells := 1, slots := 1, locals := 0 } : Room) s m #[(.int pi1), (.int pi2)] below meth c s₁ [] 0 0 := Stand.of_body Bd
  have e0 : s₁.heap = h0 := by rw [← hh, Bd.state]; rfl
  have N0 := Fr.nil n0
  have pre0 : ∀ t, Steps p.tables e below (s₁.setTop (mkF m 0 #[.val (.int pi1), .val (.int pi2), .unset] [])) t → Steps p.tables e below (s₁.setTop (entryFrame m #[(.int pi1), (.int pi2)] 3)) t := fun t k => castTop (ef_5 m pi1 pi2) k
  obtain ⟨T1, h1, k1, X1, e1, E1, A1, B1, st1⟩ := newPE X0 hx hZ (own_W hw 0 rfl) e0 (g := (mkF m 7 #[.val (.int pi1), .val (.int pi2), .unset] [(.int (1 : Int32))])) rfl (hb hby d5_7) rfl (by decide) (cap := 1) (by decide) (by decide) (by decide) (by decide) (ad := "[B") rfl
  obtain ⟨b1, g1⟩ : ∃ z, z = h0.size := ⟨_, rfl⟩
  rw [← g1] at A1 B1 st1
  have V1 : Arv Z h1 b1 k1 .byte (1 : Int32) [(.int (0 : Int32))] (.int (0 : Int32)) := (Arv.new A1 (by decide)).pad (pad_rep [] (.int (0 : Int32)) 1)
  have g_b1 : n0 ≤ b1 := Nat.le_trans Z0 (Nat.le_of_eq g1.symm)
  have V_c2 := V1
  obtain ⟨c2, Arc2, qc2, Sc2, Nc2, Hc2, Gc2⟩ := V_c2
  have hin3 : ¬ ((0 : Int32) < 0 ∨ c2.slots.size ≤ ((0 : Int32)).toNatClampNeg) := inb_of Sc2 ⟨by decide, by decide⟩
  obtain ⟨T3, h3, X3, e3, W3, st3⟩ := stB X1 hx hZ e1 Arc2 (j := (0 : Int32)) hin3 (g := (mkF m 14 #[.val (.int pi1), .val (.int pi2), .val (.ref b1)] [(.int (pi2.toInt8.toInt32)), (.int (0 : Int32)), (.ref b1)])) rfl rfl (hb hby d5_14)
  have V3 : Arv Z h3 b1 k1 .byte (1 : Int32) [(.int (nar .byte (pi2.toInt8.toInt32)))] (.int (0 : Int32)) := Arv.set Arc2 qc2 Sc2 Nc2 Hc2 Gc2 (fits_nar_byte _) W3 0 rfl (Nat.le_of_ble_eq_true rfl)
  have N3 := Fr.snoc X3 N0 g_b1
  have k4 : Keep h0 h1 [] := (Keep.refl h0 []).ext E1
  have k5 : Keep h0 h3 [] := k4.wr W3 (Or.inr (Nat.le_trans (Keep.refl h0 []).1 (Nat.le_of_eq g1.symm)))
  have f6 := B1.wr W3
  obtain ⟨fs, hr, hrun, hended, hW, hsame⟩ := X3.leave (v := some (.ref b1)) (fun h => by rw [Bd.returns] at h; cases h)
  refine ⟨_, _, pre0 _ ?_, hrun, hended, _, _, rfl, ?_, ⟨_, rfl⟩, hW, hsame.mono (by decide) (by decide)⟩
  · show Stp p e below s₁ m 0 #[.val (.int pi1), .val (.int pi2), .unset] [] _
    refine XS.iloadN X0.here hx rfl (hb hby d5_0) rfl ?_
    show Stp p e below s₁ m 1 #[.val (.int pi1), .val (.int pi2), .unset] [(.int pi1)] _
    refine XS.iconst X0.here hx rfl (hb hby d5_1) ?_
    show Stp p e below s₁ m 2 #[.val (.int pi1), .val (.int pi2), .unset] [(.int (1 : Int32)), (.int pi1)] _
    refine XS.iand X0.here hx rfl (hb hby d5_2) rfl ?_
    show Stp p e below s₁ m 3 #[.val (.int pi1), .val (.int pi2), .unset] [(.int (pi1 &&& (1 : Int32)))] _
    refine XS.ifNo X0.here hx rfl (hb hby d5_3) rfl ((if0 _ _).trans (feq hc3_0).1) ?_
    show Stp p e below s₁ m 6 #[.val (.int pi1), .val (.int pi2), .unset] [] _
    refine XS.iconst X0.here hx rfl (hb hby d5_6) ?_
    show Stp p e below s₁ m 7 #[.val (.int pi1), .val (.int pi2), .unset] [(.int (1 : Int32))] _
    refine st1 _ ?_
    show Stp p e below T1 m 9 #[.val (.int pi1), .val (.int pi2), .unset] [(.ref b1)] _
    refine XS.astoreN X1.here hx rfl (hb hby d5_9) rfl rfl (l' := #[.val (.int pi1), .val (.int pi2), .val (.ref b1)]) rfl ?_
    show Stp p e below T1 m 10 #[.val (.int pi1), .val (.int pi2), .val (.ref b1)] [] _
    refine XS.aloadN X1.here hx rfl (hb hby d5_10) rfl rfl ?_
    show Stp p e below T1 m 11 #[.val (.int pi1), .val (.int pi2), .val (.ref b1)] [(.ref b1)] _
    refine XS.iconst X1.here hx rfl (hb hby d5_11) ?_
    show Stp p e below T1 m 12 #[.val (.int pi1), .val (.int pi2), .val (.ref b1)] [(.int (0 : Int32)), (.ref b1)] _
    refine XS.iloadN X1.here hx rfl (hb hby d5_12) rfl ?_
    show Stp p e below T1 m 13 #[.val (.int pi1), .val (.int pi2), .val (.ref b1)] [(.int pi2), (.int (0 : Int32)), (.ref b1)] _
    refine XS.i2b X1.here hx rfl (hb hby d5_13) rfl ?_
    show Stp p e below T1 m 14 #[.val (.int pi1), .val (.int pi2), .val (.ref b1)] [(.int (pi2.toInt8.toInt32)), (.int (0 : Int32)), (.ref b1)] _
    refine st3 _ ?_
    show Stp p e below T3 m 15 #[.val (.int pi1), .val (.int pi2), .val (.ref b1)] [] _
    refine XS.aloadN X3.here hx rfl (hb hby d5_15) rfl rfl ?_
    show Stp p e below T3 m 16 #[.val (.int pi1), .val (.int pi2), .val (.ref b1)] [(.ref b1)] _
    jvm_step X3.here [X3.here.top, hx, (hb hby d5_16), X3.method', Bd.returns, Value.isRef, FieldType.isReference]
    first | (intro acts; rw [hr _ acts rfl rfl rfl]) | rw [hr _ _ rfl rfl rfl]
    exact Steps.refl _
  · show Q5_f Z pi1 pi2 h0 n0 _ T3.heap _
    rw [e3]
    exact ⟨b1, rfl, N3, k5, (Nat.le_trans (Keep.refl h0 []).1 (Nat.le_of_eq g1.symm)), f6⟩
theorem rm5 (l : Launch) (Z : State) (a0 : Array Value) (hw : ∀ d ∈ tables_1, d.before a0 Z = true) (ws : List Jvm.Cond) (pi1 : Int32) (pi2 : Int32) (h0 : Heap) (n0 : Nat) (Z0 : n0 ≤ h0.size) (O0 : Old Z n0 h0) :
    MetFree l (⟨"com/example/shardwright/shardwright/cli/RowIsBlankPinLaw", "field", "(II)[B"⟩ : MethodName) (head1 (Jvm.Cond.code (⟨"com/example/shardwright/shardwright/cli/RowIsBlankPinLaw", "field", "(II)[B"⟩ : MethodName) method_2_code 3 (some (.array .byte)) :: ws) ({ frames := 0, cells := 1, slots := 1, locals := 0 } : Room)) (fun a U => a = #[(.int pi1), (.int pi2)] ∧ Z.Warmed39 U.vm ∧ U.heap = h0) (fun _ _ _ _ _ => True) (fun _ U o U' => ∃ v L, o = .returned v ∧ Q5_t Z pi1 pi2 h0 n0 v U'.heap L ∧ FrameEnd U o U' L ({ frames := 0, cells := 1, slots := 1, locals := 0 } : Room).cells ({ frames := 0, cells := 1, slots := 1, locals := 0 } : Room).slots) := by
  by_cases H : (pi1 &&& (1 : Int32)) = (0 : Int32)
  · exact rm5_t l Z a0 hw ws pi1 pi2 h0 n0 Z0 O0 H
  · exact rm5_f l Z a0 hw ws pi1 pi2 h0 n0 Z0 O0 H
theorem d12_0 : decode jdk_30_method_1_code 0 = .ok (.aload_n 0, 1) := by decide +kernel
theorem d12_1 : decode jdk_30_method_1_code 1 = .ok (.invokespecial 1, 3) := by decide +kernel
theorem d12_4 : decode jdk_30_method_1_code 4 = .ok (.return_, 1) := by decide +kernel
theorem pn_12 : plainName "java/lang/Record" = true := by first | (simp [plainName, overriddenIn]; done) | decide +kernel
theorem ef_12 (m : MethodId) (pr0 : Addr) : entryFrame m #[(.ref pr0)] 1 = mkF m 0 #[.val (.ref pr0)] [] := by first | (simp [entryFrame, mkF, argsToLocals, Value.category]; done) | rfl
def Q12 (Z : State) (pr0 : Addr) (h0 : Heap) (n0 : Nat) (v : Option Value) (h : Heap) (L : List Loc) : Prop := v = none ∧ Fr n0 L ∧ h = h0
set_option maxRecDepth 65536 in
set_option maxHeartbeats 40000000 in
theorem rm12 (l : Launch) (Z : State) (a0 : Array Value) (hw : ∀ d ∈ tables_1, d.before a0 Z = true) (ws : List Jvm.Cond) (pr0 : Addr) (h0 : Heap) (n0 : Nat) (Z0 : n0 ≤ h0.size) (O0 : Old Z n0 h0) :
    MetFree l (⟨"java/lang/Record", "<init>", "()V"⟩ : MethodName) (head1 (Jvm.Cond.code (⟨"java/lang/Record", "<init>", "()V"⟩ : MethodName) jdk_30_method_1_code 1 none :: ws) ({ frames := 1, cells := 0, slots := 0, locals := 12 } : Room)) (fun a U => a = #[(.ref pr0)] ∧ Z.Warmed39 U.vm ∧ U.heap = h0) (fun _ _ _ _ _ => True) (fun _ U o U' => ∃ v L, o = .returned v ∧ Q12 Z pr0 h0 n0 v U'.heap L ∧ FrameEnd U o U' L ({ frames := 1, cells := 0, slots := 0, locals := 12 } : Room).cells ({ frames := 1, cells := 0, slots := 0, locals := 12 } : Room).slots) := by
  refine MetFree.of_bodySF (plainFor_of_name pn_12) hisR ?_
  intro p e s m args below meth c s₁ Bd hml0 hP hK
  obtain ⟨rfl, hZ, hh⟩ := hP
  have hx := Bd.exec
  have hby := Bd.bytes
  have hml : c.maxLocals = 1 := hml0
  have hown : s.vm.findClass "java/lang/Record" = some m.cls := findClass_of_methodNamed Bd.named
  have hnm := (name_of_methodNamed Bd.named Bd.method).1
  have X0 : Stand p l e ({ frames := 1, cells := 0, slots := 0, locals := 12 } : Room) s m #[(.ref pr0)] below meth c s₁ [] 0 0 := Stand.of_body Bd
  have e0 : s₁.heap = h0 := by rw [← hh, Bd.state]; rfl
  have N0 := Fr.nil n0
  have pre0 : ∀ t, Steps p.tables e below (s₁.setTop (mkF m 0 #[.val (.ref pr0)] [])) t → Steps p.tables e below (s₁.setTop (entryFrame m #[(.ref pr0)] 1)) t := fun t k => castTop (ef_12 m pr0) k
  obtain ⟨T1, X1, e1, st1⟩ := initO X0 hx hZ hown (own_W hw 77 rfl) (own_W hw 20 rfl) (own_W hw 21 rfl) e0 (g := (mkF m 1 #[.val (.ref pr0)] [(.ref pr0)])) rfl (by rw [hml]; rfl) rfl (hb hby d12_1) (by decide) (W := 0) (by show 2 * 0 + _ ≤ _; exact Nat.le_of_eq rfl) (by decide)
  obtain ⟨fs, hr, hrun, hended, hW, hsame⟩ := X1.leave (v := none) (fun _ => rfl)
  refine ⟨_, _, pre0 _ ?_, hrun, hended, _, _, rfl, ?_, ⟨_, rfl⟩, hW, hsame.mono (by decide) (by decide)⟩
  · show Stp p e below s₁ m 0 #[.val (.ref pr0)] [] _
    refine XS.aloadN X0.here hx rfl (hb hby d12_0) rfl rfl ?_
    show Stp p e below s₁ m 1 #[.val (.ref pr0)] [(.ref pr0)] _
    refine st1 _ ?_
    show Stp p e below T1 m 4 #[.val (.ref pr0)] [] _
    exact X1.returnOut hx Bd.returns (hb hby d12_4) hr
  · show Q12 Z pr0 h0 n0 _ T1.heap _
    rw [e1]
    exact ⟨rfl, N0, rfl⟩
theorem d11_0 : decode prog_9_method_1_code 0 = .ok (.aload_n 0, 1) := by decide +kernel
theorem d11_1 : decode prog_9_method_1_code 1 = .ok (.invokespecial 1, 3) := by decide +kernel
theorem d11_4 : decode prog_9_method_1_code 4 = .ok (.aload_n 0, 1) := by decide +kernel
theorem d11_5 : decode prog_9_method_1_code 5 = .ok (.lload_n 1, 1) := by decide +kernel
theorem d11_6 : decode prog_9_method_1_code 6 = .ok (.putfield 7, 3) := by decide +kernel
theorem d11_9 : decode prog_9_method_1_code 9 = .ok (.aload_n 0, 1) := by decide +kernel
theorem d11_10 : decode prog_9_method_1_code 10 = .ok (.aload_n 3, 1) := by decide +kernel
theorem d11_11 : decode prog_9_method_1_code 11 = .ok (.putfield 13, 3) := by decide +kernel
theorem d11_14 : decode prog_9_method_1_code 14 = .ok (.aload_n 0, 1) := by decide +kernel
theorem d11_15 : decode prog_9_method_1_code 15 = .ok (.aload 4, 2) := by decide +kernel
theorem d11_17 : decode prog_9_method_1_code 17 = .ok (.putfield 17, 3) := by decide +kernel
theorem d11_20 : decode prog_9_method_1_code 20 = .ok (.return_, 1) := by decide +kernel
theorem pn_11 : plainName "com/example/shardwright/shardwright/cli/CsvReader$Row" = true := by first | (simp [plainName, overriddenIn]; done) | decide +kernel
theorem ef_11 (m : MethodId) (pr0 : Addr) (pl1 : Int64) (pr2 : Addr) (pr3 : Addr) : entryFrame m #[(.ref pr0), (.long pl1), (.ref pr2), (.ref pr3)] 5 = mkF m 0 #[.val (.ref pr0), .val (.long pl1), .second, .val (.ref pr2), .val (.ref pr3)] [] := by first | (simp [entryFrame, mkF, argsToLocals, Value.category]; done) | rfl
def Q11 (Z : State) (pr0 : Addr) (pl1 : Int64) (pr2 : Addr) (pr3 : Addr) (u_line_pr0 : Value) (u_text_pr0 : Value) (u_fields_pr0 : Value) (h0 : Heap) (n0 : Nat) (v : Option Value) (h : Heap) (L : List Loc) : Prop := v = none ∧ Fr n0 L ∧ Keep h0 h [pr0] ∧ Exa Z h pr0 "com/example/shardwright/shardwright/cli/CsvReader$Row" ∧ Fld Z h pr0 "com/example/shardwright/shardwright/cli/CsvReader$Row" "line" "J" (.long pl1) ∧ Fld Z h pr0 "com/example/shardwright/shardwright/cli/CsvReader$Row" "text" "[B" (.ref pr2) ∧ Fld Z h pr0 "com/example/shardwright/shardwright/cli/CsvReader$Row" "fields" "Ljava/util/List;" (.ref pr3)
set_option maxRecDepth 65536 in
set_option maxHeartbeats 40000000 in
theorem rm11 (l : Launch) (Z : State) (a0 : Array Value) (hw : ∀ d ∈ tables_1, d.before a0 Z = true) (ws : List Jvm.Cond) (pr0 : Addr) (pl1 : Int64) (pr2 : Addr) (pr3 : Addr) (u_line_pr0 : Value) (u_text_pr0 : Value) (u_fields_pr0 : Value) (h0 : Heap) (n0 : Nat) (Z0 : n0 ≤ h0.size) (O0 : Old Z n0 h0) (E_pr0 : Exa Z h0 pr0 "com/example/shardwright/shardwright/cli/CsvReader$Row") (F_line_pr0 : Fld Z h0 pr0 "com/example/shardwright/shardwright/cli/CsvReader$Row" "line" "J" u_line_pr0) (g_pr0 : n0 ≤ pr0) (F_text_pr0 : Fld Z h0 pr0 "com/example/shardwright/shardwright/cli/CsvReader$Row" "text" "[B" u_text_pr0) (F_fields_pr0 : Fld Z h0 pr0 "com/example/shardwright/shardwright/cli/CsvReader$Row" "fields" "Ljava/util/List;" u_fields_pr0) :
    MetFree l (⟨"com/example/shardwright/shardwright/cli/CsvReader$Row", "<init>", "(J[BLjava/util/List;)V"⟩ : MethodName) (head1 (Jvm.Cond.code (⟨"com/example/shardwright/shardwright/cli/CsvReader$Row", "<init>", "(J[BLjava/util/List;)V"⟩ : MethodName) prog_9_method_1_code 5 none :: ws) ({ frames := 2, cells := 0, slots := 0, locals := 24 } : Room)) (fun a U => a = #[(.ref pr0), (.long pl1), (.ref pr2), (.ref pr3)] ∧ Z.Warmed39 U.vm ∧ U.heap = h0) (fun _ _ _ _ _ => True) (fun _ U o U' => ∃ v L, o = .returned v ∧ Q11 Z pr0 pl1 pr2 pr3 u_line_pr0 u_text_pr0 u_fields_pr0 h0 n0 v U'.heap L ∧ FrameEnd U o U' L ({ frames := 2, cells := 0, slots := 0, locals := 24 } : Room).cells ({ frames := 2, cells := 0, slots := 0, locals := 24 } : Room).slots) := by
  refine MetFree.of_bodySF (plainFor_of_name pn_11) hisR ?_
  intro p e s m args below meth c s₁ Bd hml0 hP hK
  obtain ⟨rfl, hZ, hh⟩ := hP
  have hx := Bd.exec
  have hby := Bd.bytes
  have hml : c.maxLocals = 5 := hml0
  have hown : s.vm.findClass "com/example/shardwright/shardwright/cli/CsvReader$Row" = some m.cls := findClass_of_methodNamed Bd.named
  have hnm := (name_of_methodNamed Bd.named Bd.method).1
  have X0 : Stand p l e ({ frames := 2, cells := 0, slots := 0, locals := 24 } : Room) s m #[(.ref pr0), (.long pl1), (.ref pr2), (.ref pr3)] below meth c s₁ [] 0 0 := Stand.of_body Bd
  have e0 : s₁.heap = h0 := by rw [← hh, Bd.state]; rfl
  have N0 := Fr.nil n0
  have pre0 : ∀ t, Steps p.tables e below (s₁.setTop (mkF m 0 #[.val (.ref pr0), .val (.long pl1), .second, .val (.ref pr2), .val (.ref pr3)] [])) t → Steps p.tables e below (s₁.setTop (entryFrame m #[(.ref pr0), (.long pl1), (.ref pr2), (.ref pr3)] 5)) t := fun t k => castTop (ef_11 m pr0 pl1 pr2 pr3) k
  obtain ⟨_, _, ⟨T1, L1, k1, n1⟩, -, X1, ⟨Lc1, hQ1, l1, y1, z1⟩, st1⟩ := X0.specialBack hx (y := (⟨"java/lang/Record", "<init>", "()V"⟩ : MethodName)) rfl hown (mvT hZ (own_W hw 72 rfl)) (mvT hZ (own_W hw 73 rfl)) (mvT hZ (own_W hw 76 rfl)) (by decide) (backOf (W := 0) (rm12 l Z a0 hw [] pr0 h0 n0 Z0 O0 ) hZ (own_W hw 76 rfl) (own_W hw 75 rfl) (by decide) (by decide)) (g := (mkF m 1 #[.val (.ref pr0), .val (.long pl1), .second, .val (.ref pr2), .val (.ref pr3)] [(.ref pr0)])) rfl (by rw [hml]; rfl) (Steps.refl _) (a := pr0) (argsL := []) (rest := []) (lenOf pd_0 rfl) rfl (by show 2 * 0 + _ ≤ _; exact Nat.le_of_eq rfl) (hb hby d11_1) (fun _ _ => ⟨rfl, e0, (by decide : 0 + 0 ≤ _), (by decide : 0 + 0 ≤ _)⟩)
  dsimp only [Pt.U, Pt.locs, Pt.cells, Pt.slots] at X1 l1 y1 z1 st1 hQ1
  subst l1 y1 z1
  obtain ⟨rfl, N1q, eq1⟩ := hQ1
  have N1 := Fr.app N0 N1q
  obtain ⟨T2, h2, X2, e2, W2, st2⟩ := putF X1 hx hZ hown (host := "") (Or.inl (own_W hw 78 rfl)) Via.refl eq1 F_line_pr0 E_pr0 (Or.inr ⟨(own_W hw 79 rfl), rfl, hnm⟩) (own_W hw 67 rfl) (ty := .long) (by decide) rfl rfl (g := (mkF m 6 #[.val (.ref pr0), .val (.long pl1), .second, .val (.ref pr2), .val (.ref pr3)] [(.long pl1), (.ref pr0)])) rfl rfl (hb hby d11_6)
  have Fw2 := F_line_pr0.same W2
  have N2 := Fr.snoc X2 N1 g_pr0
  have f3 := F_text_pr0.other W2 (Or.inr (slot_ne (Or.inr (own_W hw 81 rfl)) (Or.inr (own_W hw 79 rfl)) (by decide) (t := (.array .byte)) (t' := .long) (by decide) (by decide)))
  have f4 := E_pr0.wr W2
  obtain ⟨T5, h5, X5, e5, W5, st5⟩ := putF X2 hx hZ hown (host := "") (Or.inl (own_W hw 80 rfl)) Via.refl e2 f3 f4 (Or.inr ⟨(own_W hw 81 rfl), rfl, hnm⟩) (own_W hw 67 rfl) (ty := (.array .byte)) (by decide) rfl rfl (g := (mkF m 11 #[.val (.ref pr0), .val (.long pl1), .second, .val (.ref pr2), .val (.ref pr3)] [(.ref pr2), (.ref pr0)])) rfl rfl (hb hby d11_11)
  have Fw5 := f3.same W5
  have N5 := Fr.snoc X5 N2 g_pr0
  have f6 := F_fields_pr0.other W2 (Or.inr (slot_ne (Or.inr (own_W hw 83 rfl)) (Or.inr (own_W hw 79 rfl)) (by decide) (t := (.object "java/util/List")) (t' := .long) (by decide) (by decide)))
  have f7 := f6.other W5 (Or.inr (slot_ne (Or.inr (own_W hw 83 rfl)) (Or.inr (own_W hw 81 rfl)) (by decide) (t := (.object "java/util/List")) (t' := (.array .byte)) (by decide) (by decide)))
  have f8 := f4.wr W5
  obtain ⟨T9, h9, X9, e9, W9, st9⟩ := putF X5 hx hZ hown (host := "") (Or.inl (own_W hw 82 rfl)) Via.refl e5 f7 f8 (Or.inr ⟨(own_W hw 83 rfl), rfl, hnm⟩) (own_W hw 67 rfl) (ty := (.object "java/util/List")) (by decide) rfl rfl (g := (mkF m 17 #[.val (.ref pr0), .val (.long pl1), .second, .val (.ref pr2), .val (.ref pr3)] [(.ref pr3), (.ref pr0)])) rfl rfl (hb hby d11_17)
  have Fw9 := f7.same W9
  have N9 := Fr.snoc X9 N5 g_pr0
  have k10 : Keep h0 h2 [pr0] := (Keep.refl h0 [pr0]).wr W2 (Or.inl (List.mem_of_getElem? (i := 0) rfl))
  have k11 : Keep h0 h5 [pr0] := k10.wr W5 (Or.inl (List.mem_of_getElem? (i := 0) rfl))
  have k12 : Keep h0 h9 [pr0] := k11.wr W9 (Or.inl (List.mem_of_getElem? (i := 0) rfl))
  have f13 := f8.wr W9
  have f14 := Fw2.other W5 (Or.inr (slot_ne (Or.inr (own_W hw 79 rfl)) (Or.inr (own_W hw 81 rfl)) (by decide) (t := .long) (t' := (.array .byte)) (by decide) (by decide)))
  have f15 := f14.other W9 (Or.inr (slot_ne (Or.inr (own_W hw 79 rfl)) (Or.inr (own_W hw 83 rfl)) (by decide) (t := .long) (t' := (.object "java/util/List")) (by decide) (by decide)))
  have f16 := Fw5.other W9 (Or.inr (slot_ne (Or.inr (own_W hw 81 rfl)) (Or.inr (own_W hw 83 rfl)) (by decide) (t := (.array .byte)) (t' := (.object "java/util/List")) (by decide) (by decide)))
  obtain ⟨fs, hr, hrun, hended, hW, hsame⟩ := X9.leave (v := none) (fun _ => rfl)
  refine ⟨_, _, pre0 _ ?_, hrun, hended, _, _, rfl, ?_, ⟨_, rfl⟩, hW, hsame.mono (by decide) (by decide)⟩
  · show Stp p e below s₁ m 0 #[.val (.ref pr0), .val (.long pl1), .second, .val (.ref pr2), .val (.ref pr3)] [] _
    refine XS.aloadN X0.here hx rfl (hb hby d11_0) rfl rfl ?_
    show Stp p e below s₁ m 1 #[.val (.ref pr0), .val (.long pl1), .second, .val (.ref pr2), .val (.ref pr3)] [(.ref pr0)] _
    refine st1.trans ?_
    show Stp p e below T1 m 4 #[.val (.ref pr0), .val (.long pl1), .second, .val (.ref pr2), .val (.ref pr3)] [] _
    refine XS.aloadN X1.here hx rfl (hb hby d11_4) rfl rfl ?_
    show Stp p e below T1 m 5 #[.val (.ref pr0), .val (.long pl1), .second, .val (.ref pr2), .val (.ref pr3)] [(.ref pr0)] _
    refine XS.lloadN X1.here hx rfl (hb hby d11_5) rfl ?_
    show Stp p e below T1 m 6 #[.val (.ref pr0), .val (.long pl1), .second, .val (.ref pr2), .val (.ref pr3)] [(.long pl1), (.ref pr0)] _
    refine st2 _ ?_
    show Stp p e below T2 m 9 #[.val (.ref pr0), .val (.long pl1), .second, .val (.ref pr2), .val (.ref pr3)] [] _
    refine XS.aloadN X2.here hx rfl (hb hby d11_9) rfl rfl ?_
    show Stp p e below T2 m 10 #[.val (.ref pr0), .val (.long pl1), .second, .val (.ref pr2), .val (.ref pr3)] [(.ref pr0)] _
    refine XS.aloadN X2.here hx rfl (hb hby d11_10) rfl rfl ?_
    show Stp p e below T2 m 11 #[.val (.ref pr0), .val (.long pl1), .second, .val (.ref pr2), .val (.ref pr3)] [(.ref pr2), (.ref pr0)] _
    refine st5 _ ?_
    show Stp p e below T5 m 14 #[.val (.ref pr0), .val (.long pl1), .second, .val (.ref pr2), .val (.ref pr3)] [] _
    refine XS.aloadN X5.here hx rfl (hb hby d11_14) rfl rfl ?_
    show Stp p e below T5 m 15 #[.val (.ref pr0), .val (.long pl1), .second, .val (.ref pr2), .val (.ref pr3)] [(.ref pr0)] _
    refine XS.aload X5.here hx rfl (hb hby d11_15) rfl rfl ?_
    show Stp p e below T5 m 17 #[.val (.ref pr0), .val (.long pl1), .second, .val (.ref pr2), .val (.ref pr3)] [(.ref pr3), (.ref pr0)] _
    refine st9 _ ?_
    show Stp p e below T9 m 20 #[.val (.ref pr0), .val (.long pl1), .second, .val (.ref pr2), .val (.ref pr3)] [] _
    exact X9.returnOut hx Bd.returns (hb hby d11_20) hr
  · show Q11 Z pr0 pl1 pr2 pr3 u_line_pr0 u_text_pr0 u_fields_pr0 h0 n0 _ T9.heap _
    rw [e9]
    exact ⟨rfl, N9, k12, f13, f15, f16, Fw9⟩
theorem d13_0 : decode prog_9_method_2_code 0 = .ok (.aload_n 0, 1) := by decide +kernel
theorem d13_1 : decode prog_9_method_2_code 1 = .ok (.getfield 13, 3) := by decide +kernel
theorem d13_4 : decode prog_9_method_2_code 4 = .ok (.arraylength, 1) := by decide +kernel
theorem d13_5 : decode prog_9_method_2_code 5 = .ok (.ifCond .ne 7, 3) := by decide +kernel
theorem d13_8 : decode prog_9_method_2_code 8 = .ok (.iconst 1, 1) := by decide +kernel
theorem d13_9 : decode prog_9_method_2_code 9 = .ok (.goto 4, 3) := by decide +kernel
theorem d13_13 : decode prog_9_method_2_code 13 = .ok (.ireturn, 1) := by decide +kernel
theorem pn_13 : plainName "com/example/shardwright/shardwright/cli/CsvReader$Row" = true := by first | (simp [plainName, overriddenIn]; done) | decide +kernel
theorem ef_13 (m : MethodId) (pr0 : Addr) : entryFrame m #[(.ref pr0)] 1 = mkF m 0 #[.val (.ref pr0)] [] := by first | (simp [entryFrame, mkF, argsToLocals, Value.category]; done) | rfl
def Q13_0 (Z : State) (pr0 : Addr) (w_text_pr0 : Addr) (kk_w_text_pr0 : ClassId) (h0 : Heap) (n0 : Nat) (v : Option Value) (h : Heap) (L : List Loc) : Prop := v = some (.int (1 : Int32)) ∧ Fr n0 L ∧ h = h0
set_option maxRecDepth 65536 in
set_option maxHeartbeats 40000000 in
theorem rm13_0 (l : Launch) (Z : State) (a0 : Array Value) (hw : ∀ d ∈ tables_1, d.before a0 Z = true) (ws : List Jvm.Cond) (pr0 : Addr) (w_text_pr0 : Addr) (kk_w_text_pr0 : ClassId) (h0 : Heap) (n0 : Nat) (Z0 : n0 ≤ h0.size) (O0 : Old Z n0 h0) (F_text_pr0 : Fld Z h0 pr0 "com/example/shardwright/shardwright/cli/CsvReader$Row" "text" "[B" (.ref w_text_pr0)) (V_w_text_pr0 : Arv Z h0 w_text_pr0 kk_w_text_pr0 .byte (0 : Int32) [] (.int (0 : Int32))) :
    MetFree l (⟨"com/example/shardwright/shardwright/cli/CsvReader$Row", "isBlank", "()Z"⟩ : MethodName) (head1 (Jvm.Cond.code (⟨"com/example/shardwright/shardwright/cli/CsvReader$Row", "isBlank", "()Z"⟩ : MethodName) prog_9_method_2_code 1 (some .boolean) :: ws) ({ frames := 0, cells := 0, slots := 0, locals := 0 } : Room)) (fun a U => a = #[(.ref pr0)] ∧ Z.Warmed39 U.vm ∧ U.heap = h0) (fun _ _ _ _ _ => True) (fun _ U o U' => ∃ v L, o = .returned v ∧ Q13_0 Z pr0 w_text_pr0 kk_w_text_pr0 h0 n0 v U'.heap L ∧ FrameEnd U o U' L ({ frames := 0, cells := 0, slots := 0, locals := 0 } : Room).cells ({ frames := 0, cells := 0, slots := 0, locals := 0 } : Room).slots) := by
  refine MetFree.of_bodySF (plainFor_of_name pn_13) hisR ?_
  intro p e s m args below meth c s₁ Bd hml0 hP hK
  obtain ⟨rfl, hZ, hh⟩ := hP
  have hx := Bd.exec
  have hby := Bd.bytes
  have hml : c.maxLocals = 1 := hml0
  have hown : s.vm.findClass "com/example/shardwright/shardwright/cli/CsvReader$Row" = some m.cls := findClass_of_methodNamed Bd.named
  have hnm := (name_of_methodNamed Bd.named Bd.method).1
  have X0 : Stand p l e ({ frames := 0, cells := 0, slots := 0, locals := 0 } : Room) s m #[(.ref pr0)] below meth c s₁ [] 0 0 := Stand.of_body Bd
  have e0 : s₁.heap = h0 := by rw [← hh, Bd.state]; rfl
  have N0 := Fr.nil n0
  have pre0 : ∀ t, Steps p.tables e below (s₁.setTop (mkF m 0 #[.val (.ref pr0)] [])) t → Steps p.tables e below (s₁.setTop (entryFrame m #[(.ref pr0)] 1)) t := fun t k => castTop (ef_13 m pr0) k
  obtain ⟨T1, X1, e1, st1⟩ := getF X0 hx hZ hown (host := "") (Or.inl (own_W hw 80 rfl)) Via.refl e0 F_text_pr0 (g := (mkF m 1 #[.val (.ref pr0)] [(.ref pr0)])) rfl rfl (hb hby d13_1)
  have V_c2 := V_w_text_pr0
  obtain ⟨c2, Arc2, qc2, Sc2, Nc2, Hc2, Gc2⟩ := V_c2
  obtain ⟨fs, hr, hrun, hended, hW, hsame⟩ := X1.leave (v := some (.int (1 : Int32))) (fun h => by rw [Bd.returns] at h; cases h)
  refine ⟨_, _, pre0 _ ?_, hrun, hended, _, _, rfl, ?_, ⟨_, rfl⟩, hW, hsame.mono (by decide) (by decide)⟩
  · show Stp p e below s₁ m 0 #[.val (.ref pr0)] [] _
    refine XS.aloadN X0.here hx rfl (hb hby d13_0) rfl rfl ?_
    show Stp p e below s₁ m 1 #[.val (.ref pr0)] [(.ref pr0)] _
    refine st1 _ ?_
    show Stp p e below T1 m 4 #[.val (.ref pr0)] [(.ref w_text_pr0)] _
    refine X1.arraylength hx (by rw [e1]; exact Arc2.1) (State.isArrayOf_alike hZ.alike Arc2.2.1) (g := (mkF m 4 #[.val (.ref pr0)] [(.ref w_text_pr0)])) rfl rfl (hb hby d13_4) _ ?_
    rw [len_of Sc2 Nc2]
    show Stp p e below T1 m 5 #[.val (.ref pr0)] [(.int (0 : Int32))] _
    refine XS.ifNo X1.here hx rfl (hb hby d13_5) rfl ((if0 _ _).trans (teq (rfl : (0 : Int32) = (0 : Int32))).2) ?_
    show Stp p e below T1 m 8 #[.val (.ref pr0)] [] _
    refine XS.iconst X1.here hx rfl (hb hby d13_8) ?_
    show Stp p e below T1 m 9 #[.val (.ref pr0)] [(.int (1 : Int32))] _
    refine XS.goto X1.here hx rfl (pc0 := 9) (pc' := 13) rfl (hb hby d13_9) (by decide) (by decide) ?_
    show Stp p e below T1 m 13 #[.val (.ref pr0)] [(.int (1 : Int32))] _
    exact retN X1 hx (t := .boolean) Bd.returns (by simp) (hb hby d13_13) hr
  · show Q13_0 Z pr0 w_text_pr0 kk_w_text_pr0 h0 n0 _ T1.heap _
    rw [e1]
    exact ⟨rfl, N0, rfl⟩
theorem d13_12 : decode prog_9_method_2_code 12 = .ok (.iconst 0, 1) := by decide +kernel
def Q13_1 (Z : State) (pr0 : Addr) (w_text_pr0 : Addr) (kk_w_text_pr0 : ClassId) (c0_w_text_pr0 : Int32) (h0 : Heap) (n0 : Nat) (v : Option Value) (h : Heap) (L : List Loc) : Prop := v = some (.int (0 : Int32)) ∧ Fr n0 L ∧ h = h0
set_option maxRecDepth 65536 in
set_option maxHeartbeats 40000000 in
theorem rm13_1 (l : Launch) (Z : State) (a0 : Array Value) (hw : ∀ d ∈ tables_1, d.before a0 Z = true) (ws : List Jvm.Cond) (pr0 : Addr) (w_text_pr0 : Addr) (kk_w_text_pr0 : ClassId) (c0_w_text_pr0 : Int32) (h0 : Heap) (n0 : Nat) (Z0 : n0 ≤ h0.size) (O0 : Old Z n0 h0) (F_text_pr0 : Fld Z h0 pr0 "com/example/shardwright/shardwright/cli/CsvReader$Row" "text" "[B" (.ref w_text_pr0)) (V_w_text_pr0 : Arv Z h0 w_text_pr0 kk_w_text_pr0 .byte (1 : Int32) [(.int c0_w_text_pr0)] (.int (0 : Int32))) :
    MetFree l (⟨"com/example/shardwright/shardwright/cli/CsvReader$Row", "isBlank", "()Z"⟩ : MethodName) (head1 (Jvm.Cond.code (⟨"com/example/shardwright/shardwright/cli/CsvReader$Row", "isBlank", "()Z"⟩ : MethodName) prog_9_method_2_code 1 (some .boolean) :: ws) ({ frames := 0, cells := 0, slots := 0, locals := 0 } : Room)) (fun a U => a = #[(.ref pr0)] ∧ Z.Warmed39 U.vm ∧ U.heap = h0) (fun _ _ _ _ _ => True) (fun _ U o U' => ∃ v L, o = .returned v ∧ Q13_1 Z pr0 w_text_pr0 kk_w_text_pr0 c0_w_text_pr0 h0 n0 v U'.heap L ∧ FrameEnd U o U' L ({ frames := 0, cells := 0, slots := 0, locals := 0 } : Room).cells ({ frames := 0, cells := 0, slots := 0, locals := 0 } : Room).slots) := by
  refine MetFree.of_bodySF (plainFor_of_name pn_13) hisR ?_
  intro p e s m args below meth c s₁ Bd hml0 hP hK
  obtain ⟨rfl, hZ, hh⟩ := hP
  have hx := Bd.exec
  have hby := Bd.bytes
  have hml : c.maxLocals = 1 := hml0
  have hown : s.vm.findClass "com/example/shardwright/shardwright/cli/CsvReader$Row" = some m.cls := findClass_of_methodNamed Bd.named
  have hnm := (name_of_methodNamed Bd.named Bd.method).1
  have X0 : Stand p l e ({ frames := 0, cells := 0, slots := 0, locals := 0 } : Room) s m #[(.ref pr0)] below meth c s₁ [] 0 0 := Stand.of_body Bd
  have e0 : s₁.heap = h0 := by rw [← hh, Bd.state]; rfl
  have N0 := Fr.nil n0
  have pre0 : ∀ t, Steps p.tables e below (s₁.setTop (mkF m 0 #[.val (.ref pr0)] [])) t → Steps p.tables e below (s₁.setTop (entryFrame m #[(.ref pr0)] 1)) t := fun t k => castTop (ef_13 m pr0) k
  obtain ⟨T1, X1, e1, st1⟩ := getF X0 hx hZ hown (host := "") (Or.inl (own_W hw 80 rfl)) Via.refl e0 F_text_pr0 (g := (mkF m 1 #[.val (.ref pr0)] [(.ref pr0)])) rfl rfl (hb hby d13_1)
  have V_c2 := V_w_text_pr0
  obtain ⟨c2, Arc2, qc2, Sc2, Nc2, Hc2, Gc2⟩ := V_c2
  obtain ⟨fs, hr, hrun, hended, hW, hsame⟩ := X1.leave (v := some (.int (0 : Int32))) (fun h => by rw [Bd.returns] at h; cases h)
  refine ⟨_, _, pre0 _ ?_, hrun, hended, _, _, rfl, ?_, ⟨_, rfl⟩, hW, hsame.mono (by decide) (by decide)⟩
  · show Stp p e below s₁ m 0 #[.val (.ref pr0)] [] _
    refine XS.aloadN X0.here hx rfl (hb hby d13_0) rfl rfl ?_
    show Stp p e below s₁ m 1 #[.val (.ref pr0)] [(.ref pr0)] _
    refine st1 _ ?_
    show Stp p e below T1 m 4 #[.val (.ref pr0)] [(.ref w_text_pr0)] _
    refine X1.arraylength hx (by rw [e1]; exact Arc2.1) (State.isArrayOf_alike hZ.alike Arc2.2.1) (g := (mkF m 4 #[.val (.ref pr0)] [(.ref w_text_pr0)])) rfl rfl (hb hby d13_4) _ ?_
    rw [len_of Sc2 Nc2]
    show Stp p e below T1 m 5 #[.val (.ref pr0)] [(.int (1 : Int32))] _
    refine XS.ifYes X1.here hx rfl (pc0 := 5) (pc' := 12) rfl (hb hby d13_5) rfl ((if0 _ _).trans (feq (by decide : ¬ ((1 : Int32) = (0 : Int32)))).2) (by decide) (by decide) ?_
    show Stp p e below T1 m 12 #[.val (.ref pr0)] [] _
    refine XS.iconst X1.here hx rfl (hb hby d13_12) ?_
    show Stp p e below T1 m 13 #[.val (.ref pr0)] [(.int (0 : Int32))] _
    exact retN X1 hx (t := .boolean) Bd.returns (by simp) (hb hby d13_13) hr
  · show Q13_1 Z pr0 w_text_pr0 kk_w_text_pr0 c0_w_text_pr0 h0 n0 _ T1.heap _
    rw [e1]
    exact ⟨rfl, N0, rfl⟩
def Q13_2 (Z : State) (pr0 : Addr) (w_text_pr0 : Addr) (kk_w_text_pr0 : ClassId) (c0_w_text_pr0 : Int32) (c1_w_text_pr0 : Int32) (h0 : Heap) (n0 : Nat) (v : Option Value) (h : Heap) (L : List Loc) : Prop := v = some (.int (0 : Int32)) ∧ Fr n0 L ∧ h = h0
set_option maxRecDepth 65536 in
set_option maxHeartbeats 40000000 in
theorem rm13_2 (l : Launch) (Z : State) (a0 : Array Value) (hw : ∀ d ∈ tables_1, d.before a0 Z = true) (ws : List Jvm.Cond) (pr0 : Addr) (w_text_pr0 : Addr) (kk_w_text_pr0 : ClassId) (c0_w_text_pr0 : Int32) (c1_w_text_pr0 : Int32) (h0 : Heap) (n0 : Nat) (Z0 : n0 ≤ h0.size) (O0 : Old Z n0 h0) (F_text_pr0 : Fld Z h0 pr0 "com/example/shardwright/shardwright/cli/CsvReader$Row" "text" "[B" (.ref w_text_pr0)) (V_w_text_pr0 : Arv Z h0 w_text_pr0 kk_w_text_pr0 .byte (2 : Int32) [(.int c0_w_text_pr0), (.int c1_w_text_pr0)] (.int (0 : Int32))) :
    MetFree l (⟨"com/example/shardwright/shardwright/cli/CsvReader$Row", "isBlank", "()Z"⟩ : MethodName) (head1 (Jvm.Cond.code (⟨"com/example/shardwright/shardwright/cli/CsvReader$Row", "isBlank", "()Z"⟩ : MethodName) prog_9_method_2_code 1 (some .boolean) :: ws) ({ frames := 0, cells := 0, slots := 0, locals := 0 } : Room)) (fun a U => a = #[(.ref pr0)] ∧ Z.Warmed39 U.vm ∧ U.heap = h0) (fun _ _ _ _ _ => True) (fun _ U o U' => ∃ v L, o = .returned v ∧ Q13_2 Z pr0 w_text_pr0 kk_w_text_pr0 c0_w_text_pr0 c1_w_text_pr0 h0 n0 v U'.heap L ∧ FrameEnd U o U' L ({ frames := 0, cells := 0, slots := 0, locals := 0 } : Room).cells ({ frames := 0, cells := 0, slots := 0, locals := 0 } : Room).slots) := by
  refine MetFree.of_bodySF (plainFor_of_name pn_13) hisR ?_
  intro p e s m args below meth c s₁ Bd hml0 hP hK
  obtain ⟨rfl, hZ, hh⟩ := hP
  have hx := Bd.exec
  have hby := Bd.bytes
  have hml : c.maxLocals = 1 := hml0
  have hown : s.vm.findClass "com/example/shardwright/shardwright/cli/CsvReader$Row" = some m.cls := findClass_of_methodNamed Bd.named
  have hnm := (name_of_methodNamed Bd.named Bd.method).1
  have X0 : Stand p l e ({ frames := 0, cells := 0, slots := 0, locals := 0 } : Room) s m #[(.ref pr0)] below meth c s₁ [] 0 0 := Stand.of_body Bd
  have e0 : s₁.heap = h0 := by rw [← hh, Bd.state]; rfl
  have N0 := Fr.nil n0
  have pre0 : ∀ t, Steps p.tables e below (s₁.setTop (mkF m 0 #[.val (.ref pr0)] [])) t → Steps p.tables e below (s₁.setTop (entryFrame m #[(.ref pr0)] 1)) t := fun t k => castTop (ef_13 m pr0) k
  obtain ⟨T1, X1, e1, st1⟩ := getF X0 hx hZ hown (host := "") (Or.inl (own_W hw 80 rfl)) Via.refl e0 F_text_pr0 (g := (mkF m 1 #[.val (.ref pr0)] [(.ref pr0)])) rfl rfl (hb hby d13_1)
  have V_c2 := V_w_text_pr0
  obtain ⟨c2, Arc2, qc2, Sc2, Nc2, Hc2, Gc2⟩ := V_c2
  obtain ⟨fs, hr, hrun, hended, hW, hsame⟩ := X1.leave (v := some (.int (0 : Int32))) (fun h => by rw [Bd.returns] at h; cases h)
  refine ⟨_, _, pre0 _ ?_, hrun, hended, _, _, rfl, ?_, ⟨_, rfl⟩, hW, hsame.mono (by decide) (by decide)⟩
  · show Stp p e below s₁ m 0 #[.val (.ref pr0)] [] _
    refine XS.aloadN X0.here hx rfl (hb hby d13_0) rfl rfl ?_
    show Stp p e below s₁ m 1 #[.val (.ref pr0)] [(.ref pr0)] _
    refine st1 _ ?_
    show Stp p e below T1 m 4 #[.val (.ref pr0)] [(.ref w_text_pr0)] _
    refine X1.arraylength hx (by rw [e1]; exact Arc2.1) (State.isArrayOf_alike hZ.alike Arc2.2.1) (g := (mkF m 4 #[.val (.ref pr0)] [(.ref w_text_pr0)])) rfl rfl (hb hby d13_4) _ ?_
    rw [len_of Sc2 Nc2]
    show Stp p e below T1 m 5 #[.val (.ref pr0)] [(.int (2 : Int32))] _
    refine XS.ifYes X1.here hx rfl (pc0 := 5) (pc' := 12) rfl (hb hby d13_5) rfl ((if0 _ _).trans (feq (by decide : ¬ ((2 : Int32) = (0 : Int32)))).2) (by decide) (by decide) ?_
    show Stp p e below T1 m 12 #[.val (.ref pr0)] [] _
    refine XS.iconst X1.here hx rfl (hb hby d13_12) ?_
    show Stp p e below T1 m 13 #[.val (.ref pr0)] [(.int (0 : Int32))] _
    exact retN X1 hx (t := .boolean) Bd.returns (by simp) (hb hby d13_13) hr
  · show Q13_2 Z pr0 w_text_pr0 kk_w_text_pr0 c0_w_text_pr0 c1_w_text_pr0 h0 n0 _ T1.heap _
    rw [e1]
    exact ⟨rfl, N0, rfl⟩
def Q13_3 (Z : State) (pr0 : Addr) (w_text_pr0 : Addr) (kk_w_text_pr0 : ClassId) (c0_w_text_pr0 : Int32) (c1_w_text_pr0 : Int32) (c2_w_text_pr0 : Int32) (h0 : Heap) (n0 : Nat) (v : Option Value) (h : Heap) (L : List Loc) : Prop := v = some (.int (0 : Int32)) ∧ Fr n0 L ∧ h = h0
set_option maxRecDepth 65536 in
set_option maxHeartbeats 40000000 in
theorem rm13_3 (l : Launch) (Z : State) (a0 : Array Value) (hw : ∀ d ∈ tables_1, d.before a0 Z = true) (ws : List Jvm.Cond) (pr0 : Addr) (w_text_pr0 : Addr) (kk_w_text_pr0 : ClassId) (c0_w_text_pr0 : Int32) (c1_w_text_pr0 : Int32) (c2_w_text_pr0 : Int32) (h0 : Heap) (n0 : Nat) (Z0 : n0 ≤ h0.size) (O0 : Old Z n0 h0) (F_text_pr0 : Fld Z h0 pr0 "com/example/shardwright/shardwright/cli/CsvReader$Row" "text" "[B" (.ref w_text_pr0)) (V_w_text_pr0 : Arv Z h0 w_text_pr0 kk_w_text_pr0 .byte (3 : Int32) [(.int c0_w_text_pr0), (.int c1_w_text_pr0), (.int c2_w_text_pr0)] (.int (0 : Int32))) :
    MetFree l (⟨"com/example/shardwright/shardwright/cli/CsvReader$Row", "isBlank", "()Z"⟩ : MethodName) (head1 (Jvm.Cond.code (⟨"com/example/shardwright/shardwright/cli/CsvReader$Row", "isBlank", "()Z"⟩ : MethodName) prog_9_method_2_code 1 (some .boolean) :: ws) ({ frames := 0, cells := 0, slots := 0, locals := 0 } : Room)) (fun a U => a = #[(.ref pr0)] ∧ Z.Warmed39 U.vm ∧ U.heap = h0) (fun _ _ _ _ _ => True) (fun _ U o U' => ∃ v L, o = .returned v ∧ Q13_3 Z pr0 w_text_pr0 kk_w_text_pr0 c0_w_text_pr0 c1_w_text_pr0 c2_w_text_pr0 h0 n0 v U'.heap L ∧ FrameEnd U o U' L ({ frames := 0, cells := 0, slots := 0, locals := 0 } : Room).cells ({ frames := 0, cells := 0, slots := 0, locals := 0 } : Room).slots) := by
  refine MetFree.of_bodySF (plainFor_of_name pn_13) hisR ?_
  intro p e s m args below meth c s₁ Bd hml0 hP hK
  obtain ⟨rfl, hZ, hh⟩ := hP
  have hx := Bd.exec
  have hby := Bd.bytes
  have hml : c.maxLocals = 1 := hml0
  have hown : s.vm.findClass "com/example/shardwright/shardwright/cli/CsvReader$Row" = some m.cls := findClass_of_methodNamed Bd.named
  have hnm := (name_of_methodNamed Bd.named Bd.method).1
  have X0 : Stand p l e ({ frames := 0, cells := 0, slots := 0, locals := 0 } : Room) s m #[(.ref pr0)] below meth c s₁ [] 0 0 := Stand.of_body Bd
  have e0 : s₁.heap = h0 := by rw [← hh, Bd.state]; rfl
  have N0 := Fr.nil n0
  have pre0 : ∀ t, Steps p.tables e below (s₁.setTop (mkF m 0 #[.val (.ref pr0)] [])) t → Steps p.tables e below (s₁.setTop (entryFrame m #[(.ref pr0)] 1)) t := fun t k => castTop (ef_13 m pr0) k
  obtain ⟨T1, X1, e1, st1⟩ := getF X0 hx hZ hown (host := "") (Or.inl (own_W hw 80 rfl)) Via.refl e0 F_text_pr0 (g := (mkF m 1 #[.val (.ref pr0)] [(.ref pr0)])) rfl rfl (hb hby d13_1)
  have V_c2 := V_w_text_pr0
  obtain ⟨c2, Arc2, qc2, Sc2, Nc2, Hc2, Gc2⟩ := V_c2
  obtain ⟨fs, hr, hrun, hended, hW, hsame⟩ := X1.leave (v := some (.int (0 : Int32))) (fun h => by rw [Bd.returns] at h; cases h)
  refine ⟨_, _, pre0 _ ?_, hrun, hended, _, _, rfl, ?_, ⟨_, rfl⟩, hW, hsame.mono (by decide) (by decide)⟩
  · show Stp p e below s₁ m 0 #[.val (.ref pr0)] [] _
    refine XS.aloadN X0.here hx rfl (hb hby d13_0) rfl rfl ?_
    show Stp p e below s₁ m 1 #[.val (.ref pr0)] [(.ref pr0)] _
    refine st1 _ ?_
    show Stp p e below T1 m 4 #[.val (.ref pr0)] [(.ref w_text_pr0)] _
    refine X1.arraylength hx (by rw [e1]; exact Arc2.1) (State.isArrayOf_alike hZ.alike Arc2.2.1) (g := (mkF m 4 #[.val (.ref pr0)] [(.ref w_text_pr0)])) rfl rfl (hb hby d13_4) _ ?_
    rw [len_of Sc2 Nc2]
    show Stp p e below T1 m 5 #[.val (.ref pr0)] [(.int (3 : Int32))] _
    refine XS.ifYes X1.here hx rfl (pc0 := 5) (pc' := 12) rfl (hb hby d13_5) rfl ((if0 _ _).trans (feq (by decide : ¬ ((3 : Int32) = (0 : Int32)))).2) (by decide) (by decide) ?_
    show Stp p e below T1 m 12 #[.val (.ref pr0)] [] _
    refine XS.iconst X1.here hx rfl (hb hby d13_12) ?_
    show Stp p e below T1 m 13 #[.val (.ref pr0)] [(.int (0 : Int32))] _
    exact retN X1 hx (t := .boolean) Bd.returns (by simp) (hb hby d13_13) hr
  · show Q13_3 Z pr0 w_text_pr0 kk_w_text_pr0 c0_w_text_pr0 c1_w_text_pr0 c2_w_text_pr0 h0 n0 _ T1.heap _
    rw [e1]
    exact ⟨rfl, N0, rfl⟩
theorem own_and_or (p a b : Int32) : p &&& (a ||| b) = (p &&& a) ||| (p &&& b) := by
  apply Int32.toBitVec_inj.mp
  exact BitVec.and_or_distrib_left
theorem own_tw (p : Int32) (i : Nat) (k : Int32) (hk : k.toBitVec = BitVec.twoPow 32 i) : p &&& k = if p.toBitVec.getLsbD i then k else (0 : Int32) := by
  apply Int32.toBitVec_inj.mp
  show p.toBitVec &&& k.toBitVec = _
  rw [hk, BitVec.and_twoPow]
  by_cases q : p.toBitVec.getLsbD i = true
  · rw [if_pos q, if_pos q, hk]
  · rw [if_neg q, if_neg q]; rfl
theorem own_m2 (p : Int32) : p &&& (3 : Int32) = (p &&& 1) ||| (p &&& 2) := by
  rw [← own_and_or]; rfl
theorem own_n3 {p : Int32} (h0 : ¬ p &&& (3 : Int32) = (0 : Int32)) (h1 : ¬ p &&& (3 : Int32) = (1 : Int32)) (h2 : ¬ p &&& (3 : Int32) = (2 : Int32)) : p &&& (3 : Int32) = (3 : Int32) := by
  rw [own_m2, own_tw p 0 1 rfl, own_tw p 1 2 rfl] at *
  generalize p.toBitVec.getLsbD 0 = x at *
  generalize p.toBitVec.getLsbD 1 = y at *
  revert x y
  decide
theorem pd_7 : parseMethodDescriptor "(J[BLjava/util/List;)V" = some ⟨[.long, (.array .byte), (.object "java/util/List")], none⟩ := by decide +kernel
theorem pd_8 : parseMethodDescriptor "()Z" = some ⟨[], some .boolean⟩ := by decide +kernel
theorem pn_0 : plainName "com/example/shardwright/shardwright/cli/RowIsBlankPinLaw" = true := by first | (simp [plainName, overriddenIn]; done) | decide +kernel
theorem ef_0 (m : MethodId) (pl1 : Int64) (pi2 : Int32) (pi3 : Int32) (pi4 : Int32) (pi5 : Int32) (pi6 : Int32) : entryFrame m #[(.long pl1), (.int pi2), (.int pi3), (.int pi4), (.int pi5), (.int pi6)] maxLocals = mkF m 0 #[.val (.long pl1), .second, .val (.int pi2), .val (.int pi3), .val (.int pi4), .val (.int pi5), .val (.int pi6), .unset, .unset, .unset, .unset, .unset] [] := by first | (simp [entryFrame, mkF, argsToLocals, Value.category, maxLocals]; done) | rfl
def Q0 (v : Option Value) (L : List Loc) (n0 : Nat) : Prop := v = some (.int (1 : Int32)) ∧ Fr n0 L
set_option maxRecDepth 65536 in
set_option maxHeartbeats 40000000 in
theorem rm0_tt (l : Launch) (Z : State) (a0 : Array Value) (hw : ∀ d ∈ tables_1, d.before a0 Z = true) (ws : List Jvm.Cond) (pl1 : Int64) (pi2 : Int32) (pi3 : Int32) (pi4 : Int32) (pi5 : Int32) (pi6 : Int32) (w_DEF : Addr) (kk_w_DEF : ClassId) (h0 : Heap) (n0 : Nat) (Z0 : n0 ≤ h0.size) (O0 : Old Z n0 h0) (S_DEFAULTCAPACITY_EMPTY_ELEMENTDATA : Sta Z Z.heap "java/util/ArrayList" "DEFAULTCAPACITY_EMPTY_ELEMENTDATA" "[Ljava/lang/Object;" (.ref w_DEF)) (V_w_DEF : Arv Z Z.heap w_DEF kk_w_DEF (.object "java/lang/Object") (0 : Int32) [] .null) (hc3_0 : (pi2 &&& (3 : Int32)) = (0 : Int32)) (hc52_1 : (pi3 &&& (3 : Int32)) = (0 : Int32)) :
    MetFree l x (head1 (Jvm.Cond.code x code maxLocals ret :: ws) room_1) (fun a U => a = #[(.long pl1), (.int pi2), (.int pi3), (.int pi4), (.int pi5), (.int pi6)] ∧ Z.Warmed39 U.vm ∧ U.heap = h0) (fun _ _ _ _ _ => True) (fun _ U o U' => ∃ v L, o = .returned v ∧ Q0 v L n0 ∧ FrameEnd U o U' L room_1.cells room_1.slots) := by
  refine MetFree.of_bodySF (plainFor_of_name pn_0) hisR ?_
  intro p e s m args below meth c s₁ Bd hml0 hP hK
  obtain ⟨rfl, hZ, hh⟩ := hP
  have hx := Bd.exec
  have hby := Bd.bytes
  have hml : c.maxLocals = 12 := hml0
  have hown : s.vm.findClass "com/example/shardwright/shardwright/cli/RowIsBlankPinLaw" = some m.cls := findClass_of_methodNamed Bd.named
  have hnm := (name_of_methodNamed Bd.named Bd.method).1
  have X0 : Stand p l e room_1 s m #[(.long pl1), (.int pi2), (.int pi3), (.int pi4), (.int pi5), (.int pi6)] below meth c s₁ [] 0 0 := Stand.of_body Bd
  have e0 : s₁.heap = h0 := by rw [← hh, Bd.state]; rfl
  have N0 := Fr.nil n0
  have pre0 : ∀ t, Steps p.tables e below (s₁.setTop (mkF m 0 #[.val (.long pl1), .second, .val (.int pi2), .val (.int pi3), .val (.int pi4), .val (.int pi5), .val (.int pi6), .unset, .unset, .unset, .unset, .unset] [])) t → Steps p.tables e below (s₁.setTop (entryFrame m #[(.long pl1), (.int pi2), (.int pi3), (.int pi4), (.int pi5), (.int pi6)] maxLocals)) t := fun t k => castTop (ef_0 m pl1 pi2 pi3 pi4 pi5 pi6) k
  obtain ⟨T1, h1, k1, X1, e1, E1, A1, st1⟩ := newP X0 hx hZ (own_W hw 0 rfl) e0 (g := (mkF m 7 #[.val (.long pl1), .second, .val (.int pi2), .val (.int pi3), .val (.int pi4), .val (.int pi5), .val (.int pi6), .val (.int (0 : Int32)), .unset, .unset, .unset, .unset] [(.int (0 : Int32))])) rfl (hb hby at_7) rfl (by decide) (cap := 0) (by decide) (by decide) (by decide) (by decide)
  obtain ⟨b1, g1⟩ : ∃ z, z = h0.size := ⟨_, rfl⟩
  rw [← g1] at A1 st1
  have V1 : Arv Z h1 b1 k1 .byte (0 : Int32) [] (.int (0 : Int32)) := (Arv.new A1 (by decide)).pad (pad_rep [] (.int (0 : Int32)) 0)
  obtain ⟨T2, h2, X2, e2, E2, A2, D2, -, st2⟩ := newO X1 hx hZ hown (own_W hw 1 rfl) (own_W hw 2 rfl) (own_W hw 3 rfl) e1 (g := (mkF m 54 #[.val (.long pl1), .second, .val (.int pi2), .val (.int pi3), .val (.int pi4), .val (.int pi5), .val (.int pi6), .val (.int (0 : Int32)), .val (.ref b1), .val (.int (0 : Int32)), .unset, .unset] [])) rfl (hb hby at_54) (by decide) (by decide)
  obtain ⟨b2, g2⟩ : ∃ z, z = h1.size := ⟨_, rfl⟩
  rw [← g2] at A2 D2 st2
  have F_modCount_b2 : Fld Z h2 b2 "java/util/AbstractList" "modCount" "I" (.int (0 : Int32)) := D2 (Or.inl (own_W hw 23 rfl)) (ty := .int) (by decide)
  have F_elementData_b2 : Fld Z h2 b2 "java/util/ArrayList" "elementData" "[Ljava/lang/Object;" .null := D2 (Or.inl (own_W hw 26 rfl)) (ty := (.array (.object "java/lang/Object"))) (by decide)
  have F_size_b2 : Fld Z h2 b2 "java/util/ArrayList" "size" "I" (.int (0 : Int32)) := D2 (Or.inl (own_W hw 43 rfl)) (ty := .int) (by decide)
  have z3 := Nat.le_trans Z0 E1.1
  have g_b2 : n0 ≤ b2 := Nat.le_trans z3 (Nat.le_of_eq g2.symm)
  have z5 := Nat.le_trans z3 E2.1
  have o6 := O0.ext E1
  have o7 := o6.ext E2
  obtain ⟨_, _, ⟨T4, L4, k4, n4⟩, -, X4, ⟨Lc4, hQ4, l4, y4, z4⟩, st4⟩ := X2.specialBack hx (y := (⟨"java/util/ArrayList", "<init>", "()V"⟩ : MethodName)) rfl hown (mvT hZ (own_W hw 4 rfl)) (mvT hZ (own_W hw 5 rfl)) (mvT hZ (own_W hw 6 rfl)) (by decide) (backOf (W := 1) (rm1 l Z a0 hw [] b2 w_DEF (.int (0 : Int32)) .null (.int (0 : Int32)) h2 n0 z5 o7 A2 S_DEFAULTCAPACITY_EMPTY_ELEMENTDATA F_modCount_b2 F_elementData_b2 F_size_b2 g_b2) hZ (own_W hw 6 rfl) (own_W hw 3 rfl) (by decide) (by decide)) (g := (mkF m 58 #[.val (.long pl1), .second, .val (.int pi2), .val (.int pi3), .val (.int pi4), .val (.int pi5), .val (.int pi6), .val (.int (0 : Int32)), .val (.ref b1), .val (.int (0 : Int32)), .unset, .unset] [(.ref b2), (.ref b2)])) rfl (by rw [hml]; rfl) (Steps.refl _) (a := b2) (argsL := []) (rest := [(.ref b2)]) (lenOf pd_0 rfl) rfl (by show 2 * 0 + _ ≤ _; exact Nat.le_of_eq rfl) (hb hby at_58) (fun _ _ => ⟨rfl, e2, (by decide : 2 + 0 ≤ _), (by decide : 3 + 0 ≤ _)⟩)
  dsimp only [Pt.U, Pt.locs, Pt.cells, Pt.slots] at X4 l4 y4 z4 st4 hQ4
  subst l4 y4 z4
  obtain ⟨rfl, N4q, K4, qf4_0, qf4_1, qf4_2, qf4_3⟩ := hQ4
  have N4 := Fr.app N0 N4q
  obtain ⟨T8, h8, X8, e8, E8, A8, D8, -, st8⟩ := newO X4 hx hZ hown (own_W hw 66 rfl) (own_W hw 67 rfl) (own_W hw 68 rfl) rfl (g := (mkF m 128 #[.val (.long pl1), .second, .val (.int pi2), .val (.int pi3), .val (.int pi4), .val (.int pi5), .val (.int pi6), .val (.int (0 : Int32)), .val (.ref b1), .val (.int (0 : Int32)), .val (.ref b2), .unset] [])) rfl (hb hby at_128) (by decide) (by decide)
  obtain ⟨b8, g8⟩ : ∃ z, z = T4.heap.size := ⟨_, rfl⟩
  rw [← g8] at A8 D8 st8
  have F_line_b8 : Fld Z h8 b8 "com/example/shardwright/shardwright/cli/CsvReader$Row" "line" "J" (.long (0 : Int64)) := D8 (Or.inr (own_W hw 79 rfl)) (ty := .long) (by decide)
  have F_text_b8 : Fld Z h8 b8 "com/example/shardwright/shardwright/cli/CsvReader$Row" "text" "[B" .null := D8 (Or.inr (own_W hw 81 rfl)) (ty := (.array .byte)) (by decide)
  have F_fields_b8 : Fld Z h8 b8 "com/example/shardwright/shardwright/cli/CsvReader$Row" "fields" "Ljava/util/List;" .null := D8 (Or.inr (own_W hw 83 rfl)) (ty := (.object "java/util/List")) (by decide)
  have z9 := Nat.le_trans z5 K4.1
  have g_b8 : n0 ≤ b8 := Nat.le_trans z9 (Nat.le_of_eq g8.symm)
  have z11 := Nat.le_trans z9 E8.1
  have o12 := o7.keep K4 (allS g_b2 all0)
  have o13 := o12.ext E8
  obtain ⟨_, _, ⟨T10, L10, k10, n10⟩, -, X10, ⟨Lc10, hQ10, l10, y10, z10⟩, st10⟩ := X8.specialBack hx (y := (⟨"com/example/shardwright/shardwright/cli/CsvReader$Row", "<init>", "(J[BLjava/util/List;)V"⟩ : MethodName)) rfl hown (mvT hZ (own_W hw 69 rfl)) (mvT hZ (own_W hw 70 rfl)) (mvT hZ (own_W hw 71 rfl)) (by decide) (backOf (W := 1) (rm11 l Z a0 hw [] b8 pl1 b1 b2 (.long (0 : Int64)) .null .null h8 n0 z11 o13 A8 F_line_b8 g_b8 F_text_b8 F_fields_b8) hZ (own_W hw 71 rfl) (own_W hw 68 rfl) (by decide) (by decide)) (g := (mkF m 137 #[.val (.long pl1), .second, .val (.int pi2), .val (.int pi3), .val (.int pi4), .val (.int pi5), .val (.int pi6), .val (.int (0 : Int32)), .val (.ref b1), .val (.int (0 : Int32)), .val (.ref b2), .unset] [(.ref b2), (.ref b1), (.long pl1), (.ref b8), (.ref b8)])) rfl (by rw [hml]; rfl) (Steps.refl _) (a := b8) (argsL := [(.long pl1), (.ref b1), (.ref b2)]) (rest := [(.ref b8)]) (lenOf pd_7 rfl) rfl (by show 2 * 0 + _ ≤ _; exact Nat.le_of_eq rfl) (hb hby at_137) (fun _ _ => ⟨rfl, e8, (by decide : 3 + 0 ≤ _), (by decide : 6 + 0 ≤ _)⟩)
  dsimp only [Pt.U, Pt.locs, Pt.cells, Pt.slots] at X10 l10 y10 z10 st10 hQ10
  subst l10 y10 z10
  obtain ⟨rfl, N10q, K10, qf10_0, qf10_1, qf10_2, qf10_3⟩ := hQ10
  have N10 := Fr.app N4 N10q
  have f14 := V1.ext E2
  have f15 := f14.keep K4 (ninS (Nat.ne_of_lt (Nat.lt_of_lt_of_le V1.lt (Nat.le_of_eq g2.symm))) nin0)
  have f16 := f15.ext E8
  have f17 := f16.keep K10 (ninS (Nat.ne_of_lt (Nat.lt_of_lt_of_le f15.lt (Nat.le_of_eq g8.symm))) nin0)
  have z19 := Nat.le_trans z11 K10.1
  have o20 := o13.keep K10 (allS g_b8 all0)
  obtain ⟨cq18, kq18, q18a, q18b, q18c⟩ := isOf hZ rfl qf10_0
  obtain ⟨_, _, ⟨T18, L18, k18, n18⟩, -, X18, ⟨Lc18, hQ18, l18, y18, z18⟩, st18⟩ := X10.virtualBack hx (y := (⟨"com/example/shardwright/shardwright/cli/CsvReader$Row", "isBlank", "()Z"⟩ : MethodName)) (z := (⟨"com/example/shardwright/shardwright/cli/CsvReader$Row", "isBlank", "()Z"⟩ : MethodName)) hown (mvT hZ (own_W hw 84 rfl)) (mvT hZ (own_W hw 85 rfl)) (notFace_of_selects (args := #[]) (mvT hZ (own_W hw 87 rfl))) (mvT hZ (own_W hw 87 rfl)) (mvT hZ (own_W hw 86 rfl)) (by decide) (backOf (W := 0) (rm13_0 l Z a0 hw [] b8 b1 k1 T10.heap n0 z19 o20 qf10_2 f17) hZ (own_W hw 88 rfl) (own_W hw 68 rfl) (by decide) (by decide)) q18a q18c (g := (mkF m 144 #[.val (.long pl1), .second, .val (.int pi2), .val (.int pi3), .val (.int pi4), .val (.int pi5), .val (.int pi6), .val (.int (0 : Int32)), .val (.ref b1), .val (.int (0 : Int32)), .val (.ref b2), .val (.ref b8)] [(.ref b8)])) rfl (by rw [hml]; rfl) (Steps.refl _) (argsL := []) (rest := []) (lenOf pd_8 rfl) rfl (by show 2 * 0 + _ ≤ _; exact Nat.le_of_eq rfl) (hb hby at_144) (fun _ _ => ⟨rfl, rfl, (by decide : 3 + 0 ≤ _), (by decide : 6 + 0 ≤ _)⟩)
  dsimp only [Pt.U, Pt.locs, Pt.cells, Pt.slots] at X18 l18 y18 z18 st18 hQ18
  subst l18 y18 z18
  obtain ⟨rfl, N18q, eq18⟩ := hQ18
  have N18 := Fr.app N10 N18q
  obtain ⟨fs, hr, hrun, hended, hW, hsame⟩ := X18.leave (v := some (.int (1 : Int32))) (fun h => by rw [Bd.returns] at h; cases h)
  refine ⟨_, _, pre0 _ ?_, hrun, hended, _, _, rfl, ?_, ⟨_, rfl⟩, hW, hsame.mono (by decide) (by decide)⟩
  · show Stp p e below s₁ m 0 #[.val (.long pl1), .second, .val (.int pi2), .val (.int pi3), .val (.int pi4), .val (.int pi5), .val (.int pi6), .unset, .unset, .unset, .unset, .unset] [] _
    refine XS.iloadN X0.here hx rfl (hb hby at_0) rfl ?_
    show Stp p e below s₁ m 1 #[.val (.long pl1), .second, .val (.int pi2), .val (.int pi3), .val (.int pi4), .val (.int pi5), .val (.int pi6), .unset, .unset, .unset, .unset, .unset] [(.int pi2)] _
    refine XS.iconst X0.here hx rfl (hb hby at_1) ?_
    show Stp p e below s₁ m 2 #[.val (.long pl1), .second, .val (.int pi2), .val (.int pi3), .val (.int pi4), .val (.int pi5), .val (.int pi6), .unset, .unset, .unset, .unset, .unset] [(.int (3 : Int32)), (.int pi2)] _
    refine XS.iand X0.here hx rfl (hb hby at_2) rfl ?_
    show Stp p e below s₁ m 3 #[.val (.long pl1), .second, .val (.int pi2), .val (.int pi3), .val (.int pi4), .val (.int pi5), .val (.int pi6), .unset, .unset, .unset, .unset, .unset] [(.int (pi2 &&& (3 : Int32)))] _
    refine XS.istore X0.here hx rfl (hb hby at_3) rfl (l' := #[.val (.long pl1), .second, .val (.int pi2), .val (.int pi3), .val (.int pi4), .val (.int pi5), .val (.int pi6), .val (.int (pi2 &&& (3 : Int32))), .unset, .unset, .unset, .unset]) rfl ?_
    show Stp p e below s₁ m 5 #[.val (.long pl1), .second, .val (.int pi2), .val (.int pi3), .val (.int pi4), .val (.int pi5), .val (.int pi6), .val (.int (pi2 &&& (3 : Int32))), .unset, .unset, .unset, .unset] [] _
    rw [show (pi2 &&& (3 : Int32)) = (0 : Int32) from hc3_0]
    show Stp p e below s₁ m 5 #[.val (.long pl1), .second, .val (.int pi2), .val (.int pi3), .val (.int pi4), .val (.int pi5), .val (.int pi6), .val (.int (0 : Int32)), .unset, .unset, .unset, .unset] [] _
    refine XS.iload X0.here hx rfl (hb hby at_5) rfl ?_
    show Stp p e below s₁ m 7 #[.val (.long pl1), .second, .val (.int pi2), .val (.int pi3), .val (.int pi4), .val (.int pi5), .val (.int pi6), .val (.int (0 : Int32)), .unset, .unset, .unset, .unset] [(.int (0 : Int32))] _
    refine st1 _ ?_
    show Stp p e below T1 m 9 #[.val (.long pl1), .second, .val (.int pi2), .val (.int pi3), .val (.int pi4), .val (.int pi5), .val (.int pi6), .val (.int (0 : Int32)), .unset, .unset, .unset, .unset] [(.ref b1)] _
    refine XS.astore X1.here hx rfl (hb hby at_9) rfl rfl (l' := #[.val (.long pl1), .second, .val (.int pi2), .val (.int pi3), .val (.int pi4), .val (.int pi5), .val (.int pi6), .val (.int (0 : Int32)), .val (.ref b1), .unset, .unset, .unset]) rfl ?_
    show Stp p e below T1 m 11 #[.val (.long pl1), .second, .val (.int pi2), .val (.int pi3), .val (.int pi4), .val (.int pi5), .val (.int pi6), .val (.int (0 : Int32)), .val (.ref b1), .unset, .unset, .unset] [] _
    refine XS.iload X1.here hx rfl (hb hby at_11) rfl ?_
    show Stp p e below T1 m 13 #[.val (.long pl1), .second, .val (.int pi2), .val (.int pi3), .val (.int pi4), .val (.int pi5), .val (.int pi6), .val (.int (0 : Int32)), .val (.ref b1), .unset, .unset, .unset] [(.int (0 : Int32))] _
    refine XS.ifYes X1.here hx rfl (pc0 := 13) (pc' := 23) rfl (hb hby at_13) rfl ((if0 _ _).trans (flt (by simp : ¬ ((0 : Int32) < (0 : Int32)))).2.2.2) (by decide) (by decide) ?_
    show Stp p e below T1 m 23 #[.val (.long pl1), .second, .val (.int pi2), .val (.int pi3), .val (.int pi4), .val (.int pi5), .val (.int pi6), .val (.int (0 : Int32)), .val (.ref b1), .unset, .unset, .unset] [] _
    refine XS.iload X1.here hx rfl (hb hby at_23) rfl ?_
    show Stp p e below T1 m 25 #[.val (.long pl1), .second, .val (.int pi2), .val (.int pi3), .val (.int pi4), .val (.int pi5), .val (.int pi6), .val (.int (0 : Int32)), .val (.ref b1), .unset, .unset, .unset] [(.int (0 : Int32))] _
    refine XS.iconst X1.here hx rfl (hb hby at_25) ?_
    show Stp p e below T1 m 26 #[.val (.long pl1), .second, .val (.int pi2), .val (.int pi3), .val (.int pi4), .val (.int pi5), .val (.int pi6), .val (.int (0 : Int32)), .val (.ref b1), .unset, .unset, .unset] [(.int (1 : Int32)), (.int (0 : Int32))] _
    refine XS.icmpYes X1.here hx rfl (pc0 := 26) (pc' := 36) rfl (hb hby at_26) rfl (flt (by decide : ¬ ((1 : Int32) < (0 : Int32)))).2.2.2 (by decide) (by decide) ?_
    show Stp p e below T1 m 36 #[.val (.long pl1), .second, .val (.int pi2), .val (.int pi3), .val (.int pi4), .val (.int pi5), .val (.int pi6), .val (.int (0 : Int32)), .val (.ref b1), .unset, .unset, .unset] [] _
    refine XS.iload X1.here hx rfl (hb hby at_36) rfl ?_
    show Stp p e below T1 m 38 #[.val (.long pl1), .second, .val (.int pi2), .val (.int pi3), .val (.int pi4), .val (.int pi5), .val (.int pi6), .val (.int (0 : Int32)), .val (.ref b1), .unset, .unset, .unset] [(.int (0 : Int32))] _
    refine XS.iconst X1.here hx rfl (hb hby at_38) ?_
    show Stp p e below T1 m 39 #[.val (.long pl1), .second, .val (.int pi2), .val (.int pi3), .val (.int pi4), .val (.int pi5), .val (.int pi6), .val (.int (0 : Int32)), .val (.ref b1), .unset, .unset, .unset] [(.int (2 : Int32)), (.int (0 : Int32))] _
    refine XS.icmpYes X1.here hx rfl (pc0 := 39) (pc' := 49) rfl (hb hby at_39) rfl (flt (by decide : ¬ ((2 : Int32) < (0 : Int32)))).2.2.2 (by decide) (by decide) ?_
    show Stp p e below T1 m 49 #[.val (.long pl1), .second, .val (.int pi2), .val (.int pi3), .val (.int pi4), .val (.int pi5), .val (.int pi6), .val (.int (0 : Int32)), .val (.ref b1), .unset, .unset, .unset] [] _
    refine XS.iloadN X1.here hx rfl (hb hby at_49) rfl ?_
    show Stp p e below T1 m 50 #[.val (.long pl1), .second, .val (.int pi2), .val (.int pi3), .val (.int pi4), .val (.int pi5), .val (.int pi6), .val (.int (0 : Int32)), .val (.ref b1), .unset, .unset, .unset] [(.int pi3)] _
    refine XS.iconst X1.here hx rfl (hb hby at_50) ?_
    show Stp p e below T1 m 51 #[.val (.long pl1), .second, .val (.int pi2), .val (.int pi3), .val (.int pi4), .val (.int pi5), .val (.int pi6), .val (.int (0 : Int32)), .val (.ref b1), .unset, .unset, .unset] [(.int (3 : Int32)), (.int pi3)] _
    refine XS.iand X1.here hx rfl (hb hby at_51) rfl ?_
    show Stp p e below T1 m 52 #[.val (.long pl1), .second, .val (.int pi2), .val (.int pi3), .val (.int pi4), .val (.int pi5), .val (.int pi6), .val (.int (0 : Int32)), .val (.ref b1), .unset, .unset, .unset] [(.int (pi3 &&& (3 : Int32)))] _
    refine XS.istore X1.here hx rfl (hb hby at_52) rfl (l' := #[.val (.long pl1), .second, .val (.int pi2), .val (.int pi3), .val (.int pi4), .val (.int pi5), .val (.int pi6), .val (.int (0 : Int32)), .val (.ref b1), .val (.int (pi3 &&& (3 : Int32))), .unset, .unset]) rfl ?_
    show Stp p e below T1 m 54 #[.val (.long pl1), .second, .val (.int pi2), .val (.int pi3), .val (.int pi4), .val (.int pi5), .val (.int pi6), .val (.int (0 : Int32)), .val (.ref b1), .val (.int (pi3 &&& (3 : Int32))), .unset, .unset] [] _
    rw [show (pi3 &&& (3 : Int32)) = (0 : Int32) from hc52_1]
    show Stp p e below T1 m 54 #[.val (.long pl1), .second, .val (.int pi2), .val (.int pi3), .val (.int pi4), .val (.int pi5), .val (.int pi6), .val (.int (0 : Int32)), .val (.ref b1), .val (.int (0 : Int32)), .unset, .unset] [] _
    refine st2 _ ?_
    show Stp p e below T2 m 57 #[.val (.long pl1), .second, .val (.int pi2), .val (.int pi3), .val (.int pi4), .val (.int pi5), .val (.int pi6), .val (.int (0 : Int32)), .val (.ref b1), .val (.int (0 : Int32)), .unset, .unset] [(.ref b2)] _
    refine XS.dup X2.here hx rfl (hb hby at_57) rfl rfl ?_
    show Stp p e below T2 m 58 #[.val (.long pl1), .second, .val (.int pi2), .val (.int pi3), .val (.int pi4), .val (.int pi5), .val (.int pi6), .val (.int (0 : Int32)), .val (.ref b1), .val (.int (0 : Int32)), .unset, .unset] [(.ref b2), (.ref b2)] _
    refine st4.trans ?_
    show Stp p e below T4 m 61 #[.val (.long pl1), .second, .val (.int pi2), .val (.int pi3), .val (.int pi4), .val (.int pi5), .val (.int pi6), .val (.int (0 : Int32)), .val (.ref b1), .val (.int (0 : Int32)), .unset, .unset] [(.ref b2)] _
    refine XS.astore X4.here hx rfl (hb hby at_61) rfl rfl (l' := #[.val (.long pl1), .second, .val (.int pi2), .val (.int pi3), .val (.int pi4), .val (.int pi5), .val (.int pi6), .val (.int (0 : Int32)), .val (.ref b1), .val (.int (0 : Int32)), .val (.ref b2), .unset]) rfl ?_
    show Stp p e below T4 m 63 #[.val (.long pl1), .second, .val (.int pi2), .val (.int pi3), .val (.int pi4), .val (.int pi5), .val (.int pi6), .val (.int (0 : Int32)), .val (.ref b1), .val (.int (0 : Int32)), .val (.ref b2), .unset] [] _
    refine XS.iload X4.here hx rfl (hb hby at_63) rfl ?_
    show Stp p e below T4 m 65 #[.val (.long pl1), .second, .val (.int pi2), .val (.int pi3), .val (.int pi4), .val (.int pi5), .val (.int pi6), .val (.int (0 : Int32)), .val (.ref b1), .val (.int (0 : Int32)), .val (.ref b2), .unset] [(.int (0 : Int32))] _
    refine XS.ifYes X4.here hx rfl (pc0 := 65) (pc' := 84) rfl (hb hby at_65) rfl ((if0 _ _).trans (flt (by simp : ¬ ((0 : Int32) < (0 : Int32)))).2.2.2) (by decide) (by decide) ?_
    show Stp p e below T4 m 84 #[.val (.long pl1), .second, .val (.int pi2), .val (.int pi3), .val (.int pi4), .val (.int pi5), .val (.int pi6), .val (.int (0 : Int32)), .val (.ref b1), .val (.int (0 : Int32)), .val (.ref b2), .unset] [] _
    refine XS.iload X4.here hx rfl (hb hby at_84) rfl ?_
    show Stp p e below T4 m 86 #[.val (.long pl1), .second, .val (.int pi2), .val (.int pi3), .val (.int pi4), .val (.int pi5), .val (.int pi6), .val (.int (0 : Int32)), .val (.ref b1), .val (.int (0 : Int32)), .val (.ref b2), .unset] [(.int (0 : Int32))] _
    refine XS.iconst X4.here hx rfl (hb hby at_86) ?_
    show Stp p e below T4 m 87 #[.val (.long pl1), .second, .val (.int pi2), .val (.int pi3), .val (.int pi4), .val (.int pi5), .val (.int pi6), .val (.int (0 : Int32)), .val (.ref b1), .val (.int (0 : Int32)), .val (.ref b2), .unset] [(.int (1 : Int32)), (.int (0 : Int32))] _
    refine XS.icmpYes X4.here hx rfl (pc0 := 87) (pc' := 106) rfl (hb hby at_87) rfl (flt (by decide : ¬ ((1 : Int32) < (0 : Int32)))).2.2.2 (by decide) (by decide) ?_
    show Stp p e below T4 m 106 #[.val (.long pl1), .second, .val (.int pi2), .val (.int pi3), .val (.int pi4), .val (.int pi5), .val (.int pi6), .val (.int (0 : Int32)), .val (.ref b1), .val (.int (0 : Int32)), .val (.ref b2), .unset] [] _
    refine XS.iload X4.here hx rfl (hb hby at_106) rfl ?_
    show Stp p e below T4 m 108 #[.val (.long pl1), .second, .val (.int pi2), .val (.int pi3), .val (.int pi4), .val (.int pi5), .val (.int pi6), .val (.int (0 : Int32)), .val (.ref b1), .val (.int (0 : Int32)), .val (.ref b2), .unset] [(.int (0 : Int32))] _
    refine XS.iconst X4.here hx rfl (hb hby at_108) ?_
    show Stp p e below T4 m 109 #[.val (.long pl1), .second, .val (.int pi2), .val (.int pi3), .val (.int pi4), .val (.int pi5), .val (.int pi6), .val (.int (0 : Int32)), .val (.ref b1), .val (.int (0 : Int32)), .val (.ref b2), .unset] [(.int (2 : Int32)), (.int (0 : Int32))] _
    refine XS.icmpYes X4.here hx rfl (pc0 := 109) (pc' := 128) rfl (hb hby at_109) rfl (flt (by decide : ¬ ((2 : Int32) < (0 : Int32)))).2.2.2 (by decide) (by decide) ?_
    show Stp p e below T4 m 128 #[.val (.long pl1), .second, .val (.int pi2), .val (.int pi3), .val (.int pi4), .val (.int pi5), .val (.int pi6), .val (.int (0 : Int32)), .val (.ref b1), .val (.int (0 : Int32)), .val (.ref b2), .unset] [] _
    refine st8 _ ?_
    show Stp p e below T8 m 131 #[.val (.long pl1), .second, .val (.int pi2), .val (.int pi3), .val (.int pi4), .val (.int pi5), .val (.int pi6), .val (.int (0 : Int32)), .val (.ref b1), .val (.int (0 : Int32)), .val (.ref b2), .unset] [(.ref b8)] _
    refine XS.dup X8.here hx rfl (hb hby at_131) rfl rfl ?_
    show Stp p e below T8 m 132 #[.val (.long pl1), .second, .val (.int pi2), .val (.int pi3), .val (.int pi4), .val (.int pi5), .val (.int pi6), .val (.int (0 : Int32)), .val (.ref b1), .val (.int (0 : Int32)), .val (.ref b2), .unset] [(.ref b8), (.ref b8)] _
    refine XS.lloadN X8.here hx rfl (hb hby at_132) rfl ?_
    show Stp p e below T8 m 133 #[.val (.long pl1), .second, .val (.int pi2), .val (.int pi3), .val (.int pi4), .val (.int pi5), .val (.int pi6), .val (.int (0 : Int32)), .val (.ref b1), .val (.int (0 : Int32)), .val (.ref b2), .unset] [(.long pl1), (.ref b8), (.ref b8)] _
    refine XS.aload X8.here hx rfl (hb hby at_133) rfl rfl ?_
    show Stp p e below T8 m 135 #[.val (.long pl1), .second, .val (.int pi2), .val (.int pi3), .val (.int pi4), .val (.int pi5), .val (.int pi6), .val (.int (0 : Int32)), .val (.ref b1), .val (.int (0 : Int32)), .val (.ref b2), .unset] [(.ref b1), (.long pl1), (.ref b8), (.ref b8)] _
    refine XS.aload X8.here hx rfl (hb hby at_135) rfl rfl ?_
    show Stp p e below T8 m 137 #[.val (.long pl1), .second, .val (.int pi2), .val (.int pi3), .val (.int pi4), .val (.int pi5), .val (.int pi6), .val (.int (0 : Int32)), .val (.ref b1), .val (.int (0 : Int32)), .val (.ref b2), .unset] [(.ref b2), (.ref b1), (.long pl1), (.ref b8), (.ref b8)] _
    refine st10.trans ?_
    show Stp p e below T10 m 140 #[.val (.long pl1), .second, .val (.int pi2), .val (.int pi3), .val (.int pi4), .val (.int pi5), .val (.int pi6), .val (.int (0 : Int32)), .val (.ref b1), .val (.int (0 : Int32)), .val (.ref b2), .unset] [(.ref b8)] _
    refine XS.astore X10.here hx rfl (hb hby at_140) rfl rfl (l' := #[.val (.long pl1), .second, .val (.int pi2), .val (.int pi3), .val (.int pi4), .val (.int pi5), .val (.int pi6), .val (.int (0 : Int32)), .val (.ref b1), .val (.int (0 : Int32)), .val (.ref b2), .val (.ref b8)]) rfl ?_
    show Stp p e below T10 m 142 #[.val (.long pl1), .second, .val (.int pi2), .val (.int pi3), .val (.int pi4), .val (.int pi5), .val (.int pi6), .val (.int (0 : Int32)), .val (.ref b1), .val (.int (0 : Int32)), .val (.ref b2), .val (.ref b8)] [] _
    refine XS.aload X10.here hx rfl (hb hby at_142) rfl rfl ?_
    show Stp p e below T10 m 144 #[.val (.long pl1), .second, .val (.int pi2), .val (.int pi3), .val (.int pi4), .val (.int pi5), .val (.int pi6), .val (.int (0 : Int32)), .val (.ref b1), .val (.int (0 : Int32)), .val (.ref b2), .val (.ref b8)] [(.ref b8)] _
    refine st18.trans ?_
    show Stp p e below T18 m 147 #[.val (.long pl1), .second, .val (.int pi2), .val (.int pi3), .val (.int pi4), .val (.int pi5), .val (.int pi6), .val (.int (0 : Int32)), .val (.ref b1), .val (.int (0 : Int32)), .val (.ref b2), .val (.ref b8)] [(.int (1 : Int32))] _
    refine XS.iload X18.here hx rfl (hb hby at_147) rfl ?_
    show Stp p e below T18 m 149 #[.val (.long pl1), .second, .val (.int pi2), .val (.int pi3), .val (.int pi4), .val (.int pi5), .val (.int pi6), .val (.int (0 : Int32)), .val (.ref b1), .val (.int (0 : Int32)), .val (.ref b2), .val (.ref b8)] [(.int (0 : Int32)), (.int (1 : Int32))] _
    refine XS.ifNo X18.here hx rfl (hb hby at_149) rfl ((if0 _ _).trans (teq (rfl : (0 : Int32) = (0 : Int32))).2) ?_
    show Stp p e below T18 m 152 #[.val (.long pl1), .second, .val (.int pi2), .val (.int pi3), .val (.int pi4), .val (.int pi5), .val (.int pi6), .val (.int (0 : Int32)), .val (.ref b1), .val (.int (0 : Int32)), .val (.ref b2), .val (.ref b8)] [(.int (1 : Int32))] _
    refine XS.iconst X18.here hx rfl (hb hby at_152) ?_
    show Stp p e below T18 m 153 #[.val (.long pl1), .second, .val (.int pi2), .val (.int pi3), .val (.int pi4), .val (.int pi5), .val (.int pi6), .val (.int (0 : Int32)), .val (.ref b1), .val (.int (0 : Int32)), .val (.ref b2), .val (.ref b8)] [(.int (1 : Int32)), (.int (1 : Int32))] _
    refine XS.goto X18.here hx rfl (pc0 := 153) (pc' := 157) rfl (hb hby at_153) (by decide) (by decide) ?_
    show Stp p e below T18 m 157 #[.val (.long pl1), .second, .val (.int pi2), .val (.int pi3), .val (.int pi4), .val (.int pi5), .val (.int pi6), .val (.int (0 : Int32)), .val (.ref b1), .val (.int (0 : Int32)), .val (.ref b2), .val (.ref b8)] [(.int (1 : Int32)), (.int (1 : Int32))] _
    refine XS.icmpNo X18.here hx rfl (hb hby at_157) rfl (teq (rfl : (1 : Int32) = (1 : Int32))).2 ?_
    show Stp p e below T18 m 160 #[.val (.long pl1), .second, .val (.int pi2), .val (.int pi3), .val (.int pi4), .val (.int pi5), .val (.int pi6), .val (.int (0 : Int32)), .val (.ref b1), .val (.int (0 : Int32)), .val (.ref b2), .val (.ref b8)] [] _
    refine XS.iconst X18.here hx rfl (hb hby at_160) ?_
    show Stp p e below T18 m 161 #[.val (.long pl1), .second, .val (.int pi2), .val (.int pi3), .val (.int pi4), .val (.int pi5), .val (.int pi6), .val (.int (0 : Int32)), .val (.ref b1), .val (.int (0 : Int32)), .val (.ref b2), .val (.ref b8)] [(.int (1 : Int32))] _
    refine XS.goto X18.here hx rfl (pc0 := 161) (pc' := 165) rfl (hb hby at_161) (by decide) (by decide) ?_
    show Stp p e below T18 m 165 #[.val (.long pl1), .second, .val (.int pi2), .val (.int pi3), .val (.int pi4), .val (.int pi5), .val (.int pi6), .val (.int (0 : Int32)), .val (.ref b1), .val (.int (0 : Int32)), .val (.ref b2), .val (.ref b8)] [(.int (1 : Int32))] _
    exact retN X18 hx (t := .boolean) Bd.returns (by simp) (hb hby at_165) hr
  · exact ⟨rfl, N18⟩
theorem pd_1 : parseMethodDescriptor "(II)[B" = some ⟨[.int, .int], some (.array .byte)⟩ := by decide +kernel
theorem pd_2 : parseMethodDescriptor "(Ljava/lang/Object;)Z" = some ⟨[(.object "java/lang/Object")], some .boolean⟩ := by decide +kernel
set_option maxRecDepth 65536 in
set_option maxHeartbeats 40000000 in
theorem rm0_tft (l : Launch) (Z : State) (a0 : Array Value) (hw : ∀ d ∈ tables_1, d.before a0 Z = true) (ws : List Jvm.Cond) (pl1 : Int64) (pi2 : Int32) (pi3 : Int32) (pi4 : Int32) (pi5 : Int32) (pi6 : Int32) (w_DEF : Addr) (kk_w_DEF : ClassId) (h0 : Heap) (n0 : Nat) (Z0 : n0 ≤ h0.size) (O0 : Old Z n0 h0) (S_DEFAULTCAPACITY_EMPTY_ELEMENTDATA : Sta Z Z.heap "java/util/ArrayList" "DEFAULTCAPACITY_EMPTY_ELEMENTDATA" "[Ljava/lang/Object;" (.ref w_DEF)) (V_w_DEF : Arv Z Z.heap w_DEF kk_w_DEF (.object "java/lang/Object") (0 : Int32) [] .null) (hc3_0 : (pi2 &&& (3 : Int32)) = (0 : Int32)) (hc52_1 : ¬ ((pi3 &&& (3 : Int32)) = (0 : Int32))) (hc52_2 : (pi3 &&& (3 : Int32)) = (1 : Int32)) :
    MetFree l x (head1 (Jvm.Cond.code x code maxLocals ret :: ws) room_1) (fun a U => a = #[(.long pl1), (.int pi2), (.int pi3), (.int pi4), (.int pi5), (.int pi6)] ∧ Z.Warmed39 U.vm ∧ U.heap = h0) (fun _ _ _ _ _ => True) (fun _ U o U' => ∃ v L, o = .returned v ∧ Q0 v L n0 ∧ FrameEnd U o U' L room_1.cells room_1.slots) := by
  refine MetFree.of_bodySF (plainFor_of_name pn_0) hisR ?_
  intro p e s m args below meth c s₁ Bd hml0 hP hK
  obtain ⟨rfl, hZ, hh⟩ := hP
  have hx := Bd.exec
  have hby := Bd.bytes
  have hml : c.maxLocals = 12 := hml0
  have hown : s.vm.findClass "com/example/shardwright/shardwright/cli/RowIsBlankPinLaw" = some m.cls := findClass_of_methodNamed Bd.named
  have hnm := (name_of_methodNamed Bd.named Bd.method).1
  have X0 : Stand p l e room_1 s m #[(.long pl1), (.int pi2), (.int pi3), (.int pi4), (.int pi5), (.int pi6)] below meth c s₁ [] 0 0 := Stand.of_body Bd
  have e0 : s₁.heap = h0 := by rw [← hh, Bd.state]; rfl
  have N0 := Fr.nil n0
  have pre0 : ∀ t, Steps p.tables e below (s₁.setTop (mkF m 0 #[.val (.long pl1), .second, .val (.int pi2), .val (.int pi3), .val (.int pi4), .val (.int pi5), .val (.int pi6), .unset, .unset, .unset, .unset, .unset] [])) t → Steps p.tables e below (s₁.setTop (entryFrame m #[(.long pl1), (.int pi2), (.int pi3), (.int pi4), (.int pi5), (.int pi6)] maxLocals)) t := fun t k => castTop (ef_0 m pl1 pi2 pi3 pi4 pi5 pi6) k
  obtain ⟨T1, h1, k1, X1, e1, E1, A1, st1⟩ := newP X0 hx hZ (own_W hw 0 rfl) e0 (g := (mkF m 7 #[.val (.long pl1), .second, .val (.int pi2), .val (.int pi3), .val (.int pi4), .val (.int pi5), .val (.int pi6), .val (.int (0 : Int32)), .unset, .unset, .unset, .unset] [(.int (0 : Int32))])) rfl (hb hby at_7) rfl (by decide) (cap := 0) (by decide) (by decide) (by decide) (by decide)
  obtain ⟨b1, g1⟩ : ∃ z, z = h0.size := ⟨_, rfl⟩
  rw [← g1] at A1 st1
  have V1 : Arv Z h1 b1 k1 .byte (0 : Int32) [] (.int (0 : Int32)) := (Arv.new A1 (by decide)).pad (pad_rep [] (.int (0 : Int32)) 0)
  obtain ⟨T2, h2, X2, e2, E2, A2, D2, -, st2⟩ := newO X1 hx hZ hown (own_W hw 1 rfl) (own_W hw 2 rfl) (own_W hw 3 rfl) e1 (g := (mkF m 54 #[.val (.long pl1), .second, .val (.int pi2), .val (.int pi3), .val (.int pi4), .val (.int pi5), .val (.int pi6), .val (.int (0 : Int32)), .val (.ref b1), .val (.int (1 : Int32)), .unset, .unset] [])) rfl (hb hby at_54) (by decide) (by decide)
  obtain ⟨b2, g2⟩ : ∃ z, z = h1.size := ⟨_, rfl⟩
  rw [← g2] at A2 D2 st2
  have F_modCount_b2 : Fld Z h2 b2 "java/util/AbstractList" "modCount" "I" (.int (0 : Int32)) := D2 (Or.inl (own_W hw 23 rfl)) (ty := .int) (by decide)
  have F_elementData_b2 : Fld Z h2 b2 "java/util/ArrayList" "elementData" "[Ljava/lang/Object;" .null := D2 (Or.inl (own_W hw 26 rfl)) (ty := (.array (.object "java/lang/Object"))) (by decide)
  have F_size_b2 : Fld Z h2 b2 "java/util/ArrayList" "size" "I" (.int (0 : Int32)) := D2 (Or.inl (own_W hw 43 rfl)) (ty := .int) (by decide)
  have z3 := Nat.le_trans Z0 E1.1
  have g_b2 : n0 ≤ b2 := Nat.le_trans z3 (Nat.le_of_eq g2.symm)
  have z5 := Nat.le_trans z3 E2.1
  have o6 := O0.ext E1
  have o7 := o6.ext E2
  obtain ⟨_, _, ⟨T4, L4, k4, n4⟩, -, X4, ⟨Lc4, hQ4, l4, y4, z4⟩, st4⟩ := X2.specialBack hx (y := (⟨"java/util/ArrayList", "<init>", "()V"⟩ : MethodName)) rfl hown (mvT hZ (own_W hw 4 rfl)) (mvT hZ (own_W hw 5 rfl)) (mvT hZ (own_W hw 6 rfl)) (by decide) (backOf (W := 1) (rm1 l Z a0 hw [] b2 w_DEF (.int (0 : Int32)) .null (.int (0 : Int32)) h2 n0 z5 o7 A2 S_DEFAULTCAPACITY_EMPTY_ELEMENTDATA F_modCount_b2 F_elementData_b2 F_size_b2 g_b2) hZ (own_W hw 6 rfl) (own_W hw 3 rfl) (by decide) (by decide)) (g := (mkF m 58 #[.val (.long pl1), .second, .val (.int pi2), .val (.int pi3), .val (.int pi4), .val (.int pi5), .val (.int pi6), .val (.int (0 : Int32)), .val (.ref b1), .val (.int (1 : Int32)), .unset, .unset] [(.ref b2), (.ref b2)])) rfl (by rw [hml]; rfl) (Steps.refl _) (a := b2) (argsL := []) (rest := [(.ref b2)]) (lenOf pd_0 rfl) rfl (by show 2 * 0 + _ ≤ _; exact Nat.le_of_eq rfl) (hb hby at_58) (fun _ _ => ⟨rfl, e2, (by decide : 2 + 0 ≤ _), (by decide : 3 + 0 ≤ _)⟩)
  dsimp only [Pt.U, Pt.locs, Pt.cells, Pt.slots] at X4 l4 y4 z4 st4 hQ4
  subst l4 y4 z4
  obtain ⟨rfl, N4q, K4, qf4_0, qf4_1, qf4_2, qf4_3⟩ := hQ4
  have N4 := Fr.app N0 N4q
  have z9 := Nat.le_trans z5 K4.1
  have o10 := o7.keep K4 (allS g_b2 all0)
  obtain ⟨_, _, ⟨T8, L8, k8, n8⟩, -, X8, ⟨Lc8, hQ8, l8, y8, z8⟩, st8⟩ := Jvm.LawKit.callS X4 hx (y := (⟨"com/example/shardwright/shardwright/cli/RowIsBlankPinLaw", "field", "(II)[B"⟩ : MethodName)) hown (mvT hZ (own_W hw 27 rfl)) (mvT hZ (own_W hw 28 rfl)) (mvT hZ (own_W hw 29 rfl)) (mvT hZ (own_W hw 30 rfl)) (by decide) (backOf (W := 1) (rm5 l Z a0 hw [] ((pi3.toUInt32 >>> ((2 : Int32) &&& 31).toUInt32).toInt32) pi4 T4.heap n0 z9 o10 ) hZ (own_W hw 30 rfl) (own_W hw 29 rfl) (by decide) (by decide)) (g := (mkF m 75 #[.val (.long pl1), .second, .val (.int pi2), .val (.int pi3), .val (.int pi4), .val (.int pi5), .val (.int pi6), .val (.int (0 : Int32)), .val (.ref b1), .val (.int (1 : Int32)), .val (.ref b2), .unset] [(.int pi4), (.int ((pi3.toUInt32 >>> ((2 : Int32) &&& 31).toUInt32).toInt32)), (.ref b2)])) rfl (by rw [hml]; rfl) (argsL := [(.int ((pi3.toUInt32 >>> ((2 : Int32) &&& 31).toUInt32).toInt32)), (.int pi4)]) (rest := [(.ref b2)]) (lenOf pd_1 rfl) rfl (by show 2 * 0 + _ ≤ _; exact Nat.le_of_eq rfl) (hb hby at_75) (fun _ _ => ⟨rfl, rfl, (by decide : 2 + 1 ≤ _), (by decide : 3 + 1 ≤ _)⟩)
  dsimp only [Pt.U, Pt.locs, Pt.cells, Pt.slots] at X8 l8 y8 z8 st8 hQ8
  subst l8 y8 z8
  obtain ⟨b8, rfl, N8q, K8, qf8_0, qf8_1⟩ := hQ8
  have N8 := Fr.app N4 N8q
  have f11 := qf4_0.keep K8
  have f12 := qf4_1.keep K8 nin0
  have f13 := qf4_2.keep K8 nin0
  have f14 := qf4_3.keep K8 nin0
  have z16 := Nat.le_trans z9 K8.1
  have o17 := o10.keep K8 all0
  obtain ⟨cq15, kq15, q15a, q15b, q15c⟩ := isOf hZ rfl f11
  obtain ⟨_, _, ⟨T15, L15, k15, n15⟩, -, X15, ⟨Lc15, hQ15, l15, y15, z15⟩, st15⟩ := X8.interfaceBack hx (xi := (⟨"java/util/List", "add", "(Ljava/lang/Object;)Z"⟩ : MethodName)) (y := (⟨"java/util/ArrayList", "add", "(Ljava/lang/Object;)Z"⟩ : MethodName)) hown (mvT hZ (own_W hw 31 rfl)) (mvT hZ (own_W hw 32 rfl)) (mvT hZ (own_W hw 33 rfl)) (mvT hZ (own_W hw 34 rfl)) (mvT hZ (own_W hw 35 rfl)) (mvT hZ (own_W hw 36 rfl)) (mvT hZ (own_W hw 37 rfl)) (mvT hZ (own_W hw 38 rfl)) (by decide) (backOf (W := 0) (rm6_0 l Z a0 hw [] b2 b8 w_DEF kk_w_DEF (0 : Int32) T8.heap n0 z16 o17 f11 qf8_1 S_DEFAULTCAPACITY_EMPTY_ELEMENTDATA V_w_DEF f12 f13 f14 g_b2) hZ (own_W hw 39 rfl) (own_W hw 3 rfl) (by decide) (by decide)) q15a q15b q15c (g := (mkF m 78 #[.val (.long pl1), .second, .val (.int pi2), .val (.int pi3), .val (.int pi4), .val (.int pi5), .val (.int pi6), .val (.int (0 : Int32)), .val (.ref b1), .val (.int (1 : Int32)), .val (.ref b2), .unset] [(.ref b8), (.ref b2)])) rfl (by rw [hml]; rfl) (Steps.refl _) (argsL := [(.ref b8)]) (rest := []) (lenOf pd_2 rfl) rfl (by show 2 * 0 + _ ≤ _; exact Nat.le_of_eq rfl) (hb hby at_78) (fun _ _ => ⟨rfl, rfl, (by decide : 3 + 1 ≤ _), (by decide : 4 + 10 ≤ _)⟩)
  dsimp only [Pt.U, Pt.locs, Pt.cells, Pt.slots] at X15 l15 y15 z15 st15 hQ15
  subst l15 y15 z15
  obtain ⟨b15, b15_1, rfl, N15q, K15, qf15_0, qf15_1, qf15_2, qf15_3, qf15_4, qf15_5, qf15_6⟩ := hQ15
  have N15 := Fr.app N8 N15q
  obtain ⟨T18, h18, X18, e18, E18, A18, D18, -, st18⟩ := newO X15 hx hZ hown (own_W hw 66 rfl) (own_W hw 67 rfl) (own_W hw 68 rfl) rfl (g := (mkF m 128 #[.val (.long pl1), .second, .val (.int pi2), .val (.int pi3), .val (.int pi4), .val (.int pi5), .val (.int pi6), .val (.int (0 : Int32)), .val (.ref b1), .val (.int (1 : Int32)), .val (.ref b2), .unset] [])) rfl (hb hby at_128) (by decide) (by decide)
  obtain ⟨b18, g18⟩ : ∃ z, z = T15.heap.size := ⟨_, rfl⟩
  rw [← g18] at A18 D18 st18
  have F_line_b18 : Fld Z h18 b18 "com/example/shardwright/shardwright/cli/CsvReader$Row" "line" "J" (.long (0 : Int64)) := D18 (Or.inr (own_W hw 79 rfl)) (ty := .long) (by decide)
  have F_text_b18 : Fld Z h18 b18 "com/example/shardwright/shardwright/cli/CsvReader$Row" "text" "[B" .null := D18 (Or.inr (own_W hw 81 rfl)) (ty := (.array .byte)) (by decide)
  have F_fields_b18 : Fld Z h18 b18 "com/example/shardwright/shardwright/cli/CsvReader$Row" "fields" "Ljava/util/List;" .null := D18 (Or.inr (own_W hw 83 rfl)) (ty := (.object "java/util/List")) (by decide)
  have z19 := Nat.le_trans z16 K15.1
  have g_b18 : n0 ≤ b18 := Nat.le_trans z19 (Nat.le_of_eq g18.symm)
  have z21 := Nat.le_trans z19 E18.1
  have o22 := o17.keep K15 (allS g_b2 all0)
  have o23 := o22.ext E18
  obtain ⟨_, _, ⟨T20, L20, k20, n20⟩, -, X20, ⟨Lc20, hQ20, l20, y20, z20⟩, st20⟩ := X18.specialBack hx (y := (⟨"com/example/shardwright/shardwright/cli/CsvReader$Row", "<init>", "(J[BLjava/util/List;)V"⟩ : MethodName)) rfl hown (mvT hZ (own_W hw 69 rfl)) (mvT hZ (own_W hw 70 rfl)) (mvT hZ (own_W hw 71 rfl)) (by decide) (backOf (W := 1) (rm11 l Z a0 hw [] b18 pl1 b1 b2 (.long (0 : Int64)) .null .null h18 n0 z21 o23 A18 F_line_b18 g_b18 F_text_b18 F_fields_b18) hZ (own_W hw 71 rfl) (own_W hw 68 rfl) (by decide) (by decide)) (g := (mkF m 137 #[.val (.long pl1), .second, .val (.int pi2), .val (.int pi3), .val (.int pi4), .val (.int pi5), .val (.int pi6), .val (.int (0 : Int32)), .val (.ref b1), .val (.int (1 : Int32)), .val (.ref b2), .unset] [(.ref b2), (.ref b1), (.long pl1), (.ref b18), (.ref b18)])) rfl (by rw [hml]; rfl) (Steps.refl _) (a := b18) (argsL := [(.long pl1), (.ref b1), (.ref b2)]) (rest := [(.ref b18)]) (lenOf pd_7 rfl) rfl (by show 2 * 0 + _ ≤ _; exact Nat.le_of_eq rfl) (hb hby at_137) (fun _ _ => ⟨rfl, e18, (by decide : 5 + 0 ≤ _), (by decide : 17 + 0 ≤ _)⟩)
  dsimp only [Pt.U, Pt.locs, Pt.cells, Pt.slots] at X20 l20 y20 z20 st20 hQ20
  subst l20 y20 z20
  obtain ⟨rfl, N20q, K20, qf20_0, qf20_1, qf20_2, qf20_3⟩ := hQ20
  have N20 := Fr.app N15 N20q
  have f24 := V1.ext E2
  have f25 := f24.keep K4 (ninS (Nat.ne_of_lt (Nat.lt_of_lt_of_le V1.lt (Nat.le_of_eq g2.symm))) nin0)
  have f26 := f25.keep K8 nin0
  have f27 := f26.keep K15 (ninS (Nat.ne_of_lt (Nat.lt_of_lt_of_le V1.lt (Nat.le_of_eq g2.symm))) nin0)
  have f28 := f27.ext E18
  have f29 := f28.keep K20 (ninS (Nat.ne_of_lt (Nat.lt_of_lt_of_le f27.lt (Nat.le_of_eq g18.symm))) nin0)
  have z31 := Nat.le_trans z21 K20.1
  have o32 := o23.keep K20 (allS g_b18 all0)
  obtain ⟨cq30, kq30, q30a, q30b, q30c⟩ := isOf hZ rfl qf20_0
  obtain ⟨_, _, ⟨T30, L30, k30, n30⟩, -, X30, ⟨Lc30, hQ30, l30, y30, z30⟩, st30⟩ := X20.virtualBack hx (y := (⟨"com/example/shardwright/shardwright/cli/CsvReader$Row", "isBlank", "()Z"⟩ : MethodName)) (z := (⟨"com/example/shardwright/shardwright/cli/CsvReader$Row", "isBlank", "()Z"⟩ : MethodName)) hown (mvT hZ (own_W hw 84 rfl)) (mvT hZ (own_W hw 85 rfl)) (notFace_of_selects (args := #[]) (mvT hZ (own_W hw 87 rfl))) (mvT hZ (own_W hw 87 rfl)) (mvT hZ (own_W hw 86 rfl)) (by decide) (backOf (W := 0) (rm13_0 l Z a0 hw [] b18 b1 k1 T20.heap n0 z31 o32 qf20_2 f29) hZ (own_W hw 88 rfl) (own_W hw 68 rfl) (by decide) (by decide)) q30a q30c (g := (mkF m 144 #[.val (.long pl1), .second, .val (.int pi2), .val (.int pi3), .val (.int pi4), .val (.int pi5), .val (.int pi6), .val (.int (0 : Int32)), .val (.ref b1), .val (.int (1 : Int32)), .val (.ref b2), .val (.ref b18)] [(.ref b18)])) rfl (by rw [hml]; rfl) (Steps.refl _) (argsL := []) (rest := []) (lenOf pd_8 rfl) rfl (by show 2 * 0 + _ ≤ _; exact Nat.le_of_eq rfl) (hb hby at_144) (fun _ _ => ⟨rfl, rfl, (by decide : 5 + 0 ≤ _), (by decide : 17 + 0 ≤ _)⟩)
  dsimp only [Pt.U, Pt.locs, Pt.cells, Pt.slots] at X30 l30 y30 z30 st30 hQ30
  subst l30 y30 z30
  obtain ⟨rfl, N30q, eq30⟩ := hQ30
  have N30 := Fr.app N20 N30q
  obtain ⟨fs, hr, hrun, hended, hW, hsame⟩ := X30.leave (v := some (.int (1 : Int32))) (fun h => by rw [Bd.returns] at h; cases h)
  refine ⟨_, _, pre0 _ ?_, hrun, hended, _, _, rfl, ?_, ⟨_, rfl⟩, hW, hsame.mono (by decide) (by decide)⟩
  · show Stp p e below s₁ m 0 #[.val (.long pl1), .second, .val (.int pi2), .val (.int pi3), .val (.int pi4), .val (.int pi5), .val (.int pi6), .unset, .unset, .unset, .unset, .unset] [] _
    refine XS.iloadN X0.here hx rfl (hb hby at_0) rfl ?_
    show Stp p e below s₁ m 1 #[.val (.long pl1), .second, .val (.int pi2), .val (.int pi3), .val (.int pi4), .val (.int pi5), .val (.int pi6), .unset, .unset, .unset, .unset, .unset] [(.int pi2)] _
    refine XS.iconst X0.here hx rfl (hb hby at_1) ?_
    show Stp p e below s₁ m 2 #[.val (.long pl1), .second, .val (.int pi2), .val (.int pi3), .val (.int pi4), .val (.int pi5), .val (.int pi6), .unset, .unset, .unset, .unset, .unset] [(.int (3 : Int32)), (.int pi2)] _
    refine XS.iand X0.here hx rfl (hb hby at_2) rfl ?_
    show Stp p e below s₁ m 3 #[.val (.long pl1), .second, .val (.int pi2), .val (.int pi3), .val (.int pi4), .val (.int pi5), .val (.int pi6), .unset, .unset, .unset, .unset, .unset] [(.int (pi2 &&& (3 : Int32)))] _
    refine XS.istore X0.here hx rfl (hb hby at_3) rfl (l' := #[.val (.long pl1), .second, .val (.int pi2), .val (.int pi3), .val (.int pi4), .val (.int pi5), .val (.int pi6), .val (.int (pi2 &&& (3 : Int32))), .unset, .unset, .unset, .unset]) rfl ?_
    show Stp p e below s₁ m 5 #[.val (.long pl1), .second, .val (.int pi2), .val (.int pi3), .val (.int pi4), .val (.int pi5), .val (.int pi6), .val (.int (pi2 &&& (3 : Int32))), .unset, .unset, .unset, .unset] [] _
    rw [show (pi2 &&& (3 : Int32)) = (0 : Int32) from hc3_0]
    show Stp p e below s₁ m 5 #[.val (.long pl1), .second, .val (.int pi2), .val (.int pi3), .val (.int pi4), .val (.int pi5), .val (.int pi6), .val (.int (0 : Int32)), .unset, .unset, .unset, .unset] [] _
    refine XS.iload X0.here hx rfl (hb hby at_5) rfl ?_
    show Stp p e below s₁ m 7 #[.val (.long pl1), .second, .val (.int pi2), .val (.int pi3), .val (.int pi4), .val (.int pi5), .val (.int pi6), .val (.int (0 : Int32)), .unset, .unset, .unset, .unset] [(.int (0 : Int32))] _
    refine st1 _ ?_
    show Stp p e below T1 m 9 #[.val (.long pl1), .second, .val (.int pi2), .val (.int pi3), .val (.int pi4), .val (.int pi5), .val (.int pi6), .val (.int (0 : Int32)), .unset, .unset, .unset, .unset] [(.ref b1)] _
    refine XS.astore X1.here hx rfl (hb hby at_9) rfl rfl (l' := #[.val (.long pl1), .second, .val (.int pi2), .val (.int pi3), .val (.int pi4), .val (.int pi5), .val (.int pi6), .val (.int (0 : Int32)), .val (.ref b1), .unset, .unset, .unset]) rfl ?_
    show Stp p e below T1 m 11 #[.val (.long pl1), .second, .val (.int pi2), .val (.int pi3), .val (.int pi4), .val (.int pi5), .val (.int pi6), .val (.int (0 : Int32)), .val (.ref b1), .unset, .unset, .unset] [] _
    refine XS.iload X1.here hx rfl (hb hby at_11) rfl ?_
    show Stp p e below T1 m 13 #[.val (.long pl1), .second, .val (.int pi2), .val (.int pi3), .val (.int pi4), .val (.int pi5), .val (.int pi6), .val (.int (0 : Int32)), .val (.ref b1), .unset, .unset, .unset] [(.int (0 : Int32))] _
    refine XS.ifYes X1.here hx rfl (pc0 := 13) (pc' := 23) rfl (hb hby at_13) rfl ((if0 _ _).trans (flt (by simp : ¬ ((0 : Int32) < (0 : Int32)))).2.2.2) (by decide) (by decide) ?_
    show Stp p e below T1 m 23 #[.val (.long pl1), .second, .val (.int pi2), .val (.int pi3), .val (.int pi4), .val (.int pi5), .val (.int pi6), .val (.int (0 : Int32)), .val (.ref b1), .unset, .unset, .unset] [] _
    refine XS.iload X1.here hx rfl (hb hby at_23) rfl ?_
    show Stp p e below T1 m 25 #[.val (.long pl1), .second, .val (.int pi2), .val (.int pi3), .val (.int pi4), .val (.int pi5), .val (.int pi6), .val (.int (0 : Int32)), .val (.ref b1), .unset, .unset, .unset] [(.int (0 : Int32))] _
    refine XS.iconst X1.here hx rfl (hb hby at_25) ?_
    show Stp p e below T1 m 26 #[.val (.long pl1), .second, .val (.int pi2), .val (.int pi3), .val (.int pi4), .val (.int pi5), .val (.int pi6), .val (.int (0 : Int32)), .val (.ref b1), .unset, .unset, .unset] [(.int (1 : Int32)), (.int (0 : Int32))] _
    refine XS.icmpYes X1.here hx rfl (pc0 := 26) (pc' := 36) rfl (hb hby at_26) rfl (flt (by decide : ¬ ((1 : Int32) < (0 : Int32)))).2.2.2 (by decide) (by decide) ?_
    show Stp p e below T1 m 36 #[.val (.long pl1), .second, .val (.int pi2), .val (.int pi3), .val (.int pi4), .val (.int pi5), .val (.int pi6), .val (.int (0 : Int32)), .val (.ref b1), .unset, .unset, .unset] [] _
    refine XS.iload X1.here hx rfl (hb hby at_36) rfl ?_
    show Stp p e below T1 m 38 #[.val (.long pl1), .second, .val (.int pi2), .val (.int pi3), .val (.int pi4), .val (.int pi5), .val (.int pi6), .val (.int (0 : Int32)), .val (.ref b1), .unset, .unset, .unset] [(.int (0 : Int32))] _
    refine XS.iconst X1.here hx rfl (hb hby at_38) ?_
    show Stp p e below T1 m 39 #[.val (.long pl1), .second, .val (.int pi2), .val (.int pi3), .val (.int pi4), .val (.int pi5), .val (.int pi6), .val (.int (0 : Int32)), .val (.ref b1), .unset, .unset, .unset] [(.int (2 : Int32)), (.int (0 : Int32))] _
    refine XS.icmpYes X1.here hx rfl (pc0 := 39) (pc' := 49) rfl (hb hby at_39) rfl (flt (by decide : ¬ ((2 : Int32) < (0 : Int32)))).2.2.2 (by decide) (by decide) ?_
    show Stp p e below T1 m 49 #[.val (.long pl1), .second, .val (.int pi2), .val (.int pi3), .val (.int pi4), .val (.int pi5), .val (.int pi6), .val (.int (0 : Int32)), .val (.ref b1), .unset, .unset, .unset] [] _
    refine XS.iloadN X1.here hx rfl (hb hby at_49) rfl ?_
    show Stp p e below T1 m 50 #[.val (.long pl1), .second, .val (.int pi2), .val (.int pi3), .val (.int pi4), .val (.int pi5), .val (.int pi6), .val (.int (0 : Int32)), .val (.ref b1), .unset, .unset, .unset] [(.int pi3)] _
    refine XS.iconst X1.here hx rfl (hb hby at_50) ?_
    show Stp p e below T1 m 51 #[.val (.long pl1), .second, .val (.int pi2), .val (.int pi3), .val (.int pi4), .val (.int pi5), .val (.int pi6), .val (.int (0 : Int32)), .val (.ref b1), .unset, .unset, .unset] [(.int (3 : Int32)), (.int pi3)] _
    refine XS.iand X1.here hx rfl (hb hby at_51) rfl ?_
    show Stp p e below T1 m 52 #[.val (.long pl1), .second, .val (.int pi2), .val (.int pi3), .val (.int pi4), .val (.int pi5), .val (.int pi6), .val (.int (0 : Int32)), .val (.ref b1), .unset, .unset, .unset] [(.int (pi3 &&& (3 : Int32)))] _
    refine XS.istore X1.here hx rfl (hb hby at_52) rfl (l' := #[.val (.long pl1), .second, .val (.int pi2), .val (.int pi3), .val (.int pi4), .val (.int pi5), .val (.int pi6), .val (.int (0 : Int32)), .val (.ref b1), .val (.int (pi3 &&& (3 : Int32))), .unset, .unset]) rfl ?_
    show Stp p e below T1 m 54 #[.val (.long pl1), .second, .val (.int pi2), .val (.int pi3), .val (.int pi4), .val (.int pi5), .val (.int pi6), .val (.int (0 : Int32)), .val (.ref b1), .val (.int (pi3 &&& (3 : Int32))), .unset, .unset] [] _
    rw [show (pi3 &&& (3 : Int32)) = (1 : Int32) from hc52_2]
    show Stp p e below T1 m 54 #[.val (.long pl1), .second, .val (.int pi2), .val (.int pi3), .val (.int pi4), .val (.int pi5), .val (.int pi6), .val (.int (0 : Int32)), .val (.ref b1), .val (.int (1 : Int32)), .unset, .unset] [] _
    refine st2 _ ?_
    show Stp p e below T2 m 57 #[.val (.long pl1), .second, .val (.int pi2), .val (.int pi3), .val (.int pi4), .val (.int pi5), .val (.int pi6), .val (.int (0 : Int32)), .val (.ref b1), .val (.int (1 : Int32)), .unset, .unset] [(.ref b2)] _
    refine XS.dup X2.here hx rfl (hb hby at_57) rfl rfl ?_
    show Stp p e below T2 m 58 #[.val (.long pl1), .second, .val (.int pi2), .val (.int pi3), .val (.int pi4), .val (.int pi5), .val (.int pi6), .val (.int (0 : Int32)), .val (.ref b1), .val (.int (1 : Int32)), .unset, .unset] [(.ref b2), (.ref b2)] _
    refine st4.trans ?_
    show Stp p e below T4 m 61 #[.val (.long pl1), .second, .val (.int pi2), .val (.int pi3), .val (.int pi4), .val (.int pi5), .val (.int pi6), .val (.int (0 : Int32)), .val (.ref b1), .val (.int (1 : Int32)), .unset, .unset] [(.ref b2)] _
    refine XS.astore X4.here hx rfl (hb hby at_61) rfl rfl (l' := #[.val (.long pl1), .second, .val (.int pi2), .val (.int pi3), .val (.int pi4), .val (.int pi5), .val (.int pi6), .val (.int (0 : Int32)), .val (.ref b1), .val (.int (1 : Int32)), .val (.ref b2), .unset]) rfl ?_
    show Stp p e below T4 m 63 #[.val (.long pl1), .second, .val (.int pi2), .val (.int pi3), .val (.int pi4), .val (.int pi5), .val (.int pi6), .val (.int (0 : Int32)), .val (.ref b1), .val (.int (1 : Int32)), .val (.ref b2), .unset] [] _
    refine XS.iload X4.here hx rfl (hb hby at_63) rfl ?_
    show Stp p e below T4 m 65 #[.val (.long pl1), .second, .val (.int pi2), .val (.int pi3), .val (.int pi4), .val (.int pi5), .val (.int pi6), .val (.int (0 : Int32)), .val (.ref b1), .val (.int (1 : Int32)), .val (.ref b2), .unset] [(.int (1 : Int32))] _
    refine XS.ifNo X4.here hx rfl (hb hby at_65) rfl ((if0 _ _).trans (tlt (by decide : (0 : Int32) < (1 : Int32))).2.2.2) ?_
    show Stp p e below T4 m 68 #[.val (.long pl1), .second, .val (.int pi2), .val (.int pi3), .val (.int pi4), .val (.int pi5), .val (.int pi6), .val (.int (0 : Int32)), .val (.ref b1), .val (.int (1 : Int32)), .val (.ref b2), .unset] [] _
    refine XS.aload X4.here hx rfl (hb hby at_68) rfl rfl ?_
    show Stp p e below T4 m 70 #[.val (.long pl1), .second, .val (.int pi2), .val (.int pi3), .val (.int pi4), .val (.int pi5), .val (.int pi6), .val (.int (0 : Int32)), .val (.ref b1), .val (.int (1 : Int32)), .val (.ref b2), .unset] [(.ref b2)] _
    refine XS.iloadN X4.here hx rfl (hb hby at_70) rfl ?_
    show Stp p e below T4 m 71 #[.val (.long pl1), .second, .val (.int pi2), .val (.int pi3), .val (.int pi4), .val (.int pi5), .val (.int pi6), .val (.int (0 : Int32)), .val (.ref b1), .val (.int (1 : Int32)), .val (.ref b2), .unset] [(.int pi3), (.ref b2)] _
    refine XS.iconst X4.here hx rfl (hb hby at_71) ?_
    show Stp p e below T4 m 72 #[.val (.long pl1), .second, .val (.int pi2), .val (.int pi3), .val (.int pi4), .val (.int pi5), .val (.int pi6), .val (.int (0 : Int32)), .val (.ref b1), .val (.int (1 : Int32)), .val (.ref b2), .unset] [(.int (2 : Int32)), (.int pi3), (.ref b2)] _
    refine XS.iushr X4.here hx rfl (hb hby at_72) rfl ?_
    show Stp p e below T4 m 73 #[.val (.long pl1), .second, .val (.int pi2), .val (.int pi3), .val (.int pi4), .val (.int pi5), .val (.int pi6), .val (.int (0 : Int32)), .val (.ref b1), .val (.int (1 : Int32)), .val (.ref b2), .unset] [(.int ((pi3.toUInt32 >>> ((2 : Int32) &&& 31).toUInt32).toInt32)), (.ref b2)] _
    refine XS.iload X4.here hx rfl (hb hby at_73) rfl ?_
    show Stp p e below T4 m 75 #[.val (.long pl1), .second, .val (.int pi2), .val (.int pi3), .val (.int pi4), .val (.int pi5), .val (.int pi6), .val (.int (0 : Int32)), .val (.ref b1), .val (.int (1 : Int32)), .val (.ref b2), .unset] [(.int pi4), (.int ((pi3.toUInt32 >>> ((2 : Int32) &&& 31).toUInt32).toInt32)), (.ref b2)] _
    refine st8 _ ?_
    show Stp p e below T8 m 78 #[.val (.long pl1), .second, .val (.int pi2), .val (.int pi3), .val (.int pi4), .val (.int pi5), .val (.int pi6), .val (.int (0 : Int32)), .val (.ref b1), .val (.int (1 : Int32)), .val (.ref b2), .unset] [(.ref b8), (.ref b2)] _
    refine st15.trans ?_
    show Stp p e below T15 m 83 #[.val (.long pl1), .second, .val (.int pi2), .val (.int pi3), .val (.int pi4), .val (.int pi5), .val (.int pi6), .val (.int (0 : Int32)), .val (.ref b1), .val (.int (1 : Int32)), .val (.ref b2), .unset] [(.int (1 : Int32))] _
    refine XS.pop X15.here hx rfl (hb hby at_83) rfl rfl ?_
    show Stp p e below T15 m 84 #[.val (.long pl1), .second, .val (.int pi2), .val (.int pi3), .val (.int pi4), .val (.int pi5), .val (.int pi6), .val (.int (0 : Int32)), .val (.ref b1), .val (.int (1 : Int32)), .val (.ref b2), .unset] [] _
    refine XS.iload X15.here hx rfl (hb hby at_84) rfl ?_
    show Stp p e below T15 m 86 #[.val (.long pl1), .second, .val (.int pi2), .val (.int pi3), .val (.int pi4), .val (.int pi5), .val (.int pi6), .val (.int (0 : Int32)), .val (.ref b1), .val (.int (1 : Int32)), .val (.ref b2), .unset] [(.int (1 : Int32))] _
    refine XS.iconst X15.here hx rfl (hb hby at_86) ?_
    show Stp p e below T15 m 87 #[.val (.long pl1), .second, .val (.int pi2), .val (.int pi3), .val (.int pi4), .val (.int pi5), .val (.int pi6), .val (.int (0 : Int32)), .val (.ref b1), .val (.int (1 : Int32)), .val (.ref b2), .unset] [(.int (1 : Int32)), (.int (1 : Int32))] _
    refine XS.icmpYes X15.here hx rfl (pc0 := 87) (pc' := 106) rfl (hb hby at_87) rfl (flt (by simp : ¬ ((1 : Int32) < (1 : Int32)))).2.2.2 (by decide) (by decide) ?_
    show Stp p e below T15 m 106 #[.val (.long pl1), .second, .val (.int pi2), .val (.int pi3), .val (.int pi4), .val (.int pi5), .val (.int pi6), .val (.int (0 : Int32)), .val (.ref b1), .val (.int (1 : Int32)), .val (.ref b2), .unset] [] _
    refine XS.iload X15.here hx rfl (hb hby at_106) rfl ?_
    show Stp p e below T15 m 108 #[.val (.long pl1), .second, .val (.int pi2), .val (.int pi3), .val (.int pi4), .val (.int pi5), .val (.int pi6), .val (.int (0 : Int32)), .val (.ref b1), .val (.int (1 : Int32)), .val (.ref b2), .unset] [(.int (1 : Int32))] _
    refine XS.iconst X15.here hx rfl (hb hby at_108) ?_
    show Stp p e below T15 m 109 #[.val (.long pl1), .second, .val (.int pi2), .val (.int pi3), .val (.int pi4), .val (.int pi5), .val (.int pi6), .val (.int (0 : Int32)), .val (.ref b1), .val (.int (1 : Int32)), .val (.ref b2), .unset] [(.int (2 : Int32)), (.int (1 : Int32))] _
    refine XS.icmpYes X15.here hx rfl (pc0 := 109) (pc' := 128) rfl (hb hby at_109) rfl (flt (by decide : ¬ ((2 : Int32) < (1 : Int32)))).2.2.2 (by decide) (by decide) ?_
    show Stp p e below T15 m 128 #[.val (.long pl1), .second, .val (.int pi2), .val (.int pi3), .val (.int pi4), .val (.int pi5), .val (.int pi6), .val (.int (0 : Int32)), .val (.ref b1), .val (.int (1 : Int32)), .val (.ref b2), .unset] [] _
    refine st18 _ ?_
    show Stp p e below T18 m 131 #[.val (.long pl1), .second, .val (.int pi2), .val (.int pi3), .val (.int pi4), .val (.int pi5), .val (.int pi6), .val (.int (0 : Int32)), .val (.ref b1), .val (.int (1 : Int32)), .val (.ref b2), .unset] [(.ref b18)] _
    refine XS.dup X18.here hx rfl (hb hby at_131) rfl rfl ?_
    show Stp p e below T18 m 132 #[.val (.long pl1), .second, .val (.int pi2), .val (.int pi3), .val (.int pi4), .val (.int pi5), .val (.int pi6), .val (.int (0 : Int32)), .val (.ref b1), .val (.int (1 : Int32)), .val (.ref b2), .unset] [(.ref b18), (.ref b18)] _
    refine XS.lloadN X18.here hx rfl (hb hby at_132) rfl ?_
    show Stp p e below T18 m 133 #[.val (.long pl1), .second, .val (.int pi2), .val (.int pi3), .val (.int pi4), .val (.int pi5), .val (.int pi6), .val (.int (0 : Int32)), .val (.ref b1), .val (.int (1 : Int32)), .val (.ref b2), .unset] [(.long pl1), (.ref b18), (.ref b18)] _
    refine XS.aload X18.here hx rfl (hb hby at_133) rfl rfl ?_
    show Stp p e below T18 m 135 #[.val (.long pl1), .second, .val (.int pi2), .val (.int pi3), .val (.int pi4), .val (.int pi5), .val (.int pi6), .val (.int (0 : Int32)), .val (.ref b1), .val (.int (1 : Int32)), .val (.ref b2), .unset] [(.ref b1), (.long pl1), (.ref b18), (.ref b18)] _
    refine XS.aload X18.here hx rfl (hb hby at_135) rfl rfl ?_
    show Stp p e below T18 m 137 #[.val (.long pl1), .second, .val (.int pi2), .val (.int pi3), .val (.int pi4), .val (.int pi5), .val (.int pi6), .val (.int (0 : Int32)), .val (.ref b1), .val (.int (1 : Int32)), .val (.ref b2), .unset] [(.ref b2), (.ref b1), (.long pl1), (.ref b18), (.ref b18)] _
    refine st20.trans ?_
    show Stp p e below T20 m 140 #[.val (.long pl1), .second, .val (.int pi2), .val (.int pi3), .val (.int pi4), .val (.int pi5), .val (.int pi6), .val (.int (0 : Int32)), .val (.ref b1), .val (.int (1 : Int32)), .val (.ref b2), .unset] [(.ref b18)] _
    refine XS.astore X20.here hx rfl (hb hby at_140) rfl rfl (l' := #[.val (.long pl1), .second, .val (.int pi2), .val (.int pi3), .val (.int pi4), .val (.int pi5), .val (.int pi6), .val (.int (0 : Int32)), .val (.ref b1), .val (.int (1 : Int32)), .val (.ref b2), .val (.ref b18)]) rfl ?_
    show Stp p e below T20 m 142 #[.val (.long pl1), .second, .val (.int pi2), .val (.int pi3), .val (.int pi4), .val (.int pi5), .val (.int pi6), .val (.int (0 : Int32)), .val (.ref b1), .val (.int (1 : Int32)), .val (.ref b2), .val (.ref b18)] [] _
    refine XS.aload X20.here hx rfl (hb hby at_142) rfl rfl ?_
    show Stp p e below T20 m 144 #[.val (.long pl1), .second, .val (.int pi2), .val (.int pi3), .val (.int pi4), .val (.int pi5), .val (.int pi6), .val (.int (0 : Int32)), .val (.ref b1), .val (.int (1 : Int32)), .val (.ref b2), .val (.ref b18)] [(.ref b18)] _
    refine st30.trans ?_
    show Stp p e below T30 m 147 #[.val (.long pl1), .second, .val (.int pi2), .val (.int pi3), .val (.int pi4), .val (.int pi5), .val (.int pi6), .val (.int (0 : Int32)), .val (.ref b1), .val (.int (1 : Int32)), .val (.ref b2), .val (.ref b18)] [(.int (1 : Int32))] _
    refine XS.iload X30.here hx rfl (hb hby at_147) rfl ?_
    show Stp p e below T30 m 149 #[.val (.long pl1), .second, .val (.int pi2), .val (.int pi3), .val (.int pi4), .val (.int pi5), .val (.int pi6), .val (.int (0 : Int32)), .val (.ref b1), .val (.int (1 : Int32)), .val (.ref b2), .val (.ref b18)] [(.int (0 : Int32)), (.int (1 : Int32))] _
    refine XS.ifNo X30.here hx rfl (hb hby at_149) rfl ((if0 _ _).trans (teq (rfl : (0 : Int32) = (0 : Int32))).2) ?_
    show Stp p e below T30 m 152 #[.val (.long pl1), .second, .val (.int pi2), .val (.int pi3), .val (.int pi4), .val (.int pi5), .val (.int pi6), .val (.int (0 : Int32)), .val (.ref b1), .val (.int (1 : Int32)), .val (.ref b2), .val (.ref b18)] [(.int (1 : Int32))] _
    refine XS.iconst X30.here hx rfl (hb hby at_152) ?_
    show Stp p e below T30 m 153 #[.val (.long pl1), .second, .val (.int pi2), .val (.int pi3), .val (.int pi4), .val (.int pi5), .val (.int pi6), .val (.int (0 : Int32)), .val (.ref b1), .val (.int (1 : Int32)), .val (.ref b2), .val (.ref b18)] [(.int (1 : Int32)), (.int (1 : Int32))] _
    refine XS.goto X30.here hx rfl (pc0 := 153) (pc' := 157) rfl (hb hby at_153) (by decide) (by decide) ?_
    show Stp p e below T30 m 157 #[.val (.long pl1), .second, .val (.int pi2), .val (.int pi3), .val (.int pi4), .val (.int pi5), .val (.int pi6), .val (.int (0 : Int32)), .val (.ref b1), .val (.int (1 : Int32)), .val (.ref b2), .val (.ref b18)] [(.int (1 : Int32)), (.int (1 : Int32))] _
    refine XS.icmpNo X30.here hx rfl (hb hby at_157) rfl (teq (rfl : (1 : Int32) = (1 : Int32))).2 ?_
    show Stp p e below T30 m 160 #[.val (.long pl1), .second, .val (.int pi2), .val (.int pi3), .val (.int pi4), .val (.int pi5), .val (.int pi6), .val (.int (0 : Int32)), .val (.ref b1), .val (.int (1 : Int32)), .val (.ref b2), .val (.ref b18)] [] _
    refine XS.iconst X30.here hx rfl (hb hby at_160) ?_
    show Stp p e below T30 m 161 #[.val (.long pl1), .second, .val (.int pi2), .val (.int pi3), .val (.int pi4), .val (.int pi5), .val (.int pi6), .val (.int (0 : Int32)), .val (.ref b1), .val (.int (1 : Int32)), .val (.ref b2), .val (.ref b18)] [(.int (1 : Int32))] _
    refine XS.goto X30.here hx rfl (pc0 := 161) (pc' := 165) rfl (hb hby at_161) (by decide) (by decide) ?_
    show Stp p e below T30 m 165 #[.val (.long pl1), .second, .val (.int pi2), .val (.int pi3), .val (.int pi4), .val (.int pi5), .val (.int pi6), .val (.int (0 : Int32)), .val (.ref b1), .val (.int (1 : Int32)), .val (.ref b2), .val (.ref b18)] [(.int (1 : Int32))] _
    exact retN X30 hx (t := .boolean) Bd.returns (by simp) (hb hby at_165) hr
  · exact ⟨rfl, N30⟩
set_option maxRecDepth 65536 in
set_option maxHeartbeats 40000000 in
theorem rm0_tfft (l : Launch) (Z : State) (a0 : Array Value) (hw : ∀ d ∈ tables_1, d.before a0 Z = true) (ws : List Jvm.Cond) (pl1 : Int64) (pi2 : Int32) (pi3 : Int32) (pi4 : Int32) (pi5 : Int32) (pi6 : Int32) (w_DEF : Addr) (kk_w_DEF : ClassId) (h0 : Heap) (n0 : Nat) (Z0 : n0 ≤ h0.size) (O0 : Old Z n0 h0) (S_DEFAULTCAPACITY_EMPTY_ELEMENTDATA : Sta Z Z.heap "java/util/ArrayList" "DEFAULTCAPACITY_EMPTY_ELEMENTDATA" "[Ljava/lang/Object;" (.ref w_DEF)) (V_w_DEF : Arv Z Z.heap w_DEF kk_w_DEF (.object "java/lang/Object") (0 : Int32) [] .null) (hc3_0 : (pi2 &&& (3 : Int32)) = (0 : Int32)) (hc52_1 : ¬ ((pi3 &&& (3 : Int32)) = (0 : Int32))) (hc52_2 : ¬ ((pi3 &&& (3 : Int32)) = (1 : Int32))) (hc52_3 : (pi3 &&& (3 : Int32)) = (2 : Int32)) :
    MetFree l x (head1 (Jvm.Cond.code x code maxLocals ret :: ws) room_1) (fun a U => a = #[(.long pl1), (.int pi2), (.int pi3), (.int pi4), (.int pi5), (.int pi6)] ∧ Z.Warmed39 U.vm ∧ U.heap = h0) (fun _ _ _ _ _ => True) (fun _ U o U' => ∃ v L, o = .returned v ∧ Q0 v L n0 ∧ FrameEnd U o U' L room_1.cells room_1.slots) := by
  refine MetFree.of_bodySF (plainFor_of_name pn_0) hisR ?_
  intro p e s m args below meth c s₁ Bd hml0 hP hK
  obtain ⟨rfl, hZ, hh⟩ := hP
  have hx := Bd.exec
  have hby := Bd.bytes
  have hml : c.maxLocals = 12 := hml0
  have hown : s.vm.findClass "com/example/shardwright/shardwright/cli/RowIsBlankPinLaw" = some m.cls := findClass_of_methodNamed Bd.named
  have hnm := (name_of_methodNamed Bd.named Bd.method).1
  have X0 : Stand p l e room_1 s m #[(.long pl1), (.int pi2), (.int pi3), (.int pi4), (.int pi5), (.int pi6)] below meth c s₁ [] 0 0 := Stand.of_body Bd
  have e0 : s₁.heap = h0 := by rw [← hh, Bd.state]; rfl
  have N0 := Fr.nil n0
  have pre0 : ∀ t, Steps p.tables e below (s₁.setTop (mkF m 0 #[.val (.long pl1), .second, .val (.int pi2), .val (.int pi3), .val (.int pi4), .val (.int pi5), .val (.int pi6), .unset, .unset, .unset, .unset, .unset] [])) t → Steps p.tables e below (s₁.setTop (entryFrame m #[(.long pl1), (.int pi2), (.int pi3), (.int pi4), (.int pi5), (.int pi6)] maxLocals)) t := fun t k => castTop (ef_0 m pl1 pi2 pi3 pi4 pi5 pi6) k
  obtain ⟨T1, h1, k1, X1, e1, E1, A1, st1⟩ := newP X0 hx hZ (own_W hw 0 rfl) e0 (g := (mkF m 7 #[.val (.long pl1), .second, .val (.int pi2), .val (.int pi3), .val (.int pi4), .val (.int pi5), .val (.int pi6), .val (.int (0 : Int32)), .unset, .unset, .unset, .unset] [(.int (0 : Int32))])) rfl (hb hby at_7) rfl (by decide) (cap := 0) (by decide) (by decide) (by decide) (by decide)
  obtain ⟨b1, g1⟩ : ∃ z, z = h0.size := ⟨_, rfl⟩
  rw [← g1] at A1 st1
  have V1 : Arv Z h1 b1 k1 .byte (0 : Int32) [] (.int (0 : Int32)) := (Arv.new A1 (by decide)).pad (pad_rep [] (.int (0 : Int32)) 0)
  obtain ⟨T2, h2, X2, e2, E2, A2, D2, -, st2⟩ := newO X1 hx hZ hown (own_W hw 1 rfl) (own_W hw 2 rfl) (own_W hw 3 rfl) e1 (g := (mkF m 54 #[.val (.long pl1), .second, .val (.int pi2), .val (.int pi3), .val (.int pi4), .val (.int pi5), .val (.int pi6), .val (.int (0 : Int32)), .val (.ref b1), .val (.int (2 : Int32)), .unset, .unset] [])) rfl (hb hby at_54) (by decide) (by decide)
  obtain ⟨b2, g2⟩ : ∃ z, z = h1.size := ⟨_, rfl⟩
  rw [← g2] at A2 D2 st2
  have F_modCount_b2 : Fld Z h2 b2 "java/util/AbstractList" "modCount" "I" (.int (0 : Int32)) := D2 (Or.inl (own_W hw 23 rfl)) (ty := .int) (by decide)
  have F_elementData_b2 : Fld Z h2 b2 "java/util/ArrayList" "elementData" "[Ljava/lang/Object;" .null := D2 (Or.inl (own_W hw 26 rfl)) (ty := (.array (.object "java/lang/Object"))) (by decide)
  have F_size_b2 : Fld Z h2 b2 "java/util/ArrayList" "size" "I" (.int (0 : Int32)) := D2 (Or.inl (own_W hw 43 rfl)) (ty := .int) (by decide)
  have z3 := Nat.le_trans Z0 E1.1
  have g_b2 : n0 ≤ b2 := Nat.le_trans z3 (Nat.le_of_eq g2.symm)
  have z5 := Nat.le_trans z3 E2.1
  have o6 := O0.ext E1
  have o7 := o6.ext E2
  obtain ⟨_, _, ⟨T4, L4, k4, n4⟩, -, X4, ⟨Lc4, hQ4, l4, y4, z4⟩, st4⟩ := X2.specialBack hx (y := (⟨"java/util/ArrayList", "<init>", "()V"⟩ : MethodName)) rfl hown (mvT hZ (own_W hw 4 rfl)) (mvT hZ (own_W hw 5 rfl)) (mvT hZ (own_W hw 6 rfl)) (by decide) (backOf (W := 1) (rm1 l Z a0 hw [] b2 w_DEF (.int (0 : Int32)) .null (.int (0 : Int32)) h2 n0 z5 o7 A2 S_DEFAULTCAPACITY_EMPTY_ELEMENTDATA F_modCount_b2 F_elementData_b2 F_size_b2 g_b2) hZ (own_W hw 6 rfl) (own_W hw 3 rfl) (by decide) (by decide)) (g := (mkF m 58 #[.val (.long pl1), .second, .val (.int pi2), .val (.int pi3), .val (.int pi4), .val (.int pi5), .val (.int pi6), .val (.int (0 : Int32)), .val (.ref b1), .val (.int (2 : Int32)), .unset, .unset] [(.ref b2), (.ref b2)])) rfl (by rw [hml]; rfl) (Steps.refl _) (a := b2) (argsL := []) (rest := [(.ref b2)]) (lenOf pd_0 rfl) rfl (by show 2 * 0 + _ ≤ _; exact Nat.le_of_eq rfl) (hb hby at_58) (fun _ _ => ⟨rfl, e2, (by decide : 2 + 0 ≤ _), (by decide : 3 + 0 ≤ _)⟩)
  dsimp only [Pt.U, Pt.locs, Pt.cells, Pt.slots] at X4 l4 y4 z4 st4 hQ4
  subst l4 y4 z4
  obtain ⟨rfl, N4q, K4, qf4_0, qf4_1, qf4_2, qf4_3⟩ := hQ4
  have N4 := Fr.app N0 N4q
  have z9 := Nat.le_trans z5 K4.1
  have o10 := o7.keep K4 (allS g_b2 all0)
  obtain ⟨_, _, ⟨T8, L8, k8, n8⟩, -, X8, ⟨Lc8, hQ8, l8, y8, z8⟩, st8⟩ := Jvm.LawKit.callS X4 hx (y := (⟨"com/example/shardwright/shardwright/cli/RowIsBlankPinLaw", "field", "(II)[B"⟩ : MethodName)) hown (mvT hZ (own_W hw 27 rfl)) (mvT hZ (own_W hw 28 rfl)) (mvT hZ (own_W hw 29 rfl)) (mvT hZ (own_W hw 30 rfl)) (by decide) (backOf (W := 1) (rm5 l Z a0 hw [] ((pi3.toUInt32 >>> ((2 : Int32) &&& 31).toUInt32).toInt32) pi4 T4.heap n0 z9 o10 ) hZ (own_W hw 30 rfl) (own_W hw 29 rfl) (by decide) (by decide)) (g := (mkF m 75 #[.val (.long pl1), .second, .val (.int pi2), .val (.int pi3), .val (.int pi4), .val (.int pi5), .val (.int pi6), .val (.int (0 : Int32)), .val (.ref b1), .val (.int (2 : Int32)), .val (.ref b2), .unset] [(.int pi4), (.int ((pi3.toUInt32 >>> ((2 : Int32) &&& 31).toUInt32).toInt32)), (.ref b2)])) rfl (by rw [hml]; rfl) (argsL := [(.int ((pi3.toUInt32 >>> ((2 : Int32) &&& 31).toUInt32).toInt32)), (.int pi4)]) (rest := [(.ref b2)]) (lenOf pd_1 rfl) rfl (by show 2 * 0 + _ ≤ _; exact Nat.le_of_eq rfl) (hb hby at_75) (fun _ _ => ⟨rfl, rfl, (by decide : 2 + 1 ≤ _), (by decide : 3 + 1 ≤ _)⟩)
  dsimp only [Pt.U, Pt.locs, Pt.cells, Pt.slots] at X8 l8 y8 z8 st8 hQ8
  subst l8 y8 z8
  obtain ⟨b8, rfl, N8q, K8, qf8_0, qf8_1⟩ := hQ8
  have N8 := Fr.app N4 N8q
  have f11 := qf4_0.keep K8
  have f12 := qf4_1.keep K8 nin0
  have f13 := qf4_2.keep K8 nin0
  have f14 := qf4_3.keep K8 nin0
  have z16 := Nat.le_trans z9 K8.1
  have o17 := o10.keep K8 all0
  obtain ⟨cq15, kq15, q15a, q15b, q15c⟩ := isOf hZ rfl f11
  obtain ⟨_, _, ⟨T15, L15, k15, n15⟩, -, X15, ⟨Lc15, hQ15, l15, y15, z15⟩, st15⟩ := X8.interfaceBack hx (xi := (⟨"java/util/List", "add", "(Ljava/lang/Object;)Z"⟩ : MethodName)) (y := (⟨"java/util/ArrayList", "add", "(Ljava/lang/Object;)Z"⟩ : MethodName)) hown (mvT hZ (own_W hw 31 rfl)) (mvT hZ (own_W hw 32 rfl)) (mvT hZ (own_W hw 33 rfl)) (mvT hZ (own_W hw 34 rfl)) (mvT hZ (own_W hw 35 rfl)) (mvT hZ (own_W hw 36 rfl)) (mvT hZ (own_W hw 37 rfl)) (mvT hZ (own_W hw 38 rfl)) (by decide) (backOf (W := 0) (rm6_0 l Z a0 hw [] b2 b8 w_DEF kk_w_DEF (0 : Int32) T8.heap n0 z16 o17 f11 qf8_1 S_DEFAULTCAPACITY_EMPTY_ELEMENTDATA V_w_DEF f12 f13 f14 g_b2) hZ (own_W hw 39 rfl) (own_W hw 3 rfl) (by decide) (by decide)) q15a q15b q15c (g := (mkF m 78 #[.val (.long pl1), .second, .val (.int pi2), .val (.int pi3), .val (.int pi4), .val (.int pi5), .val (.int pi6), .val (.int (0 : Int32)), .val (.ref b1), .val (.int (2 : Int32)), .val (.ref b2), .unset] [(.ref b8), (.ref b2)])) rfl (by rw [hml]; rfl) (Steps.refl _) (argsL := [(.ref b8)]) (rest := []) (lenOf pd_2 rfl) rfl (by show 2 * 0 + _ ≤ _; exact Nat.le_of_eq rfl) (hb hby at_78) (fun _ _ => ⟨rfl, rfl, (by decide : 3 + 1 ≤ _), (by decide : 4 + 10 ≤ _)⟩)
  dsimp only [Pt.U, Pt.locs, Pt.cells, Pt.slots] at X15 l15 y15 z15 st15 hQ15
  subst l15 y15 z15
  obtain ⟨b15, b15_1, rfl, N15q, K15, qf15_0, qf15_1, qf15_2, qf15_3, qf15_4, qf15_5, qf15_6⟩ := hQ15
  have N15 := Fr.app N8 N15q
  have z19 := Nat.le_trans z16 K15.1
  have o20 := o17.keep K15 (allS g_b2 all0)
  obtain ⟨_, _, ⟨T18, L18, k18, n18⟩, -, X18, ⟨Lc18, hQ18, l18, y18, z18⟩, st18⟩ := Jvm.LawKit.callS X15 hx (y := (⟨"com/example/shardwright/shardwright/cli/RowIsBlankPinLaw", "field", "(II)[B"⟩ : MethodName)) hown (mvT hZ (own_W hw 27 rfl)) (mvT hZ (own_W hw 28 rfl)) (mvT hZ (own_W hw 29 rfl)) (mvT hZ (own_W hw 30 rfl)) (by decide) (backOf (W := 1) (rm5 l Z a0 hw [] ((pi3.toUInt32 >>> ((3 : Int32) &&& 31).toUInt32).toInt32) pi5 T15.heap n0 z19 o20 ) hZ (own_W hw 30 rfl) (own_W hw 29 rfl) (by decide) (by decide)) (g := (mkF m 97 #[.val (.long pl1), .second, .val (.int pi2), .val (.int pi3), .val (.int pi4), .val (.int pi5), .val (.int pi6), .val (.int (0 : Int32)), .val (.ref b1), .val (.int (2 : Int32)), .val (.ref b2), .unset] [(.int pi5), (.int ((pi3.toUInt32 >>> ((3 : Int32) &&& 31).toUInt32).toInt32)), (.ref b2)])) rfl (by rw [hml]; rfl) (argsL := [(.int ((pi3.toUInt32 >>> ((3 : Int32) &&& 31).toUInt32).toInt32)), (.int pi5)]) (rest := [(.ref b2)]) (lenOf pd_1 rfl) rfl (by show 2 * 0 + _ ≤ _; exact Nat.le_of_eq rfl) (hb hby at_97) (fun _ _ => ⟨rfl, rfl, (by decide : 4 + 1 ≤ _), (by decide : 14 + 1 ≤ _)⟩)
  dsimp only [Pt.U, Pt.locs, Pt.cells, Pt.slots] at X18 l18 y18 z18 st18 hQ18
  subst l18 y18 z18
  obtain ⟨b18, rfl, N18q, K18, qf18_0, qf18_1⟩ := hQ18
  have N18 := Fr.app N15 N18q
  have f21 := qf15_0.keep K18
  have f22 := qf15_1.keep K18 nin0
  have f23 := qf15_2.keep K18 nin0
  have f24 := qf15_5.keep K18 nin0
  have f25 := qf15_3.keep K18 nin0
  have g_b15 : n0 ≤ b15 := Nat.le_trans z16 qf15_4
  have z27 := Nat.le_trans z19 K18.1
  have o28 := o20.keep K18 all0
  obtain ⟨cq26, kq26, q26a, q26b, q26c⟩ := isOf hZ rfl f21
  obtain ⟨_, _, ⟨T26, L26, k26, n26⟩, -, X26, ⟨Lc26, hQ26, l26, y26, z26⟩, st26⟩ := X18.interfaceBack hx (xi := (⟨"java/util/List", "add", "(Ljava/lang/Object;)Z"⟩ : MethodName)) (y := (⟨"java/util/ArrayList", "add", "(Ljava/lang/Object;)Z"⟩ : MethodName)) hown (mvT hZ (own_W hw 31 rfl)) (mvT hZ (own_W hw 32 rfl)) (mvT hZ (own_W hw 33 rfl)) (mvT hZ (own_W hw 34 rfl)) (mvT hZ (own_W hw 35 rfl)) (mvT hZ (own_W hw 36 rfl)) (mvT hZ (own_W hw 37 rfl)) (mvT hZ (own_W hw 38 rfl)) (by decide) (backOf (W := 0) (rm6_1 l Z a0 hw [] b2 b18 ((0 : Int32) + (1 : Int32)) b15 b15_1 (.ref b8) .null .null .null .null .null .null .null .null .null T18.heap n0 z27 o28 f21 qf18_1 f22 f23 f24 qf15_6 f25 g_b2 (Ne.symm (Nat.ne_of_lt (Nat.lt_of_lt_of_le f11.lt qf15_4))) g_b15) hZ (own_W hw 39 rfl) (own_W hw 3 rfl) (by decide) (by decide)) q26a q26b q26c (g := (mkF m 100 #[.val (.long pl1), .second, .val (.int pi2), .val (.int pi3), .val (.int pi4), .val (.int pi5), .val (.int pi6), .val (.int (0 : Int32)), .val (.ref b1), .val (.int (2 : Int32)), .val (.ref b2), .unset] [(.ref b18), (.ref b2)])) rfl (by rw [hml]; rfl) (Steps.refl _) (argsL := [(.ref b18)]) (rest := []) (lenOf pd_2 rfl) rfl (by show 2 * 0 + _ ≤ _; exact Nat.le_of_eq rfl) (hb hby at_100) (fun _ _ => ⟨rfl, rfl, (by decide : 5 + 0 ≤ _), (by decide : 15 + 0 ≤ _)⟩)
  dsimp only [Pt.U, Pt.locs, Pt.cells, Pt.slots] at X26 l26 y26 z26 st26 hQ26
  subst l26 y26 z26
  obtain ⟨rfl, N26q, K26, qf26_0, qf26_1, qf26_2, qf26_3, qf26_4, qf26_5⟩ := hQ26
  have N26 := Fr.app N18 N26q
  obtain ⟨T29, h29, X29, e29, E29, A29, D29, -, st29⟩ := newO X26 hx hZ hown (own_W hw 66 rfl) (own_W hw 67 rfl) (own_W hw 68 rfl) rfl (g := (mkF m 128 #[.val (.long pl1), .second, .val (.int pi2), .val (.int pi3), .val (.int pi4), .val (.int pi5), .val (.int pi6), .val (.int (0 : Int32)), .val (.ref b1), .val (.int (2 : Int32)), .val (.ref b2), .unset] [])) rfl (hb hby at_128) (by decide) (by decide)
  obtain ⟨b29, g29⟩ : ∃ z, z = T26.heap.size := ⟨_, rfl⟩
  rw [← g29] at A29 D29 st29
  have F_line_b29 : Fld Z h29 b29 "com/example/shardwright/shardwright/cli/CsvReader$Row" "line" "J" (.long (0 : Int64)) := D29 (Or.inr (own_W hw 79 rfl)) (ty := .long) (by decide)
  have F_text_b29 : Fld Z h29 b29 "com/example/shardwright/shardwright/cli/CsvReader$Row" "text" "[B" .null := D29 (Or.inr (own_W hw 81 rfl)) (ty := (.array .byte)) (by decide)
  have F_fields_b29 : Fld Z h29 b29 "com/example/shardwright/shardwright/cli/CsvReader$Row" "fields" "Ljava/util/List;" .null := D29 (Or.inr (own_W hw 83 rfl)) (ty := (.object "java/util/List")) (by decide)
  have z30 := Nat.le_trans z27 K26.1
  have g_b29 : n0 ≤ b29 := Nat.le_trans z30 (Nat.le_of_eq g29.symm)
  have z32 := Nat.le_trans z30 E29.1
  have o33 := o28.keep K26 (allS g_b2 (allS g_b15 all0))
  have o34 := o33.ext E29
  obtain ⟨_, _, ⟨T31, L31, k31, n31⟩, -, X31, ⟨Lc31, hQ31, l31, y31, z31⟩, st31⟩ := X29.specialBack hx (y := (⟨"com/example/shardwright/shardwright/cli/CsvReader$Row", "<init>", "(J[BLjava/util/List;)V"⟩ : MethodName)) rfl hown (mvT hZ (own_W hw 69 rfl)) (mvT hZ (own_W hw 70 rfl)) (mvT hZ (own_W hw 71 rfl)) (by decide) (backOf (W := 1) (rm11 l Z a0 hw [] b29 pl1 b1 b2 (.long (0 : Int64)) .null .null h29 n0 z32 o34 A29 F_line_b29 g_b29 F_text_b29 F_fields_b29) hZ (own_W hw 71 rfl) (own_W hw 68 rfl) (by decide) (by decide)) (g := (mkF m 137 #[.val (.long pl1), .second, .val (.int pi2), .val (.int pi3), .val (.int pi4), .val (.int pi5), .val (.int pi6), .val (.int (0 : Int32)), .val (.ref b1), .val (.int (2 : Int32)), .val (.ref b2), .unset] [(.ref b2), (.ref b1), (.long pl1), (.ref b29), (.ref b29)])) rfl (by rw [hml]; rfl) (Steps.refl _) (a := b29) (argsL := [(.long pl1), (.ref b1), (.ref b2)]) (rest := [(.ref b29)]) (lenOf pd_7 rfl) rfl (by show 2 * 0 + _ ≤ _; exact Nat.le_of_eq rfl) (hb hby at_137) (fun _ _ => ⟨rfl, e29, (by decide : 6 + 0 ≤ _), (by decide : 18 + 0 ≤ _)⟩)
  dsimp only [Pt.U, Pt.locs, Pt.cells, Pt.slots] at X31 l31 y31 z31 st31 hQ31
  subst l31 y31 z31
  obtain ⟨rfl, N31q, K31, qf31_0, qf31_1, qf31_2, qf31_3⟩ := hQ31
  have N31 := Fr.app N26 N31q
  have f35 := V1.ext E2
  have f36 := f35.keep K4 (ninS (Nat.ne_of_lt (Nat.lt_of_lt_of_le V1.lt (Nat.le_of_eq g2.symm))) nin0)
  have f37 := f36.keep K8 nin0
  have f38 := f37.keep K15 (ninS (Nat.ne_of_lt (Nat.lt_of_lt_of_le V1.lt (Nat.le_of_eq g2.symm))) nin0)
  have f39 := f38.keep K18 nin0
  have f40 := f39.keep K26 (ninS (Nat.ne_of_lt (Nat.lt_of_lt_of_le V1.lt (Nat.le_of_eq g2.symm))) (ninS (Nat.ne_of_lt (Nat.lt_of_lt_of_le f37.lt qf15_4)) nin0))
  have f41 := f40.ext E29
  have f42 := f41.keep K31 (ninS (Nat.ne_of_lt (Nat.lt_of_lt_of_le f40.lt (Nat.le_of_eq g29.symm))) nin0)
  have z44 := Nat.le_trans z32 K31.1
  have o45 := o34.keep K31 (allS g_b29 all0)
  obtain ⟨cq43, kq43, q43a, q43b, q43c⟩ := isOf hZ rfl qf31_0
  obtain ⟨_, _, ⟨T43, L43, k43, n43⟩, -, X43, ⟨Lc43, hQ43, l43, y43, z43⟩, st43⟩ := X31.virtualBack hx (y := (⟨"com/example/shardwright/shardwright/cli/CsvReader$Row", "isBlank", "()Z"⟩ : MethodName)) (z := (⟨"com/example/shardwright/shardwright/cli/CsvReader$Row", "isBlank", "()Z"⟩ : MethodName)) hown (mvT hZ (own_W hw 84 rfl)) (mvT hZ (own_W hw 85 rfl)) (notFace_of_selects (args := #[]) (mvT hZ (own_W hw 87 rfl))) (mvT hZ (own_W hw 87 rfl)) (mvT hZ (own_W hw 86 rfl)) (by decide) (backOf (W := 0) (rm13_0 l Z a0 hw [] b29 b1 k1 T31.heap n0 z44 o45 qf31_2 f42) hZ (own_W hw 88 rfl) (own_W hw 68 rfl) (by decide) (by decide)) q43a q43c (g := (mkF m 144 #[.val (.long pl1), .second, .val (.int pi2), .val (.int pi3), .val (.int pi4), .val (.int pi5), .val (.int pi6), .val (.int (0 : Int32)), .val (.ref b1), .val (.int (2 : Int32)), .val (.ref b2), .val (.ref b29)] [(.ref b29)])) rfl (by rw [hml]; rfl) (Steps.refl _) (argsL := []) (rest := []) (lenOf pd_8 rfl) rfl (by show 2 * 0 + _ ≤ _; exact Nat.le_of_eq rfl) (hb hby at_144) (fun _ _ => ⟨rfl, rfl, (by decide : 6 + 0 ≤ _), (by decide : 18 + 0 ≤ _)⟩)
  dsimp only [Pt.U, Pt.locs, Pt.cells, Pt.slots] at X43 l43 y43 z43 st43 hQ43
  subst l43 y43 z43
  obtain ⟨rfl, N43q, eq43⟩ := hQ43
  have N43 := Fr.app N31 N43q
  obtain ⟨fs, hr, hrun, hended, hW, hsame⟩ := X43.leave (v := some (.int (1 : Int32))) (fun h => by rw [Bd.returns] at h; cases h)
  refine ⟨_, _, pre0 _ ?_, hrun, hended, _, _, rfl, ?_, ⟨_, rfl⟩, hW, hsame.mono (by decide) (by decide)⟩
  · show Stp p e below s₁ m 0 #[.val (.long pl1), .second, .val (.int pi2), .val (.int pi3), .val (.int pi4), .val (.int pi5), .val (.int pi6), .unset, .unset, .unset, .unset, .unset] [] _
    refine XS.iloadN X0.here hx rfl (hb hby at_0) rfl ?_
    show Stp p e below s₁ m 1 #[.val (.long pl1), .second, .val (.int pi2), .val (.int pi3), .val (.int pi4), .val (.int pi5), .val (.int pi6), .unset, .unset, .unset, .unset, .unset] [(.int pi2)] _
    refine XS.iconst X0.here hx rfl (hb hby at_1) ?_
    show Stp p e below s₁ m 2 #[.val (.long pl1), .second, .val (.int pi2), .val (.int pi3), .val (.int pi4), .val (.int pi5), .val (.int pi6), .unset, .unset, .unset, .unset, .unset] [(.int (3 : Int32)), (.int pi2)] _
    refine XS.iand X0.here hx rfl (hb hby at_2) rfl ?_
    show Stp p e below s₁ m 3 #[.val (.long pl1), .second, .val (.int pi2), .val (.int pi3), .val (.int pi4), .val (.int pi5), .val (.int pi6), .unset, .unset, .unset, .unset, .unset] [(.int (pi2 &&& (3 : Int32)))] _
    refine XS.istore X0.here hx rfl (hb hby at_3) rfl (l' := #[.val (.long pl1), .second, .val (.int pi2), .val (.int pi3), .val (.int pi4), .val (.int pi5), .val (.int pi6), .val (.int (pi2 &&& (3 : Int32))), .unset, .unset, .unset, .unset]) rfl ?_
    show Stp p e below s₁ m 5 #[.val (.long pl1), .second, .val (.int pi2), .val (.int pi3), .val (.int pi4), .val (.int pi5), .val (.int pi6), .val (.int (pi2 &&& (3 : Int32))), .unset, .unset, .unset, .unset] [] _
    rw [show (pi2 &&& (3 : Int32)) = (0 : Int32) from hc3_0]
    show Stp p e below s₁ m 5 #[.val (.long pl1), .second, .val (.int pi2), .val (.int pi3), .val (.int pi4), .val (.int pi5), .val (.int pi6), .val (.int (0 : Int32)), .unset, .unset, .unset, .unset] [] _
    refine XS.iload X0.here hx rfl (hb hby at_5) rfl ?_
    show Stp p e below s₁ m 7 #[.val (.long pl1), .second, .val (.int pi2), .val (.int pi3), .val (.int pi4), .val (.int pi5), .val (.int pi6), .val (.int (0 : Int32)), .unset, .unset, .unset, .unset] [(.int (0 : Int32))] _
    refine st1 _ ?_
    show Stp p e below T1 m 9 #[.val (.long pl1), .second, .val (.int pi2), .val (.int pi3), .val (.int pi4), .val (.int pi5), .val (.int pi6), .val (.int (0 : Int32)), .unset, .unset, .unset, .unset] [(.ref b1)] _
    refine XS.astore X1.here hx rfl (hb hby at_9) rfl rfl (l' := #[.val (.long pl1), .second, .val (.int pi2), .val (.int pi3), .val (.int pi4), .val (.int pi5), .val (.int pi6), .val (.int (0 : Int32)), .val (.ref b1), .unset, .unset, .unset]) rfl ?_
    show Stp p e below T1 m 11 #[.val (.long pl1), .second, .val (.int pi2), .val (.int pi3), .val (.int pi4), .val (.int pi5), .val (.int pi6), .val (.int (0 : Int32)), .val (.ref b1), .unset, .unset, .unset] [] _
    refine XS.iload X1.here hx rfl (hb hby at_11) rfl ?_
    show Stp p e below T1 m 13 #[.val (.long pl1), .second, .val (.int pi2), .val (.int pi3), .val (.int pi4), .val (.int pi5), .val (.int pi6), .val (.int (0 : Int32)), .val (.ref b1), .unset, .unset, .unset] [(.int (0 : Int32))] _
    refine XS.ifYes X1.here hx rfl (pc0 := 13) (pc' := 23) rfl (hb hby at_13) rfl ((if0 _ _).trans (flt (by simp : ¬ ((0 : Int32) < (0 : Int32)))).2.2.2) (by decide) (by decide) ?_
    show Stp p e below T1 m 23 #[.val (.long pl1), .second, .val (.int pi2), .val (.int pi3), .val (.int pi4), .val (.int pi5), .val (.int pi6), .val (.int (0 : Int32)), .val (.ref b1), .unset, .unset, .unset] [] _
    refine XS.iload X1.here hx rfl (hb hby at_23) rfl ?_
    show Stp p e below T1 m 25 #[.val (.long pl1), .second, .val (.int pi2), .val (.int pi3), .val (.int pi4), .val (.int pi5), .val (.int pi6), .val (.int (0 : Int32)), .val (.ref b1), .unset, .unset, .unset] [(.int (0 : Int32))] _
    refine XS.iconst X1.here hx rfl (hb hby at_25) ?_
    show Stp p e below T1 m 26 #[.val (.long pl1), .second, .val (.int pi2), .val (.int pi3), .val (.int pi4), .val (.int pi5), .val (.int pi6), .val (.int (0 : Int32)), .val (.ref b1), .unset, .unset, .unset] [(.int (1 : Int32)), (.int (0 : Int32))] _
    refine XS.icmpYes X1.here hx rfl (pc0 := 26) (pc' := 36) rfl (hb hby at_26) rfl (flt (by decide : ¬ ((1 : Int32) < (0 : Int32)))).2.2.2 (by decide) (by decide) ?_
    show Stp p e below T1 m 36 #[.val (.long pl1), .second, .val (.int pi2), .val (.int pi3), .val (.int pi4), .val (.int pi5), .val (.int pi6), .val (.int (0 : Int32)), .val (.ref b1), .unset, .unset, .unset] [] _
    refine XS.iload X1.here hx rfl (hb hby at_36) rfl ?_
    show Stp p e below T1 m 38 #[.val (.long pl1), .second, .val (.int pi2), .val (.int pi3), .val (.int pi4), .val (.int pi5), .val (.int pi6), .val (.int (0 : Int32)), .val (.ref b1), .unset, .unset, .unset] [(.int (0 : Int32))] _
    refine XS.iconst X1.here hx rfl (hb hby at_38) ?_
    show Stp p e below T1 m 39 #[.val (.long pl1), .second, .val (.int pi2), .val (.int pi3), .val (.int pi4), .val (.int pi5), .val (.int pi6), .val (.int (0 : Int32)), .val (.ref b1), .unset, .unset, .unset] [(.int (2 : Int32)), (.int (0 : Int32))] _
    refine XS.icmpYes X1.here hx rfl (pc0 := 39) (pc' := 49) rfl (hb hby at_39) rfl (flt (by decide : ¬ ((2 : Int32) < (0 : Int32)))).2.2.2 (by decide) (by decide) ?_
    show Stp p e below T1 m 49 #[.val (.long pl1), .second, .val (.int pi2), .val (.int pi3), .val (.int pi4), .val (.int pi5), .val (.int pi6), .val (.int (0 : Int32)), .val (.ref b1), .unset, .unset, .unset] [] _
    refine XS.iloadN X1.here hx rfl (hb hby at_49) rfl ?_
    show Stp p e below T1 m 50 #[.val (.long pl1), .second, .val (.int pi2), .val (.int pi3), .val (.int pi4), .val (.int pi5), .val (.int pi6), .val (.int (0 : Int32)), .val (.ref b1), .unset, .unset, .unset] [(.int pi3)] _
    refine XS.iconst X1.here hx rfl (hb hby at_50) ?_
    show Stp p e below T1 m 51 #[.val (.long pl1), .second, .val (.int pi2), .val (.int pi3), .val (.int pi4), .val (.int pi5), .val (.int pi6), .val (.int (0 : Int32)), .val (.ref b1), .unset, .unset, .unset] [(.int (3 : Int32)), (.int pi3)] _
    refine XS.iand X1.here hx rfl (hb hby at_51) rfl ?_
    show Stp p e below T1 m 52 #[.val (.long pl1), .second, .val (.int pi2), .val (.int pi3), .val (.int pi4), .val (.int pi5), .val (.int pi6), .val (.int (0 : Int32)), .val (.ref b1), .unset, .unset, .unset] [(.int (pi3 &&& (3 : Int32)))] _
    refine XS.istore X1.here hx rfl (hb hby at_52) rfl (l' := #[.val (.long pl1), .second, .val (.int pi2), .val (.int pi3), .val (.int pi4), .val (.int pi5), .val (.int pi6), .val (.int (0 : Int32)), .val (.ref b1), .val (.int (pi3 &&& (3 : Int32))), .unset, .unset]) rfl ?_
    show Stp p e below T1 m 54 #[.val (.long pl1), .second, .val (.int pi2), .val (.int pi3), .val (.int pi4), .val (.int pi5), .val (.int pi6), .val (.int (0 : Int32)), .val (.ref b1), .val (.int (pi3 &&& (3 : Int32))), .unset, .unset] [] _
    rw [show (pi3 &&& (3 : Int32)) = (2 : Int32) from hc52_3]
    show Stp p e below T1 m 54 #[.val (.long pl1), .second, .val (.int pi2), .val (.int pi3), .val (.int pi4), .val (.int pi5), .val (.int pi6), .val (.int (0 : Int32)), .val (.ref b1), .val (.int (2 : Int32)), .unset, .unset] [] _
    refine st2 _ ?_
    show Stp p e below T2 m 57 #[.val (.long pl1), .second, .val (.int pi2), .val (.int pi3), .val (.int pi4), .val (.int pi5), .val (.int pi6), .val (.int (0 : Int32)), .val (.ref b1), .val (.int (2 : Int32)), .unset, .unset] [(.ref b2)] _
    refine XS.dup X2.here hx rfl (hb hby at_57) rfl rfl ?_
    show Stp p e below T2 m 58 #[.val (.long pl1), .second, .val (.int pi2), .val (.int pi3), .val (.int pi4), .val (.int pi5), .val (.int pi6), .val (.int (0 : Int32)), .val (.ref b1), .val (.int (2 : Int32)), .unset, .unset] [(.ref b2), (.ref b2)] _
    refine st4.trans ?_
    show Stp p e below T4 m 61 #[.val (.long pl1), .second, .val (.int pi2), .val (.int pi3), .val (.int pi4), .val (.int pi5), .val (.int pi6), .val (.int (0 : Int32)), .val (.ref b1), .val (.int (2 : Int32)), .unset, .unset] [(.ref b2)] _
    refine XS.astore X4.here hx rfl (hb hby at_61) rfl rfl (l' := #[.val (.long pl1), .second, .val (.int pi2), .val (.int pi3), .val (.int pi4), .val (.int pi5), .val (.int pi6), .val (.int (0 : Int32)), .val (.ref b1), .val (.int (2 : Int32)), .val (.ref b2), .unset]) rfl ?_
    show Stp p e below T4 m 63 #[.val (.long pl1), .second, .val (.int pi2), .val (.int pi3), .val (.int pi4), .val (.int pi5), .val (.int pi6), .val (.int (0 : Int32)), .val (.ref b1), .val (.int (2 : Int32)), .val (.ref b2), .unset] [] _
    refine XS.iload X4.here hx rfl (hb hby at_63) rfl ?_
    show Stp p e below T4 m 65 #[.val (.long pl1), .second, .val (.int pi2), .val (.int pi3), .val (.int pi4), .val (.int pi5), .val (.int pi6), .val (.int (0 : Int32)), .val (.ref b1), .val (.int (2 : Int32)), .val (.ref b2), .unset] [(.int (2 : Int32))] _
    refine XS.ifNo X4.here hx rfl (hb hby at_65) rfl ((if0 _ _).trans (tlt (by decide : (0 : Int32) < (2 : Int32))).2.2.2) ?_
    show Stp p e below T4 m 68 #[.val (.long pl1), .second, .val (.int pi2), .val (.int pi3), .val (.int pi4), .val (.int pi5), .val (.int pi6), .val (.int (0 : Int32)), .val (.ref b1), .val (.int (2 : Int32)), .val (.ref b2), .unset] [] _
    refine XS.aload X4.here hx rfl (hb hby at_68) rfl rfl ?_
    show Stp p e below T4 m 70 #[.val (.long pl1), .second, .val (.int pi2), .val (.int pi3), .val (.int pi4), .val (.int pi5), .val (.int pi6), .val (.int (0 : Int32)), .val (.ref b1), .val (.int (2 : Int32)), .val (.ref b2), .unset] [(.ref b2)] _
    refine XS.iloadN X4.here hx rfl (hb hby at_70) rfl ?_
    show Stp p e below T4 m 71 #[.val (.long pl1), .second, .val (.int pi2), .val (.int pi3), .val (.int pi4), .val (.int pi5), .val (.int pi6), .val (.int (0 : Int32)), .val (.ref b1), .val (.int (2 : Int32)), .val (.ref b2), .unset] [(.int pi3), (.ref b2)] _
    refine XS.iconst X4.here hx rfl (hb hby at_71) ?_
    show Stp p e below T4 m 72 #[.val (.long pl1), .second, .val (.int pi2), .val (.int pi3), .val (.int pi4), .val (.int pi5), .val (.int pi6), .val (.int (0 : Int32)), .val (.ref b1), .val (.int (2 : Int32)), .val (.ref b2), .unset] [(.int (2 : Int32)), (.int pi3), (.ref b2)] _
    refine XS.iushr X4.here hx rfl (hb hby at_72) rfl ?_
    show Stp p e below T4 m 73 #[.val (.long pl1), .second, .val (.int pi2), .val (.int pi3), .val (.int pi4), .val (.int pi5), .val (.int pi6), .val (.int (0 : Int32)), .val (.ref b1), .val (.int (2 : Int32)), .val (.ref b2), .unset] [(.int ((pi3.toUInt32 >>> ((2 : Int32) &&& 31).toUInt32).toInt32)), (.ref b2)] _
    refine XS.iload X4.here hx rfl (hb hby at_73) rfl ?_
    show Stp p e below T4 m 75 #[.val (.long pl1), .second, .val (.int pi2), .val (.int pi3), .val (.int pi4), .val (.int pi5), .val (.int pi6), .val (.int (0 : Int32)), .val (.ref b1), .val (.int (2 : Int32)), .val (.ref b2), .unset] [(.int pi4), (.int ((pi3.toUInt32 >>> ((2 : Int32) &&& 31).toUInt32).toInt32)), (.ref b2)] _
    refine st8 _ ?_
    show Stp p e below T8 m 78 #[.val (.long pl1), .second, .val (.int pi2), .val (.int pi3), .val (.int pi4), .val (.int pi5), .val (.int pi6), .val (.int (0 : Int32)), .val (.ref b1), .val (.int (2 : Int32)), .val (.ref b2), .unset] [(.ref b8), (.ref b2)] _
    refine st15.trans ?_
    show Stp p e below T15 m 83 #[.val (.long pl1), .second, .val (.int pi2), .val (.int pi3), .val (.int pi4), .val (.int pi5), .val (.int pi6), .val (.int (0 : Int32)), .val (.ref b1), .val (.int (2 : Int32)), .val (.ref b2), .unset] [(.int (1 : Int32))] _
    refine XS.pop X15.here hx rfl (hb hby at_83) rfl rfl ?_
    show Stp p e below T15 m 84 #[.val (.long pl1), .second, .val (.int pi2), .val (.int pi3), .val (.int pi4), .val (.int pi5), .val (.int pi6), .val (.int (0 : Int32)), .val (.ref b1), .val (.int (2 : Int32)), .val (.ref b2), .unset] [] _
    refine XS.iload X15.here hx rfl (hb hby at_84) rfl ?_
    show Stp p e below T15 m 86 #[.val (.long pl1), .second, .val (.int pi2), .val (.int pi3), .val (.int pi4), .val (.int pi5), .val (.int pi6), .val (.int (0 : Int32)), .val (.ref b1), .val (.int (2 : Int32)), .val (.ref b2), .unset] [(.int (2 : Int32))] _
    refine XS.iconst X15.here hx rfl (hb hby at_86) ?_
    show Stp p e below T15 m 87 #[.val (.long pl1), .second, .val (.int pi2), .val (.int pi3), .val (.int pi4), .val (.int pi5), .val (.int pi6), .val (.int (0 : Int32)), .val (.ref b1), .val (.int (2 : Int32)), .val (.ref b2), .unset] [(.int (1 : Int32)), (.int (2 : Int32))] _
    refine XS.icmpNo X15.here hx rfl (hb hby at_87) rfl (tlt (by decide : (1 : Int32) < (2 : Int32))).2.2.2 ?_
    show Stp p e below T15 m 90 #[.val (.long pl1), .second, .val (.int pi2), .val (.int pi3), .val (.int pi4), .val (.int pi5), .val (.int pi6), .val (.int (0 : Int32)), .val (.ref b1), .val (.int (2 : Int32)), .val (.ref b2), .unset] [] _
    refine XS.aload X15.here hx rfl (hb hby at_90) rfl rfl ?_
    show Stp p e below T15 m 92 #[.val (.long pl1), .second, .val (.int pi2), .val (.int pi3), .val (.int pi4), .val (.int pi5), .val (.int pi6), .val (.int (0 : Int32)), .val (.ref b1), .val (.int (2 : Int32)), .val (.ref b2), .unset] [(.ref b2)] _
    refine XS.iloadN X15.here hx rfl (hb hby at_92) rfl ?_
    show Stp p e below T15 m 93 #[.val (.long pl1), .second, .val (.int pi2), .val (.int pi3), .val (.int pi4), .val (.int pi5), .val (.int pi6), .val (.int (0 : Int32)), .val (.ref b1), .val (.int (2 : Int32)), .val (.ref b2), .unset] [(.int pi3), (.ref b2)] _
    refine XS.iconst X15.here hx rfl (hb hby at_93) ?_
    show Stp p e below T15 m 94 #[.val (.long pl1), .second, .val (.int pi2), .val (.int pi3), .val (.int pi4), .val (.int pi5), .val (.int pi6), .val (.int (0 : Int32)), .val (.ref b1), .val (.int (2 : Int32)), .val (.ref b2), .unset] [(.int (3 : Int32)), (.int pi3), (.ref b2)] _
    refine XS.iushr X15.here hx rfl (hb hby at_94) rfl ?_
    show Stp p e below T15 m 95 #[.val (.long pl1), .second, .val (.int pi2), .val (.int pi3), .val (.int pi4), .val (.int pi5), .val (.int pi6), .val (.int (0 : Int32)), .val (.ref b1), .val (.int (2 : Int32)), .val (.ref b2), .unset] [(.int ((pi3.toUInt32 >>> ((3 : Int32) &&& 31).toUInt32).toInt32)), (.ref b2)] _
    refine XS.iload X15.here hx rfl (hb hby at_95) rfl ?_
    show Stp p e below T15 m 97 #[.val (.long pl1), .second, .val (.int pi2), .val (.int pi3), .val (.int pi4), .val (.int pi5), .val (.int pi6), .val (.int (0 : Int32)), .val (.ref b1), .val (.int (2 : Int32)), .val (.ref b2), .unset] [(.int pi5), (.int ((pi3.toUInt32 >>> ((3 : Int32) &&& 31).toUInt32).toInt32)), (.ref b2)] _
    refine st18 _ ?_
    show Stp p e below T18 m 100 #[.val (.long pl1), .second, .val (.int pi2), .val (.int pi3), .val (.int pi4), .val (.int pi5), .val (.int pi6), .val (.int (0 : Int32)), .val (.ref b1), .val (.int (2 : Int32)), .val (.ref b2), .unset] [(.ref b18), (.ref b2)] _
    refine st26.trans ?_
    show Stp p e below T26 m 105 #[.val (.long pl1), .second, .val (.int pi2), .val (.int pi3), .val (.int pi4), .val (.int pi5), .val (.int pi6), .val (.int (0 : Int32)), .val (.ref b1), .val (.int (2 : Int32)), .val (.ref b2), .unset] [(.int (1 : Int32))] _
    refine XS.pop X26.here hx rfl (hb hby at_105) rfl rfl ?_
    show Stp p e below T26 m 106 #[.val (.long pl1), .second, .val (.int pi2), .val (.int pi3), .val (.int pi4), .val (.int pi5), .val (.int pi6), .val (.int (0 : Int32)), .val (.ref b1), .val (.int (2 : Int32)), .val (.ref b2), .unset] [] _
    refine XS.iload X26.here hx rfl (hb hby at_106) rfl ?_
    show Stp p e below T26 m 108 #[.val (.long pl1), .second, .val (.int pi2), .val (.int pi3), .val (.int pi4), .val (.int pi5), .val (.int pi6), .val (.int (0 : Int32)), .val (.ref b1), .val (.int (2 : Int32)), .val (.ref b2), .unset] [(.int (2 : Int32))] _
    refine XS.iconst X26.here hx rfl (hb hby at_108) ?_
    show Stp p e below T26 m 109 #[.val (.long pl1), .second, .val (.int pi2), .val (.int pi3), .val (.int pi4), .val (.int pi5), .val (.int pi6), .val (.int (0 : Int32)), .val (.ref b1), .val (.int (2 : Int32)), .val (.ref b2), .unset] [(.int (2 : Int32)), (.int (2 : Int32))] _
    refine XS.icmpYes X26.here hx rfl (pc0 := 109) (pc' := 128) rfl (hb hby at_109) rfl (flt (by simp : ¬ ((2 : Int32) < (2 : Int32)))).2.2.2 (by decide) (by decide) ?_
    show Stp p e below T26 m 128 #[.val (.long pl1), .second, .val (.int pi2), .val (.int pi3), .val (.int pi4), .val (.int pi5), .val (.int pi6), .val (.int (0 : Int32)), .val (.ref b1), .val (.int (2 : Int32)), .val (.ref b2), .unset] [] _
    refine st29 _ ?_
    show Stp p e below T29 m 131 #[.val (.long pl1), .second, .val (.int pi2), .val (.int pi3), .val (.int pi4), .val (.int pi5), .val (.int pi6), .val (.int (0 : Int32)), .val (.ref b1), .val (.int (2 : Int32)), .val (.ref b2), .unset] [(.ref b29)] _
    refine XS.dup X29.here hx rfl (hb hby at_131) rfl rfl ?_
    show Stp p e below T29 m 132 #[.val (.long pl1), .second, .val (.int pi2), .val (.int pi3), .val (.int pi4), .val (.int pi5), .val (.int pi6), .val (.int (0 : Int32)), .val (.ref b1), .val (.int (2 : Int32)), .val (.ref b2), .unset] [(.ref b29), (.ref b29)] _
    refine XS.lloadN X29.here hx rfl (hb hby at_132) rfl ?_
    show Stp p e below T29 m 133 #[.val (.long pl1), .second, .val (.int pi2), .val (.int pi3), .val (.int pi4), .val (.int pi5), .val (.int pi6), .val (.int (0 : Int32)), .val (.ref b1), .val (.int (2 : Int32)), .val (.ref b2), .unset] [(.long pl1), (.ref b29), (.ref b29)] _
    refine XS.aload X29.here hx rfl (hb hby at_133) rfl rfl ?_
    show Stp p e below T29 m 135 #[.val (.long pl1), .second, .val (.int pi2), .val (.int pi3), .val (.int pi4), .val (.int pi5), .val (.int pi6), .val (.int (0 : Int32)), .val (.ref b1), .val (.int (2 : Int32)), .val (.ref b2), .unset] [(.ref b1), (.long pl1), (.ref b29), (.ref b29)] _
    refine XS.aload X29.here hx rfl (hb hby at_135) rfl rfl ?_
    show Stp p e below T29 m 137 #[.val (.long pl1), .second, .val (.int pi2), .val (.int pi3), .val (.int pi4), .val (.int pi5), .val (.int pi6), .val (.int (0 : Int32)), .val (.ref b1), .val (.int (2 : Int32)), .val (.ref b2), .unset] [(.ref b2), (.ref b1), (.long pl1), (.ref b29), (.ref b29)] _
    refine st31.trans ?_
    show Stp p e below T31 m 140 #[.val (.long pl1), .second, .val (.int pi2), .val (.int pi3), .val (.int pi4), .val (.int pi5), .val (.int pi6), .val (.int (0 : Int32)), .val (.ref b1), .val (.int (2 : Int32)), .val (.ref b2), .unset] [(.ref b29)] _
    refine XS.astore X31.here hx rfl (hb hby at_140) rfl rfl (l' := #[.val (.long pl1), .second, .val (.int pi2), .val (.int pi3), .val (.int pi4), .val (.int pi5), .val (.int pi6), .val (.int (0 : Int32)), .val (.ref b1), .val (.int (2 : Int32)), .val (.ref b2), .val (.ref b29)]) rfl ?_
    show Stp p e below T31 m 142 #[.val (.long pl1), .second, .val (.int pi2), .val (.int pi3), .val (.int pi4), .val (.int pi5), .val (.int pi6), .val (.int (0 : Int32)), .val (.ref b1), .val (.int (2 : Int32)), .val (.ref b2), .val (.ref b29)] [] _
    refine XS.aload X31.here hx rfl (hb hby at_142) rfl rfl ?_
    show Stp p e below T31 m 144 #[.val (.long pl1), .second, .val (.int pi2), .val (.int pi3), .val (.int pi4), .val (.int pi5), .val (.int pi6), .val (.int (0 : Int32)), .val (.ref b1), .val (.int (2 : Int32)), .val (.ref b2), .val (.ref b29)] [(.ref b29)] _
    refine st43.trans ?_
    show Stp p e below T43 m 147 #[.val (.long pl1), .second, .val (.int pi2), .val (.int pi3), .val (.int pi4), .val (.int pi5), .val (.int pi6), .val (.int (0 : Int32)), .val (.ref b1), .val (.int (2 : Int32)), .val (.ref b2), .val (.ref b29)] [(.int (1 : Int32))] _
    refine XS.iload X43.here hx rfl (hb hby at_147) rfl ?_
    show Stp p e below T43 m 149 #[.val (.long pl1), .second, .val (.int pi2), .val (.int pi3), .val (.int pi4), .val (.int pi5), .val (.int pi6), .val (.int (0 : Int32)), .val (.ref b1), .val (.int (2 : Int32)), .val (.ref b2), .val (.ref b29)] [(.int (0 : Int32)), (.int (1 : Int32))] _
    refine XS.ifNo X43.here hx rfl (hb hby at_149) rfl ((if0 _ _).trans (teq (rfl : (0 : Int32) = (0 : Int32))).2) ?_
    show Stp p e below T43 m 152 #[.val (.long pl1), .second, .val (.int pi2), .val (.int pi3), .val (.int pi4), .val (.int pi5), .val (.int pi6), .val (.int (0 : Int32)), .val (.ref b1), .val (.int (2 : Int32)), .val (.ref b2), .val (.ref b29)] [(.int (1 : Int32))] _
    refine XS.iconst X43.here hx rfl (hb hby at_152) ?_
    show Stp p e below T43 m 153 #[.val (.long pl1), .second, .val (.int pi2), .val (.int pi3), .val (.int pi4), .val (.int pi5), .val (.int pi6), .val (.int (0 : Int32)), .val (.ref b1), .val (.int (2 : Int32)), .val (.ref b2), .val (.ref b29)] [(.int (1 : Int32)), (.int (1 : Int32))] _
    refine XS.goto X43.here hx rfl (pc0 := 153) (pc' := 157) rfl (hb hby at_153) (by decide) (by decide) ?_
    show Stp p e below T43 m 157 #[.val (.long pl1), .second, .val (.int pi2), .val (.int pi3), .val (.int pi4), .val (.int pi5), .val (.int pi6), .val (.int (0 : Int32)), .val (.ref b1), .val (.int (2 : Int32)), .val (.ref b2), .val (.ref b29)] [(.int (1 : Int32)), (.int (1 : Int32))] _
    refine XS.icmpNo X43.here hx rfl (hb hby at_157) rfl (teq (rfl : (1 : Int32) = (1 : Int32))).2 ?_
    show Stp p e below T43 m 160 #[.val (.long pl1), .second, .val (.int pi2), .val (.int pi3), .val (.int pi4), .val (.int pi5), .val (.int pi6), .val (.int (0 : Int32)), .val (.ref b1), .val (.int (2 : Int32)), .val (.ref b2), .val (.ref b29)] [] _
    refine XS.iconst X43.here hx rfl (hb hby at_160) ?_
    show Stp p e below T43 m 161 #[.val (.long pl1), .second, .val (.int pi2), .val (.int pi3), .val (.int pi4), .val (.int pi5), .val (.int pi6), .val (.int (0 : Int32)), .val (.ref b1), .val (.int (2 : Int32)), .val (.ref b2), .val (.ref b29)] [(.int (1 : Int32))] _
    refine XS.goto X43.here hx rfl (pc0 := 161) (pc' := 165) rfl (hb hby at_161) (by decide) (by decide) ?_
    show Stp p e below T43 m 165 #[.val (.long pl1), .second, .val (.int pi2), .val (.int pi3), .val (.int pi4), .val (.int pi5), .val (.int pi6), .val (.int (0 : Int32)), .val (.ref b1), .val (.int (2 : Int32)), .val (.ref b2), .val (.ref b29)] [(.int (1 : Int32))] _
    exact retN X43 hx (t := .boolean) Bd.returns (by simp) (hb hby at_165) hr
  · exact ⟨rfl, N43⟩
set_option maxRecDepth 65536 in
set_option maxHeartbeats 40000000 in
theorem rm0_tfff (l : Launch) (Z : State) (a0 : Array Value) (hw : ∀ d ∈ tables_1, d.before a0 Z = true) (ws : List Jvm.Cond) (pl1 : Int64) (pi2 : Int32) (pi3 : Int32) (pi4 : Int32) (pi5 : Int32) (pi6 : Int32) (w_DEF : Addr) (kk_w_DEF : ClassId) (h0 : Heap) (n0 : Nat) (Z0 : n0 ≤ h0.size) (O0 : Old Z n0 h0) (S_DEFAULTCAPACITY_EMPTY_ELEMENTDATA : Sta Z Z.heap "java/util/ArrayList" "DEFAULTCAPACITY_EMPTY_ELEMENTDATA" "[Ljava/lang/Object;" (.ref w_DEF)) (V_w_DEF : Arv Z Z.heap w_DEF kk_w_DEF (.object "java/lang/Object") (0 : Int32) [] .null) (hc3_0 : (pi2 &&& (3 : Int32)) = (0 : Int32)) (hc52_1 : ¬ ((pi3 &&& (3 : Int32)) = (0 : Int32))) (hc52_2 : ¬ ((pi3 &&& (3 : Int32)) = (1 : Int32))) (hc52_3 : ¬ ((pi3 &&& (3 : Int32)) = (2 : Int32))) :
    MetFree l x (head1 (Jvm.Cond.code x code maxLocals ret :: ws) room_1) (fun a U => a = #[(.long pl1), (.int pi2), (.int pi3), (.int pi4), (.int pi5), (.int pi6)] ∧ Z.Warmed39 U.vm ∧ U.heap = h0) (fun _ _ _ _ _ => True) (fun _ U o U' => ∃ v L, o = .returned v ∧ Q0 v L n0 ∧ FrameEnd U o U' L room_1.cells room_1.slots) := by
  refine MetFree.of_bodySF (plainFor_of_name pn_0) hisR ?_
  intro p e s m args below meth c s₁ Bd hml0 hP hK
  obtain ⟨rfl, hZ, hh⟩ := hP
  have hx := Bd.exec
  have hby := Bd.bytes
  have hml : c.maxLocals = 12 := hml0
  have hown : s.vm.findClass "com/example/shardwright/shardwright/cli/RowIsBlankPinLaw" = some m.cls := findClass_of_methodNamed Bd.named
  have hnm := (name_of_methodNamed Bd.named Bd.method).1
  have X0 : Stand p l e room_1 s m #[(.long pl1), (.int pi2), (.int pi3), (.int pi4), (.int pi5), (.int pi6)] below meth c s₁ [] 0 0 := Stand.of_body Bd
  have e0 : s₁.heap = h0 := by rw [← hh, Bd.state]; rfl
  have N0 := Fr.nil n0
  have pre0 : ∀ t, Steps p.tables e below (s₁.setTop (mkF m 0 #[.val (.long pl1), .second, .val (.int pi2), .val (.int pi3), .val (.int pi4), .val (.int pi5), .val (.int pi6), .unset, .unset, .unset, .unset, .unset] [])) t → Steps p.tables e below (s₁.setTop (entryFrame m #[(.long pl1), (.int pi2), (.int pi3), (.int pi4), (.int pi5), (.int pi6)] maxLocals)) t := fun t k => castTop (ef_0 m pl1 pi2 pi3 pi4 pi5 pi6) k
  obtain ⟨T1, h1, k1, X1, e1, E1, A1, st1⟩ := newP X0 hx hZ (own_W hw 0 rfl) e0 (g := (mkF m 7 #[.val (.long pl1), .second, .val (.int pi2), .val (.int pi3), .val (.int pi4), .val (.int pi5), .val (.int pi6), .val (.int (0 : Int32)), .unset, .unset, .unset, .unset] [(.int (0 : Int32))])) rfl (hb hby at_7) rfl (by decide) (cap := 0) (by decide) (by decide) (by decide) (by decide)
  obtain ⟨b1, g1⟩ : ∃ z, z = h0.size := ⟨_, rfl⟩
  rw [← g1] at A1 st1
  have V1 : Arv Z h1 b1 k1 .byte (0 : Int32) [] (.int (0 : Int32)) := (Arv.new A1 (by decide)).pad (pad_rep [] (.int (0 : Int32)) 0)
  obtain ⟨T2, h2, X2, e2, E2, A2, D2, -, st2⟩ := newO X1 hx hZ hown (own_W hw 1 rfl) (own_W hw 2 rfl) (own_W hw 3 rfl) e1 (g := (mkF m 54 #[.val (.long pl1), .second, .val (.int pi2), .val (.int pi3), .val (.int pi4), .val (.int pi5), .val (.int pi6), .val (.int (0 : Int32)), .val (.ref b1), .val (.int (3 : Int32)), .unset, .unset] [])) rfl (hb hby at_54) (by decide) (by decide)
  obtain ⟨b2, g2⟩ : ∃ z, z = h1.size := ⟨_, rfl⟩
  rw [← g2] at A2 D2 st2
  have F_modCount_b2 : Fld Z h2 b2 "java/util/AbstractList" "modCount" "I" (.int (0 : Int32)) := D2 (Or.inl (own_W hw 23 rfl)) (ty := .int) (by decide)
  have F_elementData_b2 : Fld Z h2 b2 "java/util/ArrayList" "elementData" "[Ljava/lang/Object;" .null := D2 (Or.inl (own_W hw 26 rfl)) (ty := (.array (.object "java/lang/Object"))) (by decide)
  have F_size_b2 : Fld Z h2 b2 "java/util/ArrayList" "size" "I" (.int (0 : Int32)) := D2 (Or.inl (own_W hw 43 rfl)) (ty := .int) (by decide)
  have z3 := Nat.le_trans Z0 E1.1
  have g_b2 : n0 ≤ b2 := Nat.le_trans z3 (Nat.le_of_eq g2.symm)
  have z5 := Nat.le_trans z3 E2.1
  have o6 := O0.ext E1
  have o7 := o6.ext E2
  obtain ⟨_, _, ⟨T4, L4, k4, n4⟩, -, X4, ⟨Lc4, hQ4, l4, y4, z4⟩, st4⟩ := X2.specialBack hx (y := (⟨"java/util/ArrayList", "<init>", "()V"⟩ : MethodName)) rfl hown (mvT hZ (own_W hw 4 rfl)) (mvT hZ (own_W hw 5 rfl)) (mvT hZ (own_W hw 6 rfl)) (by decide) (backOf (W := 1) (rm1 l Z a0 hw [] b2 w_DEF (.int (0 : Int32)) .null (.int (0 : Int32)) h2 n0 z5 o7 A2 S_DEFAULTCAPACITY_EMPTY_ELEMENTDATA F_modCount_b2 F_elementData_b2 F_size_b2 g_b2) hZ (own_W hw 6 rfl) (own_W hw 3 rfl) (by decide) (by decide)) (g := (mkF m 58 #[.val (.long pl1), .second, .val (.int pi2), .val (.int pi3), .val (.int pi4), .val (.int pi5), .val (.int pi6), .val (.int (0 : Int32)), .val (.ref b1), .val (.int (3 : Int32)), .unset, .unset] [(.ref b2), (.ref b2)])) rfl (by rw [hml]; rfl) (Steps.refl _) (a := b2) (argsL := []) (rest := [(.ref b2)]) (lenOf pd_0 rfl) rfl (by show 2 * 0 + _ ≤ _; exact Nat.le_of_eq rfl) (hb hby at_58) (fun _ _ => ⟨rfl, e2, (by decide : 2 + 0 ≤ _), (by decide : 3 + 0 ≤ _)⟩)
  dsimp only [Pt.U, Pt.locs, Pt.cells, Pt.slots] at X4 l4 y4 z4 st4 hQ4
  subst l4 y4 z4
  obtain ⟨rfl, N4q, K4, qf4_0, qf4_1, qf4_2, qf4_3⟩ := hQ4
  have N4 := Fr.app N0 N4q
  have z9 := Nat.le_trans z5 K4.1
  have o10 := o7.keep K4 (allS g_b2 all0)
  obtain ⟨_, _, ⟨T8, L8, k8, n8⟩, -, X8, ⟨Lc8, hQ8, l8, y8, z8⟩, st8⟩ := Jvm.LawKit.callS X4 hx (y := (⟨"com/example/shardwright/shardwright/cli/RowIsBlankPinLaw", "field", "(II)[B"⟩ : MethodName)) hown (mvT hZ (own_W hw 27 rfl)) (mvT hZ (own_W hw 28 rfl)) (mvT hZ (own_W hw 29 rfl)) (mvT hZ (own_W hw 30 rfl)) (by decide) (backOf (W := 1) (rm5 l Z a0 hw [] ((pi3.toUInt32 >>> ((2 : Int32) &&& 31).toUInt32).toInt32) pi4 T4.heap n0 z9 o10 ) hZ (own_W hw 30 rfl) (own_W hw 29 rfl) (by decide) (by decide)) (g := (mkF m 75 #[.val (.long pl1), .second, .val (.int pi2), .val (.int pi3), .val (.int pi4), .val (.int pi5), .val (.int pi6), .val (.int (0 : Int32)), .val (.ref b1), .val (.int (3 : Int32)), .val (.ref b2), .unset] [(.int pi4), (.int ((pi3.toUInt32 >>> ((2 : Int32) &&& 31).toUInt32).toInt32)), (.ref b2)])) rfl (by rw [hml]; rfl) (argsL := [(.int ((pi3.toUInt32 >>> ((2 : Int32) &&& 31).toUInt32).toInt32)), (.int pi4)]) (rest := [(.ref b2)]) (lenOf pd_1 rfl) rfl (by show 2 * 0 + _ ≤ _; exact Nat.le_of_eq rfl) (hb hby at_75) (fun _ _ => ⟨rfl, rfl, (by decide : 2 + 1 ≤ _), (by decide : 3 + 1 ≤ _)⟩)
  dsimp only [Pt.U, Pt.locs, Pt.cells, Pt.slots] at X8 l8 y8 z8 st8 hQ8
  subst l8 y8 z8
  obtain ⟨b8, rfl, N8q, K8, qf8_0, qf8_1⟩ := hQ8
  have N8 := Fr.app N4 N8q
  have f11 := qf4_0.keep K8
  have f12 := qf4_1.keep K8 nin0
  have f13 := qf4_2.keep K8 nin0
  have f14 := qf4_3.keep K8 nin0
  have z16 := Nat.le_trans z9 K8.1
  have o17 := o10.keep K8 all0
  obtain ⟨cq15, kq15, q15a, q15b, q15c⟩ := isOf hZ rfl f11
  obtain ⟨_, _, ⟨T15, L15, k15, n15⟩, -, X15, ⟨Lc15, hQ15, l15, y15, z15⟩, st15⟩ := X8.interfaceBack hx (xi := (⟨"java/util/List", "add", "(Ljava/lang/Object;)Z"⟩ : MethodName)) (y := (⟨"java/util/ArrayList", "add", "(Ljava/lang/Object;)Z"⟩ : MethodName)) hown (mvT hZ (own_W hw 31 rfl)) (mvT hZ (own_W hw 32 rfl)) (mvT hZ (own_W hw 33 rfl)) (mvT hZ (own_W hw 34 rfl)) (mvT hZ (own_W hw 35 rfl)) (mvT hZ (own_W hw 36 rfl)) (mvT hZ (own_W hw 37 rfl)) (mvT hZ (own_W hw 38 rfl)) (by decide) (backOf (W := 0) (rm6_0 l Z a0 hw [] b2 b8 w_DEF kk_w_DEF (0 : Int32) T8.heap n0 z16 o17 f11 qf8_1 S_DEFAULTCAPACITY_EMPTY_ELEMENTDATA V_w_DEF f12 f13 f14 g_b2) hZ (own_W hw 39 rfl) (own_W hw 3 rfl) (by decide) (by decide)) q15a q15b q15c (g := (mkF m 78 #[.val (.long pl1), .second, .val (.int pi2), .val (.int pi3), .val (.int pi4), .val (.int pi5), .val (.int pi6), .val (.int (0 : Int32)), .val (.ref b1), .val (.int (3 : Int32)), .val (.ref b2), .unset] [(.ref b8), (.ref b2)])) rfl (by rw [hml]; rfl) (Steps.refl _) (argsL := [(.ref b8)]) (rest := []) (lenOf pd_2 rfl) rfl (by show 2 * 0 + _ ≤ _; exact Nat.le_of_eq rfl) (hb hby at_78) (fun _ _ => ⟨rfl, rfl, (by decide : 3 + 1 ≤ _), (by decide : 4 + 10 ≤ _)⟩)
  dsimp only [Pt.U, Pt.locs, Pt.cells, Pt.slots] at X15 l15 y15 z15 st15 hQ15
  subst l15 y15 z15
  obtain ⟨b15, b15_1, rfl, N15q, K15, qf15_0, qf15_1, qf15_2, qf15_3, qf15_4, qf15_5, qf15_6⟩ := hQ15
  have N15 := Fr.app N8 N15q
  have z19 := Nat.le_trans z16 K15.1
  have o20 := o17.keep K15 (allS g_b2 all0)
  obtain ⟨_, _, ⟨T18, L18, k18, n18⟩, -, X18, ⟨Lc18, hQ18, l18, y18, z18⟩, st18⟩ := Jvm.LawKit.callS X15 hx (y := (⟨"com/example/shardwright/shardwright/cli/RowIsBlankPinLaw", "field", "(II)[B"⟩ : MethodName)) hown (mvT hZ (own_W hw 27 rfl)) (mvT hZ (own_W hw 28 rfl)) (mvT hZ (own_W hw 29 rfl)) (mvT hZ (own_W hw 30 rfl)) (by decide) (backOf (W := 1) (rm5 l Z a0 hw [] ((pi3.toUInt32 >>> ((3 : Int32) &&& 31).toUInt32).toInt32) pi5 T15.heap n0 z19 o20 ) hZ (own_W hw 30 rfl) (own_W hw 29 rfl) (by decide) (by decide)) (g := (mkF m 97 #[.val (.long pl1), .second, .val (.int pi2), .val (.int pi3), .val (.int pi4), .val (.int pi5), .val (.int pi6), .val (.int (0 : Int32)), .val (.ref b1), .val (.int (3 : Int32)), .val (.ref b2), .unset] [(.int pi5), (.int ((pi3.toUInt32 >>> ((3 : Int32) &&& 31).toUInt32).toInt32)), (.ref b2)])) rfl (by rw [hml]; rfl) (argsL := [(.int ((pi3.toUInt32 >>> ((3 : Int32) &&& 31).toUInt32).toInt32)), (.int pi5)]) (rest := [(.ref b2)]) (lenOf pd_1 rfl) rfl (by show 2 * 0 + _ ≤ _; exact Nat.le_of_eq rfl) (hb hby at_97) (fun _ _ => ⟨rfl, rfl, (by decide : 4 + 1 ≤ _), (by decide : 14 + 1 ≤ _)⟩)
  dsimp only [Pt.U, Pt.locs, Pt.cells, Pt.slots] at X18 l18 y18 z18 st18 hQ18
  subst l18 y18 z18
  obtain ⟨b18, rfl, N18q, K18, qf18_0, qf18_1⟩ := hQ18
  have N18 := Fr.app N15 N18q
  have f21 := qf15_0.keep K18
  have f22 := qf15_1.keep K18 nin0
  have f23 := qf15_2.keep K18 nin0
  have f24 := qf15_5.keep K18 nin0
  have f25 := qf15_3.keep K18 nin0
  have g_b15 : n0 ≤ b15 := Nat.le_trans z16 qf15_4
  have z27 := Nat.le_trans z19 K18.1
  have o28 := o20.keep K18 all0
  obtain ⟨cq26, kq26, q26a, q26b, q26c⟩ := isOf hZ rfl f21
  obtain ⟨_, _, ⟨T26, L26, k26, n26⟩, -, X26, ⟨Lc26, hQ26, l26, y26, z26⟩, st26⟩ := X18.interfaceBack hx (xi := (⟨"java/util/List", "add", "(Ljava/lang/Object;)Z"⟩ : MethodName)) (y := (⟨"java/util/ArrayList", "add", "(Ljava/lang/Object;)Z"⟩ : MethodName)) hown (mvT hZ (own_W hw 31 rfl)) (mvT hZ (own_W hw 32 rfl)) (mvT hZ (own_W hw 33 rfl)) (mvT hZ (own_W hw 34 rfl)) (mvT hZ (own_W hw 35 rfl)) (mvT hZ (own_W hw 36 rfl)) (mvT hZ (own_W hw 37 rfl)) (mvT hZ (own_W hw 38 rfl)) (by decide) (backOf (W := 0) (rm6_1 l Z a0 hw [] b2 b18 ((0 : Int32) + (1 : Int32)) b15 b15_1 (.ref b8) .null .null .null .null .null .null .null .null .null T18.heap n0 z27 o28 f21 qf18_1 f22 f23 f24 qf15_6 f25 g_b2 (Ne.symm (Nat.ne_of_lt (Nat.lt_of_lt_of_le f11.lt qf15_4))) g_b15) hZ (own_W hw 39 rfl) (own_W hw 3 rfl) (by decide) (by decide)) q26a q26b q26c (g := (mkF m 100 #[.val (.long pl1), .second, .val (.int pi2), .val (.int pi3), .val (.int pi4), .val (.int pi5), .val (.int pi6), .val (.int (0 : Int32)), .val (.ref b1), .val (.int (3 : Int32)), .val (.ref b2), .unset] [(.ref b18), (.ref b2)])) rfl (by rw [hml]; rfl) (Steps.refl _) (argsL := [(.ref b18)]) (rest := []) (lenOf pd_2 rfl) rfl (by show 2 * 0 + _ ≤ _; exact Nat.le_of_eq rfl) (hb hby at_100) (fun _ _ => ⟨rfl, rfl, (by decide : 5 + 0 ≤ _), (by decide : 15 + 0 ≤ _)⟩)
  dsimp only [Pt.U, Pt.locs, Pt.cells, Pt.slots] at X26 l26 y26 z26 st26 hQ26
  subst l26 y26 z26
  obtain ⟨rfl, N26q, K26, qf26_0, qf26_1, qf26_2, qf26_3, qf26_4, qf26_5⟩ := hQ26
  have N26 := Fr.app N18 N26q
  have z30 := Nat.le_trans z27 K26.1
  have o31 := o28.keep K26 (allS g_b2 (allS g_b15 all0))
  obtain ⟨_, _, ⟨T29, L29, k29, n29⟩, -, X29, ⟨Lc29, hQ29, l29, y29, z29⟩, st29⟩ := Jvm.LawKit.callS X26 hx (y := (⟨"com/example/shardwright/shardwright/cli/RowIsBlankPinLaw", "field", "(II)[B"⟩ : MethodName)) hown (mvT hZ (own_W hw 27 rfl)) (mvT hZ (own_W hw 28 rfl)) (mvT hZ (own_W hw 29 rfl)) (mvT hZ (own_W hw 30 rfl)) (by decide) (backOf (W := 1) (rm5 l Z a0 hw [] ((pi3.toUInt32 >>> ((4 : Int32) &&& 31).toUInt32).toInt32) pi6 T26.heap n0 z30 o31 ) hZ (own_W hw 30 rfl) (own_W hw 29 rfl) (by decide) (by decide)) (g := (mkF m 119 #[.val (.long pl1), .second, .val (.int pi2), .val (.int pi3), .val (.int pi4), .val (.int pi5), .val (.int pi6), .val (.int (0 : Int32)), .val (.ref b1), .val (.int (3 : Int32)), .val (.ref b2), .unset] [(.int pi6), (.int ((pi3.toUInt32 >>> ((4 : Int32) &&& 31).toUInt32).toInt32)), (.ref b2)])) rfl (by rw [hml]; rfl) (argsL := [(.int ((pi3.toUInt32 >>> ((4 : Int32) &&& 31).toUInt32).toInt32)), (.int pi6)]) (rest := [(.ref b2)]) (lenOf pd_1 rfl) rfl (by show 2 * 0 + _ ≤ _; exact Nat.le_of_eq rfl) (hb hby at_119) (fun _ _ => ⟨rfl, rfl, (by decide : 5 + 1 ≤ _), (by decide : 15 + 1 ≤ _)⟩)
  dsimp only [Pt.U, Pt.locs, Pt.cells, Pt.slots] at X29 l29 y29 z29 st29 hQ29
  subst l29 y29 z29
  obtain ⟨b29, rfl, N29q, K29, qf29_0, qf29_1⟩ := hQ29
  have N29 := Fr.app N26 N29q
  have f32 := qf26_0.keep K29
  have f33 := qf26_1.keep K29 nin0
  have f34 := qf26_2.keep K29 nin0
  have f35 := qf26_4.keep K29 nin0
  have f36 := qf26_3.keep K29 nin0
  have z38 := Nat.le_trans z30 K29.1
  have o39 := o31.keep K29 all0
  obtain ⟨cq37, kq37, q37a, q37b, q37c⟩ := isOf hZ rfl f32
  obtain ⟨_, _, ⟨T37, L37, k37, n37⟩, -, X37, ⟨Lc37, hQ37, l37, y37, z37⟩, st37⟩ := X29.interfaceBack hx (xi := (⟨"java/util/List", "add", "(Ljava/lang/Object;)Z"⟩ : MethodName)) (y := (⟨"java/util/ArrayList", "add", "(Ljava/lang/Object;)Z"⟩ : MethodName)) hown (mvT hZ (own_W hw 31 rfl)) (mvT hZ (own_W hw 32 rfl)) (mvT hZ (own_W hw 33 rfl)) (mvT hZ (own_W hw 34 rfl)) (mvT hZ (own_W hw 35 rfl)) (mvT hZ (own_W hw 36 rfl)) (mvT hZ (own_W hw 37 rfl)) (mvT hZ (own_W hw 38 rfl)) (by decide) (backOf (W := 0) (rm6_2 l Z a0 hw [] b2 b29 (((0 : Int32) + (1 : Int32)) + (1 : Int32)) b15 b15_1 (.ref b8) (.ref b18) .null .null .null .null .null .null .null .null T29.heap n0 z38 o39 f32 qf29_1 f33 f34 f35 qf26_5 f36 g_b2 (Ne.symm (Nat.ne_of_lt (Nat.lt_of_lt_of_le f11.lt qf15_4))) g_b15) hZ (own_W hw 39 rfl) (own_W hw 3 rfl) (by decide) (by decide)) q37a q37b q37c (g := (mkF m 122 #[.val (.long pl1), .second, .val (.int pi2), .val (.int pi3), .val (.int pi4), .val (.int pi5), .val (.int pi6), .val (.int (0 : Int32)), .val (.ref b1), .val (.int (3 : Int32)), .val (.ref b2), .unset] [(.ref b29), (.ref b2)])) rfl (by rw [hml]; rfl) (Steps.refl _) (argsL := [(.ref b29)]) (rest := []) (lenOf pd_2 rfl) rfl (by show 2 * 0 + _ ≤ _; exact Nat.le_of_eq rfl) (hb hby at_122) (fun _ _ => ⟨rfl, rfl, (by decide : 6 + 0 ≤ _), (by decide : 16 + 0 ≤ _)⟩)
  dsimp only [Pt.U, Pt.locs, Pt.cells, Pt.slots] at X37 l37 y37 z37 st37 hQ37
  subst l37 y37 z37
  obtain ⟨rfl, N37q, K37, qf37_0, qf37_1, qf37_2, qf37_3, qf37_4, qf37_5⟩ := hQ37
  have N37 := Fr.app N29 N37q
  obtain ⟨T40, h40, X40, e40, E40, A40, D40, -, st40⟩ := newO X37 hx hZ hown (own_W hw 66 rfl) (own_W hw 67 rfl) (own_W hw 68 rfl) rfl (g := (mkF m 128 #[.val (.long pl1), .second, .val (.int pi2), .val (.int pi3), .val (.int pi4), .val (.int pi5), .val (.int pi6), .val (.int (0 : Int32)), .val (.ref b1), .val (.int (3 : Int32)), .val (.ref b2), .unset] [])) rfl (hb hby at_128) (by decide) (by decide)
  obtain ⟨b40, g40⟩ : ∃ z, z = T37.heap.size := ⟨_, rfl⟩
  rw [← g40] at A40 D40 st40
  have F_line_b40 : Fld Z h40 b40 "com/example/shardwright/shardwright/cli/CsvReader$Row" "line" "J" (.long (0 : Int64)) := D40 (Or.inr (own_W hw 79 rfl)) (ty := .long) (by decide)
  have F_text_b40 : Fld Z h40 b40 "com/example/shardwright/shardwright/cli/CsvReader$Row" "text" "[B" .null := D40 (Or.inr (own_W hw 81 rfl)) (ty := (.array .byte)) (by decide)
  have F_fields_b40 : Fld Z h40 b40 "com/example/shardwright/shardwright/cli/CsvReader$Row" "fields" "Ljava/util/List;" .null := D40 (Or.inr (own_W hw 83 rfl)) (ty := (.object "java/util/List")) (by decide)
  have z41 := Nat.le_trans z38 K37.1
  have g_b40 : n0 ≤ b40 := Nat.le_trans z41 (Nat.le_of_eq g40.symm)
  have z43 := Nat.le_trans z41 E40.1
  have o44 := o39.keep K37 (allS g_b2 (allS g_b15 all0))
  have o45 := o44.ext E40
  obtain ⟨_, _, ⟨T42, L42, k42, n42⟩, -, X42, ⟨Lc42, hQ42, l42, y42, z42⟩, st42⟩ := X40.specialBack hx (y := (⟨"com/example/shardwright/shardwright/cli/CsvReader$Row", "<init>", "(J[BLjava/util/List;)V"⟩ : MethodName)) rfl hown (mvT hZ (own_W hw 69 rfl)) (mvT hZ (own_W hw 70 rfl)) (mvT hZ (own_W hw 71 rfl)) (by decide) (backOf (W := 1) (rm11 l Z a0 hw [] b40 pl1 b1 b2 (.long (0 : Int64)) .null .null h40 n0 z43 o45 A40 F_line_b40 g_b40 F_text_b40 F_fields_b40) hZ (own_W hw 71 rfl) (own_W hw 68 rfl) (by decide) (by decide)) (g := (mkF m 137 #[.val (.long pl1), .second, .val (.int pi2), .val (.int pi3), .val (.int pi4), .val (.int pi5), .val (.int pi6), .val (.int (0 : Int32)), .val (.ref b1), .val (.int (3 : Int32)), .val (.ref b2), .unset] [(.ref b2), (.ref b1), (.long pl1), (.ref b40), (.ref b40)])) rfl (by rw [hml]; rfl) (Steps.refl _) (a := b40) (argsL := [(.long pl1), (.ref b1), (.ref b2)]) (rest := [(.ref b40)]) (lenOf pd_7 rfl) rfl (by show 2 * 0 + _ ≤ _; exact Nat.le_of_eq rfl) (hb hby at_137) (fun _ _ => ⟨rfl, e40, (by decide : 7 + 0 ≤ _), (by decide : 19 + 0 ≤ _)⟩)
  dsimp only [Pt.U, Pt.locs, Pt.cells, Pt.slots] at X42 l42 y42 z42 st42 hQ42
  subst l42 y42 z42
  obtain ⟨rfl, N42q, K42, qf42_0, qf42_1, qf42_2, qf42_3⟩ := hQ42
  have N42 := Fr.app N37 N42q
  have f46 := V1.ext E2
  have f47 := f46.keep K4 (ninS (Nat.ne_of_lt (Nat.lt_of_lt_of_le V1.lt (Nat.le_of_eq g2.symm))) nin0)
  have f48 := f47.keep K8 nin0
  have f49 := f48.keep K15 (ninS (Nat.ne_of_lt (Nat.lt_of_lt_of_le V1.lt (Nat.le_of_eq g2.symm))) nin0)
  have f50 := f49.keep K18 nin0
  have f51 := f50.keep K26 (ninS (Nat.ne_of_lt (Nat.lt_of_lt_of_le V1.lt (Nat.le_of_eq g2.symm))) (ninS (Nat.ne_of_lt (Nat.lt_of_lt_of_le f48.lt qf15_4)) nin0))
  have f52 := f51.keep K29 nin0
  have f53 := f52.keep K37 (ninS (Nat.ne_of_lt (Nat.lt_of_lt_of_le V1.lt (Nat.le_of_eq g2.symm))) (ninS (Nat.ne_of_lt (Nat.lt_of_lt_of_le f48.lt qf15_4)) nin0))
  have f54 := f53.ext E40
  have f55 := f54.keep K42 (ninS (Nat.ne_of_lt (Nat.lt_of_lt_of_le f53.lt (Nat.le_of_eq g40.symm))) nin0)
  have z57 := Nat.le_trans z43 K42.1
  have o58 := o45.keep K42 (allS g_b40 all0)
  obtain ⟨cq56, kq56, q56a, q56b, q56c⟩ := isOf hZ rfl qf42_0
  obtain ⟨_, _, ⟨T56, L56, k56, n56⟩, -, X56, ⟨Lc56, hQ56, l56, y56, z56⟩, st56⟩ := X42.virtualBack hx (y := (⟨"com/example/shardwright/shardwright/cli/CsvReader$Row", "isBlank", "()Z"⟩ : MethodName)) (z := (⟨"com/example/shardwright/shardwright/cli/CsvReader$Row", "isBlank", "()Z"⟩ : MethodName)) hown (mvT hZ (own_W hw 84 rfl)) (mvT hZ (own_W hw 85 rfl)) (notFace_of_selects (args := #[]) (mvT hZ (own_W hw 87 rfl))) (mvT hZ (own_W hw 87 rfl)) (mvT hZ (own_W hw 86 rfl)) (by decide) (backOf (W := 0) (rm13_0 l Z a0 hw [] b40 b1 k1 T42.heap n0 z57 o58 qf42_2 f55) hZ (own_W hw 88 rfl) (own_W hw 68 rfl) (by decide) (by decide)) q56a q56c (g := (mkF m 144 #[.val (.long pl1), .second, .val (.int pi2), .val (.int pi3), .val (.int pi4), .val (.int pi5), .val (.int pi6), .val (.int (0 : Int32)), .val (.ref b1), .val (.int (3 : Int32)), .val (.ref b2), .val (.ref b40)] [(.ref b40)])) rfl (by rw [hml]; rfl) (Steps.refl _) (argsL := []) (rest := []) (lenOf pd_8 rfl) rfl (by show 2 * 0 + _ ≤ _; exact Nat.le_of_eq rfl) (hb hby at_144) (fun _ _ => ⟨rfl, rfl, (by decide : 7 + 0 ≤ _), (by decide : 19 + 0 ≤ _)⟩)
  dsimp only [Pt.U, Pt.locs, Pt.cells, Pt.slots] at X56 l56 y56 z56 st56 hQ56
  subst l56 y56 z56
  obtain ⟨rfl, N56q, eq56⟩ := hQ56
  have N56 := Fr.app N42 N56q
  obtain ⟨fs, hr, hrun, hended, hW, hsame⟩ := X56.leave (v := some (.int (1 : Int32))) (fun h => by rw [Bd.returns] at h; cases h)
  refine ⟨_, _, pre0 _ ?_, hrun, hended, _, _, rfl, ?_, ⟨_, rfl⟩, hW, hsame.mono (by decide) (by decide)⟩
  · show Stp p e below s₁ m 0 #[.val (.long pl1), .second, .val (.int pi2), .val (.int pi3), .val (.int pi4), .val (.int pi5), .val (.int pi6), .unset, .unset, .unset, .unset, .unset] [] _
    refine XS.iloadN X0.here hx rfl (hb hby at_0) rfl ?_
    show Stp p e below s₁ m 1 #[.val (.long pl1), .second, .val (.int pi2), .val (.int pi3), .val (.int pi4), .val (.int pi5), .val (.int pi6), .unset, .unset, .unset, .unset, .unset] [(.int pi2)] _
    refine XS.iconst X0.here hx rfl (hb hby at_1) ?_
    show Stp p e below s₁ m 2 #[.val (.long pl1), .second, .val (.int pi2), .val (.int pi3), .val (.int pi4), .val (.int pi5), .val (.int pi6), .unset, .unset, .unset, .unset, .unset] [(.int (3 : Int32)), (.int pi2)] _
    refine XS.iand X0.here hx rfl (hb hby at_2) rfl ?_
    show Stp p e below s₁ m 3 #[.val (.long pl1), .second, .val (.int pi2), .val (.int pi3), .val (.int pi4), .val (.int pi5), .val (.int pi6), .unset, .unset, .unset, .unset, .unset] [(.int (pi2 &&& (3 : Int32)))] _
    refine XS.istore X0.here hx rfl (hb hby at_3) rfl (l' := #[.val (.long pl1), .second, .val (.int pi2), .val (.int pi3), .val (.int pi4), .val (.int pi5), .val (.int pi6), .val (.int (pi2 &&& (3 : Int32))), .unset, .unset, .unset, .unset]) rfl ?_
    show Stp p e below s₁ m 5 #[.val (.long pl1), .second, .val (.int pi2), .val (.int pi3), .val (.int pi4), .val (.int pi5), .val (.int pi6), .val (.int (pi2 &&& (3 : Int32))), .unset, .unset, .unset, .unset] [] _
    rw [show (pi2 &&& (3 : Int32)) = (0 : Int32) from hc3_0]
    show Stp p e below s₁ m 5 #[.val (.long pl1), .second, .val (.int pi2), .val (.int pi3), .val (.int pi4), .val (.int pi5), .val (.int pi6), .val (.int (0 : Int32)), .unset, .unset, .unset, .unset] [] _
    refine XS.iload X0.here hx rfl (hb hby at_5) rfl ?_
    show Stp p e below s₁ m 7 #[.val (.long pl1), .second, .val (.int pi2), .val (.int pi3), .val (.int pi4), .val (.int pi5), .val (.int pi6), .val (.int (0 : Int32)), .unset, .unset, .unset, .unset] [(.int (0 : Int32))] _
    refine st1 _ ?_
    show Stp p e below T1 m 9 #[.val (.long pl1), .second, .val (.int pi2), .val (.int pi3), .val (.int pi4), .val (.int pi5), .val (.int pi6), .val (.int (0 : Int32)), .unset, .unset, .unset, .unset] [(.ref b1)] _
    refine XS.astore X1.here hx rfl (hb hby at_9) rfl rfl (l' := #[.val (.long pl1), .second, .val (.int pi2), .val (.int pi3), .val (.int pi4), .val (.int pi5), .val (.int pi6), .val (.int (0 : Int32)), .val (.ref b1), .unset, .unset, .unset]) rfl ?_
    show Stp p e below T1 m 11 #[.val (.long pl1), .second, .val (.int pi2), .val (.int pi3), .val (.int pi4), .val (.int pi5), .val (.int pi6), .val (.int (0 : Int32)), .val (.ref b1), .unset, .unset, .unset] [] _
    refine XS.iload X1.here hx rfl (hb hby at_11) rfl ?_
    show Stp p e below T1 m 13 #[.val (.long pl1), .second, .val (.int pi2), .val (.int pi3), .val (.int pi4), .val (.int pi5), .val (.int pi6), .val (.int (0 : Int32)), .val (.ref b1), .unset, .unset, .unset] [(.int (0 : Int32))] _
    refine XS.ifYes X1.here hx rfl (pc0 := 13) (pc' := 23) rfl (hb hby at_13) rfl ((if0 _ _).trans (flt (by simp : ¬ ((0 : Int32) < (0 : Int32)))).2.2.2) (by decide) (by decide) ?_
    show Stp p e below T1 m 23 #[.val (.long pl1), .second, .val (.int pi2), .val (.int pi3), .val (.int pi4), .val (.int pi5), .val (.int pi6), .val (.int (0 : Int32)), .val (.ref b1), .unset, .unset, .unset] [] _
    refine XS.iload X1.here hx rfl (hb hby at_23) rfl ?_
    show Stp p e below T1 m 25 #[.val (.long pl1), .second, .val (.int pi2), .val (.int pi3), .val (.int pi4), .val (.int pi5), .val (.int pi6), .val (.int (0 : Int32)), .val (.ref b1), .unset, .unset, .unset] [(.int (0 : Int32))] _
    refine XS.iconst X1.here hx rfl (hb hby at_25) ?_
    show Stp p e below T1 m 26 #[.val (.long pl1), .second, .val (.int pi2), .val (.int pi3), .val (.int pi4), .val (.int pi5), .val (.int pi6), .val (.int (0 : Int32)), .val (.ref b1), .unset, .unset, .unset] [(.int (1 : Int32)), (.int (0 : Int32))] _
    refine XS.icmpYes X1.here hx rfl (pc0 := 26) (pc' := 36) rfl (hb hby at_26) rfl (flt (by decide : ¬ ((1 : Int32) < (0 : Int32)))).2.2.2 (by decide) (by decide) ?_
    show Stp p e below T1 m 36 #[.val (.long pl1), .second, .val (.int pi2), .val (.int pi3), .val (.int pi4), .val (.int pi5), .val (.int pi6), .val (.int (0 : Int32)), .val (.ref b1), .unset, .unset, .unset] [] _
    refine XS.iload X1.here hx rfl (hb hby at_36) rfl ?_
    show Stp p e below T1 m 38 #[.val (.long pl1), .second, .val (.int pi2), .val (.int pi3), .val (.int pi4), .val (.int pi5), .val (.int pi6), .val (.int (0 : Int32)), .val (.ref b1), .unset, .unset, .unset] [(.int (0 : Int32))] _
    refine XS.iconst X1.here hx rfl (hb hby at_38) ?_
    show Stp p e below T1 m 39 #[.val (.long pl1), .second, .val (.int pi2), .val (.int pi3), .val (.int pi4), .val (.int pi5), .val (.int pi6), .val (.int (0 : Int32)), .val (.ref b1), .unset, .unset, .unset] [(.int (2 : Int32)), (.int (0 : Int32))] _
    refine XS.icmpYes X1.here hx rfl (pc0 := 39) (pc' := 49) rfl (hb hby at_39) rfl (flt (by decide : ¬ ((2 : Int32) < (0 : Int32)))).2.2.2 (by decide) (by decide) ?_
    show Stp p e below T1 m 49 #[.val (.long pl1), .second, .val (.int pi2), .val (.int pi3), .val (.int pi4), .val (.int pi5), .val (.int pi6), .val (.int (0 : Int32)), .val (.ref b1), .unset, .unset, .unset] [] _
    refine XS.iloadN X1.here hx rfl (hb hby at_49) rfl ?_
    show Stp p e below T1 m 50 #[.val (.long pl1), .second, .val (.int pi2), .val (.int pi3), .val (.int pi4), .val (.int pi5), .val (.int pi6), .val (.int (0 : Int32)), .val (.ref b1), .unset, .unset, .unset] [(.int pi3)] _
    refine XS.iconst X1.here hx rfl (hb hby at_50) ?_
    show Stp p e below T1 m 51 #[.val (.long pl1), .second, .val (.int pi2), .val (.int pi3), .val (.int pi4), .val (.int pi5), .val (.int pi6), .val (.int (0 : Int32)), .val (.ref b1), .unset, .unset, .unset] [(.int (3 : Int32)), (.int pi3)] _
    refine XS.iand X1.here hx rfl (hb hby at_51) rfl ?_
    show Stp p e below T1 m 52 #[.val (.long pl1), .second, .val (.int pi2), .val (.int pi3), .val (.int pi4), .val (.int pi5), .val (.int pi6), .val (.int (0 : Int32)), .val (.ref b1), .unset, .unset, .unset] [(.int (pi3 &&& (3 : Int32)))] _
    refine XS.istore X1.here hx rfl (hb hby at_52) rfl (l' := #[.val (.long pl1), .second, .val (.int pi2), .val (.int pi3), .val (.int pi4), .val (.int pi5), .val (.int pi6), .val (.int (0 : Int32)), .val (.ref b1), .val (.int (pi3 &&& (3 : Int32))), .unset, .unset]) rfl ?_
    show Stp p e below T1 m 54 #[.val (.long pl1), .second, .val (.int pi2), .val (.int pi3), .val (.int pi4), .val (.int pi5), .val (.int pi6), .val (.int (0 : Int32)), .val (.ref b1), .val (.int (pi3 &&& (3 : Int32))), .unset, .unset] [] _
    rw [show (pi3 &&& (3 : Int32)) = (3 : Int32) from own_n3 hc52_1 hc52_2 hc52_3]
    show Stp p e below T1 m 54 #[.val (.long pl1), .second, .val (.int pi2), .val (.int pi3), .val (.int pi4), .val (.int pi5), .val (.int pi6), .val (.int (0 : Int32)), .val (.ref b1), .val (.int (3 : Int32)), .unset, .unset] [] _
    refine st2 _ ?_
    show Stp p e below T2 m 57 #[.val (.long pl1), .second, .val (.int pi2), .val (.int pi3), .val (.int pi4), .val (.int pi5), .val (.int pi6), .val (.int (0 : Int32)), .val (.ref b1), .val (.int (3 : Int32)), .unset, .unset] [(.ref b2)] _
    refine XS.dup X2.here hx rfl (hb hby at_57) rfl rfl ?_
    show Stp p e below T2 m 58 #[.val (.long pl1), .second, .val (.int pi2), .val (.int pi3), .val (.int pi4), .val (.int pi5), .val (.int pi6), .val (.int (0 : Int32)), .val (.ref b1), .val (.int (3 : Int32)), .unset, .unset] [(.ref b2), (.ref b2)] _
    refine st4.trans ?_
    show Stp p e below T4 m 61 #[.val (.long pl1), .second, .val (.int pi2), .val (.int pi3), .val (.int pi4), .val (.int pi5), .val (.int pi6), .val (.int (0 : Int32)), .val (.ref b1), .val (.int (3 : Int32)), .unset, .unset] [(.ref b2)] _
    refine XS.astore X4.here hx rfl (hb hby at_61) rfl rfl (l' := #[.val (.long pl1), .second, .val (.int pi2), .val (.int pi3), .val (.int pi4), .val (.int pi5), .val (.int pi6), .val (.int (0 : Int32)), .val (.ref b1), .val (.int (3 : Int32)), .val (.ref b2), .unset]) rfl ?_
    show Stp p e below T4 m 63 #[.val (.long pl1), .second, .val (.int pi2), .val (.int pi3), .val (.int pi4), .val (.int pi5), .val (.int pi6), .val (.int (0 : Int32)), .val (.ref b1), .val (.int (3 : Int32)), .val (.ref b2), .unset] [] _
    refine XS.iload X4.here hx rfl (hb hby at_63) rfl ?_
    show Stp p e below T4 m 65 #[.val (.long pl1), .second, .val (.int pi2), .val (.int pi3), .val (.int pi4), .val (.int pi5), .val (.int pi6), .val (.int (0 : Int32)), .val (.ref b1), .val (.int (3 : Int32)), .val (.ref b2), .unset] [(.int (3 : Int32))] _
    refine XS.ifNo X4.here hx rfl (hb hby at_65) rfl ((if0 _ _).trans (tlt (by decide : (0 : Int32) < (3 : Int32))).2.2.2) ?_
    show Stp p e below T4 m 68 #[.val (.long pl1), .second, .val (.int pi2), .val (.int pi3), .val (.int pi4), .val (.int pi5), .val (.int pi6), .val (.int (0 : Int32)), .val (.ref b1), .val (.int (3 : Int32)), .val (.ref b2), .unset] [] _
    refine XS.aload X4.here hx rfl (hb hby at_68) rfl rfl ?_
    show Stp p e below T4 m 70 #[.val (.long pl1), .second, .val (.int pi2), .val (.int pi3), .val (.int pi4), .val (.int pi5), .val (.int pi6), .val (.int (0 : Int32)), .val (.ref b1), .val (.int (3 : Int32)), .val (.ref b2), .unset] [(.ref b2)] _
    refine XS.iloadN X4.here hx rfl (hb hby at_70) rfl ?_
    show Stp p e below T4 m 71 #[.val (.long pl1), .second, .val (.int pi2), .val (.int pi3), .val (.int pi4), .val (.int pi5), .val (.int pi6), .val (.int (0 : Int32)), .val (.ref b1), .val (.int (3 : Int32)), .val (.ref b2), .unset] [(.int pi3), (.ref b2)] _
    refine XS.iconst X4.here hx rfl (hb hby at_71) ?_
    show Stp p e below T4 m 72 #[.val (.long pl1), .second, .val (.int pi2), .val (.int pi3), .val (.int pi4), .val (.int pi5), .val (.int pi6), .val (.int (0 : Int32)), .val (.ref b1), .val (.int (3 : Int32)), .val (.ref b2), .unset] [(.int (2 : Int32)), (.int pi3), (.ref b2)] _
    refine XS.iushr X4.here hx rfl (hb hby at_72) rfl ?_
    show Stp p e below T4 m 73 #[.val (.long pl1), .second, .val (.int pi2), .val (.int pi3), .val (.int pi4), .val (.int pi5), .val (.int pi6), .val (.int (0 : Int32)), .val (.ref b1), .val (.int (3 : Int32)), .val (.ref b2), .unset] [(.int ((pi3.toUInt32 >>> ((2 : Int32) &&& 31).toUInt32).toInt32)), (.ref b2)] _
    refine XS.iload X4.here hx rfl (hb hby at_73) rfl ?_
    show Stp p e below T4 m 75 #[.val (.long pl1), .second, .val (.int pi2), .val (.int pi3), .val (.int pi4), .val (.int pi5), .val (.int pi6), .val (.int (0 : Int32)), .val (.ref b1), .val (.int (3 : Int32)), .val (.ref b2), .unset] [(.int pi4), (.int ((pi3.toUInt32 >>> ((2 : Int32) &&& 31).toUInt32).toInt32)), (.ref b2)] _
    refine st8 _ ?_
    show Stp p e below T8 m 78 #[.val (.long pl1), .second, .val (.int pi2), .val (.int pi3), .val (.int pi4), .val (.int pi5), .val (.int pi6), .val (.int (0 : Int32)), .val (.ref b1), .val (.int (3 : Int32)), .val (.ref b2), .unset] [(.ref b8), (.ref b2)] _
    refine st15.trans ?_
    show Stp p e below T15 m 83 #[.val (.long pl1), .second, .val (.int pi2), .val (.int pi3), .val (.int pi4), .val (.int pi5), .val (.int pi6), .val (.int (0 : Int32)), .val (.ref b1), .val (.int (3 : Int32)), .val (.ref b2), .unset] [(.int (1 : Int32))] _
    refine XS.pop X15.here hx rfl (hb hby at_83) rfl rfl ?_
    show Stp p e below T15 m 84 #[.val (.long pl1), .second, .val (.int pi2), .val (.int pi3), .val (.int pi4), .val (.int pi5), .val (.int pi6), .val (.int (0 : Int32)), .val (.ref b1), .val (.int (3 : Int32)), .val (.ref b2), .unset] [] _
    refine XS.iload X15.here hx rfl (hb hby at_84) rfl ?_
    show Stp p e below T15 m 86 #[.val (.long pl1), .second, .val (.int pi2), .val (.int pi3), .val (.int pi4), .val (.int pi5), .val (.int pi6), .val (.int (0 : Int32)), .val (.ref b1), .val (.int (3 : Int32)), .val (.ref b2), .unset] [(.int (3 : Int32))] _
    refine XS.iconst X15.here hx rfl (hb hby at_86) ?_
    show Stp p e below T15 m 87 #[.val (.long pl1), .second, .val (.int pi2), .val (.int pi3), .val (.int pi4), .val (.int pi5), .val (.int pi6), .val (.int (0 : Int32)), .val (.ref b1), .val (.int (3 : Int32)), .val (.ref b2), .unset] [(.int (1 : Int32)), (.int (3 : Int32))] _
    refine XS.icmpNo X15.here hx rfl (hb hby at_87) rfl (tlt (by decide : (1 : Int32) < (3 : Int32))).2.2.2 ?_
    show Stp p e below T15 m 90 #[.val (.long pl1), .second, .val (.int pi2), .val (.int pi3), .val (.int pi4), .val (.int pi5), .val (.int pi6), .val (.int (0 : Int32)), .val (.ref b1), .val (.int (3 : Int32)), .val (.ref b2), .unset] [] _
    refine XS.aload X15.here hx rfl (hb hby at_90) rfl rfl ?_
    show Stp p e below T15 m 92 #[.val (.long pl1), .second, .val (.int pi2), .val (.int pi3), .val (.int pi4), .val (.int pi5), .val (.int pi6), .val (.int (0 : Int32)), .val (.ref b1), .val (.int (3 : Int32)), .val (.ref b2), .unset] [(.ref b2)] _
    refine XS.iloadN X15.here hx rfl (hb hby at_92) rfl ?_
    show Stp p e below T15 m 93 #[.val (.long pl1), .second, .val (.int pi2), .val (.int pi3), .val (.int pi4), .val (.int pi5), .val (.int pi6), .val (.int (0 : Int32)), .val (.ref b1), .val (.int (3 : Int32)), .val (.ref b2), .unset] [(.int pi3), (.ref b2)] _
    refine XS.iconst X15.here hx rfl (hb hby at_93) ?_
    show Stp p e below T15 m 94 #[.val (.long pl1), .second, .val (.int pi2), .val (.int pi3), .val (.int pi4), .val (.int pi5), .val (.int pi6), .val (.int (0 : Int32)), .val (.ref b1), .val (.int (3 : Int32)), .val (.ref b2), .unset] [(.int (3 : Int32)), (.int pi3), (.ref b2)] _
    refine XS.iushr X15.here hx rfl (hb hby at_94) rfl ?_
    show Stp p e below T15 m 95 #[.val (.long pl1), .second, .val (.int pi2), .val (.int pi3), .val (.int pi4), .val (.int pi5), .val (.int pi6), .val (.int (0 : Int32)), .val (.ref b1), .val (.int (3 : Int32)), .val (.ref b2), .unset] [(.int ((pi3.toUInt32 >>> ((3 : Int32) &&& 31).toUInt32).toInt32)), (.ref b2)] _
    refine XS.iload X15.here hx rfl (hb hby at_95) rfl ?_
    show Stp p e below T15 m 97 #[.val (.long pl1), .second, .val (.int pi2), .val (.int pi3), .val (.int pi4), .val (.int pi5), .val (.int pi6), .val (.int (0 : Int32)), .val (.ref b1), .val (.int (3 : Int32)), .val (.ref b2), .unset] [(.int pi5), (.int ((pi3.toUInt32 >>> ((3 : Int32) &&& 31).toUInt32).toInt32)), (.ref b2)] _
    refine st18 _ ?_
    show Stp p e below T18 m 100 #[.val (.long pl1), .second, .val (.int pi2), .val (.int pi3), .val (.int pi4), .val (.int pi5), .val (.int pi6), .val (.int (0 : Int32)), .val (.ref b1), .val (.int (3 : Int32)), .val (.ref b2), .unset] [(.ref b18), (.ref b2)] _
    refine st26.trans ?_
    show Stp p e below T26 m 105 #[.val (.long pl1), .second, .val (.int pi2), .val (.int pi3), .val (.int pi4), .val (.int pi5), .val (.int pi6), .val (.int (0 : Int32)), .val (.ref b1), .val (.int (3 : Int32)), .val (.ref b2), .unset] [(.int (1 : Int32))] _
    refine XS.pop X26.here hx rfl (hb hby at_105) rfl rfl ?_
    show Stp p e below T26 m 106 #[.val (.long pl1), .second, .val (.int pi2), .val (.int pi3), .val (.int pi4), .val (.int pi5), .val (.int pi6), .val (.int (0 : Int32)), .val (.ref b1), .val (.int (3 : Int32)), .val (.ref b2), .unset] [] _
    refine XS.iload X26.here hx rfl (hb hby at_106) rfl ?_
    show Stp p e below T26 m 108 #[.val (.long pl1), .second, .val (.int pi2), .val (.int pi3), .val (.int pi4), .val (.int pi5), .val (.int pi6), .val (.int (0 : Int32)), .val (.ref b1), .val (.int (3 : Int32)), .val (.ref b2), .unset] [(.int (3 : Int32))] _
    refine XS.iconst X26.here hx rfl (hb hby at_108) ?_
    show Stp p e below T26 m 109 #[.val (.long pl1), .second, .val (.int pi2), .val (.int pi3), .val (.int pi4), .val (.int pi5), .val (.int pi6), .val (.int (0 : Int32)), .val (.ref b1), .val (.int (3 : Int32)), .val (.ref b2), .unset] [(.int (2 : Int32)), (.int (3 : Int32))] _
    refine XS.icmpNo X26.here hx rfl (hb hby at_109) rfl (tlt (by decide : (2 : Int32) < (3 : Int32))).2.2.2 ?_
    show Stp p e below T26 m 112 #[.val (.long pl1), .second, .val (.int pi2), .val (.int pi3), .val (.int pi4), .val (.int pi5), .val (.int pi6), .val (.int (0 : Int32)), .val (.ref b1), .val (.int (3 : Int32)), .val (.ref b2), .unset] [] _
    refine XS.aload X26.here hx rfl (hb hby at_112) rfl rfl ?_
    show Stp p e below T26 m 114 #[.val (.long pl1), .second, .val (.int pi2), .val (.int pi3), .val (.int pi4), .val (.int pi5), .val (.int pi6), .val (.int (0 : Int32)), .val (.ref b1), .val (.int (3 : Int32)), .val (.ref b2), .unset] [(.ref b2)] _
    refine XS.iloadN X26.here hx rfl (hb hby at_114) rfl ?_
    show Stp p e below T26 m 115 #[.val (.long pl1), .second, .val (.int pi2), .val (.int pi3), .val (.int pi4), .val (.int pi5), .val (.int pi6), .val (.int (0 : Int32)), .val (.ref b1), .val (.int (3 : Int32)), .val (.ref b2), .unset] [(.int pi3), (.ref b2)] _
    refine XS.iconst X26.here hx rfl (hb hby at_115) ?_
    show Stp p e below T26 m 116 #[.val (.long pl1), .second, .val (.int pi2), .val (.int pi3), .val (.int pi4), .val (.int pi5), .val (.int pi6), .val (.int (0 : Int32)), .val (.ref b1), .val (.int (3 : Int32)), .val (.ref b2), .unset] [(.int (4 : Int32)), (.int pi3), (.ref b2)] _
    refine XS.iushr X26.here hx rfl (hb hby at_116) rfl ?_
    show Stp p e below T26 m 117 #[.val (.long pl1), .second, .val (.int pi2), .val (.int pi3), .val (.int pi4), .val (.int pi5), .val (.int pi6), .val (.int (0 : Int32)), .val (.ref b1), .val (.int (3 : Int32)), .val (.ref b2), .unset] [(.int ((pi3.toUInt32 >>> ((4 : Int32) &&& 31).toUInt32).toInt32)), (.ref b2)] _
    refine XS.iload X26.here hx rfl (hb hby at_117) rfl ?_
    show Stp p e below T26 m 119 #[.val (.long pl1), .second, .val (.int pi2), .val (.int pi3), .val (.int pi4), .val (.int pi5), .val (.int pi6), .val (.int (0 : Int32)), .val (.ref b1), .val (.int (3 : Int32)), .val (.ref b2), .unset] [(.int pi6), (.int ((pi3.toUInt32 >>> ((4 : Int32) &&& 31).toUInt32).toInt32)), (.ref b2)] _
    refine st29 _ ?_
    show Stp p e below T29 m 122 #[.val (.long pl1), .second, .val (.int pi2), .val (.int pi3), .val (.int pi4), .val (.int pi5), .val (.int pi6), .val (.int (0 : Int32)), .val (.ref b1), .val (.int (3 : Int32)), .val (.ref b2), .unset] [(.ref b29), (.ref b2)] _
    refine st37.trans ?_
    show Stp p e below T37 m 127 #[.val (.long pl1), .second, .val (.int pi2), .val (.int pi3), .val (.int pi4), .val (.int pi5), .val (.int pi6), .val (.int (0 : Int32)), .val (.ref b1), .val (.int (3 : Int32)), .val (.ref b2), .unset] [(.int (1 : Int32))] _
    refine XS.pop X37.here hx rfl (hb hby at_127) rfl rfl ?_
    show Stp p e below T37 m 128 #[.val (.long pl1), .second, .val (.int pi2), .val (.int pi3), .val (.int pi4), .val (.int pi5), .val (.int pi6), .val (.int (0 : Int32)), .val (.ref b1), .val (.int (3 : Int32)), .val (.ref b2), .unset] [] _
    refine st40 _ ?_
    show Stp p e below T40 m 131 #[.val (.long pl1), .second, .val (.int pi2), .val (.int pi3), .val (.int pi4), .val (.int pi5), .val (.int pi6), .val (.int (0 : Int32)), .val (.ref b1), .val (.int (3 : Int32)), .val (.ref b2), .unset] [(.ref b40)] _
    refine XS.dup X40.here hx rfl (hb hby at_131) rfl rfl ?_
    show Stp p e below T40 m 132 #[.val (.long pl1), .second, .val (.int pi2), .val (.int pi3), .val (.int pi4), .val (.int pi5), .val (.int pi6), .val (.int (0 : Int32)), .val (.ref b1), .val (.int (3 : Int32)), .val (.ref b2), .unset] [(.ref b40), (.ref b40)] _
    refine XS.lloadN X40.here hx rfl (hb hby at_132) rfl ?_
    show Stp p e below T40 m 133 #[.val (.long pl1), .second, .val (.int pi2), .val (.int pi3), .val (.int pi4), .val (.int pi5), .val (.int pi6), .val (.int (0 : Int32)), .val (.ref b1), .val (.int (3 : Int32)), .val (.ref b2), .unset] [(.long pl1), (.ref b40), (.ref b40)] _
    refine XS.aload X40.here hx rfl (hb hby at_133) rfl rfl ?_
    show Stp p e below T40 m 135 #[.val (.long pl1), .second, .val (.int pi2), .val (.int pi3), .val (.int pi4), .val (.int pi5), .val (.int pi6), .val (.int (0 : Int32)), .val (.ref b1), .val (.int (3 : Int32)), .val (.ref b2), .unset] [(.ref b1), (.long pl1), (.ref b40), (.ref b40)] _
    refine XS.aload X40.here hx rfl (hb hby at_135) rfl rfl ?_
    show Stp p e below T40 m 137 #[.val (.long pl1), .second, .val (.int pi2), .val (.int pi3), .val (.int pi4), .val (.int pi5), .val (.int pi6), .val (.int (0 : Int32)), .val (.ref b1), .val (.int (3 : Int32)), .val (.ref b2), .unset] [(.ref b2), (.ref b1), (.long pl1), (.ref b40), (.ref b40)] _
    refine st42.trans ?_
    show Stp p e below T42 m 140 #[.val (.long pl1), .second, .val (.int pi2), .val (.int pi3), .val (.int pi4), .val (.int pi5), .val (.int pi6), .val (.int (0 : Int32)), .val (.ref b1), .val (.int (3 : Int32)), .val (.ref b2), .unset] [(.ref b40)] _
    refine XS.astore X42.here hx rfl (hb hby at_140) rfl rfl (l' := #[.val (.long pl1), .second, .val (.int pi2), .val (.int pi3), .val (.int pi4), .val (.int pi5), .val (.int pi6), .val (.int (0 : Int32)), .val (.ref b1), .val (.int (3 : Int32)), .val (.ref b2), .val (.ref b40)]) rfl ?_
    show Stp p e below T42 m 142 #[.val (.long pl1), .second, .val (.int pi2), .val (.int pi3), .val (.int pi4), .val (.int pi5), .val (.int pi6), .val (.int (0 : Int32)), .val (.ref b1), .val (.int (3 : Int32)), .val (.ref b2), .val (.ref b40)] [] _
    refine XS.aload X42.here hx rfl (hb hby at_142) rfl rfl ?_
    show Stp p e below T42 m 144 #[.val (.long pl1), .second, .val (.int pi2), .val (.int pi3), .val (.int pi4), .val (.int pi5), .val (.int pi6), .val (.int (0 : Int32)), .val (.ref b1), .val (.int (3 : Int32)), .val (.ref b2), .val (.ref b40)] [(.ref b40)] _
    refine st56.trans ?_
    show Stp p e below T56 m 147 #[.val (.long pl1), .second, .val (.int pi2), .val (.int pi3), .val (.int pi4), .val (.int pi5), .val (.int pi6), .val (.int (0 : Int32)), .val (.ref b1), .val (.int (3 : Int32)), .val (.ref b2), .val (.ref b40)] [(.int (1 : Int32))] _
    refine XS.iload X56.here hx rfl (hb hby at_147) rfl ?_
    show Stp p e below T56 m 149 #[.val (.long pl1), .second, .val (.int pi2), .val (.int pi3), .val (.int pi4), .val (.int pi5), .val (.int pi6), .val (.int (0 : Int32)), .val (.ref b1), .val (.int (3 : Int32)), .val (.ref b2), .val (.ref b40)] [(.int (0 : Int32)), (.int (1 : Int32))] _
    refine XS.ifNo X56.here hx rfl (hb hby at_149) rfl ((if0 _ _).trans (teq (rfl : (0 : Int32) = (0 : Int32))).2) ?_
    show Stp p e below T56 m 152 #[.val (.long pl1), .second, .val (.int pi2), .val (.int pi3), .val (.int pi4), .val (.int pi5), .val (.int pi6), .val (.int (0 : Int32)), .val (.ref b1), .val (.int (3 : Int32)), .val (.ref b2), .val (.ref b40)] [(.int (1 : Int32))] _
    refine XS.iconst X56.here hx rfl (hb hby at_152) ?_
    show Stp p e below T56 m 153 #[.val (.long pl1), .second, .val (.int pi2), .val (.int pi3), .val (.int pi4), .val (.int pi5), .val (.int pi6), .val (.int (0 : Int32)), .val (.ref b1), .val (.int (3 : Int32)), .val (.ref b2), .val (.ref b40)] [(.int (1 : Int32)), (.int (1 : Int32))] _
    refine XS.goto X56.here hx rfl (pc0 := 153) (pc' := 157) rfl (hb hby at_153) (by decide) (by decide) ?_
    show Stp p e below T56 m 157 #[.val (.long pl1), .second, .val (.int pi2), .val (.int pi3), .val (.int pi4), .val (.int pi5), .val (.int pi6), .val (.int (0 : Int32)), .val (.ref b1), .val (.int (3 : Int32)), .val (.ref b2), .val (.ref b40)] [(.int (1 : Int32)), (.int (1 : Int32))] _
    refine XS.icmpNo X56.here hx rfl (hb hby at_157) rfl (teq (rfl : (1 : Int32) = (1 : Int32))).2 ?_
    show Stp p e below T56 m 160 #[.val (.long pl1), .second, .val (.int pi2), .val (.int pi3), .val (.int pi4), .val (.int pi5), .val (.int pi6), .val (.int (0 : Int32)), .val (.ref b1), .val (.int (3 : Int32)), .val (.ref b2), .val (.ref b40)] [] _
    refine XS.iconst X56.here hx rfl (hb hby at_160) ?_
    show Stp p e below T56 m 161 #[.val (.long pl1), .second, .val (.int pi2), .val (.int pi3), .val (.int pi4), .val (.int pi5), .val (.int pi6), .val (.int (0 : Int32)), .val (.ref b1), .val (.int (3 : Int32)), .val (.ref b2), .val (.ref b40)] [(.int (1 : Int32))] _
    refine XS.goto X56.here hx rfl (pc0 := 161) (pc' := 165) rfl (hb hby at_161) (by decide) (by decide) ?_
    show Stp p e below T56 m 165 #[.val (.long pl1), .second, .val (.int pi2), .val (.int pi3), .val (.int pi4), .val (.int pi5), .val (.int pi6), .val (.int (0 : Int32)), .val (.ref b1), .val (.int (3 : Int32)), .val (.ref b2), .val (.ref b40)] [(.int (1 : Int32))] _
    exact retN X56 hx (t := .boolean) Bd.returns (by simp) (hb hby at_165) hr
  · exact ⟨rfl, N56⟩
set_option maxRecDepth 65536 in
set_option maxHeartbeats 40000000 in
theorem rm0_ftt (l : Launch) (Z : State) (a0 : Array Value) (hw : ∀ d ∈ tables_1, d.before a0 Z = true) (ws : List Jvm.Cond) (pl1 : Int64) (pi2 : Int32) (pi3 : Int32) (pi4 : Int32) (pi5 : Int32) (pi6 : Int32) (w_DEF : Addr) (kk_w_DEF : ClassId) (h0 : Heap) (n0 : Nat) (Z0 : n0 ≤ h0.size) (O0 : Old Z n0 h0) (S_DEFAULTCAPACITY_EMPTY_ELEMENTDATA : Sta Z Z.heap "java/util/ArrayList" "DEFAULTCAPACITY_EMPTY_ELEMENTDATA" "[Ljava/lang/Object;" (.ref w_DEF)) (V_w_DEF : Arv Z Z.heap w_DEF kk_w_DEF (.object "java/lang/Object") (0 : Int32) [] .null) (hc3_0 : ¬ ((pi2 &&& (3 : Int32)) = (0 : Int32))) (hc3_1 : (pi2 &&& (3 : Int32)) = (1 : Int32)) (hc52_2 : (pi3 &&& (3 : Int32)) = (0 : Int32)) :
    MetFree l x (head1 (Jvm.Cond.code x code maxLocals ret :: ws) room_1) (fun a U => a = #[(.long pl1), (.int pi2), (.int pi3), (.int pi4), (.int pi5), (.int pi6)] ∧ Z.Warmed39 U.vm ∧ U.heap = h0) (fun _ _ _ _ _ => True) (fun _ U o U' => ∃ v L, o = .returned v ∧ Q0 v L n0 ∧ FrameEnd U o U' L room_1.cells room_1.slots) := by
  refine MetFree.of_bodySF (plainFor_of_name pn_0) hisR ?_
  intro p e s m args below meth c s₁ Bd hml0 hP hK
  obtain ⟨rfl, hZ, hh⟩ := hP
  have hx := Bd.exec
  have hby := Bd.bytes
  have hml : c.maxLocals = 12 := hml0
  have hown : s.vm.findClass "com/example/shardwright/shardwright/cli/RowIsBlankPinLaw" = some m.cls := findClass_of_methodNamed Bd.named
  have hnm := (name_of_methodNamed Bd.named Bd.method).1
  have X0 : Stand p l e room_1 s m #[(.long pl1), (.int pi2), (.int pi3), (.int pi4), (.int pi5), (.int pi6)] below meth c s₁ [] 0 0 := Stand.of_body Bd
  have e0 : s₁.heap = h0 := by rw [← hh, Bd.state]; rfl
  have N0 := Fr.nil n0
  have pre0 : ∀ t, Steps p.tables e below (s₁.setTop (mkF m 0 #[.val (.long pl1), .second, .val (.int pi2), .val (.int pi3), .val (.int pi4), .val (.int pi5), .val (.int pi6), .unset, .unset, .unset, .unset, .unset] [])) t → Steps p.tables e below (s₁.setTop (entryFrame m #[(.long pl1), (.int pi2), (.int pi3), (.int pi4), (.int pi5), (.int pi6)] maxLocals)) t := fun t k => castTop (ef_0 m pl1 pi2 pi3 pi4 pi5 pi6) k
  obtain ⟨T1, h1, k1, X1, e1, E1, A1, st1⟩ := newP X0 hx hZ (own_W hw 0 rfl) e0 (g := (mkF m 7 #[.val (.long pl1), .second, .val (.int pi2), .val (.int pi3), .val (.int pi4), .val (.int pi5), .val (.int pi6), .val (.int (1 : Int32)), .unset, .unset, .unset, .unset] [(.int (1 : Int32))])) rfl (hb hby at_7) rfl (by decide) (cap := 1) (by decide) (by decide) (by decide) (by decide)
  obtain ⟨b1, g1⟩ : ∃ z, z = h0.size := ⟨_, rfl⟩
  rw [← g1] at A1 st1
  have V1 : Arv Z h1 b1 k1 .byte (1 : Int32) [(.int (0 : Int32))] (.int (0 : Int32)) := (Arv.new A1 (by decide)).pad (pad_rep [] (.int (0 : Int32)) 1)
  have g_b1 : n0 ≤ b1 := Nat.le_trans Z0 (Nat.le_of_eq g1.symm)
  have V_c2 := V1
  obtain ⟨c2, Arc2, qc2, Sc2, Nc2, Hc2, Gc2⟩ := V_c2
  have hin3 : ¬ ((0 : Int32) < 0 ∨ c2.slots.size ≤ ((0 : Int32)).toNatClampNeg) := inb_of Sc2 ⟨by decide, by decide⟩
  obtain ⟨T3, h3, X3, e3, W3, st3⟩ := stB X1 hx hZ e1 Arc2 (j := (0 : Int32)) hin3 (g := (mkF m 22 #[.val (.long pl1), .second, .val (.int pi2), .val (.int pi3), .val (.int pi4), .val (.int pi5), .val (.int pi6), .val (.int (1 : Int32)), .val (.ref b1), .unset, .unset, .unset] [(.int (pi4.toInt8.toInt32)), (.int (0 : Int32)), (.ref b1)])) rfl rfl (hb hby at_22)
  have V3 : Arv Z h3 b1 k1 .byte (1 : Int32) [(.int (nar .byte (pi4.toInt8.toInt32)))] (.int (0 : Int32)) := Arv.set Arc2 qc2 Sc2 Nc2 Hc2 Gc2 (fits_nar_byte _) W3 0 rfl (Nat.le_of_ble_eq_true rfl)
  have N3 := Fr.snoc X3 N0 g_b1
  obtain ⟨T4, h4, X4, e4, E4, A4, D4, -, st4⟩ := newO X3 hx hZ hown (own_W hw 1 rfl) (own_W hw 2 rfl) (own_W hw 3 rfl) e3 (g := (mkF m 54 #[.val (.long pl1), .second, .val (.int pi2), .val (.int pi3), .val (.int pi4), .val (.int pi5), .val (.int pi6), .val (.int (1 : Int32)), .val (.ref b1), .val (.int (0 : Int32)), .unset, .unset] [])) rfl (hb hby at_54) (by decide) (by decide)
  obtain ⟨b4, g4⟩ : ∃ z, z = h3.size := ⟨_, rfl⟩
  rw [← g4] at A4 D4 st4
  have F_modCount_b4 : Fld Z h4 b4 "java/util/AbstractList" "modCount" "I" (.int (0 : Int32)) := D4 (Or.inl (own_W hw 23 rfl)) (ty := .int) (by decide)
  have F_elementData_b4 : Fld Z h4 b4 "java/util/ArrayList" "elementData" "[Ljava/lang/Object;" .null := D4 (Or.inl (own_W hw 26 rfl)) (ty := (.array (.object "java/lang/Object"))) (by decide)
  have F_size_b4 : Fld Z h4 b4 "java/util/ArrayList" "size" "I" (.int (0 : Int32)) := D4 (Or.inl (own_W hw 43 rfl)) (ty := .int) (by decide)
  have z5 := Nat.le_trans Z0 E1.1
  have z6 := Nat.le_trans z5 (Keep.of_wr W3).1
  have g_b4 : n0 ≤ b4 := Nat.le_trans z6 (Nat.le_of_eq g4.symm)
  have z8 := Nat.le_trans z6 E4.1
  have o9 := O0.ext E1
  have o10 := o9.wr W3 g_b1
  have o11 := o10.ext E4
  obtain ⟨_, _, ⟨T7, L7, k7, n7⟩, -, X7, ⟨Lc7, hQ7, l7, y7, z7⟩, st7⟩ := X4.specialBack hx (y := (⟨"java/util/ArrayList", "<init>", "()V"⟩ : MethodName)) rfl hown (mvT hZ (own_W hw 4 rfl)) (mvT hZ (own_W hw 5 rfl)) (mvT hZ (own_W hw 6 rfl)) (by decide) (backOf (W := 1) (rm1 l Z a0 hw [] b4 w_DEF (.int (0 : Int32)) .null (.int (0 : Int32)) h4 n0 z8 o11 A4 S_DEFAULTCAPACITY_EMPTY_ELEMENTDATA F_modCount_b4 F_elementData_b4 F_size_b4 g_b4) hZ (own_W hw 6 rfl) (own_W hw 3 rfl) (by decide) (by decide)) (g := (mkF m 58 #[.val (.long pl1), .second, .val (.int pi2), .val (.int pi3), .val (.int pi4), .val (.int pi5), .val (.int pi6), .val (.int (1 : Int32)), .val (.ref b1), .val (.int (0 : Int32)), .unset, .unset] [(.ref b4), (.ref b4)])) rfl (by rw [hml]; rfl) (Steps.refl _) (a := b4) (argsL := []) (rest := [(.ref b4)]) (lenOf pd_0 rfl) rfl (by show 2 * 0 + _ ≤ _; exact Nat.le_of_eq rfl) (hb hby at_58) (fun _ _ => ⟨rfl, e4, (by decide : 2 + 0 ≤ _), (by decide : 4 + 0 ≤ _)⟩)
  dsimp only [Pt.U, Pt.locs, Pt.cells, Pt.slots] at X7 l7 y7 z7 st7 hQ7
  subst l7 y7 z7
  obtain ⟨rfl, N7q, K7, qf7_0, qf7_1, qf7_2, qf7_3⟩ := hQ7
  have N7 := Fr.app N3 N7q
  obtain ⟨T12, h12, X12, e12, E12, A12, D12, -, st12⟩ := newO X7 hx hZ hown (own_W hw 66 rfl) (own_W hw 67 rfl) (own_W hw 68 rfl) rfl (g := (mkF m 128 #[.val (.long pl1), .second, .val (.int pi2), .val (.int pi3), .val (.int pi4), .val (.int pi5), .val (.int pi6), .val (.int (1 : Int32)), .val (.ref b1), .val (.int (0 : Int32)), .val (.ref b4), .unset] [])) rfl (hb hby at_128) (by decide) (by decide)
  obtain ⟨b12, g12⟩ : ∃ z, z = T7.heap.size := ⟨_, rfl⟩
  rw [← g12] at A12 D12 st12
  have F_line_b12 : Fld Z h12 b12 "com/example/shardwright/shardwright/cli/CsvReader$Row" "line" "J" (.long (0 : Int64)) := D12 (Or.inr (own_W hw 79 rfl)) (ty := .long) (by decide)
  have F_text_b12 : Fld Z h12 b12 "com/example/shardwright/shardwright/cli/CsvReader$Row" "text" "[B" .null := D12 (Or.inr (own_W hw 81 rfl)) (ty := (.array .byte)) (by decide)
  have F_fields_b12 : Fld Z h12 b12 "com/example/shardwright/shardwright/cli/CsvReader$Row" "fields" "Ljava/util/List;" .null := D12 (Or.inr (own_W hw 83 rfl)) (ty := (.object "java/util/List")) (by decide)
  have z13 := Nat.le_trans z8 K7.1
  have g_b12 : n0 ≤ b12 := Nat.le_trans z13 (Nat.le_of_eq g12.symm)
  have z15 := Nat.le_trans z13 E12.1
  have o16 := o11.keep K7 (allS g_b4 all0)
  have o17 := o16.ext E12
  obtain ⟨_, _, ⟨T14, L14, k14, n14⟩, -, X14, ⟨Lc14, hQ14, l14, y14, z14⟩, st14⟩ := X12.specialBack hx (y := (⟨"com/example/shardwright/shardwright/cli/CsvReader$Row", "<init>", "(J[BLjava/util/List;)V"⟩ : MethodName)) rfl hown (mvT hZ (own_W hw 69 rfl)) (mvT hZ (own_W hw 70 rfl)) (mvT hZ (own_W hw 71 rfl)) (by decide) (backOf (W := 1) (rm11 l Z a0 hw [] b12 pl1 b1 b4 (.long (0 : Int64)) .null .null h12 n0 z15 o17 A12 F_line_b12 g_b12 F_text_b12 F_fields_b12) hZ (own_W hw 71 rfl) (own_W hw 68 rfl) (by decide) (by decide)) (g := (mkF m 137 #[.val (.long pl1), .second, .val (.int pi2), .val (.int pi3), .val (.int pi4), .val (.int pi5), .val (.int pi6), .val (.int (1 : Int32)), .val (.ref b1), .val (.int (0 : Int32)), .val (.ref b4), .unset] [(.ref b4), (.ref b1), (.long pl1), (.ref b12), (.ref b12)])) rfl (by rw [hml]; rfl) (Steps.refl _) (a := b12) (argsL := [(.long pl1), (.ref b1), (.ref b4)]) (rest := [(.ref b12)]) (lenOf pd_7 rfl) rfl (by show 2 * 0 + _ ≤ _; exact Nat.le_of_eq rfl) (hb hby at_137) (fun _ _ => ⟨rfl, e12, (by decide : 3 + 0 ≤ _), (by decide : 7 + 0 ≤ _)⟩)
  dsimp only [Pt.U, Pt.locs, Pt.cells, Pt.slots] at X14 l14 y14 z14 st14 hQ14
  subst l14 y14 z14
  obtain ⟨rfl, N14q, K14, qf14_0, qf14_1, qf14_2, qf14_3⟩ := hQ14
  have N14 := Fr.app N7 N14q
  have f18 := V3.ext E4
  have f19 := f18.keep K7 (ninS (Nat.ne_of_lt (Nat.lt_of_lt_of_le V3.lt (Nat.le_of_eq g4.symm))) nin0)
  have f20 := f19.ext E12
  have f21 := f20.keep K14 (ninS (Nat.ne_of_lt (Nat.lt_of_lt_of_le f19.lt (Nat.le_of_eq g12.symm))) nin0)
  have z23 := Nat.le_trans z15 K14.1
  have o24 := o17.keep K14 (allS g_b12 all0)
  obtain ⟨cq22, kq22, q22a, q22b, q22c⟩ := isOf hZ rfl qf14_0
  obtain ⟨_, _, ⟨T22, L22, k22, n22⟩, -, X22, ⟨Lc22, hQ22, l22, y22, z22⟩, st22⟩ := X14.virtualBack hx (y := (⟨"com/example/shardwright/shardwright/cli/CsvReader$Row", "isBlank", "()Z"⟩ : MethodName)) (z := (⟨"com/example/shardwright/shardwright/cli/CsvReader$Row", "isBlank", "()Z"⟩ : MethodName)) hown (mvT hZ (own_W hw 84 rfl)) (mvT hZ (own_W hw 85 rfl)) (notFace_of_selects (args := #[]) (mvT hZ (own_W hw 87 rfl))) (mvT hZ (own_W hw 87 rfl)) (mvT hZ (own_W hw 86 rfl)) (by decide) (backOf (W := 0) (rm13_1 l Z a0 hw [] b12 b1 k1 (nar .byte (pi4.toInt8.toInt32)) T14.heap n0 z23 o24 qf14_2 f21) hZ (own_W hw 88 rfl) (own_W hw 68 rfl) (by decide) (by decide)) q22a q22c (g := (mkF m 144 #[.val (.long pl1), .second, .val (.int pi2), .val (.int pi3), .val (.int pi4), .val (.int pi5), .val (.int pi6), .val (.int (1 : Int32)), .val (.ref b1), .val (.int (0 : Int32)), .val (.ref b4), .val (.ref b12)] [(.ref b12)])) rfl (by rw [hml]; rfl) (Steps.refl _) (argsL := []) (rest := []) (lenOf pd_8 rfl) rfl (by show 2 * 0 + _ ≤ _; exact Nat.le_of_eq rfl) (hb hby at_144) (fun _ _ => ⟨rfl, rfl, (by decide : 3 + 0 ≤ _), (by decide : 7 + 0 ≤ _)⟩)
  dsimp only [Pt.U, Pt.locs, Pt.cells, Pt.slots] at X22 l22 y22 z22 st22 hQ22
  subst l22 y22 z22
  obtain ⟨rfl, N22q, eq22⟩ := hQ22
  have N22 := Fr.app N14 N22q
  obtain ⟨fs, hr, hrun, hended, hW, hsame⟩ := X22.leave (v := some (.int (1 : Int32))) (fun h => by rw [Bd.returns] at h; cases h)
  refine ⟨_, _, pre0 _ ?_, hrun, hended, _, _, rfl, ?_, ⟨_, rfl⟩, hW, hsame.mono (by decide) (by decide)⟩
  · show Stp p e below s₁ m 0 #[.val (.long pl1), .second, .val (.int pi2), .val (.int pi3), .val (.int pi4), .val (.int pi5), .val (.int pi6), .unset, .unset, .unset, .unset, .unset] [] _
    refine XS.iloadN X0.here hx rfl (hb hby at_0) rfl ?_
    show Stp p e below s₁ m 1 #[.val (.long pl1), .second, .val (.int pi2), .val (.int pi3), .val (.int pi4), .val (.int pi5), .val (.int pi6), .unset, .unset, .unset, .unset, .unset] [(.int pi2)] _
    refine XS.iconst X0.here hx rfl (hb hby at_1) ?_
    show Stp p e below s₁ m 2 #[.val (.long pl1), .second, .val (.int pi2), .val (.int pi3), .val (.int pi4), .val (.int pi5), .val (.int pi6), .unset, .unset, .unset, .unset, .unset] [(.int (3 : Int32)), (.int pi2)] _
    refine XS.iand X0.here hx rfl (hb hby at_2) rfl ?_
    show Stp p e below s₁ m 3 #[.val (.long pl1), .second, .val (.int pi2), .val (.int pi3), .val (.int pi4), .val (.int pi5), .val (.int pi6), .unset, .unset, .unset, .unset, .unset] [(.int (pi2 &&& (3 : Int32)))] _
    refine XS.istore X0.here hx rfl (hb hby at_3) rfl (l' := #[.val (.long pl1), .second, .val (.int pi2), .val (.int pi3), .val (.int pi4), .val (.int pi5), .val (.int pi6), .val (.int (pi2 &&& (3 : Int32))), .unset, .unset, .unset, .unset]) rfl ?_
    show Stp p e below s₁ m 5 #[.val (.long pl1), .second, .val (.int pi2), .val (.int pi3), .val (.int pi4), .val (.int pi5), .val (.int pi6), .val (.int (pi2 &&& (3 : Int32))), .unset, .unset, .unset, .unset] [] _
    rw [show (pi2 &&& (3 : Int32)) = (1 : Int32) from hc3_1]
    show Stp p e below s₁ m 5 #[.val (.long pl1), .second, .val (.int pi2), .val (.int pi3), .val (.int pi4), .val (.int pi5), .val (.int pi6), .val (.int (1 : Int32)), .unset, .unset, .unset, .unset] [] _
    refine XS.iload X0.here hx rfl (hb hby at_5) rfl ?_
    show Stp p e below s₁ m 7 #[.val (.long pl1), .second, .val (.int pi2), .val (.int pi3), .val (.int pi4), .val (.int pi5), .val (.int pi6), .val (.int (1 : Int32)), .unset, .unset, .unset, .unset] [(.int (1 : Int32))] _
    refine st1 _ ?_
    show Stp p e below T1 m 9 #[.val (.long pl1), .second, .val (.int pi2), .val (.int pi3), .val (.int pi4), .val (.int pi5), .val (.int pi6), .val (.int (1 : Int32)), .unset, .unset, .unset, .unset] [(.ref b1)] _
    refine XS.astore X1.here hx rfl (hb hby at_9) rfl rfl (l' := #[.val (.long pl1), .second, .val (.int pi2), .val (.int pi3), .val (.int pi4), .val (.int pi5), .val (.int pi6), .val (.int (1 : Int32)), .val (.ref b1), .unset, .unset, .unset]) rfl ?_
    show Stp p e below T1 m 11 #[.val (.long pl1), .second, .val (.int pi2), .val (.int pi3), .val (.int pi4), .val (.int pi5), .val (.int pi6), .val (.int (1 : Int32)), .val (.ref b1), .unset, .unset, .unset] [] _
    refine XS.iload X1.here hx rfl (hb hby at_11) rfl ?_
    show Stp p e below T1 m 13 #[.val (.long pl1), .second, .val (.int pi2), .val (.int pi3), .val (.int pi4), .val (.int pi5), .val (.int pi6), .val (.int (1 : Int32)), .val (.ref b1), .unset, .unset, .unset] [(.int (1 : Int32))] _
    refine XS.ifNo X1.here hx rfl (hb hby at_13) rfl ((if0 _ _).trans (tlt (by decide : (0 : Int32) < (1 : Int32))).2.2.2) ?_
    show Stp p e below T1 m 16 #[.val (.long pl1), .second, .val (.int pi2), .val (.int pi3), .val (.int pi4), .val (.int pi5), .val (.int pi6), .val (.int (1 : Int32)), .val (.ref b1), .unset, .unset, .unset] [] _
    refine XS.aload X1.here hx rfl (hb hby at_16) rfl rfl ?_
    show Stp p e below T1 m 18 #[.val (.long pl1), .second, .val (.int pi2), .val (.int pi3), .val (.int pi4), .val (.int pi5), .val (.int pi6), .val (.int (1 : Int32)), .val (.ref b1), .unset, .unset, .unset] [(.ref b1)] _
    refine XS.iconst X1.here hx rfl (hb hby at_18) ?_
    show Stp p e below T1 m 19 #[.val (.long pl1), .second, .val (.int pi2), .val (.int pi3), .val (.int pi4), .val (.int pi5), .val (.int pi6), .val (.int (1 : Int32)), .val (.ref b1), .unset, .unset, .unset] [(.int (0 : Int32)), (.ref b1)] _
    refine XS.iload X1.here hx rfl (hb hby at_19) rfl ?_
    show Stp p e below T1 m 21 #[.val (.long pl1), .second, .val (.int pi2), .val (.int pi3), .val (.int pi4), .val (.int pi5), .val (.int pi6), .val (.int (1 : Int32)), .val (.ref b1), .unset, .unset, .unset] [(.int pi4), (.int (0 : Int32)), (.ref b1)] _
    refine XS.i2b X1.here hx rfl (hb hby at_21) rfl ?_
    show Stp p e below T1 m 22 #[.val (.long pl1), .second, .val (.int pi2), .val (.int pi3), .val (.int pi4), .val (.int pi5), .val (.int pi6), .val (.int (1 : Int32)), .val (.ref b1), .unset, .unset, .unset] [(.int (pi4.toInt8.toInt32)), (.int (0 : Int32)), (.ref b1)] _
    refine st3 _ ?_
    show Stp p e below T3 m 23 #[.val (.long pl1), .second, .val (.int pi2), .val (.int pi3), .val (.int pi4), .val (.int pi5), .val (.int pi6), .val (.int (1 : Int32)), .val (.ref b1), .unset, .unset, .unset] [] _
    refine XS.iload X3.here hx rfl (hb hby at_23) rfl ?_
    show Stp p e below T3 m 25 #[.val (.long pl1), .second, .val (.int pi2), .val (.int pi3), .val (.int pi4), .val (.int pi5), .val (.int pi6), .val (.int (1 : Int32)), .val (.ref b1), .unset, .unset, .unset] [(.int (1 : Int32))] _
    refine XS.iconst X3.here hx rfl (hb hby at_25) ?_
    show Stp p e below T3 m 26 #[.val (.long pl1), .second, .val (.int pi2), .val (.int pi3), .val (.int pi4), .val (.int pi5), .val (.int pi6), .val (.int (1 : Int32)), .val (.ref b1), .unset, .unset, .unset] [(.int (1 : Int32)), (.int (1 : Int32))] _
    refine XS.icmpYes X3.here hx rfl (pc0 := 26) (pc' := 36) rfl (hb hby at_26) rfl (flt (by simp : ¬ ((1 : Int32) < (1 : Int32)))).2.2.2 (by decide) (by decide) ?_
    show Stp p e below T3 m 36 #[.val (.long pl1), .second, .val (.int pi2), .val (.int pi3), .val (.int pi4), .val (.int pi5), .val (.int pi6), .val (.int (1 : Int32)), .val (.ref b1), .unset, .unset, .unset] [] _
    refine XS.iload X3.here hx rfl (hb hby at_36) rfl ?_
    show Stp p e below T3 m 38 #[.val (.long pl1), .second, .val (.int pi2), .val (.int pi3), .val (.int pi4), .val (.int pi5), .val (.int pi6), .val (.int (1 : Int32)), .val (.ref b1), .unset, .unset, .unset] [(.int (1 : Int32))] _
    refine XS.iconst X3.here hx rfl (hb hby at_38) ?_
    show Stp p e below T3 m 39 #[.val (.long pl1), .second, .val (.int pi2), .val (.int pi3), .val (.int pi4), .val (.int pi5), .val (.int pi6), .val (.int (1 : Int32)), .val (.ref b1), .unset, .unset, .unset] [(.int (2 : Int32)), (.int (1 : Int32))] _
    refine XS.icmpYes X3.here hx rfl (pc0 := 39) (pc' := 49) rfl (hb hby at_39) rfl (flt (by decide : ¬ ((2 : Int32) < (1 : Int32)))).2.2.2 (by decide) (by decide) ?_
    show Stp p e below T3 m 49 #[.val (.long pl1), .second, .val (.int pi2), .val (.int pi3), .val (.int pi4), .val (.int pi5), .val (.int pi6), .val (.int (1 : Int32)), .val (.ref b1), .unset, .unset, .unset] [] _
    refine XS.iloadN X3.here hx rfl (hb hby at_49) rfl ?_
    show Stp p e below T3 m 50 #[.val (.long pl1), .second, .val (.int pi2), .val (.int pi3), .val (.int pi4), .val (.int pi5), .val (.int pi6), .val (.int (1 : Int32)), .val (.ref b1), .unset, .unset, .unset] [(.int pi3)] _
    refine XS.iconst X3.here hx rfl (hb hby at_50) ?_
    show Stp p e below T3 m 51 #[.val (.long pl1), .second, .val (.int pi2), .val (.int pi3), .val (.int pi4), .val (.int pi5), .val (.int pi6), .val (.int (1 : Int32)), .val (.ref b1), .unset, .unset, .unset] [(.int (3 : Int32)), (.int pi3)] _
    refine XS.iand X3.here hx rfl (hb hby at_51) rfl ?_
    show Stp p e below T3 m 52 #[.val (.long pl1), .second, .val (.int pi2), .val (.int pi3), .val (.int pi4), .val (.int pi5), .val (.int pi6), .val (.int (1 : Int32)), .val (.ref b1), .unset, .unset, .unset] [(.int (pi3 &&& (3 : Int32)))] _
    refine XS.istore X3.here hx rfl (hb hby at_52) rfl (l' := #[.val (.long pl1), .second, .val (.int pi2), .val (.int pi3), .val (.int pi4), .val (.int pi5), .val (.int pi6), .val (.int (1 : Int32)), .val (.ref b1), .val (.int (pi3 &&& (3 : Int32))), .unset, .unset]) rfl ?_
    show Stp p e below T3 m 54 #[.val (.long pl1), .second, .val (.int pi2), .val (.int pi3), .val (.int pi4), .val (.int pi5), .val (.int pi6), .val (.int (1 : Int32)), .val (.ref b1), .val (.int (pi3 &&& (3 : Int32))), .unset, .unset] [] _
    rw [show (pi3 &&& (3 : Int32)) = (0 : Int32) from hc52_2]
    show Stp p e below T3 m 54 #[.val (.long pl1), .second, .val (.int pi2), .val (.int pi3), .val (.int pi4), .val (.int pi5), .val (.int pi6), .val (.int (1 : Int32)), .val (.ref b1), .val (.int (0 : Int32)), .unset, .unset] [] _
    refine st4 _ ?_
    show Stp p e below T4 m 57 #[.val (.long pl1), .second, .val (.int pi2), .val (.int pi3), .val (.int pi4), .val (.int pi5), .val (.int pi6), .val (.int (1 : Int32)), .val (.ref b1), .val (.int (0 : Int32)), .unset, .unset] [(.ref b4)] _
    refine XS.dup X4.here hx rfl (hb hby at_57) rfl rfl ?_
    show Stp p e below T4 m 58 #[.val (.long pl1), .second, .val (.int pi2), .val (.int pi3), .val (.int pi4), .val (.int pi5), .val (.int pi6), .val (.int (1 : Int32)), .val (.ref b1), .val (.int (0 : Int32)), .unset, .unset] [(.ref b4), (.ref b4)] _
    refine st7.trans ?_
    show Stp p e below T7 m 61 #[.val (.long pl1), .second, .val (.int pi2), .val (.int pi3), .val (.int pi4), .val (.int pi5), .val (.int pi6), .val (.int (1 : Int32)), .val (.ref b1), .val (.int (0 : Int32)), .unset, .unset] [(.ref b4)] _
    refine XS.astore X7.here hx rfl (hb hby at_61) rfl rfl (l' := #[.val (.long pl1), .second, .val (.int pi2), .val (.int pi3), .val (.int pi4), .val (.int pi5), .val (.int pi6), .val (.int (1 : Int32)), .val (.ref b1), .val (.int (0 : Int32)), .val (.ref b4), .unset]) rfl ?_
    show Stp p e below T7 m 63 #[.val (.long pl1), .second, .val (.int pi2), .val (.int pi3), .val (.int pi4), .val (.int pi5), .val (.int pi6), .val (.int (1 : Int32)), .val (.ref b1), .val (.int (0 : Int32)), .val (.ref b4), .unset] [] _
    refine XS.iload X7.here hx rfl (hb hby at_63) rfl ?_
    show Stp p e below T7 m 65 #[.val (.long pl1), .second, .val (.int pi2), .val (.int pi3), .val (.int pi4), .val (.int pi5), .val (.int pi6), .val (.int (1 : Int32)), .val (.ref b1), .val (.int (0 : Int32)), .val (.ref b4), .unset] [(.int (0 : Int32))] _
    refine XS.ifYes X7.here hx rfl (pc0 := 65) (pc' := 84) rfl (hb hby at_65) rfl ((if0 _ _).trans (flt (by simp : ¬ ((0 : Int32) < (0 : Int32)))).2.2.2) (by decide) (by decide) ?_
    show Stp p e below T7 m 84 #[.val (.long pl1), .second, .val (.int pi2), .val (.int pi3), .val (.int pi4), .val (.int pi5), .val (.int pi6), .val (.int (1 : Int32)), .val (.ref b1), .val (.int (0 : Int32)), .val (.ref b4), .unset] [] _
    refine XS.iload X7.here hx rfl (hb hby at_84) rfl ?_
    show Stp p e below T7 m 86 #[.val (.long pl1), .second, .val (.int pi2), .val (.int pi3), .val (.int pi4), .val (.int pi5), .val (.int pi6), .val (.int (1 : Int32)), .val (.ref b1), .val (.int (0 : Int32)), .val (.ref b4), .unset] [(.int (0 : Int32))] _
    refine XS.iconst X7.here hx rfl (hb hby at_86) ?_
    show Stp p e below T7 m 87 #[.val (.long pl1), .second, .val (.int pi2), .val (.int pi3), .val (.int pi4), .val (.int pi5), .val (.int pi6), .val (.int (1 : Int32)), .val (.ref b1), .val (.int (0 : Int32)), .val (.ref b4), .unset] [(.int (1 : Int32)), (.int (0 : Int32))] _
    refine XS.icmpYes X7.here hx rfl (pc0 := 87) (pc' := 106) rfl (hb hby at_87) rfl (flt (by decide : ¬ ((1 : Int32) < (0 : Int32)))).2.2.2 (by decide) (by decide) ?_
    show Stp p e below T7 m 106 #[.val (.long pl1), .second, .val (.int pi2), .val (.int pi3), .val (.int pi4), .val (.int pi5), .val (.int pi6), .val (.int (1 : Int32)), .val (.ref b1), .val (.int (0 : Int32)), .val (.ref b4), .unset] [] _
    refine XS.iload X7.here hx rfl (hb hby at_106) rfl ?_
    show Stp p e below T7 m 108 #[.val (.long pl1), .second, .val (.int pi2), .val (.int pi3), .val (.int pi4), .val (.int pi5), .val (.int pi6), .val (.int (1 : Int32)), .val (.ref b1), .val (.int (0 : Int32)), .val (.ref b4), .unset] [(.int (0 : Int32))] _
    refine XS.iconst X7.here hx rfl (hb hby at_108) ?_
    show Stp p e below T7 m 109 #[.val (.long pl1), .second, .val (.int pi2), .val (.int pi3), .val (.int pi4), .val (.int pi5), .val (.int pi6), .val (.int (1 : Int32)), .val (.ref b1), .val (.int (0 : Int32)), .val (.ref b4), .unset] [(.int (2 : Int32)), (.int (0 : Int32))] _
    refine XS.icmpYes X7.here hx rfl (pc0 := 109) (pc' := 128) rfl (hb hby at_109) rfl (flt (by decide : ¬ ((2 : Int32) < (0 : Int32)))).2.2.2 (by decide) (by decide) ?_
    show Stp p e below T7 m 128 #[.val (.long pl1), .second, .val (.int pi2), .val (.int pi3), .val (.int pi4), .val (.int pi5), .val (.int pi6), .val (.int (1 : Int32)), .val (.ref b1), .val (.int (0 : Int32)), .val (.ref b4), .unset] [] _
    refine st12 _ ?_
    show Stp p e below T12 m 131 #[.val (.long pl1), .second, .val (.int pi2), .val (.int pi3), .val (.int pi4), .val (.int pi5), .val (.int pi6), .val (.int (1 : Int32)), .val (.ref b1), .val (.int (0 : Int32)), .val (.ref b4), .unset] [(.ref b12)] _
    refine XS.dup X12.here hx rfl (hb hby at_131) rfl rfl ?_
    show Stp p e below T12 m 132 #[.val (.long pl1), .second, .val (.int pi2), .val (.int pi3), .val (.int pi4), .val (.int pi5), .val (.int pi6), .val (.int (1 : Int32)), .val (.ref b1), .val (.int (0 : Int32)), .val (.ref b4), .unset] [(.ref b12), (.ref b12)] _
    refine XS.lloadN X12.here hx rfl (hb hby at_132) rfl ?_
    show Stp p e below T12 m 133 #[.val (.long pl1), .second, .val (.int pi2), .val (.int pi3), .val (.int pi4), .val (.int pi5), .val (.int pi6), .val (.int (1 : Int32)), .val (.ref b1), .val (.int (0 : Int32)), .val (.ref b4), .unset] [(.long pl1), (.ref b12), (.ref b12)] _
    refine XS.aload X12.here hx rfl (hb hby at_133) rfl rfl ?_
    show Stp p e below T12 m 135 #[.val (.long pl1), .second, .val (.int pi2), .val (.int pi3), .val (.int pi4), .val (.int pi5), .val (.int pi6), .val (.int (1 : Int32)), .val (.ref b1), .val (.int (0 : Int32)), .val (.ref b4), .unset] [(.ref b1), (.long pl1), (.ref b12), (.ref b12)] _
    refine XS.aload X12.here hx rfl (hb hby at_135) rfl rfl ?_
    show Stp p e below T12 m 137 #[.val (.long pl1), .second, .val (.int pi2), .val (.int pi3), .val (.int pi4), .val (.int pi5), .val (.int pi6), .val (.int (1 : Int32)), .val (.ref b1), .val (.int (0 : Int32)), .val (.ref b4), .unset] [(.ref b4), (.ref b1), (.long pl1), (.ref b12), (.ref b12)] _
    refine st14.trans ?_
    show Stp p e below T14 m 140 #[.val (.long pl1), .second, .val (.int pi2), .val (.int pi3), .val (.int pi4), .val (.int pi5), .val (.int pi6), .val (.int (1 : Int32)), .val (.ref b1), .val (.int (0 : Int32)), .val (.ref b4), .unset] [(.ref b12)] _
    refine XS.astore X14.here hx rfl (hb hby at_140) rfl rfl (l' := #[.val (.long pl1), .second, .val (.int pi2), .val (.int pi3), .val (.int pi4), .val (.int pi5), .val (.int pi6), .val (.int (1 : Int32)), .val (.ref b1), .val (.int (0 : Int32)), .val (.ref b4), .val (.ref b12)]) rfl ?_
    show Stp p e below T14 m 142 #[.val (.long pl1), .second, .val (.int pi2), .val (.int pi3), .val (.int pi4), .val (.int pi5), .val (.int pi6), .val (.int (1 : Int32)), .val (.ref b1), .val (.int (0 : Int32)), .val (.ref b4), .val (.ref b12)] [] _
    refine XS.aload X14.here hx rfl (hb hby at_142) rfl rfl ?_
    show Stp p e below T14 m 144 #[.val (.long pl1), .second, .val (.int pi2), .val (.int pi3), .val (.int pi4), .val (.int pi5), .val (.int pi6), .val (.int (1 : Int32)), .val (.ref b1), .val (.int (0 : Int32)), .val (.ref b4), .val (.ref b12)] [(.ref b12)] _
    refine st22.trans ?_
    show Stp p e below T22 m 147 #[.val (.long pl1), .second, .val (.int pi2), .val (.int pi3), .val (.int pi4), .val (.int pi5), .val (.int pi6), .val (.int (1 : Int32)), .val (.ref b1), .val (.int (0 : Int32)), .val (.ref b4), .val (.ref b12)] [(.int (0 : Int32))] _
    refine XS.iload X22.here hx rfl (hb hby at_147) rfl ?_
    show Stp p e below T22 m 149 #[.val (.long pl1), .second, .val (.int pi2), .val (.int pi3), .val (.int pi4), .val (.int pi5), .val (.int pi6), .val (.int (1 : Int32)), .val (.ref b1), .val (.int (0 : Int32)), .val (.ref b4), .val (.ref b12)] [(.int (1 : Int32)), (.int (0 : Int32))] _
    refine XS.ifYes X22.here hx rfl (pc0 := 149) (pc' := 156) rfl (hb hby at_149) rfl ((if0 _ _).trans (feq (by decide : ¬ ((1 : Int32) = (0 : Int32)))).2) (by decide) (by decide) ?_
    show Stp p e below T22 m 156 #[.val (.long pl1), .second, .val (.int pi2), .val (.int pi3), .val (.int pi4), .val (.int pi5), .val (.int pi6), .val (.int (1 : Int32)), .val (.ref b1), .val (.int (0 : Int32)), .val (.ref b4), .val (.ref b12)] [(.int (0 : Int32))] _
    refine XS.iconst X22.here hx rfl (hb hby at_156) ?_
    show Stp p e below T22 m 157 #[.val (.long pl1), .second, .val (.int pi2), .val (.int pi3), .val (.int pi4), .val (.int pi5), .val (.int pi6), .val (.int (1 : Int32)), .val (.ref b1), .val (.int (0 : Int32)), .val (.ref b4), .val (.ref b12)] [(.int (0 : Int32)), (.int (0 : Int32))] _
    refine XS.icmpNo X22.here hx rfl (hb hby at_157) rfl (teq (rfl : (0 : Int32) = (0 : Int32))).2 ?_
    show Stp p e below T22 m 160 #[.val (.long pl1), .second, .val (.int pi2), .val (.int pi3), .val (.int pi4), .val (.int pi5), .val (.int pi6), .val (.int (1 : Int32)), .val (.ref b1), .val (.int (0 : Int32)), .val (.ref b4), .val (.ref b12)] [] _
    refine XS.iconst X22.here hx rfl (hb hby at_160) ?_
    show Stp p e below T22 m 161 #[.val (.long pl1), .second, .val (.int pi2), .val (.int pi3), .val (.int pi4), .val (.int pi5), .val (.int pi6), .val (.int (1 : Int32)), .val (.ref b1), .val (.int (0 : Int32)), .val (.ref b4), .val (.ref b12)] [(.int (1 : Int32))] _
    refine XS.goto X22.here hx rfl (pc0 := 161) (pc' := 165) rfl (hb hby at_161) (by decide) (by decide) ?_
    show Stp p e below T22 m 165 #[.val (.long pl1), .second, .val (.int pi2), .val (.int pi3), .val (.int pi4), .val (.int pi5), .val (.int pi6), .val (.int (1 : Int32)), .val (.ref b1), .val (.int (0 : Int32)), .val (.ref b4), .val (.ref b12)] [(.int (1 : Int32))] _
    exact retN X22 hx (t := .boolean) Bd.returns (by simp) (hb hby at_165) hr
  · exact ⟨rfl, N22⟩
set_option maxRecDepth 65536 in
set_option maxHeartbeats 40000000 in
theorem rm0_ftft (l : Launch) (Z : State) (a0 : Array Value) (hw : ∀ d ∈ tables_1, d.before a0 Z = true) (ws : List Jvm.Cond) (pl1 : Int64) (pi2 : Int32) (pi3 : Int32) (pi4 : Int32) (pi5 : Int32) (pi6 : Int32) (w_DEF : Addr) (kk_w_DEF : ClassId) (h0 : Heap) (n0 : Nat) (Z0 : n0 ≤ h0.size) (O0 : Old Z n0 h0) (S_DEFAULTCAPACITY_EMPTY_ELEMENTDATA : Sta Z Z.heap "java/util/ArrayList" "DEFAULTCAPACITY_EMPTY_ELEMENTDATA" "[Ljava/lang/Object;" (.ref w_DEF)) (V_w_DEF : Arv Z Z.heap w_DEF kk_w_DEF (.object "java/lang/Object") (0 : Int32) [] .null) (hc3_0 : ¬ ((pi2 &&& (3 : Int32)) = (0 : Int32))) (hc3_1 : (pi2 &&& (3 : Int32)) = (1 : Int32)) (hc52_2 : ¬ ((pi3 &&& (3 : Int32)) = (0 : Int32))) (hc52_3 : (pi3 &&& (3 : Int32)) = (1 : Int32)) :
    MetFree l x (head1 (Jvm.Cond.code x code maxLocals ret :: ws) room_1) (fun a U => a = #[(.long pl1), (.int pi2), (.int pi3), (.int pi4), (.int pi5), (.int pi6)] ∧ Z.Warmed39 U.vm ∧ U.heap = h0) (fun _ _ _ _ _ => True) (fun _ U o U' => ∃ v L, o = .returned v ∧ Q0 v L n0 ∧ FrameEnd U o U' L room_1.cells room_1.slots) := by
  refine MetFree.of_bodySF (plainFor_of_name pn_0) hisR ?_
  intro p e s m args below meth c s₁ Bd hml0 hP hK
  obtain ⟨rfl, hZ, hh⟩ := hP
  have hx := Bd.exec
  have hby := Bd.bytes
  have hml : c.maxLocals = 12 := hml0
  have hown : s.vm.findClass "com/example/shardwright/shardwright/cli/RowIsBlankPinLaw" = some m.cls := findClass_of_methodNamed Bd.named
  have hnm := (name_of_methodNamed Bd.named Bd.method).1
  have X0 : Stand p l e room_1 s m #[(.long pl1), (.int pi2), (.int pi3), (.int pi4), (.int pi5), (.int pi6)] below meth c s₁ [] 0 0 := Stand.of_body Bd
  have e0 : s₁.heap = h0 := by rw [← hh, Bd.state]; rfl
  have N0 := Fr.nil n0
  have pre0 : ∀ t, Steps p.tables e below (s₁.setTop (mkF m 0 #[.val (.long pl1), .second, .val (.int pi2), .val (.int pi3), .val (.int pi4), .val (.int pi5), .val (.int pi6), .unset, .unset, .unset, .unset, .unset] [])) t → Steps p.tables e below (s₁.setTop (entryFrame m #[(.long pl1), (.int pi2), (.int pi3), (.int pi4), (.int pi5), (.int pi6)] maxLocals)) t := fun t k => castTop (ef_0 m pl1 pi2 pi3 pi4 pi5 pi6) k
  obtain ⟨T1, h1, k1, X1, e1, E1, A1, st1⟩ := newP X0 hx hZ (own_W hw 0 rfl) e0 (g := (mkF m 7 #[.val (.long pl1), .second, .val (.int pi2), .val (.int pi3), .val (.int pi4), .val (.int pi5), .val (.int pi6), .val (.int (1 : Int32)), .unset, .unset, .unset, .unset] [(.int (1 : Int32))])) rfl (hb hby at_7) rfl (by decide) (cap := 1) (by decide) (by decide) (by decide) (by decide)
  obtain ⟨b1, g1⟩ : ∃ z, z = h0.size := ⟨_, rfl⟩
  rw [← g1] at A1 st1
  have V1 : Arv Z h1 b1 k1 .byte (1 : Int32) [(.int (0 : Int32))] (.int (0 : Int32)) := (Arv.new A1 (by decide)).pad (pad_rep [] (.int (0 : Int32)) 1)
  have g_b1 : n0 ≤ b1 := Nat.le_trans Z0 (Nat.le_of_eq g1.symm)
  have V_c2 := V1
  obtain ⟨c2, Arc2, qc2, Sc2, Nc2, Hc2, Gc2⟩ := V_c2
  have hin3 : ¬ ((0 : Int32) < 0 ∨ c2.slots.size ≤ ((0 : Int32)).toNatClampNeg) := inb_of Sc2 ⟨by decide, by decide⟩
  obtain ⟨T3, h3, X3, e3, W3, st3⟩ := stB X1 hx hZ e1 Arc2 (j := (0 : Int32)) hin3 (g := (mkF m 22 #[.val (.long pl1), .second, .val (.int pi2), .val (.int pi3), .val (.int pi4), .val (.int pi5), .val (.int pi6), .val (.int (1 : Int32)), .val (.ref b1), .unset, .unset, .unset] [(.int (pi4.toInt8.toInt32)), (.int (0 : Int32)), (.ref b1)])) rfl rfl (hb hby at_22)
  have V3 : Arv Z h3 b1 k1 .byte (1 : Int32) [(.int (nar .byte (pi4.toInt8.toInt32)))] (.int (0 : Int32)) := Arv.set Arc2 qc2 Sc2 Nc2 Hc2 Gc2 (fits_nar_byte _) W3 0 rfl (Nat.le_of_ble_eq_true rfl)
  have N3 := Fr.snoc X3 N0 g_b1
  obtain ⟨T4, h4, X4, e4, E4, A4, D4, -, st4⟩ := newO X3 hx hZ hown (own_W hw 1 rfl) (own_W hw 2 rfl) (own_W hw 3 rfl) e3 (g := (mkF m 54 #[.val (.long pl1), .second, .val (.int pi2), .val (.int pi3), .val (.int pi4), .val (.int pi5), .val (.int pi6), .val (.int (1 : Int32)), .val (.ref b1), .val (.int (1 : Int32)), .unset, .unset] [])) rfl (hb hby at_54) (by decide) (by decide)
  obtain ⟨b4, g4⟩ : ∃ z, z = h3.size := ⟨_, rfl⟩
  rw [← g4] at A4 D4 st4
  have F_modCount_b4 : Fld Z h4 b4 "java/util/AbstractList" "modCount" "I" (.int (0 : Int32)) := D4 (Or.inl (own_W hw 23 rfl)) (ty := .int) (by decide)
  have F_elementData_b4 : Fld Z h4 b4 "java/util/ArrayList" "elementData" "[Ljava/lang/Object;" .null := D4 (Or.inl (own_W hw 26 rfl)) (ty := (.array (.object "java/lang/Object"))) (by decide)
  have F_size_b4 : Fld Z h4 b4 "java/util/ArrayList" "size" "I" (.int (0 : Int32)) := D4 (Or.inl (own_W hw 43 rfl)) (ty := .int) (by decide)
  have z5 := Nat.le_trans Z0 E1.1
  have z6 := Nat.le_trans z5 (Keep.of_wr W3).1
  have g_b4 : n0 ≤ b4 := Nat.le_trans z6 (Nat.le_of_eq g4.symm)
  have z8 := Nat.le_trans z6 E4.1
  have o9 := O0.ext E1
  have o10 := o9.wr W3 g_b1
  have o11 := o10.ext E4
  obtain ⟨_, _, ⟨T7, L7, k7, n7⟩, -, X7, ⟨Lc7, hQ7, l7, y7, z7⟩, st7⟩ := X4.specialBack hx (y := (⟨"java/util/ArrayList", "<init>", "()V"⟩ : MethodName)) rfl hown (mvT hZ (own_W hw 4 rfl)) (mvT hZ (own_W hw 5 rfl)) (mvT hZ (own_W hw 6 rfl)) (by decide) (backOf (W := 1) (rm1 l Z a0 hw [] b4 w_DEF (.int (0 : Int32)) .null (.int (0 : Int32)) h4 n0 z8 o11 A4 S_DEFAULTCAPACITY_EMPTY_ELEMENTDATA F_modCount_b4 F_elementData_b4 F_size_b4 g_b4) hZ (own_W hw 6 rfl) (own_W hw 3 rfl) (by decide) (by decide)) (g := (mkF m 58 #[.val (.long pl1), .second, .val (.int pi2), .val (.int pi3), .val (.int pi4), .val (.int pi5), .val (.int pi6), .val (.int (1 : Int32)), .val (.ref b1), .val (.int (1 : Int32)), .unset, .unset] [(.ref b4), (.ref b4)])) rfl (by rw [hml]; rfl) (Steps.refl _) (a := b4) (argsL := []) (rest := [(.ref b4)]) (lenOf pd_0 rfl) rfl (by show 2 * 0 + _ ≤ _; exact Nat.le_of_eq rfl) (hb hby at_58) (fun _ _ => ⟨rfl, e4, (by decide : 2 + 0 ≤ _), (by decide : 4 + 0 ≤ _)⟩)
  dsimp only [Pt.U, Pt.locs, Pt.cells, Pt.slots] at X7 l7 y7 z7 st7 hQ7
  subst l7 y7 z7
  obtain ⟨rfl, N7q, K7, qf7_0, qf7_1, qf7_2, qf7_3⟩ := hQ7
  have N7 := Fr.app N3 N7q
  have z13 := Nat.le_trans z8 K7.1
  have o14 := o11.keep K7 (allS g_b4 all0)
  obtain ⟨_, _, ⟨T12, L12, k12, n12⟩, -, X12, ⟨Lc12, hQ12, l12, y12, z12⟩, st12⟩ := Jvm.LawKit.callS X7 hx (y := (⟨"com/example/shardwright/shardwright/cli/RowIsBlankPinLaw", "field", "(II)[B"⟩ : MethodName)) hown (mvT hZ (own_W hw 27 rfl)) (mvT hZ (own_W hw 28 rfl)) (mvT hZ (own_W hw 29 rfl)) (mvT hZ (own_W hw 30 rfl)) (by decide) (backOf (W := 1) (rm5 l Z a0 hw [] ((pi3.toUInt32 >>> ((2 : Int32) &&& 31).toUInt32).toInt32) pi4 T7.heap n0 z13 o14 ) hZ (own_W hw 30 rfl) (own_W hw 29 rfl) (by decide) (by decide)) (g := (mkF m 75 #[.val (.long pl1), .second, .val (.int pi2), .val (.int pi3), .val (.int pi4), .val (.int pi5), .val (.int pi6), .val (.int (1 : Int32)), .val (.ref b1), .val (.int (1 : Int32)), .val (.ref b4), .unset] [(.int pi4), (.int ((pi3.toUInt32 >>> ((2 : Int32) &&& 31).toUInt32).toInt32)), (.ref b4)])) rfl (by rw [hml]; rfl) (argsL := [(.int ((pi3.toUInt32 >>> ((2 : Int32) &&& 31).toUInt32).toInt32)), (.int pi4)]) (rest := [(.ref b4)]) (lenOf pd_1 rfl) rfl (by show 2 * 0 + _ ≤ _; exact Nat.le_of_eq rfl) (hb hby at_75) (fun _ _ => ⟨rfl, rfl, (by decide : 2 + 1 ≤ _), (by decide : 4 + 1 ≤ _)⟩)
  dsimp only [Pt.U, Pt.locs, Pt.cells, Pt.slots] at X12 l12 y12 z12 st12 hQ12
  subst l12 y12 z12
  obtain ⟨b12, rfl, N12q, K12, qf12_0, qf12_1⟩ := hQ12
  have N12 := Fr.app N7 N12q
  have f15 := qf7_0.keep K12
  have f16 := qf7_1.keep K12 nin0
  have f17 := qf7_2.keep K12 nin0
  have f18 := qf7_3.keep K12 nin0
  have z20 := Nat.le_trans z13 K12.1
  have o21 := o14.keep K12 all0
  obtain ⟨cq19, kq19, q19a, q19b, q19c⟩ := isOf hZ rfl f15
  obtain ⟨_, _, ⟨T19, L19, k19, n19⟩, -, X19, ⟨Lc19, hQ19, l19, y19, z19⟩, st19⟩ := X12.interfaceBack hx (xi := (⟨"java/util/List", "add", "(Ljava/lang/Object;)Z"⟩ : MethodName)) (y := (⟨"java/util/ArrayList", "add", "(Ljava/lang/Object;)Z"⟩ : MethodName)) hown (mvT hZ (own_W hw 31 rfl)) (mvT hZ (own_W hw 32 rfl)) (mvT hZ (own_W hw 33 rfl)) (mvT hZ (own_W hw 34 rfl)) (mvT hZ (own_W hw 35 rfl)) (mvT hZ (own_W hw 36 rfl)) (mvT hZ (own_W hw 37 rfl)) (mvT hZ (own_W hw 38 rfl)) (by decide) (backOf (W := 0) (rm6_0 l Z a0 hw [] b4 b12 w_DEF kk_w_DEF (0 : Int32) T12.heap n0 z20 o21 f15 qf12_1 S_DEFAULTCAPACITY_EMPTY_ELEMENTDATA V_w_DEF f16 f17 f18 g_b4) hZ (own_W hw 39 rfl) (own_W hw 3 rfl) (by decide) (by decide)) q19a q19b q19c (g := (mkF m 78 #[.val (.long pl1), .second, .val (.int pi2), .val (.int pi3), .val (.int pi4), .val (.int pi5), .val (.int pi6), .val (.int (1 : Int32)), .val (.ref b1), .val (.int (1 : Int32)), .val (.ref b4), .unset] [(.ref b12), (.ref b4)])) rfl (by rw [hml]; rfl) (Steps.refl _) (argsL := [(.ref b12)]) (rest := []) (lenOf pd_2 rfl) rfl (by show 2 * 0 + _ ≤ _; exact Nat.le_of_eq rfl) (hb hby at_78) (fun _ _ => ⟨rfl, rfl, (by decide : 3 + 1 ≤ _), (by decide : 5 + 10 ≤ _)⟩)
  dsimp only [Pt.U, Pt.locs, Pt.cells, Pt.slots] at X19 l19 y19 z19 st19 hQ19
  subst l19 y19 z19
  obtain ⟨b19, b19_1, rfl, N19q, K19, qf19_0, qf19_1, qf19_2, qf19_3, qf19_4, qf19_5, qf19_6⟩ := hQ19
  have N19 := Fr.app N12 N19q
  obtain ⟨T22, h22, X22, e22, E22, A22, D22, -, st22⟩ := newO X19 hx hZ hown (own_W hw 66 rfl) (own_W hw 67 rfl) (own_W hw 68 rfl) rfl (g := (mkF m 128 #[.val (.long pl1), .second, .val (.int pi2), .val (.int pi3), .val (.int pi4), .val (.int pi5), .val (.int pi6), .val (.int (1 : Int32)), .val (.ref b1), .val (.int (1 : Int32)), .val (.ref b4), .unset] [])) rfl (hb hby at_128) (by decide) (by decide)
  obtain ⟨b22, g22⟩ : ∃ z, z = T19.heap.size := ⟨_, rfl⟩
  rw [← g22] at A22 D22 st22
  have F_line_b22 : Fld Z h22 b22 "com/example/shardwright/shardwright/cli/CsvReader$Row" "line" "J" (.long (0 : Int64)) := D22 (Or.inr (own_W hw 79 rfl)) (ty := .long) (by decide)
  have F_text_b22 : Fld Z h22 b22 "com/example/shardwright/shardwright/cli/CsvReader$Row" "text" "[B" .null := D22 (Or.inr (own_W hw 81 rfl)) (ty := (.array .byte)) (by decide)
  have F_fields_b22 : Fld Z h22 b22 "com/example/shardwright/shardwright/cli/CsvReader$Row" "fields" "Ljava/util/List;" .null := D22 (Or.inr (own_W hw 83 rfl)) (ty := (.object "java/util/List")) (by decide)
  have z23 := Nat.le_trans z20 K19.1
  have g_b22 : n0 ≤ b22 := Nat.le_trans z23 (Nat.le_of_eq g22.symm)
  have z25 := Nat.le_trans z23 E22.1
  have o26 := o21.keep K19 (allS g_b4 all0)
  have o27 := o26.ext E22
  obtain ⟨_, _, ⟨T24, L24, k24, n24⟩, -, X24, ⟨Lc24, hQ24, l24, y24, z24⟩, st24⟩ := X22.specialBack hx (y := (⟨"com/example/shardwright/shardwright/cli/CsvReader$Row", "<init>", "(J[BLjava/util/List;)V"⟩ : MethodName)) rfl hown (mvT hZ (own_W hw 69 rfl)) (mvT hZ (own_W hw 70 rfl)) (mvT hZ (own_W hw 71 rfl)) (by decide) (backOf (W := 1) (rm11 l Z a0 hw [] b22 pl1 b1 b4 (.long (0 : Int64)) .null .null h22 n0 z25 o27 A22 F_line_b22 g_b22 F_text_b22 F_fields_b22) hZ (own_W hw 71 rfl) (own_W hw 68 rfl) (by decide) (by decide)) (g := (mkF m 137 #[.val (.long pl1), .second, .val (.int pi2), .val (.int pi3), .val (.int pi4), .val (.int pi5), .val (.int pi6), .val (.int (1 : Int32)), .val (.ref b1), .val (.int (1 : Int32)), .val (.ref b4), .unset] [(.ref b4), (.ref b1), (.long pl1), (.ref b22), (.ref b22)])) rfl (by rw [hml]; rfl) (Steps.refl _) (a := b22) (argsL := [(.long pl1), (.ref b1), (.ref b4)]) (rest := [(.ref b22)]) (lenOf pd_7 rfl) rfl (by show 2 * 0 + _ ≤ _; exact Nat.le_of_eq rfl) (hb hby at_137) (fun _ _ => ⟨rfl, e22, (by decide : 5 + 0 ≤ _), (by decide : 18 + 0 ≤ _)⟩)
  dsimp only [Pt.U, Pt.locs, Pt.cells, Pt.slots] at X24 l24 y24 z24 st24 hQ24
  subst l24 y24 z24
  obtain ⟨rfl, N24q, K24, qf24_0, qf24_1, qf24_2, qf24_3⟩ := hQ24
  have N24 := Fr.app N19 N24q
  have f28 := V3.ext E4
  have f29 := f28.keep K7 (ninS (Nat.ne_of_lt (Nat.lt_of_lt_of_le V3.lt (Nat.le_of_eq g4.symm))) nin0)
  have f30 := f29.keep K12 nin0
  have f31 := f30.keep K19 (ninS (Nat.ne_of_lt (Nat.lt_of_lt_of_le V3.lt (Nat.le_of_eq g4.symm))) nin0)
  have f32 := f31.ext E22
  have f33 := f32.keep K24 (ninS (Nat.ne_of_lt (Nat.lt_of_lt_of_le f31.lt (Nat.le_of_eq g22.symm))) nin0)
  have z35 := Nat.le_trans z25 K24.1
  have o36 := o27.keep K24 (allS g_b22 all0)
  obtain ⟨cq34, kq34, q34a, q34b, q34c⟩ := isOf hZ rfl qf24_0
  obtain ⟨_, _, ⟨T34, L34, k34, n34⟩, -, X34, ⟨Lc34, hQ34, l34, y34, z34⟩, st34⟩ := X24.virtualBack hx (y := (⟨"com/example/shardwright/shardwright/cli/CsvReader$Row", "isBlank", "()Z"⟩ : MethodName)) (z := (⟨"com/example/shardwright/shardwright/cli/CsvReader$Row", "isBlank", "()Z"⟩ : MethodName)) hown (mvT hZ (own_W hw 84 rfl)) (mvT hZ (own_W hw 85 rfl)) (notFace_of_selects (args := #[]) (mvT hZ (own_W hw 87 rfl))) (mvT hZ (own_W hw 87 rfl)) (mvT hZ (own_W hw 86 rfl)) (by decide) (backOf (W := 0) (rm13_1 l Z a0 hw [] b22 b1 k1 (nar .byte (pi4.toInt8.toInt32)) T24.heap n0 z35 o36 qf24_2 f33) hZ (own_W hw 88 rfl) (own_W hw 68 rfl) (by decide) (by decide)) q34a q34c (g := (mkF m 144 #[.val (.long pl1), .second, .val (.int pi2), .val (.int pi3), .val (.int pi4), .val (.int pi5), .val (.int pi6), .val (.int (1 : Int32)), .val (.ref b1), .val (.int (1 : Int32)), .val (.ref b4), .val (.ref b22)] [(.ref b22)])) rfl (by rw [hml]; rfl) (Steps.refl _) (argsL := []) (rest := []) (lenOf pd_8 rfl) rfl (by show 2 * 0 + _ ≤ _; exact Nat.le_of_eq rfl) (hb hby at_144) (fun _ _ => ⟨rfl, rfl, (by decide : 5 + 0 ≤ _), (by decide : 18 + 0 ≤ _)⟩)
  dsimp only [Pt.U, Pt.locs, Pt.cells, Pt.slots] at X34 l34 y34 z34 st34 hQ34
  subst l34 y34 z34
  obtain ⟨rfl, N34q, eq34⟩ := hQ34
  have N34 := Fr.app N24 N34q
  obtain ⟨fs, hr, hrun, hended, hW, hsame⟩ := X34.leave (v := some (.int (1 : Int32))) (fun h => by rw [Bd.returns] at h; cases h)
  refine ⟨_, _, pre0 _ ?_, hrun, hended, _, _, rfl, ?_, ⟨_, rfl⟩, hW, hsame.mono (by decide) (by decide)⟩
  · show Stp p e below s₁ m 0 #[.val (.long pl1), .second, .val (.int pi2), .val (.int pi3), .val (.int pi4), .val (.int pi5), .val (.int pi6), .unset, .unset, .unset, .unset, .unset] [] _
    refine XS.iloadN X0.here hx rfl (hb hby at_0) rfl ?_
    show Stp p e below s₁ m 1 #[.val (.long pl1), .second, .val (.int pi2), .val (.int pi3), .val (.int pi4), .val (.int pi5), .val (.int pi6), .unset, .unset, .unset, .unset, .unset] [(.int pi2)] _
    refine XS.iconst X0.here hx rfl (hb hby at_1) ?_
    show Stp p e below s₁ m 2 #[.val (.long pl1), .second, .val (.int pi2), .val (.int pi3), .val (.int pi4), .val (.int pi5), .val (.int pi6), .unset, .unset, .unset, .unset, .unset] [(.int (3 : Int32)), (.int pi2)] _
    refine XS.iand X0.here hx rfl (hb hby at_2) rfl ?_
    show Stp p e below s₁ m 3 #[.val (.long pl1), .second, .val (.int pi2), .val (.int pi3), .val (.int pi4), .val (.int pi5), .val (.int pi6), .unset, .unset, .unset, .unset, .unset] [(.int (pi2 &&& (3 : Int32)))] _
    refine XS.istore X0.here hx rfl (hb hby at_3) rfl (l' := #[.val (.long pl1), .second, .val (.int pi2), .val (.int pi3), .val (.int pi4), .val (.int pi5), .val (.int pi6), .val (.int (pi2 &&& (3 : Int32))), .unset, .unset, .unset, .unset]) rfl ?_
    show Stp p e below s₁ m 5 #[.val (.long pl1), .second, .val (.int pi2), .val (.int pi3), .val (.int pi4), .val (.int pi5), .val (.int pi6), .val (.int (pi2 &&& (3 : Int32))), .unset, .unset, .unset, .unset] [] _
    rw [show (pi2 &&& (3 : Int32)) = (1 : Int32) from hc3_1]
    show Stp p e below s₁ m 5 #[.val (.long pl1), .second, .val (.int pi2), .val (.int pi3), .val (.int pi4), .val (.int pi5), .val (.int pi6), .val (.int (1 : Int32)), .unset, .unset, .unset, .unset] [] _
    refine XS.iload X0.here hx rfl (hb hby at_5) rfl ?_
    show Stp p e below s₁ m 7 #[.val (.long pl1), .second, .val (.int pi2), .val (.int pi3), .val (.int pi4), .val (.int pi5), .val (.int pi6), .val (.int (1 : Int32)), .unset, .unset, .unset, .unset] [(.int (1 : Int32))] _
    refine st1 _ ?_
    show Stp p e below T1 m 9 #[.val (.long pl1), .second, .val (.int pi2), .val (.int pi3), .val (.int pi4), .val (.int pi5), .val (.int pi6), .val (.int (1 : Int32)), .unset, .unset, .unset, .unset] [(.ref b1)] _
    refine XS.astore X1.here hx rfl (hb hby at_9) rfl rfl (l' := #[.val (.long pl1), .second, .val (.int pi2), .val (.int pi3), .val (.int pi4), .val (.int pi5), .val (.int pi6), .val (.int (1 : Int32)), .val (.ref b1), .unset, .unset, .unset]) rfl ?_
    show Stp p e below T1 m 11 #[.val (.long pl1), .second, .val (.int pi2), .val (.int pi3), .val (.int pi4), .val (.int pi5), .val (.int pi6), .val (.int (1 : Int32)), .val (.ref b1), .unset, .unset, .unset] [] _
    refine XS.iload X1.here hx rfl (hb hby at_11) rfl ?_
    show Stp p e below T1 m 13 #[.val (.long pl1), .second, .val (.int pi2), .val (.int pi3), .val (.int pi4), .val (.int pi5), .val (.int pi6), .val (.int (1 : Int32)), .val (.ref b1), .unset, .unset, .unset] [(.int (1 : Int32))] _
    refine XS.ifNo X1.here hx rfl (hb hby at_13) rfl ((if0 _ _).trans (tlt (by decide : (0 : Int32) < (1 : Int32))).2.2.2) ?_
    show Stp p e below T1 m 16 #[.val (.long pl1), .second, .val (.int pi2), .val (.int pi3), .val (.int pi4), .val (.int pi5), .val (.int pi6), .val (.int (1 : Int32)), .val (.ref b1), .unset, .unset, .unset] [] _
    refine XS.aload X1.here hx rfl (hb hby at_16) rfl rfl ?_
    show Stp p e below T1 m 18 #[.val (.long pl1), .second, .val (.int pi2), .val (.int pi3), .val (.int pi4), .val (.int pi5), .val (.int pi6), .val (.int (1 : Int32)), .val (.ref b1), .unset, .unset, .unset] [(.ref b1)] _
    refine XS.iconst X1.here hx rfl (hb hby at_18) ?_
    show Stp p e below T1 m 19 #[.val (.long pl1), .second, .val (.int pi2), .val (.int pi3), .val (.int pi4), .val (.int pi5), .val (.int pi6), .val (.int (1 : Int32)), .val (.ref b1), .unset, .unset, .unset] [(.int (0 : Int32)), (.ref b1)] _
    refine XS.iload X1.here hx rfl (hb hby at_19) rfl ?_
    show Stp p e below T1 m 21 #[.val (.long pl1), .second, .val (.int pi2), .val (.int pi3), .val (.int pi4), .val (.int pi5), .val (.int pi6), .val (.int (1 : Int32)), .val (.ref b1), .unset, .unset, .unset] [(.int pi4), (.int (0 : Int32)), (.ref b1)] _
    refine XS.i2b X1.here hx rfl (hb hby at_21) rfl ?_
    show Stp p e below T1 m 22 #[.val (.long pl1), .second, .val (.int pi2), .val (.int pi3), .val (.int pi4), .val (.int pi5), .val (.int pi6), .val (.int (1 : Int32)), .val (.ref b1), .unset, .unset, .unset] [(.int (pi4.toInt8.toInt32)), (.int (0 : Int32)), (.ref b1)] _
    refine st3 _ ?_
    show Stp p e below T3 m 23 #[.val (.long pl1), .second, .val (.int pi2), .val (.int pi3), .val (.int pi4), .val (.int pi5), .val (.int pi6), .val (.int (1 : Int32)), .val (.ref b1), .unset, .unset, .unset] [] _
    refine XS.iload X3.here hx rfl (hb hby at_23) rfl ?_
    show Stp p e below T3 m 25 #[.val (.long pl1), .second, .val (.int pi2), .val (.int pi3), .val (.int pi4), .val (.int pi5), .val (.int pi6), .val (.int (1 : Int32)), .val (.ref b1), .unset, .unset, .unset] [(.int (1 : Int32))] _
    refine XS.iconst X3.here hx rfl (hb hby at_25) ?_
    show Stp p e below T3 m 26 #[.val (.long pl1), .second, .val (.int pi2), .val (.int pi3), .val (.int pi4), .val (.int pi5), .val (.int pi6), .val (.int (1 : Int32)), .val (.ref b1), .unset, .unset, .unset] [(.int (1 : Int32)), (.int (1 : Int32))] _
    refine XS.icmpYes X3.here hx rfl (pc0 := 26) (pc' := 36) rfl (hb hby at_26) rfl (flt (by simp : ¬ ((1 : Int32) < (1 : Int32)))).2.2.2 (by decide) (by decide) ?_
    show Stp p e below T3 m 36 #[.val (.long pl1), .second, .val (.int pi2), .val (.int pi3), .val (.int pi4), .val (.int pi5), .val (.int pi6), .val (.int (1 : Int32)), .val (.ref b1), .unset, .unset, .unset] [] _
    refine XS.iload X3.here hx rfl (hb hby at_36) rfl ?_
    show Stp p e below T3 m 38 #[.val (.long pl1), .second, .val (.int pi2), .val (.int pi3), .val (.int pi4), .val (.int pi5), .val (.int pi6), .val (.int (1 : Int32)), .val (.ref b1), .unset, .unset, .unset] [(.int (1 : Int32))] _
    refine XS.iconst X3.here hx rfl (hb hby at_38) ?_
    show Stp p e below T3 m 39 #[.val (.long pl1), .second, .val (.int pi2), .val (.int pi3), .val (.int pi4), .val (.int pi5), .val (.int pi6), .val (.int (1 : Int32)), .val (.ref b1), .unset, .unset, .unset] [(.int (2 : Int32)), (.int (1 : Int32))] _
    refine XS.icmpYes X3.here hx rfl (pc0 := 39) (pc' := 49) rfl (hb hby at_39) rfl (flt (by decide : ¬ ((2 : Int32) < (1 : Int32)))).2.2.2 (by decide) (by decide) ?_
    show Stp p e below T3 m 49 #[.val (.long pl1), .second, .val (.int pi2), .val (.int pi3), .val (.int pi4), .val (.int pi5), .val (.int pi6), .val (.int (1 : Int32)), .val (.ref b1), .unset, .unset, .unset] [] _
    refine XS.iloadN X3.here hx rfl (hb hby at_49) rfl ?_
    show Stp p e below T3 m 50 #[.val (.long pl1), .second, .val (.int pi2), .val (.int pi3), .val (.int pi4), .val (.int pi5), .val (.int pi6), .val (.int (1 : Int32)), .val (.ref b1), .unset, .unset, .unset] [(.int pi3)] _
    refine XS.iconst X3.here hx rfl (hb hby at_50) ?_
    show Stp p e below T3 m 51 #[.val (.long pl1), .second, .val (.int pi2), .val (.int pi3), .val (.int pi4), .val (.int pi5), .val (.int pi6), .val (.int (1 : Int32)), .val (.ref b1), .unset, .unset, .unset] [(.int (3 : Int32)), (.int pi3)] _
    refine XS.iand X3.here hx rfl (hb hby at_51) rfl ?_
    show Stp p e below T3 m 52 #[.val (.long pl1), .second, .val (.int pi2), .val (.int pi3), .val (.int pi4), .val (.int pi5), .val (.int pi6), .val (.int (1 : Int32)), .val (.ref b1), .unset, .unset, .unset] [(.int (pi3 &&& (3 : Int32)))] _
    refine XS.istore X3.here hx rfl (hb hby at_52) rfl (l' := #[.val (.long pl1), .second, .val (.int pi2), .val (.int pi3), .val (.int pi4), .val (.int pi5), .val (.int pi6), .val (.int (1 : Int32)), .val (.ref b1), .val (.int (pi3 &&& (3 : Int32))), .unset, .unset]) rfl ?_
    show Stp p e below T3 m 54 #[.val (.long pl1), .second, .val (.int pi2), .val (.int pi3), .val (.int pi4), .val (.int pi5), .val (.int pi6), .val (.int (1 : Int32)), .val (.ref b1), .val (.int (pi3 &&& (3 : Int32))), .unset, .unset] [] _
    rw [show (pi3 &&& (3 : Int32)) = (1 : Int32) from hc52_3]
    show Stp p e below T3 m 54 #[.val (.long pl1), .second, .val (.int pi2), .val (.int pi3), .val (.int pi4), .val (.int pi5), .val (.int pi6), .val (.int (1 : Int32)), .val (.ref b1), .val (.int (1 : Int32)), .unset, .unset] [] _
    refine st4 _ ?_
    show Stp p e below T4 m 57 #[.val (.long pl1), .second, .val (.int pi2), .val (.int pi3), .val (.int pi4), .val (.int pi5), .val (.int pi6), .val (.int (1 : Int32)), .val (.ref b1), .val (.int (1 : Int32)), .unset, .unset] [(.ref b4)] _
    refine XS.dup X4.here hx rfl (hb hby at_57) rfl rfl ?_
    show Stp p e below T4 m 58 #[.val (.long pl1), .second, .val (.int pi2), .val (.int pi3), .val (.int pi4), .val (.int pi5), .val (.int pi6), .val (.int (1 : Int32)), .val (.ref b1), .val (.int (1 : Int32)), .unset, .unset] [(.ref b4), (.ref b4)] _
    refine st7.trans ?_
    show Stp p e below T7 m 61 #[.val (.long pl1), .second, .val (.int pi2), .val (.int pi3), .val (.int pi4), .val (.int pi5), .val (.int pi6), .val (.int (1 : Int32)), .val (.ref b1), .val (.int (1 : Int32)), .unset, .unset] [(.ref b4)] _
    refine XS.astore X7.here hx rfl (hb hby at_61) rfl rfl (l' := #[.val (.long pl1), .second, .val (.int pi2), .val (.int pi3), .val (.int pi4), .val (.int pi5), .val (.int pi6), .val (.int (1 : Int32)), .val (.ref b1), .val (.int (1 : Int32)), .val (.ref b4), .unset]) rfl ?_
    show Stp p e below T7 m 63 #[.val (.long pl1), .second, .val (.int pi2), .val (.int pi3), .val (.int pi4), .val (.int pi5), .val (.int pi6), .val (.int (1 : Int32)), .val (.ref b1), .val (.int (1 : Int32)), .val (.ref b4), .unset] [] _
    refine XS.iload X7.here hx rfl (hb hby at_63) rfl ?_
    show Stp p e below T7 m 65 #[.val (.long pl1), .second, .val (.int pi2), .val (.int pi3), .val (.int pi4), .val (.int pi5), .val (.int pi6), .val (.int (1 : Int32)), .val (.ref b1), .val (.int (1 : Int32)), .val (.ref b4), .unset] [(.int (1 : Int32))] _
    refine XS.ifNo X7.here hx rfl (hb hby at_65) rfl ((if0 _ _).trans (tlt (by decide : (0 : Int32) < (1 : Int32))).2.2.2) ?_
    show Stp p e below T7 m 68 #[.val (.long pl1), .second, .val (.int pi2), .val (.int pi3), .val (.int pi4), .val (.int pi5), .val (.int pi6), .val (.int (1 : Int32)), .val (.ref b1), .val (.int (1 : Int32)), .val (.ref b4), .unset] [] _
    refine XS.aload X7.here hx rfl (hb hby at_68) rfl rfl ?_
    show Stp p e below T7 m 70 #[.val (.long pl1), .second, .val (.int pi2), .val (.int pi3), .val (.int pi4), .val (.int pi5), .val (.int pi6), .val (.int (1 : Int32)), .val (.ref b1), .val (.int (1 : Int32)), .val (.ref b4), .unset] [(.ref b4)] _
    refine XS.iloadN X7.here hx rfl (hb hby at_70) rfl ?_
    show Stp p e below T7 m 71 #[.val (.long pl1), .second, .val (.int pi2), .val (.int pi3), .val (.int pi4), .val (.int pi5), .val (.int pi6), .val (.int (1 : Int32)), .val (.ref b1), .val (.int (1 : Int32)), .val (.ref b4), .unset] [(.int pi3), (.ref b4)] _
    refine XS.iconst X7.here hx rfl (hb hby at_71) ?_
    show Stp p e below T7 m 72 #[.val (.long pl1), .second, .val (.int pi2), .val (.int pi3), .val (.int pi4), .val (.int pi5), .val (.int pi6), .val (.int (1 : Int32)), .val (.ref b1), .val (.int (1 : Int32)), .val (.ref b4), .unset] [(.int (2 : Int32)), (.int pi3), (.ref b4)] _
    refine XS.iushr X7.here hx rfl (hb hby at_72) rfl ?_
    show Stp p e below T7 m 73 #[.val (.long pl1), .second, .val (.int pi2), .val (.int pi3), .val (.int pi4), .val (.int pi5), .val (.int pi6), .val (.int (1 : Int32)), .val (.ref b1), .val (.int (1 : Int32)), .val (.ref b4), .unset] [(.int ((pi3.toUInt32 >>> ((2 : Int32) &&& 31).toUInt32).toInt32)), (.ref b4)] _
    refine XS.iload X7.here hx rfl (hb hby at_73) rfl ?_
    show Stp p e below T7 m 75 #[.val (.long pl1), .second, .val (.int pi2), .val (.int pi3), .val (.int pi4), .val (.int pi5), .val (.int pi6), .val (.int (1 : Int32)), .val (.ref b1), .val (.int (1 : Int32)), .val (.ref b4), .unset] [(.int pi4), (.int ((pi3.toUInt32 >>> ((2 : Int32) &&& 31).toUInt32).toInt32)), (.ref b4)] _
    refine st12 _ ?_
    show Stp p e below T12 m 78 #[.val (.long pl1), .second, .val (.int pi2), .val (.int pi3), .val (.int pi4), .val (.int pi5), .val (.int pi6), .val (.int (1 : Int32)), .val (.ref b1), .val (.int (1 : Int32)), .val (.ref b4), .unset] [(.ref b12), (.ref b4)] _
    refine st19.trans ?_
    show Stp p e below T19 m 83 #[.val (.long pl1), .second, .val (.int pi2), .val (.int pi3), .val (.int pi4), .val (.int pi5), .val (.int pi6), .val (.int (1 : Int32)), .val (.ref b1), .val (.int (1 : Int32)), .val (.ref b4), .unset] [(.int (1 : Int32))] _
    refine XS.pop X19.here hx rfl (hb hby at_83) rfl rfl ?_
    show Stp p e below T19 m 84 #[.val (.long pl1), .second, .val (.int pi2), .val (.int pi3), .val (.int pi4), .val (.int pi5), .val (.int pi6), .val (.int (1 : Int32)), .val (.ref b1), .val (.int (1 : Int32)), .val (.ref b4), .unset] [] _
    refine XS.iload X19.here hx rfl (hb hby at_84) rfl ?_
    show Stp p e below T19 m 86 #[.val (.long pl1), .second, .val (.int pi2), .val (.int pi3), .val (.int pi4), .val (.int pi5), .val (.int pi6), .val (.int (1 : Int32)), .val (.ref b1), .val (.int (1 : Int32)), .val (.ref b4), .unset] [(.int (1 : Int32))] _
    refine XS.iconst X19.here hx rfl (hb hby at_86) ?_
    show Stp p e below T19 m 87 #[.val (.long pl1), .second, .val (.int pi2), .val (.int pi3), .val (.int pi4), .val (.int pi5), .val (.int pi6), .val (.int (1 : Int32)), .val (.ref b1), .val (.int (1 : Int32)), .val (.ref b4), .unset] [(.int (1 : Int32)), (.int (1 : Int32))] _
    refine XS.icmpYes X19.here hx rfl (pc0 := 87) (pc' := 106) rfl (hb hby at_87) rfl (flt (by simp : ¬ ((1 : Int32) < (1 : Int32)))).2.2.2 (by decide) (by decide) ?_
    show Stp p e below T19 m 106 #[.val (.long pl1), .second, .val (.int pi2), .val (.int pi3), .val (.int pi4), .val (.int pi5), .val (.int pi6), .val (.int (1 : Int32)), .val (.ref b1), .val (.int (1 : Int32)), .val (.ref b4), .unset] [] _
    refine XS.iload X19.here hx rfl (hb hby at_106) rfl ?_
    show Stp p e below T19 m 108 #[.val (.long pl1), .second, .val (.int pi2), .val (.int pi3), .val (.int pi4), .val (.int pi5), .val (.int pi6), .val (.int (1 : Int32)), .val (.ref b1), .val (.int (1 : Int32)), .val (.ref b4), .unset] [(.int (1 : Int32))] _
    refine XS.iconst X19.here hx rfl (hb hby at_108) ?_
    show Stp p e below T19 m 109 #[.val (.long pl1), .second, .val (.int pi2), .val (.int pi3), .val (.int pi4), .val (.int pi5), .val (.int pi6), .val (.int (1 : Int32)), .val (.ref b1), .val (.int (1 : Int32)), .val (.ref b4), .unset] [(.int (2 : Int32)), (.int (1 : Int32))] _
    refine XS.icmpYes X19.here hx rfl (pc0 := 109) (pc' := 128) rfl (hb hby at_109) rfl (flt (by decide : ¬ ((2 : Int32) < (1 : Int32)))).2.2.2 (by decide) (by decide) ?_
    show Stp p e below T19 m 128 #[.val (.long pl1), .second, .val (.int pi2), .val (.int pi3), .val (.int pi4), .val (.int pi5), .val (.int pi6), .val (.int (1 : Int32)), .val (.ref b1), .val (.int (1 : Int32)), .val (.ref b4), .unset] [] _
    refine st22 _ ?_
    show Stp p e below T22 m 131 #[.val (.long pl1), .second, .val (.int pi2), .val (.int pi3), .val (.int pi4), .val (.int pi5), .val (.int pi6), .val (.int (1 : Int32)), .val (.ref b1), .val (.int (1 : Int32)), .val (.ref b4), .unset] [(.ref b22)] _
    refine XS.dup X22.here hx rfl (hb hby at_131) rfl rfl ?_
    show Stp p e below T22 m 132 #[.val (.long pl1), .second, .val (.int pi2), .val (.int pi3), .val (.int pi4), .val (.int pi5), .val (.int pi6), .val (.int (1 : Int32)), .val (.ref b1), .val (.int (1 : Int32)), .val (.ref b4), .unset] [(.ref b22), (.ref b22)] _
    refine XS.lloadN X22.here hx rfl (hb hby at_132) rfl ?_
    show Stp p e below T22 m 133 #[.val (.long pl1), .second, .val (.int pi2), .val (.int pi3), .val (.int pi4), .val (.int pi5), .val (.int pi6), .val (.int (1 : Int32)), .val (.ref b1), .val (.int (1 : Int32)), .val (.ref b4), .unset] [(.long pl1), (.ref b22), (.ref b22)] _
    refine XS.aload X22.here hx rfl (hb hby at_133) rfl rfl ?_
    show Stp p e below T22 m 135 #[.val (.long pl1), .second, .val (.int pi2), .val (.int pi3), .val (.int pi4), .val (.int pi5), .val (.int pi6), .val (.int (1 : Int32)), .val (.ref b1), .val (.int (1 : Int32)), .val (.ref b4), .unset] [(.ref b1), (.long pl1), (.ref b22), (.ref b22)] _
    refine XS.aload X22.here hx rfl (hb hby at_135) rfl rfl ?_
    show Stp p e below T22 m 137 #[.val (.long pl1), .second, .val (.int pi2), .val (.int pi3), .val (.int pi4), .val (.int pi5), .val (.int pi6), .val (.int (1 : Int32)), .val (.ref b1), .val (.int (1 : Int32)), .val (.ref b4), .unset] [(.ref b4), (.ref b1), (.long pl1), (.ref b22), (.ref b22)] _
    refine st24.trans ?_
    show Stp p e below T24 m 140 #[.val (.long pl1), .second, .val (.int pi2), .val (.int pi3), .val (.int pi4), .val (.int pi5), .val (.int pi6), .val (.int (1 : Int32)), .val (.ref b1), .val (.int (1 : Int32)), .val (.ref b4), .unset] [(.ref b22)] _
    refine XS.astore X24.here hx rfl (hb hby at_140) rfl rfl (l' := #[.val (.long pl1), .second, .val (.int pi2), .val (.int pi3), .val (.int pi4), .val (.int pi5), .val (.int pi6), .val (.int (1 : Int32)), .val (.ref b1), .val (.int (1 : Int32)), .val (.ref b4), .val (.ref b22)]) rfl ?_
    show Stp p e below T24 m 142 #[.val (.long pl1), .second, .val (.int pi2), .val (.int pi3), .val (.int pi4), .val (.int pi5), .val (.int pi6), .val (.int (1 : Int32)), .val (.ref b1), .val (.int (1 : Int32)), .val (.ref b4), .val (.ref b22)] [] _
    refine XS.aload X24.here hx rfl (hb hby at_142) rfl rfl ?_
    show Stp p e below T24 m 144 #[.val (.long pl1), .second, .val (.int pi2), .val (.int pi3), .val (.int pi4), .val (.int pi5), .val (.int pi6), .val (.int (1 : Int32)), .val (.ref b1), .val (.int (1 : Int32)), .val (.ref b4), .val (.ref b22)] [(.ref b22)] _
    refine st34.trans ?_
    show Stp p e below T34 m 147 #[.val (.long pl1), .second, .val (.int pi2), .val (.int pi3), .val (.int pi4), .val (.int pi5), .val (.int pi6), .val (.int (1 : Int32)), .val (.ref b1), .val (.int (1 : Int32)), .val (.ref b4), .val (.ref b22)] [(.int (0 : Int32))] _
    refine XS.iload X34.here hx rfl (hb hby at_147) rfl ?_
    show Stp p e below T34 m 149 #[.val (.long pl1), .second, .val (.int pi2), .val (.int pi3), .val (.int pi4), .val (.int pi5), .val (.int pi6), .val (.int (1 : Int32)), .val (.ref b1), .val (.int (1 : Int32)), .val (.ref b4), .val (.ref b22)] [(.int (1 : Int32)), (.int (0 : Int32))] _
    refine XS.ifYes X34.here hx rfl (pc0 := 149) (pc' := 156) rfl (hb hby at_149) rfl ((if0 _ _).trans (feq (by decide : ¬ ((1 : Int32) = (0 : Int32)))).2) (by decide) (by decide) ?_
    show Stp p e below T34 m 156 #[.val (.long pl1), .second, .val (.int pi2), .val (.int pi3), .val (.int pi4), .val (.int pi5), .val (.int pi6), .val (.int (1 : Int32)), .val (.ref b1), .val (.int (1 : Int32)), .val (.ref b4), .val (.ref b22)] [(.int (0 : Int32))] _
    refine XS.iconst X34.here hx rfl (hb hby at_156) ?_
    show Stp p e below T34 m 157 #[.val (.long pl1), .second, .val (.int pi2), .val (.int pi3), .val (.int pi4), .val (.int pi5), .val (.int pi6), .val (.int (1 : Int32)), .val (.ref b1), .val (.int (1 : Int32)), .val (.ref b4), .val (.ref b22)] [(.int (0 : Int32)), (.int (0 : Int32))] _
    refine XS.icmpNo X34.here hx rfl (hb hby at_157) rfl (teq (rfl : (0 : Int32) = (0 : Int32))).2 ?_
    show Stp p e below T34 m 160 #[.val (.long pl1), .second, .val (.int pi2), .val (.int pi3), .val (.int pi4), .val (.int pi5), .val (.int pi6), .val (.int (1 : Int32)), .val (.ref b1), .val (.int (1 : Int32)), .val (.ref b4), .val (.ref b22)] [] _
    refine XS.iconst X34.here hx rfl (hb hby at_160) ?_
    show Stp p e below T34 m 161 #[.val (.long pl1), .second, .val (.int pi2), .val (.int pi3), .val (.int pi4), .val (.int pi5), .val (.int pi6), .val (.int (1 : Int32)), .val (.ref b1), .val (.int (1 : Int32)), .val (.ref b4), .val (.ref b22)] [(.int (1 : Int32))] _
    refine XS.goto X34.here hx rfl (pc0 := 161) (pc' := 165) rfl (hb hby at_161) (by decide) (by decide) ?_
    show Stp p e below T34 m 165 #[.val (.long pl1), .second, .val (.int pi2), .val (.int pi3), .val (.int pi4), .val (.int pi5), .val (.int pi6), .val (.int (1 : Int32)), .val (.ref b1), .val (.int (1 : Int32)), .val (.ref b4), .val (.ref b22)] [(.int (1 : Int32))] _
    exact retN X34 hx (t := .boolean) Bd.returns (by simp) (hb hby at_165) hr
  · exact ⟨rfl, N34⟩
set_option maxRecDepth 65536 in
set_option maxHeartbeats 40000000 in
theorem rm0_ftfft (l : Launch) (Z : State) (a0 : Array Value) (hw : ∀ d ∈ tables_1, d.before a0 Z = true) (ws : List Jvm.Cond) (pl1 : Int64) (pi2 : Int32) (pi3 : Int32) (pi4 : Int32) (pi5 : Int32) (pi6 : Int32) (w_DEF : Addr) (kk_w_DEF : ClassId) (h0 : Heap) (n0 : Nat) (Z0 : n0 ≤ h0.size) (O0 : Old Z n0 h0) (S_DEFAULTCAPACITY_EMPTY_ELEMENTDATA : Sta Z Z.heap "java/util/ArrayList" "DEFAULTCAPACITY_EMPTY_ELEMENTDATA" "[Ljava/lang/Object;" (.ref w_DEF)) (V_w_DEF : Arv Z Z.heap w_DEF kk_w_DEF (.object "java/lang/Object") (0 : Int32) [] .null) (hc3_0 : ¬ ((pi2 &&& (3 : Int32)) = (0 : Int32))) (hc3_1 : (pi2 &&& (3 : Int32)) = (1 : Int32)) (hc52_2 : ¬ ((pi3 &&& (3 : Int32)) = (0 : Int32))) (hc52_3 : ¬ ((pi3 &&& (3 : Int32)) = (1 : Int32))) (hc52_4 : (pi3 &&& (3 : Int32)) = (2 : Int32)) :
    MetFree l x (head1 (Jvm.Cond.code x code maxLocals ret :: ws) room_1) (fun a U => a = #[(.long pl1), (.int pi2), (.int pi3), (.int pi4), (.int pi5), (.int pi6)] ∧ Z.Warmed39 U.vm ∧ U.heap = h0) (fun _ _ _ _ _ => True) (fun _ U o U' => ∃ v L, o = .returned v ∧ Q0 v L n0 ∧ FrameEnd U o U' L room_1.cells room_1.slots) := by
  refine MetFree.of_bodySF (plainFor_of_name pn_0) hisR ?_
  intro p e s m args below meth c s₁ Bd hml0 hP hK
  obtain ⟨rfl, hZ, hh⟩ := hP
  have hx := Bd.exec
  have hby := Bd.bytes
  have hml : c.maxLocals = 12 := hml0
  have hown : s.vm.findClass "com/example/shardwright/shardwright/cli/RowIsBlankPinLaw" = some m.cls := findClass_of_methodNamed Bd.named
  have hnm := (name_of_methodNamed Bd.named Bd.method).1
  have X0 : Stand p l e room_1 s m #[(.long pl1), (.int pi2), (.int pi3), (.int pi4), (.int pi5), (.int pi6)] below meth c s₁ [] 0 0 := Stand.of_body Bd
  have e0 : s₁.heap = h0 := by rw [← hh, Bd.state]; rfl
  have N0 := Fr.nil n0
  have pre0 : ∀ t, Steps p.tables e below (s₁.setTop (mkF m 0 #[.val (.long pl1), .second, .val (.int pi2), .val (.int pi3), .val (.int pi4), .val (.int pi5), .val (.int pi6), .unset, .unset, .unset, .unset, .unset] [])) t → Steps p.tables e below (s₁.setTop (entryFrame m #[(.long pl1), (.int pi2), (.int pi3), (.int pi4), (.int pi5), (.int pi6)] maxLocals)) t := fun t k => castTop (ef_0 m pl1 pi2 pi3 pi4 pi5 pi6) k
  obtain ⟨T1, h1, k1, X1, e1, E1, A1, st1⟩ := newP X0 hx hZ (own_W hw 0 rfl) e0 (g := (mkF m 7 #[.val (.long pl1), .second, .val (.int pi2), .val (.int pi3), .val (.int pi4), .val (.int pi5), .val (.int pi6), .val (.int (1 : Int32)), .unset, .unset, .unset, .unset] [(.int (1 : Int32))])) rfl (hb hby at_7) rfl (by decide) (cap := 1) (by decide) (by decide) (by decide) (by decide)
  obtain ⟨b1, g1⟩ : ∃ z, z = h0.size := ⟨_, rfl⟩
  rw [← g1] at A1 st1
  have V1 : Arv Z h1 b1 k1 .byte (1 : Int32) [(.int (0 : Int32))] (.int (0 : Int32)) := (Arv.new A1 (by decide)).pad (pad_rep [] (.int (0 : Int32)) 1)
  have g_b1 : n0 ≤ b1 := Nat.le_trans Z0 (Nat.le_of_eq g1.symm)
  have V_c2 := V1
  obtain ⟨c2, Arc2, qc2, Sc2, Nc2, Hc2, Gc2⟩ := V_c2
  have hin3 : ¬ ((0 : Int32) < 0 ∨ c2.slots.size ≤ ((0 : Int32)).toNatClampNeg) := inb_of Sc2 ⟨by decide, by decide⟩
  obtain ⟨T3, h3, X3, e3, W3, st3⟩ := stB X1 hx hZ e1 Arc2 (j := (0 : Int32)) hin3 (g := (mkF m 22 #[.val (.long pl1), .second, .val (.int pi2), .val (.int pi3), .val (.int pi4), .val (.int pi5), .val (.int pi6), .val (.int (1 : Int32)), .val (.ref b1), .unset, .unset, .unset] [(.int (pi4.toInt8.toInt32)), (.int (0 : Int32)), (.ref b1)])) rfl rfl (hb hby at_22)
  have V3 : Arv Z h3 b1 k1 .byte (1 : Int32) [(.int (nar .byte (pi4.toInt8.toInt32)))] (.int (0 : Int32)) := Arv.set Arc2 qc2 Sc2 Nc2 Hc2 Gc2 (fits_nar_byte _) W3 0 rfl (Nat.le_of_ble_eq_true rfl)
  have N3 := Fr.snoc X3 N0 g_b1
  obtain ⟨T4, h4, X4, e4, E4, A4, D4, -, st4⟩ := newO X3 hx hZ hown (own_W hw 1 rfl) (own_W hw 2 rfl) (own_W hw 3 rfl) e3 (g := (mkF m 54 #[.val (.long pl1), .second, .val (.int pi2), .val (.int pi3), .val (.int pi4), .val (.int pi5), .val (.int pi6), .val (.int (1 : Int32)), .val (.ref b1), .val (.int (2 : Int32)), .unset, .unset] [])) rfl (hb hby at_54) (by decide) (by decide)
  obtain ⟨b4, g4⟩ : ∃ z, z = h3.size := ⟨_, rfl⟩
  rw [← g4] at A4 D4 st4
  have F_modCount_b4 : Fld Z h4 b4 "java/util/AbstractList" "modCount" "I" (.int (0 : Int32)) := D4 (Or.inl (own_W hw 23 rfl)) (ty := .int) (by decide)
  have F_elementData_b4 : Fld Z h4 b4 "java/util/ArrayList" "elementData" "[Ljava/lang/Object;" .null := D4 (Or.inl (own_W hw 26 rfl)) (ty := (.array (.object "java/lang/Object"))) (by decide)
  have F_size_b4 : Fld Z h4 b4 "java/util/ArrayList" "size" "I" (.int (0 : Int32)) := D4 (Or.inl (own_W hw 43 rfl)) (ty := .int) (by decide)
  have z5 := Nat.le_trans Z0 E1.1
  have z6 := Nat.le_trans z5 (Keep.of_wr W3).1
  have g_b4 : n0 ≤ b4 := Nat.le_trans z6 (Nat.le_of_eq g4.symm)
  have z8 := Nat.le_trans z6 E4.1
  have o9 := O0.ext E1
  have o10 := o9.wr W3 g_b1
  have o11 := o10.ext E4
  obtain ⟨_, _, ⟨T7, L7, k7, n7⟩, -, X7, ⟨Lc7, hQ7, l7, y7, z7⟩, st7⟩ := X4.specialBack hx (y := (⟨"java/util/ArrayList", "<init>", "()V"⟩ : MethodName)) rfl hown (mvT hZ (own_W hw 4 rfl)) (mvT hZ (own_W hw 5 rfl)) (mvT hZ (own_W hw 6 rfl)) (by decide) (backOf (W := 1) (rm1 l Z a0 hw [] b4 w_DEF (.int (0 : Int32)) .null (.int (0 : Int32)) h4 n0 z8 o11 A4 S_DEFAULTCAPACITY_EMPTY_ELEMENTDATA F_modCount_b4 F_elementData_b4 F_size_b4 g_b4) hZ (own_W hw 6 rfl) (own_W hw 3 rfl) (by decide) (by decide)) (g := (mkF m 58 #[.val (.long pl1), .second, .val (.int pi2), .val (.int pi3), .val (.int pi4), .val (.int pi5), .val (.int pi6), .val (.int (1 : Int32)), .val (.ref b1), .val (.int (2 : Int32)), .unset, .unset] [(.ref b4), (.ref b4)])) rfl (by rw [hml]; rfl) (Steps.refl _) (a := b4) (argsL := []) (rest := [(.ref b4)]) (lenOf pd_0 rfl) rfl (by show 2 * 0 + _ ≤ _; exact Nat.le_of_eq rfl) (hb hby at_58) (fun _ _ => ⟨rfl, e4, (by decide : 2 + 0 ≤ _), (by decide : 4 + 0 ≤ _)⟩)
  dsimp only [Pt.U, Pt.locs, Pt.cells, Pt.slots] at X7 l7 y7 z7 st7 hQ7
  subst l7 y7 z7
  obtain ⟨rfl, N7q, K7, qf7_0, qf7_1, qf7_2, qf7_3⟩ := hQ7
  have N7 := Fr.app N3 N7q
  have z13 := Nat.le_trans z8 K7.1
  have o14 := o11.keep K7 (allS g_b4 all0)
  obtain ⟨_, _, ⟨T12, L12, k12, n12⟩, -, X12, ⟨Lc12, hQ12, l12, y12, z12⟩, st12⟩ := Jvm.LawKit.callS X7 hx (y := (⟨"com/example/shardwright/shardwright/cli/RowIsBlankPinLaw", "field", "(II)[B"⟩ : MethodName)) hown (mvT hZ (own_W hw 27 rfl)) (mvT hZ (own_W hw 28 rfl)) (mvT hZ (own_W hw 29 rfl)) (mvT hZ (own_W hw 30 rfl)) (by decide) (backOf (W := 1) (rm5 l Z a0 hw [] ((pi3.toUInt32 >>> ((2 : Int32) &&& 31).toUInt32).toInt32) pi4 T7.heap n0 z13 o14 ) hZ (own_W hw 30 rfl) (own_W hw 29 rfl) (by decide) (by decide)) (g := (mkF m 75 #[.val (.long pl1), .second, .val (.int pi2), .val (.int pi3), .val (.int pi4), .val (.int pi5), .val (.int pi6), .val (.int (1 : Int32)), .val (.ref b1), .val (.int (2 : Int32)), .val (.ref b4), .unset] [(.int pi4), (.int ((pi3.toUInt32 >>> ((2 : Int32) &&& 31).toUInt32).toInt32)), (.ref b4)])) rfl (by rw [hml]; rfl) (argsL := [(.int ((pi3.toUInt32 >>> ((2 : Int32) &&& 31).toUInt32).toInt32)), (.int pi4)]) (rest := [(.ref b4)]) (lenOf pd_1 rfl) rfl (by show 2 * 0 + _ ≤ _; exact Nat.le_of_eq rfl) (hb hby at_75) (fun _ _ => ⟨rfl, rfl, (by decide : 2 + 1 ≤ _), (by decide : 4 + 1 ≤ _)⟩)
  dsimp only [Pt.U, Pt.locs, Pt.cells, Pt.slots] at X12 l12 y12 z12 st12 hQ12
  subst l12 y12 z12
  obtain ⟨b12, rfl, N12q, K12, qf12_0, qf12_1⟩ := hQ12
  have N12 := Fr.app N7 N12q
  have f15 := qf7_0.keep K12
  have f16 := qf7_1.keep K12 nin0
  have f17 := qf7_2.keep K12 nin0
  have f18 := qf7_3.keep K12 nin0
  have z20 := Nat.le_trans z13 K12.1
  have o21 := o14.keep K12 all0
  obtain ⟨cq19, kq19, q19a, q19b, q19c⟩ := isOf hZ rfl f15
  obtain ⟨_, _, ⟨T19, L19, k19, n19⟩, -, X19, ⟨Lc19, hQ19, l19, y19, z19⟩, st19⟩ := X12.interfaceBack hx (xi := (⟨"java/util/List", "add", "(Ljava/lang/Object;)Z"⟩ : MethodName)) (y := (⟨"java/util/ArrayList", "add", "(Ljava/lang/Object;)Z"⟩ : MethodName)) hown (mvT hZ (own_W hw 31 rfl)) (mvT hZ (own_W hw 32 rfl)) (mvT hZ (own_W hw 33 rfl)) (mvT hZ (own_W hw 34 rfl)) (mvT hZ (own_W hw 35 rfl)) (mvT hZ (own_W hw 36 rfl)) (mvT hZ (own_W hw 37 rfl)) (mvT hZ (own_W hw 38 rfl)) (by decide) (backOf (W := 0) (rm6_0 l Z a0 hw [] b4 b12 w_DEF kk_w_DEF (0 : Int32) T12.heap n0 z20 o21 f15 qf12_1 S_DEFAULTCAPACITY_EMPTY_ELEMENTDATA V_w_DEF f16 f17 f18 g_b4) hZ (own_W hw 39 rfl) (own_W hw 3 rfl) (by decide) (by decide)) q19a q19b q19c (g := (mkF m 78 #[.val (.long pl1), .second, .val (.int pi2), .val (.int pi3), .val (.int pi4), .val (.int pi5), .val (.int pi6), .val (.int (1 : Int32)), .val (.ref b1), .val (.int (2 : Int32)), .val (.ref b4), .unset] [(.ref b12), (.ref b4)])) rfl (by rw [hml]; rfl) (Steps.refl _) (argsL := [(.ref b12)]) (rest := []) (lenOf pd_2 rfl) rfl (by show 2 * 0 + _ ≤ _; exact Nat.le_of_eq rfl) (hb hby at_78) (fun _ _ => ⟨rfl, rfl, (by decide : 3 + 1 ≤ _), (by decide : 5 + 10 ≤ _)⟩)
  dsimp only [Pt.U, Pt.locs, Pt.cells, Pt.slots] at X19 l19 y19 z19 st19 hQ19
  subst l19 y19 z19
  obtain ⟨b19, b19_1, rfl, N19q, K19, qf19_0, qf19_1, qf19_2, qf19_3, qf19_4, qf19_5, qf19_6⟩ := hQ19
  have N19 := Fr.app N12 N19q
  have z23 := Nat.le_trans z20 K19.1
  have o24 := o21.keep K19 (allS g_b4 all0)
  obtain ⟨_, _, ⟨T22, L22, k22, n22⟩, -, X22, ⟨Lc22, hQ22, l22, y22, z22⟩, st22⟩ := Jvm.LawKit.callS X19 hx (y := (⟨"com/example/shardwright/shardwright/cli/RowIsBlankPinLaw", "field", "(II)[B"⟩ : MethodName)) hown (mvT hZ (own_W hw 27 rfl)) (mvT hZ (own_W hw 28 rfl)) (mvT hZ (own_W hw 29 rfl)) (mvT hZ (own_W hw 30 rfl)) (by decide) (backOf (W := 1) (rm5 l Z a0 hw [] ((pi3.toUInt32 >>> ((3 : Int32) &&& 31).toUInt32).toInt32) pi5 T19.heap n0 z23 o24 ) hZ (own_W hw 30 rfl) (own_W hw 29 rfl) (by decide) (by decide)) (g := (mkF m 97 #[.val (.long pl1), .second, .val (.int pi2), .val (.int pi3), .val (.int pi4), .val (.int pi5), .val (.int pi6), .val (.int (1 : Int32)), .val (.ref b1), .val (.int (2 : Int32)), .val (.ref b4), .unset] [(.int pi5), (.int ((pi3.toUInt32 >>> ((3 : Int32) &&& 31).toUInt32).toInt32)), (.ref b4)])) rfl (by rw [hml]; rfl) (argsL := [(.int ((pi3.toUInt32 >>> ((3 : Int32) &&& 31).toUInt32).toInt32)), (.int pi5)]) (rest := [(.ref b4)]) (lenOf pd_1 rfl) rfl (by show 2 * 0 + _ ≤ _; exact Nat.le_of_eq rfl) (hb hby at_97) (fun _ _ => ⟨rfl, rfl, (by decide : 4 + 1 ≤ _), (by decide : 15 + 1 ≤ _)⟩)
  dsimp only [Pt.U, Pt.locs, Pt.cells, Pt.slots] at X22 l22 y22 z22 st22 hQ22
  subst l22 y22 z22
  obtain ⟨b22, rfl, N22q, K22, qf22_0, qf22_1⟩ := hQ22
  have N22 := Fr.app N19 N22q
  have f25 := qf19_0.keep K22
  have f26 := qf19_1.keep K22 nin0
  have f27 := qf19_2.keep K22 nin0
  have f28 := qf19_5.keep K22 nin0
  have f29 := qf19_3.keep K22 nin0
  have g_b19 : n0 ≤ b19 := Nat.le_trans z20 qf19_4
  have z31 := Nat.le_trans z23 K22.1
  have o32 := o24.keep K22 all0
  obtain ⟨cq30, kq30, q30a, q30b, q30c⟩ := isOf hZ rfl f25
  obtain ⟨_, _, ⟨T30, L30, k30, n30⟩, -, X30, ⟨Lc30, hQ30, l30, y30, z30⟩, st30⟩ := X22.interfaceBack hx (xi := (⟨"java/util/List", "add", "(Ljava/lang/Object;)Z"⟩ : MethodName)) (y := (⟨"java/util/ArrayList", "add", "(Ljava/lang/Object;)Z"⟩ : MethodName)) hown (mvT hZ (own_W hw 31 rfl)) (mvT hZ (own_W hw 32 rfl)) (mvT hZ (own_W hw 33 rfl)) (mvT hZ (own_W hw 34 rfl)) (mvT hZ (own_W hw 35 rfl)) (mvT hZ (own_W hw 36 rfl)) (mvT hZ (own_W hw 37 rfl)) (mvT hZ (own_W hw 38 rfl)) (by decide) (backOf (W := 0) (rm6_1 l Z a0 hw [] b4 b22 ((0 : Int32) + (1 : Int32)) b19 b19_1 (.ref b12) .null .null .null .null .null .null .null .null .null T22.heap n0 z31 o32 f25 qf22_1 f26 f27 f28 qf19_6 f29 g_b4 (Ne.symm (Nat.ne_of_lt (Nat.lt_of_lt_of_le f15.lt qf19_4))) g_b19) hZ (own_W hw 39 rfl) (own_W hw 3 rfl) (by decide) (by decide)) q30a q30b q30c (g := (mkF m 100 #[.val (.long pl1), .second, .val (.int pi2), .val (.int pi3), .val (.int pi4), .val (.int pi5), .val (.int pi6), .val (.int (1 : Int32)), .val (.ref b1), .val (.int (2 : Int32)), .val (.ref b4), .unset] [(.ref b22), (.ref b4)])) rfl (by rw [hml]; rfl) (Steps.refl _) (argsL := [(.ref b22)]) (rest := []) (lenOf pd_2 rfl) rfl (by show 2 * 0 + _ ≤ _; exact Nat.le_of_eq rfl) (hb hby at_100) (fun _ _ => ⟨rfl, rfl, (by decide : 5 + 0 ≤ _), (by decide : 16 + 0 ≤ _)⟩)
  dsimp only [Pt.U, Pt.locs, Pt.cells, Pt.slots] at X30 l30 y30 z30 st30 hQ30
  subst l30 y30 z30
  obtain ⟨rfl, N30q, K30, qf30_0, qf30_1, qf30_2, qf30_3, qf30_4, qf30_5⟩ := hQ30
  have N30 := Fr.app N22 N30q
  obtain ⟨T33, h33, X33, e33, E33, A33, D33, -, st33⟩ := newO X30 hx hZ hown (own_W hw 66 rfl) (own_W hw 67 rfl) (own_W hw 68 rfl) rfl (g := (mkF m 128 #[.val (.long pl1), .second, .val (.int pi2), .val (.int pi3), .val (.int pi4), .val (.int pi5), .val (.int pi6), .val (.int (1 : Int32)), .val (.ref b1), .val (.int (2 : Int32)), .val (.ref b4), .unset] [])) rfl (hb hby at_128) (by decide) (by decide)
  obtain ⟨b33, g33⟩ : ∃ z, z = T30.heap.size := ⟨_, rfl⟩
  rw [← g33] at A33 D33 st33
  have F_line_b33 : Fld Z h33 b33 "com/example/shardwright/shardwright/cli/CsvReader$Row" "line" "J" (.long (0 : Int64)) := D33 (Or.inr (own_W hw 79 rfl)) (ty := .long) (by decide)
  have F_text_b33 : Fld Z h33 b33 "com/example/shardwright/shardwright/cli/CsvReader$Row" "text" "[B" .null := D33 (Or.inr (own_W hw 81 rfl)) (ty := (.array .byte)) (by decide)
  have F_fields_b33 : Fld Z h33 b33 "com/example/shardwright/shardwright/cli/CsvReader$Row" "fields" "Ljava/util/List;" .null := D33 (Or.inr (own_W hw 83 rfl)) (ty := (.object "java/util/List")) (by decide)
  have z34 := Nat.le_trans z31 K30.1
  have g_b33 : n0 ≤ b33 := Nat.le_trans z34 (Nat.le_of_eq g33.symm)
  have z36 := Nat.le_trans z34 E33.1
  have o37 := o32.keep K30 (allS g_b4 (allS g_b19 all0))
  have o38 := o37.ext E33
  obtain ⟨_, _, ⟨T35, L35, k35, n35⟩, -, X35, ⟨Lc35, hQ35, l35, y35, z35⟩, st35⟩ := X33.specialBack hx (y := (⟨"com/example/shardwright/shardwright/cli/CsvReader$Row", "<init>", "(J[BLjava/util/List;)V"⟩ : MethodName)) rfl hown (mvT hZ (own_W hw 69 rfl)) (mvT hZ (own_W hw 70 rfl)) (mvT hZ (own_W hw 71 rfl)) (by decide) (backOf (W := 1) (rm11 l Z a0 hw [] b33 pl1 b1 b4 (.long (0 : Int64)) .null .null h33 n0 z36 o38 A33 F_line_b33 g_b33 F_text_b33 F_fields_b33) hZ (own_W hw 71 rfl) (own_W hw 68 rfl) (by decide) (by decide)) (g := (mkF m 137 #[.val (.long pl1), .second, .val (.int pi2), .val (.int pi3), .val (.int pi4), .val (.int pi5), .val (.int pi6), .val (.int (1 : Int32)), .val (.ref b1), .val (.int (2 : Int32)), .val (.ref b4), .unset] [(.ref b4), (.ref b1), (.long pl1), (.ref b33), (.ref b33)])) rfl (by rw [hml]; rfl) (Steps.refl _) (a := b33) (argsL := [(.long pl1), (.ref b1), (.ref b4)]) (rest := [(.ref b33)]) (lenOf pd_7 rfl) rfl (by show 2 * 0 + _ ≤ _; exact Nat.le_of_eq rfl) (hb hby at_137) (fun _ _ => ⟨rfl, e33, (by decide : 6 + 0 ≤ _), (by decide : 19 + 0 ≤ _)⟩)
  dsimp only [Pt.U, Pt.locs, Pt.cells, Pt.slots] at X35 l35 y35 z35 st35 hQ35
  subst l35 y35 z35
  obtain ⟨rfl, N35q, K35, qf35_0, qf35_1, qf35_2, qf35_3⟩ := hQ35
  have N35 := Fr.app N30 N35q
  have f39 := V3.ext E4
  have f40 := f39.keep K7 (ninS (Nat.ne_of_lt (Nat.lt_of_lt_of_le V3.lt (Nat.le_of_eq g4.symm))) nin0)
  have f41 := f40.keep K12 nin0
  have f42 := f41.keep K19 (ninS (Nat.ne_of_lt (Nat.lt_of_lt_of_le V3.lt (Nat.le_of_eq g4.symm))) nin0)
  have f43 := f42.keep K22 nin0
  have f44 := f43.keep K30 (ninS (Nat.ne_of_lt (Nat.lt_of_lt_of_le V3.lt (Nat.le_of_eq g4.symm))) (ninS (Nat.ne_of_lt (Nat.lt_of_lt_of_le f41.lt qf19_4)) nin0))
  have f45 := f44.ext E33
  have f46 := f45.keep K35 (ninS (Nat.ne_of_lt (Nat.lt_of_lt_of_le f44.lt (Nat.le_of_eq g33.symm))) nin0)
  have z48 := Nat.le_trans z36 K35.1
  have o49 := o38.keep K35 (allS g_b33 all0)
  obtain ⟨cq47, kq47, q47a, q47b, q47c⟩ := isOf hZ rfl qf35_0
  obtain ⟨_, _, ⟨T47, L47, k47, n47⟩, -, X47, ⟨Lc47, hQ47, l47, y47, z47⟩, st47⟩ := X35.virtualBack hx (y := (⟨"com/example/shardwright/shardwright/cli/CsvReader$Row", "isBlank", "()Z"⟩ : MethodName)) (z := (⟨"com/example/shardwright/shardwright/cli/CsvReader$Row", "isBlank", "()Z"⟩ : MethodName)) hown (mvT hZ (own_W hw 84 rfl)) (mvT hZ (own_W hw 85 rfl)) (notFace_of_selects (args := #[]) (mvT hZ (own_W hw 87 rfl))) (mvT hZ (own_W hw 87 rfl)) (mvT hZ (own_W hw 86 rfl)) (by decide) (backOf (W := 0) (rm13_1 l Z a0 hw [] b33 b1 k1 (nar .byte (pi4.toInt8.toInt32)) T35.heap n0 z48 o49 qf35_2 f46) hZ (own_W hw 88 rfl) (own_W hw 68 rfl) (by decide) (by decide)) q47a q47c (g := (mkF m 144 #[.val (.long pl1), .second, .val (.int pi2), .val (.int pi3), .val (.int pi4), .val (.int pi5), .val (.int pi6), .val (.int (1 : Int32)), .val (.ref b1), .val (.int (2 : Int32)), .val (.ref b4), .val (.ref b33)] [(.ref b33)])) rfl (by rw [hml]; rfl) (Steps.refl _) (argsL := []) (rest := []) (lenOf pd_8 rfl) rfl (by show 2 * 0 + _ ≤ _; exact Nat.le_of_eq rfl) (hb hby at_144) (fun _ _ => ⟨rfl, rfl, (by decide : 6 + 0 ≤ _), (by decide : 19 + 0 ≤ _)⟩)
  dsimp only [Pt.U, Pt.locs, Pt.cells, Pt.slots] at X47 l47 y47 z47 st47 hQ47
  subst l47 y47 z47
  obtain ⟨rfl, N47q, eq47⟩ := hQ47
  have N47 := Fr.app N35 N47q
  obtain ⟨fs, hr, hrun, hended, hW, hsame⟩ := X47.leave (v := some (.int (1 : Int32))) (fun h => by rw [Bd.returns] at h; cases h)
  refine ⟨_, _, pre0 _ ?_, hrun, hended, _, _, rfl, ?_, ⟨_, rfl⟩, hW, hsame.mono (by decide) (by decide)⟩
  · show Stp p e below s₁ m 0 #[.val (.long pl1), .second, .val (.int pi2), .val (.int pi3), .val (.int pi4), .val (.int pi5), .val (.int pi6), .unset, .unset, .unset, .unset, .unset] [] _
    refine XS.iloadN X0.here hx rfl (hb hby at_0) rfl ?_
    show Stp p e below s₁ m 1 #[.val (.long pl1), .second, .val (.int pi2), .val (.int pi3), .val (.int pi4), .val (.int pi5), .val (.int pi6), .unset, .unset, .unset, .unset, .unset] [(.int pi2)] _
    refine XS.iconst X0.here hx rfl (hb hby at_1) ?_
    show Stp p e below s₁ m 2 #[.val (.long pl1), .second, .val (.int pi2), .val (.int pi3), .val (.int pi4), .val (.int pi5), .val (.int pi6), .unset, .unset, .unset, .unset, .unset] [(.int (3 : Int32)), (.int pi2)] _
    refine XS.iand X0.here hx rfl (hb hby at_2) rfl ?_
    show Stp p e below s₁ m 3 #[.val (.long pl1), .second, .val (.int pi2), .val (.int pi3), .val (.int pi4), .val (.int pi5), .val (.int pi6), .unset, .unset, .unset, .unset, .unset] [(.int (pi2 &&& (3 : Int32)))] _
    refine XS.istore X0.here hx rfl (hb hby at_3) rfl (l' := #[.val (.long pl1), .second, .val (.int pi2), .val (.int pi3), .val (.int pi4), .val (.int pi5), .val (.int pi6), .val (.int (pi2 &&& (3 : Int32))), .unset, .unset, .unset, .unset]) rfl ?_
    show Stp p e below s₁ m 5 #[.val (.long pl1), .second, .val (.int pi2), .val (.int pi3), .val (.int pi4), .val (.int pi5), .val (.int pi6), .val (.int (pi2 &&& (3 : Int32))), .unset, .unset, .unset, .unset] [] _
    rw [show (pi2 &&& (3 : Int32)) = (1 : Int32) from hc3_1]
    show Stp p e below s₁ m 5 #[.val (.long pl1), .second, .val (.int pi2), .val (.int pi3), .val (.int pi4), .val (.int pi5), .val (.int pi6), .val (.int (1 : Int32)), .unset, .unset, .unset, .unset] [] _
    refine XS.iload X0.here hx rfl (hb hby at_5) rfl ?_
    show Stp p e below s₁ m 7 #[.val (.long pl1), .second, .val (.int pi2), .val (.int pi3), .val (.int pi4), .val (.int pi5), .val (.int pi6), .val (.int (1 : Int32)), .unset, .unset, .unset, .unset] [(.int (1 : Int32))] _
    refine st1 _ ?_
    show Stp p e below T1 m 9 #[.val (.long pl1), .second, .val (.int pi2), .val (.int pi3), .val (.int pi4), .val (.int pi5), .val (.int pi6), .val (.int (1 : Int32)), .unset, .unset, .unset, .unset] [(.ref b1)] _
    refine XS.astore X1.here hx rfl (hb hby at_9) rfl rfl (l' := #[.val (.long pl1), .second, .val (.int pi2), .val (.int pi3), .val (.int pi4), .val (.int pi5), .val (.int pi6), .val (.int (1 : Int32)), .val (.ref b1), .unset, .unset, .unset]) rfl ?_
    show Stp p e below T1 m 11 #[.val (.long pl1), .second, .val (.int pi2), .val (.int pi3), .val (.int pi4), .val (.int pi5), .val (.int pi6), .val (.int (1 : Int32)), .val (.ref b1), .unset, .unset, .unset] [] _
    refine XS.iload X1.here hx rfl (hb hby at_11) rfl ?_
    show Stp p e below T1 m 13 #[.val (.long pl1), .second, .val (.int pi2), .val (.int pi3), .val (.int pi4), .val (.int pi5), .val (.int pi6), .val (.int (1 : Int32)), .val (.ref b1), .unset, .unset, .unset] [(.int (1 : Int32))] _
    refine XS.ifNo X1.here hx rfl (hb hby at_13) rfl ((if0 _ _).trans (tlt (by decide : (0 : Int32) < (1 : Int32))).2.2.2) ?_
    show Stp p e below T1 m 16 #[.val (.long pl1), .second, .val (.int pi2), .val (.int pi3), .val (.int pi4), .val (.int pi5), .val (.int pi6), .val (.int (1 : Int32)), .val (.ref b1), .unset, .unset, .unset] [] _
    refine XS.aload X1.here hx rfl (hb hby at_16) rfl rfl ?_
    show Stp p e below T1 m 18 #[.val (.long pl1), .second, .val (.int pi2), .val (.int pi3), .val (.int pi4), .val (.int pi5), .val (.int pi6), .val (.int (1 : Int32)), .val (.ref b1), .unset, .unset, .unset] [(.ref b1)] _
    refine XS.iconst X1.here hx rfl (hb hby at_18) ?_
    show Stp p e below T1 m 19 #[.val (.long pl1), .second, .val (.int pi2), .val (.int pi3), .val (.int pi4), .val (.int pi5), .val (.int pi6), .val (.int (1 : Int32)), .val (.ref b1), .unset, .unset, .unset] [(.int (0 : Int32)), (.ref b1)] _
    refine XS.iload X1.here hx rfl (hb hby at_19) rfl ?_
    show Stp p e below T1 m 21 #[.val (.long pl1), .second, .val (.int pi2), .val (.int pi3), .val (.int pi4), .val (.int pi5), .val (.int pi6), .val (.int (1 : Int32)), .val (.ref b1), .unset, .unset, .unset] [(.int pi4), (.int (0 : Int32)), (.ref b1)] _
    refine XS.i2b X1.here hx rfl (hb hby at_21) rfl ?_
    show Stp p e below T1 m 22 #[.val (.long pl1), .second, .val (.int pi2), .val (.int pi3), .val (.int pi4), .val (.int pi5), .val (.int pi6), .val (.int (1 : Int32)), .val (.ref b1), .unset, .unset, .unset] [(.int (pi4.toInt8.toInt32)), (.int (0 : Int32)), (.ref b1)] _
    refine st3 _ ?_
    show Stp p e below T3 m 23 #[.val (.long pl1), .second, .val (.int pi2), .val (.int pi3), .val (.int pi4), .val (.int pi5), .val (.int pi6), .val (.int (1 : Int32)), .val (.ref b1), .unset, .unset, .unset] [] _
    refine XS.iload X3.here hx rfl (hb hby at_23) rfl ?_
    show Stp p e below T3 m 25 #[.val (.long pl1), .second, .val (.int pi2), .val (.int pi3), .val (.int pi4), .val (.int pi5), .val (.int pi6), .val (.int (1 : Int32)), .val (.ref b1), .unset, .unset, .unset] [(.int (1 : Int32))] _
    refine XS.iconst X3.here hx rfl (hb hby at_25) ?_
    show Stp p e below T3 m 26 #[.val (.long pl1), .second, .val (.int pi2), .val (.int pi3), .val (.int pi4), .val (.int pi5), .val (.int pi6), .val (.int (1 : Int32)), .val (.ref b1), .unset, .unset, .unset] [(.int (1 : Int32)), (.int (1 : Int32))] _
    refine XS.icmpYes X3.here hx rfl (pc0 := 26) (pc' := 36) rfl (hb hby at_26) rfl (flt (by simp : ¬ ((1 : Int32) < (1 : Int32)))).2.2.2 (by decide) (by decide) ?_
    show Stp p e below T3 m 36 #[.val (.long pl1), .second, .val (.int pi2), .val (.int pi3), .val (.int pi4), .val (.int pi5), .val (.int pi6), .val (.int (1 : Int32)), .val (.ref b1), .unset, .unset, .unset] [] _
    refine XS.iload X3.here hx rfl (hb hby at_36) rfl ?_
    show Stp p e below T3 m 38 #[.val (.long pl1), .second, .val (.int pi2), .val (.int pi3), .val (.int pi4), .val (.int pi5), .val (.int pi6), .val (.int (1 : Int32)), .val (.ref b1), .unset, .unset, .unset] [(.int (1 : Int32))] _
    refine XS.iconst X3.here hx rfl (hb hby at_38) ?_
    show Stp p e below T3 m 39 #[.val (.long pl1), .second, .val (.int pi2), .val (.int pi3), .val (.int pi4), .val (.int pi5), .val (.int pi6), .val (.int (1 : Int32)), .val (.ref b1), .unset, .unset, .unset] [(.int (2 : Int32)), (.int (1 : Int32))] _
    refine XS.icmpYes X3.here hx rfl (pc0 := 39) (pc' := 49) rfl (hb hby at_39) rfl (flt (by decide : ¬ ((2 : Int32) < (1 : Int32)))).2.2.2 (by decide) (by decide) ?_
    show Stp p e below T3 m 49 #[.val (.long pl1), .second, .val (.int pi2), .val (.int pi3), .val (.int pi4), .val (.int pi5), .val (.int pi6), .val (.int (1 : Int32)), .val (.ref b1), .unset, .unset, .unset] [] _
    refine XS.iloadN X3.here hx rfl (hb hby at_49) rfl ?_
    show Stp p e below T3 m 50 #[.val (.long pl1), .second, .val (.int pi2), .val (.int pi3), .val (.int pi4), .val (.int pi5), .val (.int pi6), .val (.int (1 : Int32)), .val (.ref b1), .unset, .unset, .unset] [(.int pi3)] _
    refine XS.iconst X3.here hx rfl (hb hby at_50) ?_
    show Stp p e below T3 m 51 #[.val (.long pl1), .second, .val (.int pi2), .val (.int pi3), .val (.int pi4), .val (.int pi5), .val (.int pi6), .val (.int (1 : Int32)), .val (.ref b1), .unset, .unset, .unset] [(.int (3 : Int32)), (.int pi3)] _
    refine XS.iand X3.here hx rfl (hb hby at_51) rfl ?_
    show Stp p e below T3 m 52 #[.val (.long pl1), .second, .val (.int pi2), .val (.int pi3), .val (.int pi4), .val (.int pi5), .val (.int pi6), .val (.int (1 : Int32)), .val (.ref b1), .unset, .unset, .unset] [(.int (pi3 &&& (3 : Int32)))] _
    refine XS.istore X3.here hx rfl (hb hby at_52) rfl (l' := #[.val (.long pl1), .second, .val (.int pi2), .val (.int pi3), .val (.int pi4), .val (.int pi5), .val (.int pi6), .val (.int (1 : Int32)), .val (.ref b1), .val (.int (pi3 &&& (3 : Int32))), .unset, .unset]) rfl ?_
    show Stp p e below T3 m 54 #[.val (.long pl1), .second, .val (.int pi2), .val (.int pi3), .val (.int pi4), .val (.int pi5), .val (.int pi6), .val (.int (1 : Int32)), .val (.ref b1), .val (.int (pi3 &&& (3 : Int32))), .unset, .unset] [] _
    rw [show (pi3 &&& (3 : Int32)) = (2 : Int32) from hc52_4]
    show Stp p e below T3 m 54 #[.val (.long pl1), .second, .val (.int pi2), .val (.int pi3), .val (.int pi4), .val (.int pi5), .val (.int pi6), .val (.int (1 : Int32)), .val (.ref b1), .val (.int (2 : Int32)), .unset, .unset] [] _
    refine st4 _ ?_
    show Stp p e below T4 m 57 #[.val (.long pl1), .second, .val (.int pi2), .val (.int pi3), .val (.int pi4), .val (.int pi5), .val (.int pi6), .val (.int (1 : Int32)), .val (.ref b1), .val (.int (2 : Int32)), .unset, .unset] [(.ref b4)] _
    refine XS.dup X4.here hx rfl (hb hby at_57) rfl rfl ?_
    show Stp p e below T4 m 58 #[.val (.long pl1), .second, .val (.int pi2), .val (.int pi3), .val (.int pi4), .val (.int pi5), .val (.int pi6), .val (.int (1 : Int32)), .val (.ref b1), .val (.int (2 : Int32)), .unset, .unset] [(.ref b4), (.ref b4)] _
    refine st7.trans ?_
    show Stp p e below T7 m 61 #[.val (.long pl1), .second, .val (.int pi2), .val (.int pi3), .val (.int pi4), .val (.int pi5), .val (.int pi6), .val (.int (1 : Int32)), .val (.ref b1), .val (.int (2 : Int32)), .unset, .unset] [(.ref b4)] _
    refine XS.astore X7.here hx rfl (hb hby at_61) rfl rfl (l' := #[.val (.long pl1), .second, .val (.int pi2), .val (.int pi3), .val (.int pi4), .val (.int pi5), .val (.int pi6), .val (.int (1 : Int32)), .val (.ref b1), .val (.int (2 : Int32)), .val (.ref b4), .unset]) rfl ?_
    show Stp p e below T7 m 63 #[.val (.long pl1), .second, .val (.int pi2), .val (.int pi3), .val (.int pi4), .val (.int pi5), .val (.int pi6), .val (.int (1 : Int32)), .val (.ref b1), .val (.int (2 : Int32)), .val (.ref b4), .unset] [] _
    refine XS.iload X7.here hx rfl (hb hby at_63) rfl ?_
    show Stp p e below T7 m 65 #[.val (.long pl1), .second, .val (.int pi2), .val (.int pi3), .val (.int pi4), .val (.int pi5), .val (.int pi6), .val (.int (1 : Int32)), .val (.ref b1), .val (.int (2 : Int32)), .val (.ref b4), .unset] [(.int (2 : Int32))] _
    refine XS.ifNo X7.here hx rfl (hb hby at_65) rfl ((if0 _ _).trans (tlt (by decide : (0 : Int32) < (2 : Int32))).2.2.2) ?_
    show Stp p e below T7 m 68 #[.val (.long pl1), .second, .val (.int pi2), .val (.int pi3), .val (.int pi4), .val (.int pi5), .val (.int pi6), .val (.int (1 : Int32)), .val (.ref b1), .val (.int (2 : Int32)), .val (.ref b4), .unset] [] _
    refine XS.aload X7.here hx rfl (hb hby at_68) rfl rfl ?_
    show Stp p e below T7 m 70 #[.val (.long pl1), .second, .val (.int pi2), .val (.int pi3), .val (.int pi4), .val (.int pi5), .val (.int pi6), .val (.int (1 : Int32)), .val (.ref b1), .val (.int (2 : Int32)), .val (.ref b4), .unset] [(.ref b4)] _
    refine XS.iloadN X7.here hx rfl (hb hby at_70) rfl ?_
    show Stp p e below T7 m 71 #[.val (.long pl1), .second, .val (.int pi2), .val (.int pi3), .val (.int pi4), .val (.int pi5), .val (.int pi6), .val (.int (1 : Int32)), .val (.ref b1), .val (.int (2 : Int32)), .val (.ref b4), .unset] [(.int pi3), (.ref b4)] _
    refine XS.iconst X7.here hx rfl (hb hby at_71) ?_
    show Stp p e below T7 m 72 #[.val (.long pl1), .second, .val (.int pi2), .val (.int pi3), .val (.int pi4), .val (.int pi5), .val (.int pi6), .val (.int (1 : Int32)), .val (.ref b1), .val (.int (2 : Int32)), .val (.ref b4), .unset] [(.int (2 : Int32)), (.int pi3), (.ref b4)] _
    refine XS.iushr X7.here hx rfl (hb hby at_72) rfl ?_
    show Stp p e below T7 m 73 #[.val (.long pl1), .second, .val (.int pi2), .val (.int pi3), .val (.int pi4), .val (.int pi5), .val (.int pi6), .val (.int (1 : Int32)), .val (.ref b1), .val (.int (2 : Int32)), .val (.ref b4), .unset] [(.int ((pi3.toUInt32 >>> ((2 : Int32) &&& 31).toUInt32).toInt32)), (.ref b4)] _
    refine XS.iload X7.here hx rfl (hb hby at_73) rfl ?_
    show Stp p e below T7 m 75 #[.val (.long pl1), .second, .val (.int pi2), .val (.int pi3), .val (.int pi4), .val (.int pi5), .val (.int pi6), .val (.int (1 : Int32)), .val (.ref b1), .val (.int (2 : Int32)), .val (.ref b4), .unset] [(.int pi4), (.int ((pi3.toUInt32 >>> ((2 : Int32) &&& 31).toUInt32).toInt32)), (.ref b4)] _
    refine st12 _ ?_
    show Stp p e below T12 m 78 #[.val (.long pl1), .second, .val (.int pi2), .val (.int pi3), .val (.int pi4), .val (.int pi5), .val (.int pi6), .val (.int (1 : Int32)), .val (.ref b1), .val (.int (2 : Int32)), .val (.ref b4), .unset] [(.ref b12), (.ref b4)] _
    refine st19.trans ?_
    show Stp p e below T19 m 83 #[.val (.long pl1), .second, .val (.int pi2), .val (.int pi3), .val (.int pi4), .val (.int pi5), .val (.int pi6), .val (.int (1 : Int32)), .val (.ref b1), .val (.int (2 : Int32)), .val (.ref b4), .unset] [(.int (1 : Int32))] _
    refine XS.pop X19.here hx rfl (hb hby at_83) rfl rfl ?_
    show Stp p e below T19 m 84 #[.val (.long pl1), .second, .val (.int pi2), .val (.int pi3), .val (.int pi4), .val (.int pi5), .val (.int pi6), .val (.int (1 : Int32)), .val (.ref b1), .val (.int (2 : Int32)), .val (.ref b4), .unset] [] _
    refine XS.iload X19.here hx rfl (hb hby at_84) rfl ?_
    show Stp p e below T19 m 86 #[.val (.long pl1), .second, .val (.int pi2), .val (.int pi3), .val (.int pi4), .val (.int pi5), .val (.int pi6), .val (.int (1 : Int32)), .val (.ref b1), .val (.int (2 : Int32)), .val (.ref b4), .unset] [(.int (2 : Int32))] _
    refine XS.iconst X19.here hx rfl (hb hby at_86) ?_
    show Stp p e below T19 m 87 #[.val (.long pl1), .second, .val (.int pi2), .val (.int pi3), .val (.int pi4), .val (.int pi5), .val (.int pi6), .val (.int (1 : Int32)), .val (.ref b1), .val (.int (2 : Int32)), .val (.ref b4), .unset] [(.int (1 : Int32)), (.int (2 : Int32))] _
    refine XS.icmpNo X19.here hx rfl (hb hby at_87) rfl (tlt (by decide : (1 : Int32) < (2 : Int32))).2.2.2 ?_
    show Stp p e below T19 m 90 #[.val (.long pl1), .second, .val (.int pi2), .val (.int pi3), .val (.int pi4), .val (.int pi5), .val (.int pi6), .val (.int (1 : Int32)), .val (.ref b1), .val (.int (2 : Int32)), .val (.ref b4), .unset] [] _
    refine XS.aload X19.here hx rfl (hb hby at_90) rfl rfl ?_
    show Stp p e below T19 m 92 #[.val (.long pl1), .second, .val (.int pi2), .val (.int pi3), .val (.int pi4), .val (.int pi5), .val (.int pi6), .val (.int (1 : Int32)), .val (.ref b1), .val (.int (2 : Int32)), .val (.ref b4), .unset] [(.ref b4)] _
    refine XS.iloadN X19.here hx rfl (hb hby at_92) rfl ?_
    show Stp p e below T19 m 93 #[.val (.long pl1), .second, .val (.int pi2), .val (.int pi3), .val (.int pi4), .val (.int pi5), .val (.int pi6), .val (.int (1 : Int32)), .val (.ref b1), .val (.int (2 : Int32)), .val (.ref b4), .unset] [(.int pi3), (.ref b4)] _
    refine XS.iconst X19.here hx rfl (hb hby at_93) ?_
    show Stp p e below T19 m 94 #[.val (.long pl1), .second, .val (.int pi2), .val (.int pi3), .val (.int pi4), .val (.int pi5), .val (.int pi6), .val (.int (1 : Int32)), .val (.ref b1), .val (.int (2 : Int32)), .val (.ref b4), .unset] [(.int (3 : Int32)), (.int pi3), (.ref b4)] _
    refine XS.iushr X19.here hx rfl (hb hby at_94) rfl ?_
    show Stp p e below T19 m 95 #[.val (.long pl1), .second, .val (.int pi2), .val (.int pi3), .val (.int pi4), .val (.int pi5), .val (.int pi6), .val (.int (1 : Int32)), .val (.ref b1), .val (.int (2 : Int32)), .val (.ref b4), .unset] [(.int ((pi3.toUInt32 >>> ((3 : Int32) &&& 31).toUInt32).toInt32)), (.ref b4)] _
    refine XS.iload X19.here hx rfl (hb hby at_95) rfl ?_
    show Stp p e below T19 m 97 #[.val (.long pl1), .second, .val (.int pi2), .val (.int pi3), .val (.int pi4), .val (.int pi5), .val (.int pi6), .val (.int (1 : Int32)), .val (.ref b1), .val (.int (2 : Int32)), .val (.ref b4), .unset] [(.int pi5), (.int ((pi3.toUInt32 >>> ((3 : Int32) &&& 31).toUInt32).toInt32)), (.ref b4)] _
    refine st22 _ ?_
    show Stp p e below T22 m 100 #[.val (.long pl1), .second, .val (.int pi2), .val (.int pi3), .val (.int pi4), .val (.int pi5), .val (.int pi6), .val (.int (1 : Int32)), .val (.ref b1), .val (.int (2 : Int32)), .val (.ref b4), .unset] [(.ref b22), (.ref b4)] _
    refine st30.trans ?_
    show Stp p e below T30 m 105 #[.val (.long pl1), .second, .val (.int pi2), .val (.int pi3), .val (.int pi4), .val (.int pi5), .val (.int pi6), .val (.int (1 : Int32)), .val (.ref b1), .val (.int (2 : Int32)), .val (.ref b4), .unset] [(.int (1 : Int32))] _
    refine XS.pop X30.here hx rfl (hb hby at_105) rfl rfl ?_
    show Stp p e below T30 m 106 #[.val (.long pl1), .second, .val (.int pi2), .val (.int pi3), .val (.int pi4), .val (.int pi5), .val (.int pi6), .val (.int (1 : Int32)), .val (.ref b1), .val (.int (2 : Int32)), .val (.ref b4), .unset] [] _
    refine XS.iload X30.here hx rfl (hb hby at_106) rfl ?_
    show Stp p e below T30 m 108 #[.val (.long pl1), .second, .val (.int pi2), .val (.int pi3), .val (.int pi4), .val (.int pi5), .val (.int pi6), .val (.int (1 : Int32)), .val (.ref b1), .val (.int (2 : Int32)), .val (.ref b4), .unset] [(.int (2 : Int32))] _
    refine XS.iconst X30.here hx rfl (hb hby at_108) ?_
    show Stp p e below T30 m 109 #[.val (.long pl1), .second, .val (.int pi2), .val (.int pi3), .val (.int pi4), .val (.int pi5), .val (.int pi6), .val (.int (1 : Int32)), .val (.ref b1), .val (.int (2 : Int32)), .val (.ref b4), .unset] [(.int (2 : Int32)), (.int (2 : Int32))] _
    refine XS.icmpYes X30.here hx rfl (pc0 := 109) (pc' := 128) rfl (hb hby at_109) rfl (flt (by simp : ¬ ((2 : Int32) < (2 : Int32)))).2.2.2 (by decide) (by decide) ?_
    show Stp p e below T30 m 128 #[.val (.long pl1), .second, .val (.int pi2), .val (.int pi3), .val (.int pi4), .val (.int pi5), .val (.int pi6), .val (.int (1 : Int32)), .val (.ref b1), .val (.int (2 : Int32)), .val (.ref b4), .unset] [] _
    refine st33 _ ?_
    show Stp p e below T33 m 131 #[.val (.long pl1), .second, .val (.int pi2), .val (.int pi3), .val (.int pi4), .val (.int pi5), .val (.int pi6), .val (.int (1 : Int32)), .val (.ref b1), .val (.int (2 : Int32)), .val (.ref b4), .unset] [(.ref b33)] _
    refine XS.dup X33.here hx rfl (hb hby at_131) rfl rfl ?_
    show Stp p e below T33 m 132 #[.val (.long pl1), .second, .val (.int pi2), .val (.int pi3), .val (.int pi4), .val (.int pi5), .val (.int pi6), .val (.int (1 : Int32)), .val (.ref b1), .val (.int (2 : Int32)), .val (.ref b4), .unset] [(.ref b33), (.ref b33)] _
    refine XS.lloadN X33.here hx rfl (hb hby at_132) rfl ?_
    show Stp p e below T33 m 133 #[.val (.long pl1), .second, .val (.int pi2), .val (.int pi3), .val (.int pi4), .val (.int pi5), .val (.int pi6), .val (.int (1 : Int32)), .val (.ref b1), .val (.int (2 : Int32)), .val (.ref b4), .unset] [(.long pl1), (.ref b33), (.ref b33)] _
    refine XS.aload X33.here hx rfl (hb hby at_133) rfl rfl ?_
    show Stp p e below T33 m 135 #[.val (.long pl1), .second, .val (.int pi2), .val (.int pi3), .val (.int pi4), .val (.int pi5), .val (.int pi6), .val (.int (1 : Int32)), .val (.ref b1), .val (.int (2 : Int32)), .val (.ref b4), .unset] [(.ref b1), (.long pl1), (.ref b33), (.ref b33)] _
    refine XS.aload X33.here hx rfl (hb hby at_135) rfl rfl ?_
    show Stp p e below T33 m 137 #[.val (.long pl1), .second, .val (.int pi2), .val (.int pi3), .val (.int pi4), .val (.int pi5), .val (.int pi6), .val (.int (1 : Int32)), .val (.ref b1), .val (.int (2 : Int32)), .val (.ref b4), .unset] [(.ref b4), (.ref b1), (.long pl1), (.ref b33), (.ref b33)] _
    refine st35.trans ?_
    show Stp p e below T35 m 140 #[.val (.long pl1), .second, .val (.int pi2), .val (.int pi3), .val (.int pi4), .val (.int pi5), .val (.int pi6), .val (.int (1 : Int32)), .val (.ref b1), .val (.int (2 : Int32)), .val (.ref b4), .unset] [(.ref b33)] _
    refine XS.astore X35.here hx rfl (hb hby at_140) rfl rfl (l' := #[.val (.long pl1), .second, .val (.int pi2), .val (.int pi3), .val (.int pi4), .val (.int pi5), .val (.int pi6), .val (.int (1 : Int32)), .val (.ref b1), .val (.int (2 : Int32)), .val (.ref b4), .val (.ref b33)]) rfl ?_
    show Stp p e below T35 m 142 #[.val (.long pl1), .second, .val (.int pi2), .val (.int pi3), .val (.int pi4), .val (.int pi5), .val (.int pi6), .val (.int (1 : Int32)), .val (.ref b1), .val (.int (2 : Int32)), .val (.ref b4), .val (.ref b33)] [] _
    refine XS.aload X35.here hx rfl (hb hby at_142) rfl rfl ?_
    show Stp p e below T35 m 144 #[.val (.long pl1), .second, .val (.int pi2), .val (.int pi3), .val (.int pi4), .val (.int pi5), .val (.int pi6), .val (.int (1 : Int32)), .val (.ref b1), .val (.int (2 : Int32)), .val (.ref b4), .val (.ref b33)] [(.ref b33)] _
    refine st47.trans ?_
    show Stp p e below T47 m 147 #[.val (.long pl1), .second, .val (.int pi2), .val (.int pi3), .val (.int pi4), .val (.int pi5), .val (.int pi6), .val (.int (1 : Int32)), .val (.ref b1), .val (.int (2 : Int32)), .val (.ref b4), .val (.ref b33)] [(.int (0 : Int32))] _
    refine XS.iload X47.here hx rfl (hb hby at_147) rfl ?_
    show Stp p e below T47 m 149 #[.val (.long pl1), .second, .val (.int pi2), .val (.int pi3), .val (.int pi4), .val (.int pi5), .val (.int pi6), .val (.int (1 : Int32)), .val (.ref b1), .val (.int (2 : Int32)), .val (.ref b4), .val (.ref b33)] [(.int (1 : Int32)), (.int (0 : Int32))] _
    refine XS.ifYes X47.here hx rfl (pc0 := 149) (pc' := 156) rfl (hb hby at_149) rfl ((if0 _ _).trans (feq (by decide : ¬ ((1 : Int32) = (0 : Int32)))).2) (by decide) (by decide) ?_
    show Stp p e below T47 m 156 #[.val (.long pl1), .second, .val (.int pi2), .val (.int pi3), .val (.int pi4), .val (.int pi5), .val (.int pi6), .val (.int (1 : Int32)), .val (.ref b1), .val (.int (2 : Int32)), .val (.ref b4), .val (.ref b33)] [(.int (0 : Int32))] _
    refine XS.iconst X47.here hx rfl (hb hby at_156) ?_
    show Stp p e below T47 m 157 #[.val (.long pl1), .second, .val (.int pi2), .val (.int pi3), .val (.int pi4), .val (.int pi5), .val (.int pi6), .val (.int (1 : Int32)), .val (.ref b1), .val (.int (2 : Int32)), .val (.ref b4), .val (.ref b33)] [(.int (0 : Int32)), (.int (0 : Int32))] _
    refine XS.icmpNo X47.here hx rfl (hb hby at_157) rfl (teq (rfl : (0 : Int32) = (0 : Int32))).2 ?_
    show Stp p e below T47 m 160 #[.val (.long pl1), .second, .val (.int pi2), .val (.int pi3), .val (.int pi4), .val (.int pi5), .val (.int pi6), .val (.int (1 : Int32)), .val (.ref b1), .val (.int (2 : Int32)), .val (.ref b4), .val (.ref b33)] [] _
    refine XS.iconst X47.here hx rfl (hb hby at_160) ?_
    show Stp p e below T47 m 161 #[.val (.long pl1), .second, .val (.int pi2), .val (.int pi3), .val (.int pi4), .val (.int pi5), .val (.int pi6), .val (.int (1 : Int32)), .val (.ref b1), .val (.int (2 : Int32)), .val (.ref b4), .val (.ref b33)] [(.int (1 : Int32))] _
    refine XS.goto X47.here hx rfl (pc0 := 161) (pc' := 165) rfl (hb hby at_161) (by decide) (by decide) ?_
    show Stp p e below T47 m 165 #[.val (.long pl1), .second, .val (.int pi2), .val (.int pi3), .val (.int pi4), .val (.int pi5), .val (.int pi6), .val (.int (1 : Int32)), .val (.ref b1), .val (.int (2 : Int32)), .val (.ref b4), .val (.ref b33)] [(.int (1 : Int32))] _
    exact retN X47 hx (t := .boolean) Bd.returns (by simp) (hb hby at_165) hr
  · exact ⟨rfl, N47⟩
set_option maxRecDepth 65536 in
set_option maxHeartbeats 40000000 in
theorem rm0_ftfff (l : Launch) (Z : State) (a0 : Array Value) (hw : ∀ d ∈ tables_1, d.before a0 Z = true) (ws : List Jvm.Cond) (pl1 : Int64) (pi2 : Int32) (pi3 : Int32) (pi4 : Int32) (pi5 : Int32) (pi6 : Int32) (w_DEF : Addr) (kk_w_DEF : ClassId) (h0 : Heap) (n0 : Nat) (Z0 : n0 ≤ h0.size) (O0 : Old Z n0 h0) (S_DEFAULTCAPACITY_EMPTY_ELEMENTDATA : Sta Z Z.heap "java/util/ArrayList" "DEFAULTCAPACITY_EMPTY_ELEMENTDATA" "[Ljava/lang/Object;" (.ref w_DEF)) (V_w_DEF : Arv Z Z.heap w_DEF kk_w_DEF (.object "java/lang/Object") (0 : Int32) [] .null) (hc3_0 : ¬ ((pi2 &&& (3 : Int32)) = (0 : Int32))) (hc3_1 : (pi2 &&& (3 : Int32)) = (1 : Int32)) (hc52_2 : ¬ ((pi3 &&& (3 : Int32)) = (0 : Int32))) (hc52_3 : ¬ ((pi3 &&& (3 : Int32)) = (1 : Int32))) (hc52_4 : ¬ ((pi3 &&& (3 : Int32)) = (2 : Int32))) :
    MetFree l x (head1 (Jvm.Cond.code x code maxLocals ret :: ws) room_1) (fun a U => a = #[(.long pl1), (.int pi2), (.int pi3), (.int pi4), (.int pi5), (.int pi6)] ∧ Z.Warmed39 U.vm ∧ U.heap = h0) (fun _ _ _ _ _ => True) (fun _ U o U' => ∃ v L, o = .returned v ∧ Q0 v L n0 ∧ FrameEnd U o U' L room_1.cells room_1.slots) := by
  refine MetFree.of_bodySF (plainFor_of_name pn_0) hisR ?_
  intro p e s m args below meth c s₁ Bd hml0 hP hK
  obtain ⟨rfl, hZ, hh⟩ := hP
  have hx := Bd.exec
  have hby := Bd.bytes
  have hml : c.maxLocals = 12 := hml0
  have hown : s.vm.findClass "com/example/shardwright/shardwright/cli/RowIsBlankPinLaw" = some m.cls := findClass_of_methodNamed Bd.named
  have hnm := (name_of_methodNamed Bd.named Bd.method).1
  have X0 : Stand p l e room_1 s m #[(.long pl1), (.int pi2), (.int pi3), (.int pi4), (.int pi5), (.int pi6)] below meth c s₁ [] 0 0 := Stand.of_body Bd
  have e0 : s₁.heap = h0 := by rw [← hh, Bd.state]; rfl
  have N0 := Fr.nil n0
  have pre0 : ∀ t, Steps p.tables e below (s₁.setTop (mkF m 0 #[.val (.long pl1), .second, .val (.int pi2), .val (.int pi3), .val (.int pi4), .val (.int pi5), .val (.int pi6), .unset, .unset, .unset, .unset, .unset] [])) t → Steps p.tables e below (s₁.setTop (entryFrame m #[(.long pl1), (.int pi2), (.int pi3), (.int pi4), (.int pi5), (.int pi6)] maxLocals)) t := fun t k => castTop (ef_0 m pl1 pi2 pi3 pi4 pi5 pi6) k
  obtain ⟨T1, h1, k1, X1, e1, E1, A1, st1⟩ := newP X0 hx hZ (own_W hw 0 rfl) e0 (g := (mkF m 7 #[.val (.long pl1), .second, .val (.int pi2), .val (.int pi3), .val (.int pi4), .val (.int pi5), .val (.int pi6), .val (.int (1 : Int32)), .unset, .unset, .unset, .unset] [(.int (1 : Int32))])) rfl (hb hby at_7) rfl (by decide) (cap := 1) (by decide) (by decide) (by decide) (by decide)
  obtain ⟨b1, g1⟩ : ∃ z, z = h0.size := ⟨_, rfl⟩
  rw [← g1] at A1 st1
  have V1 : Arv Z h1 b1 k1 .byte (1 : Int32) [(.int (0 : Int32))] (.int (0 : Int32)) := (Arv.new A1 (by decide)).pad (pad_rep [] (.int (0 : Int32)) 1)
  have g_b1 : n0 ≤ b1 := Nat.le_trans Z0 (Nat.le_of_eq g1.symm)
  have V_c2 := V1
  obtain ⟨c2, Arc2, qc2, Sc2, Nc2, Hc2, Gc2⟩ := V_c2
  have hin3 : ¬ ((0 : Int32) < 0 ∨ c2.slots.size ≤ ((0 : Int32)).toNatClampNeg) := inb_of Sc2 ⟨by decide, by decide⟩
  obtain ⟨T3, h3, X3, e3, W3, st3⟩ := stB X1 hx hZ e1 Arc2 (j := (0 : Int32)) hin3 (g := (mkF m 22 #[.val (.long pl1), .second, .val (.int pi2), .val (.int pi3), .val (.int pi4), .val (.int pi5), .val (.int pi6), .val (.int (1 : Int32)), .val (.ref b1), .unset, .unset, .unset] [(.int (pi4.toInt8.toInt32)), (.int (0 : Int32)), (.ref b1)])) rfl rfl (hb hby at_22)
  have V3 : Arv Z h3 b1 k1 .byte (1 : Int32) [(.int (nar .byte (pi4.toInt8.toInt32)))] (.int (0 : Int32)) := Arv.set Arc2 qc2 Sc2 Nc2 Hc2 Gc2 (fits_nar_byte _) W3 0 rfl (Nat.le_of_ble_eq_true rfl)
  have N3 := Fr.snoc X3 N0 g_b1
  obtain ⟨T4, h4, X4, e4, E4, A4, D4, -, st4⟩ := newO X3 hx hZ hown (own_W hw 1 rfl) (own_W hw 2 rfl) (own_W hw 3 rfl) e3 (g := (mkF m 54 #[.val (.long pl1), .second, .val (.int pi2), .val (.int pi3), .val (.int pi4), .val (.int pi5), .val (.int pi6), .val (.int (1 : Int32)), .val (.ref b1), .val (.int (3 : Int32)), .unset, .unset] [])) rfl (hb hby at_54) (by decide) (by decide)
  obtain ⟨b4, g4⟩ : ∃ z, z = h3.size := ⟨_, rfl⟩
  rw [← g4] at A4 D4 st4
  have F_modCount_b4 : Fld Z h4 b4 "java/util/AbstractList" "modCount" "I" (.int (0 : Int32)) := D4 (Or.inl (own_W hw 23 rfl)) (ty := .int) (by decide)
  have F_elementData_b4 : Fld Z h4 b4 "java/util/ArrayList" "elementData" "[Ljava/lang/Object;" .null := D4 (Or.inl (own_W hw 26 rfl)) (ty := (.array (.object "java/lang/Object"))) (by decide)
  have F_size_b4 : Fld Z h4 b4 "java/util/ArrayList" "size" "I" (.int (0 : Int32)) := D4 (Or.inl (own_W hw 43 rfl)) (ty := .int) (by decide)
  have z5 := Nat.le_trans Z0 E1.1
  have z6 := Nat.le_trans z5 (Keep.of_wr W3).1
  have g_b4 : n0 ≤ b4 := Nat.le_trans z6 (Nat.le_of_eq g4.symm)
  have z8 := Nat.le_trans z6 E4.1
  have o9 := O0.ext E1
  have o10 := o9.wr W3 g_b1
  have o11 := o10.ext E4
  obtain ⟨_, _, ⟨T7, L7, k7, n7⟩, -, X7, ⟨Lc7, hQ7, l7, y7, z7⟩, st7⟩ := X4.specialBack hx (y := (⟨"java/util/ArrayList", "<init>", "()V"⟩ : MethodName)) rfl hown (mvT hZ (own_W hw 4 rfl)) (mvT hZ (own_W hw 5 rfl)) (mvT hZ (own_W hw 6 rfl)) (by decide) (backOf (W := 1) (rm1 l Z a0 hw [] b4 w_DEF (.int (0 : Int32)) .null (.int (0 : Int32)) h4 n0 z8 o11 A4 S_DEFAULTCAPACITY_EMPTY_ELEMENTDATA F_modCount_b4 F_elementData_b4 F_size_b4 g_b4) hZ (own_W hw 6 rfl) (own_W hw 3 rfl) (by decide) (by decide)) (g := (mkF m 58 #[.val (.long pl1), .second, .val (.int pi2), .val (.int pi3), .val (.int pi4), .val (.int pi5), .val (.int pi6), .val (.int (1 : Int32)), .val (.ref b1), .val (.int (3 : Int32)), .unset, .unset] [(.ref b4), (.ref b4)])) rfl (by rw [hml]; rfl) (Steps.refl _) (a := b4) (argsL := []) (rest := [(.ref b4)]) (lenOf pd_0 rfl) rfl (by show 2 * 0 + _ ≤ _; exact Nat.le_of_eq rfl) (hb hby at_58) (fun _ _ => ⟨rfl, e4, (by decide : 2 + 0 ≤ _), (by decide : 4 + 0 ≤ _)⟩)
  dsimp only [Pt.U, Pt.locs, Pt.cells, Pt.slots] at X7 l7 y7 z7 st7 hQ7
  subst l7 y7 z7
  obtain ⟨rfl, N7q, K7, qf7_0, qf7_1, qf7_2, qf7_3⟩ := hQ7
  have N7 := Fr.app N3 N7q
  have z13 := Nat.le_trans z8 K7.1
  have o14 := o11.keep K7 (allS g_b4 all0)
  obtain ⟨_, _, ⟨T12, L12, k12, n12⟩, -, X12, ⟨Lc12, hQ12, l12, y12, z12⟩, st12⟩ := Jvm.LawKit.callS X7 hx (y := (⟨"com/example/shardwright/shardwright/cli/RowIsBlankPinLaw", "field", "(II)[B"⟩ : MethodName)) hown (mvT hZ (own_W hw 27 rfl)) (mvT hZ (own_W hw 28 rfl)) (mvT hZ (own_W hw 29 rfl)) (mvT hZ (own_W hw 30 rfl)) (by decide) (backOf (W := 1) (rm5 l Z a0 hw [] ((pi3.toUInt32 >>> ((2 : Int32) &&& 31).toUInt32).toInt32) pi4 T7.heap n0 z13 o14 ) hZ (own_W hw 30 rfl) (own_W hw 29 rfl) (by decide) (by decide)) (g := (mkF m 75 #[.val (.long pl1), .second, .val (.int pi2), .val (.int pi3), .val (.int pi4), .val (.int pi5), .val (.int pi6), .val (.int (1 : Int32)), .val (.ref b1), .val (.int (3 : Int32)), .val (.ref b4), .unset] [(.int pi4), (.int ((pi3.toUInt32 >>> ((2 : Int32) &&& 31).toUInt32).toInt32)), (.ref b4)])) rfl (by rw [hml]; rfl) (argsL := [(.int ((pi3.toUInt32 >>> ((2 : Int32) &&& 31).toUInt32).toInt32)), (.int pi4)]) (rest := [(.ref b4)]) (lenOf pd_1 rfl) rfl (by show 2 * 0 + _ ≤ _; exact Nat.le_of_eq rfl) (hb hby at_75) (fun _ _ => ⟨rfl, rfl, (by decide : 2 + 1 ≤ _), (by decide : 4 + 1 ≤ _)⟩)
  dsimp only [Pt.U, Pt.locs, Pt.cells, Pt.slots] at X12 l12 y12 z12 st12 hQ12
  subst l12 y12 z12
  obtain ⟨b12, rfl, N12q, K12, qf12_0, qf12_1⟩ := hQ12
  have N12 := Fr.app N7 N12q
  have f15 := qf7_0.keep K12
  have f16 := qf7_1.keep K12 nin0
  have f17 := qf7_2.keep K12 nin0
  have f18 := qf7_3.keep K12 nin0
  have z20 := Nat.le_trans z13 K12.1
  have o21 := o14.keep K12 all0
  obtain ⟨cq19, kq19, q19a, q19b, q19c⟩ := isOf hZ rfl f15
  obtain ⟨_, _, ⟨T19, L19, k19, n19⟩, -, X19, ⟨Lc19, hQ19, l19, y19, z19⟩, st19⟩ := X12.interfaceBack hx (xi := (⟨"java/util/List", "add", "(Ljava/lang/Object;)Z"⟩ : MethodName)) (y := (⟨"java/util/ArrayList", "add", "(Ljava/lang/Object;)Z"⟩ : MethodName)) hown (mvT hZ (own_W hw 31 rfl)) (mvT hZ (own_W hw 32 rfl)) (mvT hZ (own_W hw 33 rfl)) (mvT hZ (own_W hw 34 rfl)) (mvT hZ (own_W hw 35 rfl)) (mvT hZ (own_W hw 36 rfl)) (mvT hZ (own_W hw 37 rfl)) (mvT hZ (own_W hw 38 rfl)) (by decide) (backOf (W := 0) (rm6_0 l Z a0 hw [] b4 b12 w_DEF kk_w_DEF (0 : Int32) T12.heap n0 z20 o21 f15 qf12_1 S_DEFAULTCAPACITY_EMPTY_ELEMENTDATA V_w_DEF f16 f17 f18 g_b4) hZ (own_W hw 39 rfl) (own_W hw 3 rfl) (by decide) (by decide)) q19a q19b q19c (g := (mkF m 78 #[.val (.long pl1), .second, .val (.int pi2), .val (.int pi3), .val (.int pi4), .val (.int pi5), .val (.int pi6), .val (.int (1 : Int32)), .val (.ref b1), .val (.int (3 : Int32)), .val (.ref b4), .unset] [(.ref b12), (.ref b4)])) rfl (by rw [hml]; rfl) (Steps.refl _) (argsL := [(.ref b12)]) (rest := []) (lenOf pd_2 rfl) rfl (by show 2 * 0 + _ ≤ _; exact Nat.le_of_eq rfl) (hb hby at_78) (fun _ _ => ⟨rfl, rfl, (by decide : 3 + 1 ≤ _), (by decide : 5 + 10 ≤ _)⟩)
  dsimp only [Pt.U, Pt.locs, Pt.cells, Pt.slots] at X19 l19 y19 z19 st19 hQ19
  subst l19 y19 z19
  obtain ⟨b19, b19_1, rfl, N19q, K19, qf19_0, qf19_1, qf19_2, qf19_3, qf19_4, qf19_5, qf19_6⟩ := hQ19
  have N19 := Fr.app N12 N19q
  have z23 := Nat.le_trans z20 K19.1
  have o24 := o21.keep K19 (allS g_b4 all0)
  obtain ⟨_, _, ⟨T22, L22, k22, n22⟩, -, X22, ⟨Lc22, hQ22, l22, y22, z22⟩, st22⟩ := Jvm.LawKit.callS X19 hx (y := (⟨"com/example/shardwright/shardwright/cli/RowIsBlankPinLaw", "field", "(II)[B"⟩ : MethodName)) hown (mvT hZ (own_W hw 27 rfl)) (mvT hZ (own_W hw 28 rfl)) (mvT hZ (own_W hw 29 rfl)) (mvT hZ (own_W hw 30 rfl)) (by decide) (backOf (W := 1) (rm5 l Z a0 hw [] ((pi3.toUInt32 >>> ((3 : Int32) &&& 31).toUInt32).toInt32) pi5 T19.heap n0 z23 o24 ) hZ (own_W hw 30 rfl) (own_W hw 29 rfl) (by decide) (by decide)) (g := (mkF m 97 #[.val (.long pl1), .second, .val (.int pi2), .val (.int pi3), .val (.int pi4), .val (.int pi5), .val (.int pi6), .val (.int (1 : Int32)), .val (.ref b1), .val (.int (3 : Int32)), .val (.ref b4), .unset] [(.int pi5), (.int ((pi3.toUInt32 >>> ((3 : Int32) &&& 31).toUInt32).toInt32)), (.ref b4)])) rfl (by rw [hml]; rfl) (argsL := [(.int ((pi3.toUInt32 >>> ((3 : Int32) &&& 31).toUInt32).toInt32)), (.int pi5)]) (rest := [(.ref b4)]) (lenOf pd_1 rfl) rfl (by show 2 * 0 + _ ≤ _; exact Nat.le_of_eq rfl) (hb hby at_97) (fun _ _ => ⟨rfl, rfl, (by decide : 4 + 1 ≤ _), (by decide : 15 + 1 ≤ _)⟩)
  dsimp only [Pt.U, Pt.locs, Pt.cells, Pt.slots] at X22 l22 y22 z22 st22 hQ22
  subst l22 y22 z22
  obtain ⟨b22, rfl, N22q, K22, qf22_0, qf22_1⟩ := hQ22
  have N22 := Fr.app N19 N22q
  have f25 := qf19_0.keep K22
  have f26 := qf19_1.keep K22 nin0
  have f27 := qf19_2.keep K22 nin0
  have f28 := qf19_5.keep K22 nin0
  have f29 := qf19_3.keep K22 nin0
  have g_b19 : n0 ≤ b19 := Nat.le_trans z20 qf19_4
  have z31 := Nat.le_trans z23 K22.1
  have o32 := o24.keep K22 all0
  obtain ⟨cq30, kq30, q30a, q30b, q30c⟩ := isOf hZ rfl f25
  obtain ⟨_, _, ⟨T30, L30, k30, n30⟩, -, X30, ⟨Lc30, hQ30, l30, y30, z30⟩, st30⟩ := X22.interfaceBack hx (xi := (⟨"java/util/List", "add", "(Ljava/lang/Object;)Z"⟩ : MethodName)) (y := (⟨"java/util/ArrayList", "add", "(Ljava/lang/Object;)Z"⟩ : MethodName)) hown (mvT hZ (own_W hw 31 rfl)) (mvT hZ (own_W hw 32 rfl)) (mvT hZ (own_W hw 33 rfl)) (mvT hZ (own_W hw 34 rfl)) (mvT hZ (own_W hw 35 rfl)) (mvT hZ (own_W hw 36 rfl)) (mvT hZ (own_W hw 37 rfl)) (mvT hZ (own_W hw 38 rfl)) (by decide) (backOf (W := 0) (rm6_1 l Z a0 hw [] b4 b22 ((0 : Int32) + (1 : Int32)) b19 b19_1 (.ref b12) .null .null .null .null .null .null .null .null .null T22.heap n0 z31 o32 f25 qf22_1 f26 f27 f28 qf19_6 f29 g_b4 (Ne.symm (Nat.ne_of_lt (Nat.lt_of_lt_of_le f15.lt qf19_4))) g_b19) hZ (own_W hw 39 rfl) (own_W hw 3 rfl) (by decide) (by decide)) q30a q30b q30c (g := (mkF m 100 #[.val (.long pl1), .second, .val (.int pi2), .val (.int pi3), .val (.int pi4), .val (.int pi5), .val (.int pi6), .val (.int (1 : Int32)), .val (.ref b1), .val (.int (3 : Int32)), .val (.ref b4), .unset] [(.ref b22), (.ref b4)])) rfl (by rw [hml]; rfl) (Steps.refl _) (argsL := [(.ref b22)]) (rest := []) (lenOf pd_2 rfl) rfl (by show 2 * 0 + _ ≤ _; exact Nat.le_of_eq rfl) (hb hby at_100) (fun _ _ => ⟨rfl, rfl, (by decide : 5 + 0 ≤ _), (by decide : 16 + 0 ≤ _)⟩)
  dsimp only [Pt.U, Pt.locs, Pt.cells, Pt.slots] at X30 l30 y30 z30 st30 hQ30
  subst l30 y30 z30
  obtain ⟨rfl, N30q, K30, qf30_0, qf30_1, qf30_2, qf30_3, qf30_4, qf30_5⟩ := hQ30
  have N30 := Fr.app N22 N30q
  have z34 := Nat.le_trans z31 K30.1
  have o35 := o32.keep K30 (allS g_b4 (allS g_b19 all0))
  obtain ⟨_, _, ⟨T33, L33, k33, n33⟩, -, X33, ⟨Lc33, hQ33, l33, y33, z33⟩, st33⟩ := Jvm.LawKit.callS X30 hx (y := (⟨"com/example/shardwright/shardwright/cli/RowIsBlankPinLaw", "field", "(II)[B"⟩ : MethodName)) hown (mvT hZ (own_W hw 27 rfl)) (mvT hZ (own_W hw 28 rfl)) (mvT hZ (own_W hw 29 rfl)) (mvT hZ (own_W hw 30 rfl)) (by decide) (backOf (W := 1) (rm5 l Z a0 hw [] ((pi3.toUInt32 >>> ((4 : Int32) &&& 31).toUInt32).toInt32) pi6 T30.heap n0 z34 o35 ) hZ (own_W hw 30 rfl) (own_W hw 29 rfl) (by decide) (by decide)) (g := (mkF m 119 #[.val (.long pl1), .second, .val (.int pi2), .val (.int pi3), .val (.int pi4), .val (.int pi5), .val (.int pi6), .val (.int (1 : Int32)), .val (.ref b1), .val (.int (3 : Int32)), .val (.ref b4), .unset] [(.int pi6), (.int ((pi3.toUInt32 >>> ((4 : Int32) &&& 31).toUInt32).toInt32)), (.ref b4)])) rfl (by rw [hml]; rfl) (argsL := [(.int ((pi3.toUInt32 >>> ((4 : Int32) &&& 31).toUInt32).toInt32)), (.int pi6)]) (rest := [(.ref b4)]) (lenOf pd_1 rfl) rfl (by show 2 * 0 + _ ≤ _; exact Nat.le_of_eq rfl) (hb hby at_119) (fun _ _ => ⟨rfl, rfl, (by decide : 5 + 1 ≤ _), (by decide : 16 + 1 ≤ _)⟩)
  dsimp only [Pt.U, Pt.locs, Pt.cells, Pt.slots] at X33 l33 y33 z33 st33 hQ33
  subst l33 y33 z33
  obtain ⟨b33, rfl, N33q, K33, qf33_0, qf33_1⟩ := hQ33
  have N33 := Fr.app N30 N33q
  have f36 := qf30_0.keep K33
  have f37 := qf30_1.keep K33 nin0
  have f38 := qf30_2.keep K33 nin0
  have f39 := qf30_4.keep K33 nin0
  have f40 := qf30_3.keep K33 nin0
  have z42 := Nat.le_trans z34 K33.1
  have o43 := o35.keep K33 all0
  obtain ⟨cq41, kq41, q41a, q41b, q41c⟩ := isOf hZ rfl f36
  obtain ⟨_, _, ⟨T41, L41, k41, n41⟩, -, X41, ⟨Lc41, hQ41, l41, y41, z41⟩, st41⟩ := X33.interfaceBack hx (xi := (⟨"java/util/List", "add", "(Ljava/lang/Object;)Z"⟩ : MethodName)) (y := (⟨"java/util/ArrayList", "add", "(Ljava/lang/Object;)Z"⟩ : MethodName)) hown (mvT hZ (own_W hw 31 rfl)) (mvT hZ (own_W hw 32 rfl)) (mvT hZ (own_W hw 33 rfl)) (mvT hZ (own_W hw 34 rfl)) (mvT hZ (own_W hw 35 rfl)) (mvT hZ (own_W hw 36 rfl)) (mvT hZ (own_W hw 37 rfl)) (mvT hZ (own_W hw 38 rfl)) (by decide) (backOf (W := 0) (rm6_2 l Z a0 hw [] b4 b33 (((0 : Int32) + (1 : Int32)) + (1 : Int32)) b19 b19_1 (.ref b12) (.ref b22) .null .null .null .null .null .null .null .null T33.heap n0 z42 o43 f36 qf33_1 f37 f38 f39 qf30_5 f40 g_b4 (Ne.symm (Nat.ne_of_lt (Nat.lt_of_lt_of_le f15.lt qf19_4))) g_b19) hZ (own_W hw 39 rfl) (own_W hw 3 rfl) (by decide) (by decide)) q41a q41b q41c (g := (mkF m 122 #[.val (.long pl1), .second, .val (.int pi2), .val (.int pi3), .val (.int pi4), .val (.int pi5), .val (.int pi6), .val (.int (1 : Int32)), .val (.ref b1), .val (.int (3 : Int32)), .val (.ref b4), .unset] [(.ref b33), (.ref b4)])) rfl (by rw [hml]; rfl) (Steps.refl _) (argsL := [(.ref b33)]) (rest := []) (lenOf pd_2 rfl) rfl (by show 2 * 0 + _ ≤ _; exact Nat.le_of_eq rfl) (hb hby at_122) (fun _ _ => ⟨rfl, rfl, (by decide : 6 + 0 ≤ _), (by decide : 17 + 0 ≤ _)⟩)
  dsimp only [Pt.U, Pt.locs, Pt.cells, Pt.slots] at X41 l41 y41 z41 st41 hQ41
  subst l41 y41 z41
  obtain ⟨rfl, N41q, K41, qf41_0, qf41_1, qf41_2, qf41_3, qf41_4, qf41_5⟩ := hQ41
  have N41 := Fr.app N33 N41q
  obtain ⟨T44, h44, X44, e44, E44, A44, D44, -, st44⟩ := newO X41 hx hZ hown (own_W hw 66 rfl) (own_W hw 67 rfl) (own_W hw 68 rfl) rfl (g := (mkF m 128 #[.val (.long pl1), .second, .val (.int pi2), .val (.int pi3), .val (.int pi4), .val (.int pi5), .val (.int pi6), .val (.int (1 : Int32)), .val (.ref b1), .val (.int (3 : Int32)), .val (.ref b4), .unset] [])) rfl (hb hby at_128) (by decide) (by decide)
  obtain ⟨b44, g44⟩ : ∃ z, z = T41.heap.size := ⟨_, rfl⟩
  rw [← g44] at A44 D44 st44
  have F_line_b44 : Fld Z h44 b44 "com/example/shardwright/shardwright/cli/CsvReader$Row" "line" "J" (.long (0 : Int64)) := D44 (Or.inr (own_W hw 79 rfl)) (ty := .long) (by decide)
  have F_text_b44 : Fld Z h44 b44 "com/example/shardwright/shardwright/cli/CsvReader$Row" "text" "[B" .null := D44 (Or.inr (own_W hw 81 rfl)) (ty := (.array .byte)) (by decide)
  have F_fields_b44 : Fld Z h44 b44 "com/example/shardwright/shardwright/cli/CsvReader$Row" "fields" "Ljava/util/List;" .null := D44 (Or.inr (own_W hw 83 rfl)) (ty := (.object "java/util/List")) (by decide)
  have z45 := Nat.le_trans z42 K41.1
  have g_b44 : n0 ≤ b44 := Nat.le_trans z45 (Nat.le_of_eq g44.symm)
  have z47 := Nat.le_trans z45 E44.1
  have o48 := o43.keep K41 (allS g_b4 (allS g_b19 all0))
  have o49 := o48.ext E44
  obtain ⟨_, _, ⟨T46, L46, k46, n46⟩, -, X46, ⟨Lc46, hQ46, l46, y46, z46⟩, st46⟩ := X44.specialBack hx (y := (⟨"com/example/shardwright/shardwright/cli/CsvReader$Row", "<init>", "(J[BLjava/util/List;)V"⟩ : MethodName)) rfl hown (mvT hZ (own_W hw 69 rfl)) (mvT hZ (own_W hw 70 rfl)) (mvT hZ (own_W hw 71 rfl)) (by decide) (backOf (W := 1) (rm11 l Z a0 hw [] b44 pl1 b1 b4 (.long (0 : Int64)) .null .null h44 n0 z47 o49 A44 F_line_b44 g_b44 F_text_b44 F_fields_b44) hZ (own_W hw 71 rfl) (own_W hw 68 rfl) (by decide) (by decide)) (g := (mkF m 137 #[.val (.long pl1), .second, .val (.int pi2), .val (.int pi3), .val (.int pi4), .val (.int pi5), .val (.int pi6), .val (.int (1 : Int32)), .val (.ref b1), .val (.int (3 : Int32)), .val (.ref b4), .unset] [(.ref b4), (.ref b1), (.long pl1), (.ref b44), (.ref b44)])) rfl (by rw [hml]; rfl) (Steps.refl _) (a := b44) (argsL := [(.long pl1), (.ref b1), (.ref b4)]) (rest := [(.ref b44)]) (lenOf pd_7 rfl) rfl (by show 2 * 0 + _ ≤ _; exact Nat.le_of_eq rfl) (hb hby at_137) (fun _ _ => ⟨rfl, e44, (by decide : 7 + 0 ≤ _), (by decide : 20 + 0 ≤ _)⟩)
  dsimp only [Pt.U, Pt.locs, Pt.cells, Pt.slots] at X46 l46 y46 z46 st46 hQ46
  subst l46 y46 z46
  obtain ⟨rfl, N46q, K46, qf46_0, qf46_1, qf46_2, qf46_3⟩ := hQ46
  have N46 := Fr.app N41 N46q
  have f50 := V3.ext E4
  have f51 := f50.keep K7 (ninS (Nat.ne_of_lt (Nat.lt_of_lt_of_le V3.lt (Nat.le_of_eq g4.symm))) nin0)
  have f52 := f51.keep K12 nin0
  have f53 := f52.keep K19 (ninS (Nat.ne_of_lt (Nat.lt_of_lt_of_le V3.lt (Nat.le_of_eq g4.symm))) nin0)
  have f54 := f53.keep K22 nin0
  have f55 := f54.keep K30 (ninS (Nat.ne_of_lt (Nat.lt_of_lt_of_le V3.lt (Nat.le_of_eq g4.symm))) (ninS (Nat.ne_of_lt (Nat.lt_of_lt_of_le f52.lt qf19_4)) nin0))
  have f56 := f55.keep K33 nin0
  have f57 := f56.keep K41 (ninS (Nat.ne_of_lt (Nat.lt_of_lt_of_le V3.lt (Nat.le_of_eq g4.symm))) (ninS (Nat.ne_of_lt (Nat.lt_of_lt_of_le f52.lt qf19_4)) nin0))
  have f58 := f57.ext E44
  have f59 := f58.keep K46 (ninS (Nat.ne_of_lt (Nat.lt_of_lt_of_le f57.lt (Nat.le_of_eq g44.symm))) nin0)
  have z61 := Nat.le_trans z47 K46.1
  have o62 := o49.keep K46 (allS g_b44 all0)
  obtain ⟨cq60, kq60, q60a, q60b, q60c⟩ := isOf hZ rfl qf46_0
  obtain ⟨_, _, ⟨T60, L60, k60, n60⟩, -, X60, ⟨Lc60, hQ60, l60, y60, z60⟩, st60⟩ := X46.virtualBack hx (y := (⟨"com/example/shardwright/shardwright/cli/CsvReader$Row", "isBlank", "()Z"⟩ : MethodName)) (z := (⟨"com/example/shardwright/shardwright/cli/CsvReader$Row", "isBlank", "()Z"⟩ : MethodName)) hown (mvT hZ (own_W hw 84 rfl)) (mvT hZ (own_W hw 85 rfl)) (notFace_of_selects (args := #[]) (mvT hZ (own_W hw 87 rfl))) (mvT hZ (own_W hw 87 rfl)) (mvT hZ (own_W hw 86 rfl)) (by decide) (backOf (W := 0) (rm13_1 l Z a0 hw [] b44 b1 k1 (nar .byte (pi4.toInt8.toInt32)) T46.heap n0 z61 o62 qf46_2 f59) hZ (own_W hw 88 rfl) (own_W hw 68 rfl) (by decide) (by decide)) q60a q60c (g := (mkF m 144 #[.val (.long pl1), .second, .val (.int pi2), .val (.int pi3), .val (.int pi4), .val (.int pi5), .val (.int pi6), .val (.int (1 : Int32)), .val (.ref b1), .val (.int (3 : Int32)), .val (.ref b4), .val (.ref b44)] [(.ref b44)])) rfl (by rw [hml]; rfl) (Steps.refl _) (argsL := []) (rest := []) (lenOf pd_8 rfl) rfl (by show 2 * 0 + _ ≤ _; exact Nat.le_of_eq rfl) (hb hby at_144) (fun _ _ => ⟨rfl, rfl, (by decide : 7 + 0 ≤ _), (by decide : 20 + 0 ≤ _)⟩)
  dsimp only [Pt.U, Pt.locs, Pt.cells, Pt.slots] at X60 l60 y60 z60 st60 hQ60
  subst l60 y60 z60
  obtain ⟨rfl, N60q, eq60⟩ := hQ60
  have N60 := Fr.app N46 N60q
  obtain ⟨fs, hr, hrun, hended, hW, hsame⟩ := X60.leave (v := some (.int (1 : Int32))) (fun h => by rw [Bd.returns] at h; cases h)
  refine ⟨_, _, pre0 _ ?_, hrun, hended, _, _, rfl, ?_, ⟨_, rfl⟩, hW, hsame.mono (by decide) (by decide)⟩
  · show Stp p e below s₁ m 0 #[.val (.long pl1), .second, .val (.int pi2), .val (.int pi3), .val (.int pi4), .val (.int pi5), .val (.int pi6), .unset, .unset, .unset, .unset, .unset] [] _
    refine XS.iloadN X0.here hx rfl (hb hby at_0) rfl ?_
    show Stp p e below s₁ m 1 #[.val (.long pl1), .second, .val (.int pi2), .val (.int pi3), .val (.int pi4), .val (.int pi5), .val (.int pi6), .unset, .unset, .unset, .unset, .unset] [(.int pi2)] _
    refine XS.iconst X0.here hx rfl (hb hby at_1) ?_
    show Stp p e below s₁ m 2 #[.val (.long pl1), .second, .val (.int pi2), .val (.int pi3), .val (.int pi4), .val (.int pi5), .val (.int pi6), .unset, .unset, .unset, .unset, .unset] [(.int (3 : Int32)), (.int pi2)] _
    refine XS.iand X0.here hx rfl (hb hby at_2) rfl ?_
    show Stp p e below s₁ m 3 #[.val (.long pl1), .second, .val (.int pi2), .val (.int pi3), .val (.int pi4), .val (.int pi5), .val (.int pi6), .unset, .unset, .unset, .unset, .unset] [(.int (pi2 &&& (3 : Int32)))] _
    refine XS.istore X0.here hx rfl (hb hby at_3) rfl (l' := #[.val (.long pl1), .second, .val (.int pi2), .val (.int pi3), .val (.int pi4), .val (.int pi5), .val (.int pi6), .val (.int (pi2 &&& (3 : Int32))), .unset, .unset, .unset, .unset]) rfl ?_
    show Stp p e below s₁ m 5 #[.val (.long pl1), .second, .val (.int pi2), .val (.int pi3), .val (.int pi4), .val (.int pi5), .val (.int pi6), .val (.int (pi2 &&& (3 : Int32))), .unset, .unset, .unset, .unset] [] _
    rw [show (pi2 &&& (3 : Int32)) = (1 : Int32) from hc3_1]
    show Stp p e below s₁ m 5 #[.val (.long pl1), .second, .val (.int pi2), .val (.int pi3), .val (.int pi4), .val (.int pi5), .val (.int pi6), .val (.int (1 : Int32)), .unset, .unset, .unset, .unset] [] _
    refine XS.iload X0.here hx rfl (hb hby at_5) rfl ?_
    show Stp p e below s₁ m 7 #[.val (.long pl1), .second, .val (.int pi2), .val (.int pi3), .val (.int pi4), .val (.int pi5), .val (.int pi6), .val (.int (1 : Int32)), .unset, .unset, .unset, .unset] [(.int (1 : Int32))] _
    refine st1 _ ?_
    show Stp p e below T1 m 9 #[.val (.long pl1), .second, .val (.int pi2), .val (.int pi3), .val (.int pi4), .val (.int pi5), .val (.int pi6), .val (.int (1 : Int32)), .unset, .unset, .unset, .unset] [(.ref b1)] _
    refine XS.astore X1.here hx rfl (hb hby at_9) rfl rfl (l' := #[.val (.long pl1), .second, .val (.int pi2), .val (.int pi3), .val (.int pi4), .val (.int pi5), .val (.int pi6), .val (.int (1 : Int32)), .val (.ref b1), .unset, .unset, .unset]) rfl ?_
    show Stp p e below T1 m 11 #[.val (.long pl1), .second, .val (.int pi2), .val (.int pi3), .val (.int pi4), .val (.int pi5), .val (.int pi6), .val (.int (1 : Int32)), .val (.ref b1), .unset, .unset, .unset] [] _
    refine XS.iload X1.here hx rfl (hb hby at_11) rfl ?_
    show Stp p e below T1 m 13 #[.val (.long pl1), .second, .val (.int pi2), .val (.int pi3), .val (.int pi4), .val (.int pi5), .val (.int pi6), .val (.int (1 : Int32)), .val (.ref b1), .unset, .unset, .unset] [(.int (1 : Int32))] _
    refine XS.ifNo X1.here hx rfl (hb hby at_13) rfl ((if0 _ _).trans (tlt (by decide : (0 : Int32) < (1 : Int32))).2.2.2) ?_
    show Stp p e below T1 m 16 #[.val (.long pl1), .second, .val (.int pi2), .val (.int pi3), .val (.int pi4), .val (.int pi5), .val (.int pi6), .val (.int (1 : Int32)), .val (.ref b1), .unset, .unset, .unset] [] _
    refine XS.aload X1.here hx rfl (hb hby at_16) rfl rfl ?_
    show Stp p e below T1 m 18 #[.val (.long pl1), .second, .val (.int pi2), .val (.int pi3), .val (.int pi4), .val (.int pi5), .val (.int pi6), .val (.int (1 : Int32)), .val (.ref b1), .unset, .unset, .unset] [(.ref b1)] _
    refine XS.iconst X1.here hx rfl (hb hby at_18) ?_
    show Stp p e below T1 m 19 #[.val (.long pl1), .second, .val (.int pi2), .val (.int pi3), .val (.int pi4), .val (.int pi5), .val (.int pi6), .val (.int (1 : Int32)), .val (.ref b1), .unset, .unset, .unset] [(.int (0 : Int32)), (.ref b1)] _
    refine XS.iload X1.here hx rfl (hb hby at_19) rfl ?_
    show Stp p e below T1 m 21 #[.val (.long pl1), .second, .val (.int pi2), .val (.int pi3), .val (.int pi4), .val (.int pi5), .val (.int pi6), .val (.int (1 : Int32)), .val (.ref b1), .unset, .unset, .unset] [(.int pi4), (.int (0 : Int32)), (.ref b1)] _
    refine XS.i2b X1.here hx rfl (hb hby at_21) rfl ?_
    show Stp p e below T1 m 22 #[.val (.long pl1), .second, .val (.int pi2), .val (.int pi3), .val (.int pi4), .val (.int pi5), .val (.int pi6), .val (.int (1 : Int32)), .val (.ref b1), .unset, .unset, .unset] [(.int (pi4.toInt8.toInt32)), (.int (0 : Int32)), (.ref b1)] _
    refine st3 _ ?_
    show Stp p e below T3 m 23 #[.val (.long pl1), .second, .val (.int pi2), .val (.int pi3), .val (.int pi4), .val (.int pi5), .val (.int pi6), .val (.int (1 : Int32)), .val (.ref b1), .unset, .unset, .unset] [] _
    refine XS.iload X3.here hx rfl (hb hby at_23) rfl ?_
    show Stp p e below T3 m 25 #[.val (.long pl1), .second, .val (.int pi2), .val (.int pi3), .val (.int pi4), .val (.int pi5), .val (.int pi6), .val (.int (1 : Int32)), .val (.ref b1), .unset, .unset, .unset] [(.int (1 : Int32))] _
    refine XS.iconst X3.here hx rfl (hb hby at_25) ?_
    show Stp p e below T3 m 26 #[.val (.long pl1), .second, .val (.int pi2), .val (.int pi3), .val (.int pi4), .val (.int pi5), .val (.int pi6), .val (.int (1 : Int32)), .val (.ref b1), .unset, .unset, .unset] [(.int (1 : Int32)), (.int (1 : Int32))] _
    refine XS.icmpYes X3.here hx rfl (pc0 := 26) (pc' := 36) rfl (hb hby at_26) rfl (flt (by simp : ¬ ((1 : Int32) < (1 : Int32)))).2.2.2 (by decide) (by decide) ?_
    show Stp p e below T3 m 36 #[.val (.long pl1), .second, .val (.int pi2), .val (.int pi3), .val (.int pi4), .val (.int pi5), .val (.int pi6), .val (.int (1 : Int32)), .val (.ref b1), .unset, .unset, .unset] [] _
    refine XS.iload X3.here hx rfl (hb hby at_36) rfl ?_
    show Stp p e below T3 m 38 #[.val (.long pl1), .second, .val (.int pi2), .val (.int pi3), .val (.int pi4), .val (.int pi5), .val (.int pi6), .val (.int (1 : Int32)), .val (.ref b1), .unset, .unset, .unset] [(.int (1 : Int32))] _
    refine XS.iconst X3.here hx rfl (hb hby at_38) ?_
    show Stp p e below T3 m 39 #[.val (.long pl1), .second, .val (.int pi2), .val (.int pi3), .val (.int pi4), .val (.int pi5), .val (.int pi6), .val (.int (1 : Int32)), .val (.ref b1), .unset, .unset, .unset] [(.int (2 : Int32)), (.int (1 : Int32))] _
    refine XS.icmpYes X3.here hx rfl (pc0 := 39) (pc' := 49) rfl (hb hby at_39) rfl (flt (by decide : ¬ ((2 : Int32) < (1 : Int32)))).2.2.2 (by decide) (by decide) ?_
    show Stp p e below T3 m 49 #[.val (.long pl1), .second, .val (.int pi2), .val (.int pi3), .val (.int pi4), .val (.int pi5), .val (.int pi6), .val (.int (1 : Int32)), .val (.ref b1), .unset, .unset, .unset] [] _
    refine XS.iloadN X3.here hx rfl (hb hby at_49) rfl ?_
    show Stp p e below T3 m 50 #[.val (.long pl1), .second, .val (.int pi2), .val (.int pi3), .val (.int pi4), .val (.int pi5), .val (.int pi6), .val (.int (1 : Int32)), .val (.ref b1), .unset, .unset, .unset] [(.int pi3)] _
    refine XS.iconst X3.here hx rfl (hb hby at_50) ?_
    show Stp p e below T3 m 51 #[.val (.long pl1), .second, .val (.int pi2), .val (.int pi3), .val (.int pi4), .val (.int pi5), .val (.int pi6), .val (.int (1 : Int32)), .val (.ref b1), .unset, .unset, .unset] [(.int (3 : Int32)), (.int pi3)] _
    refine XS.iand X3.here hx rfl (hb hby at_51) rfl ?_
    show Stp p e below T3 m 52 #[.val (.long pl1), .second, .val (.int pi2), .val (.int pi3), .val (.int pi4), .val (.int pi5), .val (.int pi6), .val (.int (1 : Int32)), .val (.ref b1), .unset, .unset, .unset] [(.int (pi3 &&& (3 : Int32)))] _
    refine XS.istore X3.here hx rfl (hb hby at_52) rfl (l' := #[.val (.long pl1), .second, .val (.int pi2), .val (.int pi3), .val (.int pi4), .val (.int pi5), .val (.int pi6), .val (.int (1 : Int32)), .val (.ref b1), .val (.int (pi3 &&& (3 : Int32))), .unset, .unset]) rfl ?_
    show Stp p e below T3 m 54 #[.val (.long pl1), .second, .val (.int pi2), .val (.int pi3), .val (.int pi4), .val (.int pi5), .val (.int pi6), .val (.int (1 : Int32)), .val (.ref b1), .val (.int (pi3 &&& (3 : Int32))), .unset, .unset] [] _
    rw [show (pi3 &&& (3 : Int32)) = (3 : Int32) from own_n3 hc52_2 hc52_3 hc52_4]
    show Stp p e below T3 m 54 #[.val (.long pl1), .second, .val (.int pi2), .val (.int pi3), .val (.int pi4), .val (.int pi5), .val (.int pi6), .val (.int (1 : Int32)), .val (.ref b1), .val (.int (3 : Int32)), .unset, .unset] [] _
    refine st4 _ ?_
    show Stp p e below T4 m 57 #[.val (.long pl1), .second, .val (.int pi2), .val (.int pi3), .val (.int pi4), .val (.int pi5), .val (.int pi6), .val (.int (1 : Int32)), .val (.ref b1), .val (.int (3 : Int32)), .unset, .unset] [(.ref b4)] _
    refine XS.dup X4.here hx rfl (hb hby at_57) rfl rfl ?_
    show Stp p e below T4 m 58 #[.val (.long pl1), .second, .val (.int pi2), .val (.int pi3), .val (.int pi4), .val (.int pi5), .val (.int pi6), .val (.int (1 : Int32)), .val (.ref b1), .val (.int (3 : Int32)), .unset, .unset] [(.ref b4), (.ref b4)] _
    refine st7.trans ?_
    show Stp p e below T7 m 61 #[.val (.long pl1), .second, .val (.int pi2), .val (.int pi3), .val (.int pi4), .val (.int pi5), .val (.int pi6), .val (.int (1 : Int32)), .val (.ref b1), .val (.int (3 : Int32)), .unset, .unset] [(.ref b4)] _
    refine XS.astore X7.here hx rfl (hb hby at_61) rfl rfl (l' := #[.val (.long pl1), .second, .val (.int pi2), .val (.int pi3), .val (.int pi4), .val (.int pi5), .val (.int pi6), .val (.int (1 : Int32)), .val (.ref b1), .val (.int (3 : Int32)), .val (.ref b4), .unset]) rfl ?_
    show Stp p e below T7 m 63 #[.val (.long pl1), .second, .val (.int pi2), .val (.int pi3), .val (.int pi4), .val (.int pi5), .val (.int pi6), .val (.int (1 : Int32)), .val (.ref b1), .val (.int (3 : Int32)), .val (.ref b4), .unset] [] _
    refine XS.iload X7.here hx rfl (hb hby at_63) rfl ?_
    show Stp p e below T7 m 65 #[.val (.long pl1), .second, .val (.int pi2), .val (.int pi3), .val (.int pi4), .val (.int pi5), .val (.int pi6), .val (.int (1 : Int32)), .val (.ref b1), .val (.int (3 : Int32)), .val (.ref b4), .unset] [(.int (3 : Int32))] _
    refine XS.ifNo X7.here hx rfl (hb hby at_65) rfl ((if0 _ _).trans (tlt (by decide : (0 : Int32) < (3 : Int32))).2.2.2) ?_
    show Stp p e below T7 m 68 #[.val (.long pl1), .second, .val (.int pi2), .val (.int pi3), .val (.int pi4), .val (.int pi5), .val (.int pi6), .val (.int (1 : Int32)), .val (.ref b1), .val (.int (3 : Int32)), .val (.ref b4), .unset] [] _
    refine XS.aload X7.here hx rfl (hb hby at_68) rfl rfl ?_
    show Stp p e below T7 m 70 #[.val (.long pl1), .second, .val (.int pi2), .val (.int pi3), .val (.int pi4), .val (.int pi5), .val (.int pi6), .val (.int (1 : Int32)), .val (.ref b1), .val (.int (3 : Int32)), .val (.ref b4), .unset] [(.ref b4)] _
    refine XS.iloadN X7.here hx rfl (hb hby at_70) rfl ?_
    show Stp p e below T7 m 71 #[.val (.long pl1), .second, .val (.int pi2), .val (.int pi3), .val (.int pi4), .val (.int pi5), .val (.int pi6), .val (.int (1 : Int32)), .val (.ref b1), .val (.int (3 : Int32)), .val (.ref b4), .unset] [(.int pi3), (.ref b4)] _
    refine XS.iconst X7.here hx rfl (hb hby at_71) ?_
    show Stp p e below T7 m 72 #[.val (.long pl1), .second, .val (.int pi2), .val (.int pi3), .val (.int pi4), .val (.int pi5), .val (.int pi6), .val (.int (1 : Int32)), .val (.ref b1), .val (.int (3 : Int32)), .val (.ref b4), .unset] [(.int (2 : Int32)), (.int pi3), (.ref b4)] _
    refine XS.iushr X7.here hx rfl (hb hby at_72) rfl ?_
    show Stp p e below T7 m 73 #[.val (.long pl1), .second, .val (.int pi2), .val (.int pi3), .val (.int pi4), .val (.int pi5), .val (.int pi6), .val (.int (1 : Int32)), .val (.ref b1), .val (.int (3 : Int32)), .val (.ref b4), .unset] [(.int ((pi3.toUInt32 >>> ((2 : Int32) &&& 31).toUInt32).toInt32)), (.ref b4)] _
    refine XS.iload X7.here hx rfl (hb hby at_73) rfl ?_
    show Stp p e below T7 m 75 #[.val (.long pl1), .second, .val (.int pi2), .val (.int pi3), .val (.int pi4), .val (.int pi5), .val (.int pi6), .val (.int (1 : Int32)), .val (.ref b1), .val (.int (3 : Int32)), .val (.ref b4), .unset] [(.int pi4), (.int ((pi3.toUInt32 >>> ((2 : Int32) &&& 31).toUInt32).toInt32)), (.ref b4)] _
    refine st12 _ ?_
    show Stp p e below T12 m 78 #[.val (.long pl1), .second, .val (.int pi2), .val (.int pi3), .val (.int pi4), .val (.int pi5), .val (.int pi6), .val (.int (1 : Int32)), .val (.ref b1), .val (.int (3 : Int32)), .val (.ref b4), .unset] [(.ref b12), (.ref b4)] _
    refine st19.trans ?_
    show Stp p e below T19 m 83 #[.val (.long pl1), .second, .val (.int pi2), .val (.int pi3), .val (.int pi4), .val (.int pi5), .val (.int pi6), .val (.int (1 : Int32)), .val (.ref b1), .val (.int (3 : Int32)), .val (.ref b4), .unset] [(.int (1 : Int32))] _
    refine XS.pop X19.here hx rfl (hb hby at_83) rfl rfl ?_
    show Stp p e below T19 m 84 #[.val (.long pl1), .second, .val (.int pi2), .val (.int pi3), .val (.int pi4), .val (.int pi5), .val (.int pi6), .val (.int (1 : Int32)), .val (.ref b1), .val (.int (3 : Int32)), .val (.ref b4), .unset] [] _
    refine XS.iload X19.here hx rfl (hb hby at_84) rfl ?_
    show Stp p e below T19 m 86 #[.val (.long pl1), .second, .val (.int pi2), .val (.int pi3), .val (.int pi4), .val (.int pi5), .val (.int pi6), .val (.int (1 : Int32)), .val (.ref b1), .val (.int (3 : Int32)), .val (.ref b4), .unset] [(.int (3 : Int32))] _
    refine XS.iconst X19.here hx rfl (hb hby at_86) ?_
    show Stp p e below T19 m 87 #[.val (.long pl1), .second, .val (.int pi2), .val (.int pi3), .val (.int pi4), .val (.int pi5), .val (.int pi6), .val (.int (1 : Int32)), .val (.ref b1), .val (.int (3 : Int32)), .val (.ref b4), .unset] [(.int (1 : Int32)), (.int (3 : Int32))] _
    refine XS.icmpNo X19.here hx rfl (hb hby at_87) rfl (tlt (by decide : (1 : Int32) < (3 : Int32))).2.2.2 ?_
    show Stp p e below T19 m 90 #[.val (.long pl1), .second, .val (.int pi2), .val (.int pi3), .val (.int pi4), .val (.int pi5), .val (.int pi6), .val (.int (1 : Int32)), .val (.ref b1), .val (.int (3 : Int32)), .val (.ref b4), .unset] [] _
    refine XS.aload X19.here hx rfl (hb hby at_90) rfl rfl ?_
    show Stp p e below T19 m 92 #[.val (.long pl1), .second, .val (.int pi2), .val (.int pi3), .val (.int pi4), .val (.int pi5), .val (.int pi6), .val (.int (1 : Int32)), .val (.ref b1), .val (.int (3 : Int32)), .val (.ref b4), .unset] [(.ref b4)] _
    refine XS.iloadN X19.here hx rfl (hb hby at_92) rfl ?_
    show Stp p e below T19 m 93 #[.val (.long pl1), .second, .val (.int pi2), .val (.int pi3), .val (.int pi4), .val (.int pi5), .val (.int pi6), .val (.int (1 : Int32)), .val (.ref b1), .val (.int (3 : Int32)), .val (.ref b4), .unset] [(.int pi3), (.ref b4)] _
    refine XS.iconst X19.here hx rfl (hb hby at_93) ?_
    show Stp p e below T19 m 94 #[.val (.long pl1), .second, .val (.int pi2), .val (.int pi3), .val (.int pi4), .val (.int pi5), .val (.int pi6), .val (.int (1 : Int32)), .val (.ref b1), .val (.int (3 : Int32)), .val (.ref b4), .unset] [(.int (3 : Int32)), (.int pi3), (.ref b4)] _
    refine XS.iushr X19.here hx rfl (hb hby at_94) rfl ?_
    show Stp p e below T19 m 95 #[.val (.long pl1), .second, .val (.int pi2), .val (.int pi3), .val (.int pi4), .val (.int pi5), .val (.int pi6), .val (.int (1 : Int32)), .val (.ref b1), .val (.int (3 : Int32)), .val (.ref b4), .unset] [(.int ((pi3.toUInt32 >>> ((3 : Int32) &&& 31).toUInt32).toInt32)), (.ref b4)] _
    refine XS.iload X19.here hx rfl (hb hby at_95) rfl ?_
    show Stp p e below T19 m 97 #[.val (.long pl1), .second, .val (.int pi2), .val (.int pi3), .val (.int pi4), .val (.int pi5), .val (.int pi6), .val (.int (1 : Int32)), .val (.ref b1), .val (.int (3 : Int32)), .val (.ref b4), .unset] [(.int pi5), (.int ((pi3.toUInt32 >>> ((3 : Int32) &&& 31).toUInt32).toInt32)), (.ref b4)] _
    refine st22 _ ?_
    show Stp p e below T22 m 100 #[.val (.long pl1), .second, .val (.int pi2), .val (.int pi3), .val (.int pi4), .val (.int pi5), .val (.int pi6), .val (.int (1 : Int32)), .val (.ref b1), .val (.int (3 : Int32)), .val (.ref b4), .unset] [(.ref b22), (.ref b4)] _
    refine st30.trans ?_
    show Stp p e below T30 m 105 #[.val (.long pl1), .second, .val (.int pi2), .val (.int pi3), .val (.int pi4), .val (.int pi5), .val (.int pi6), .val (.int (1 : Int32)), .val (.ref b1), .val (.int (3 : Int32)), .val (.ref b4), .unset] [(.int (1 : Int32))] _
    refine XS.pop X30.here hx rfl (hb hby at_105) rfl rfl ?_
    show Stp p e below T30 m 106 #[.val (.long pl1), .second, .val (.int pi2), .val (.int pi3), .val (.int pi4), .val (.int pi5), .val (.int pi6), .val (.int (1 : Int32)), .val (.ref b1), .val (.int (3 : Int32)), .val (.ref b4), .unset] [] _
    refine XS.iload X30.here hx rfl (hb hby at_106) rfl ?_
    show Stp p e below T30 m 108 #[.val (.long pl1), .second, .val (.int pi2), .val (.int pi3), .val (.int pi4), .val (.int pi5), .val (.int pi6), .val (.int (1 : Int32)), .val (.ref b1), .val (.int (3 : Int32)), .val (.ref b4), .unset] [(.int (3 : Int32))] _
    refine XS.iconst X30.here hx rfl (hb hby at_108) ?_
    show Stp p e below T30 m 109 #[.val (.long pl1), .second, .val (.int pi2), .val (.int pi3), .val (.int pi4), .val (.int pi5), .val (.int pi6), .val (.int (1 : Int32)), .val (.ref b1), .val (.int (3 : Int32)), .val (.ref b4), .unset] [(.int (2 : Int32)), (.int (3 : Int32))] _
    refine XS.icmpNo X30.here hx rfl (hb hby at_109) rfl (tlt (by decide : (2 : Int32) < (3 : Int32))).2.2.2 ?_
    show Stp p e below T30 m 112 #[.val (.long pl1), .second, .val (.int pi2), .val (.int pi3), .val (.int pi4), .val (.int pi5), .val (.int pi6), .val (.int (1 : Int32)), .val (.ref b1), .val (.int (3 : Int32)), .val (.ref b4), .unset] [] _
    refine XS.aload X30.here hx rfl (hb hby at_112) rfl rfl ?_
    show Stp p e below T30 m 114 #[.val (.long pl1), .second, .val (.int pi2), .val (.int pi3), .val (.int pi4), .val (.int pi5), .val (.int pi6), .val (.int (1 : Int32)), .val (.ref b1), .val (.int (3 : Int32)), .val (.ref b4), .unset] [(.ref b4)] _
    refine XS.iloadN X30.here hx rfl (hb hby at_114) rfl ?_
    show Stp p e below T30 m 115 #[.val (.long pl1), .second, .val (.int pi2), .val (.int pi3), .val (.int pi4), .val (.int pi5), .val (.int pi6), .val (.int (1 : Int32)), .val (.ref b1), .val (.int (3 : Int32)), .val (.ref b4), .unset] [(.int pi3), (.ref b4)] _
    refine XS.iconst X30.here hx rfl (hb hby at_115) ?_
    show Stp p e below T30 m 116 #[.val (.long pl1), .second, .val (.int pi2), .val (.int pi3), .val (.int pi4), .val (.int pi5), .val (.int pi6), .val (.int (1 : Int32)), .val (.ref b1), .val (.int (3 : Int32)), .val (.ref b4), .unset] [(.int (4 : Int32)), (.int pi3), (.ref b4)] _
    refine XS.iushr X30.here hx rfl (hb hby at_116) rfl ?_
    show Stp p e below T30 m 117 #[.val (.long pl1), .second, .val (.int pi2), .val (.int pi3), .val (.int pi4), .val (.int pi5), .val (.int pi6), .val (.int (1 : Int32)), .val (.ref b1), .val (.int (3 : Int32)), .val (.ref b4), .unset] [(.int ((pi3.toUInt32 >>> ((4 : Int32) &&& 31).toUInt32).toInt32)), (.ref b4)] _
    refine XS.iload X30.here hx rfl (hb hby at_117) rfl ?_
    show Stp p e below T30 m 119 #[.val (.long pl1), .second, .val (.int pi2), .val (.int pi3), .val (.int pi4), .val (.int pi5), .val (.int pi6), .val (.int (1 : Int32)), .val (.ref b1), .val (.int (3 : Int32)), .val (.ref b4), .unset] [(.int pi6), (.int ((pi3.toUInt32 >>> ((4 : Int32) &&& 31).toUInt32).toInt32)), (.ref b4)] _
    refine st33 _ ?_
    show Stp p e below T33 m 122 #[.val (.long pl1), .second, .val (.int pi2), .val (.int pi3), .val (.int pi4), .val (.int pi5), .val (.int pi6), .val (.int (1 : Int32)), .val (.ref b1), .val (.int (3 : Int32)), .val (.ref b4), .unset] [(.ref b33), (.ref b4)] _
    refine st41.trans ?_
    show Stp p e below T41 m 127 #[.val (.long pl1), .second, .val (.int pi2), .val (.int pi3), .val (.int pi4), .val (.int pi5), .val (.int pi6), .val (.int (1 : Int32)), .val (.ref b1), .val (.int (3 : Int32)), .val (.ref b4), .unset] [(.int (1 : Int32))] _
    refine XS.pop X41.here hx rfl (hb hby at_127) rfl rfl ?_
    show Stp p e below T41 m 128 #[.val (.long pl1), .second, .val (.int pi2), .val (.int pi3), .val (.int pi4), .val (.int pi5), .val (.int pi6), .val (.int (1 : Int32)), .val (.ref b1), .val (.int (3 : Int32)), .val (.ref b4), .unset] [] _
    refine st44 _ ?_
    show Stp p e below T44 m 131 #[.val (.long pl1), .second, .val (.int pi2), .val (.int pi3), .val (.int pi4), .val (.int pi5), .val (.int pi6), .val (.int (1 : Int32)), .val (.ref b1), .val (.int (3 : Int32)), .val (.ref b4), .unset] [(.ref b44)] _
    refine XS.dup X44.here hx rfl (hb hby at_131) rfl rfl ?_
    show Stp p e below T44 m 132 #[.val (.long pl1), .second, .val (.int pi2), .val (.int pi3), .val (.int pi4), .val (.int pi5), .val (.int pi6), .val (.int (1 : Int32)), .val (.ref b1), .val (.int (3 : Int32)), .val (.ref b4), .unset] [(.ref b44), (.ref b44)] _
    refine XS.lloadN X44.here hx rfl (hb hby at_132) rfl ?_
    show Stp p e below T44 m 133 #[.val (.long pl1), .second, .val (.int pi2), .val (.int pi3), .val (.int pi4), .val (.int pi5), .val (.int pi6), .val (.int (1 : Int32)), .val (.ref b1), .val (.int (3 : Int32)), .val (.ref b4), .unset] [(.long pl1), (.ref b44), (.ref b44)] _
    refine XS.aload X44.here hx rfl (hb hby at_133) rfl rfl ?_
    show Stp p e below T44 m 135 #[.val (.long pl1), .second, .val (.int pi2), .val (.int pi3), .val (.int pi4), .val (.int pi5), .val (.int pi6), .val (.int (1 : Int32)), .val (.ref b1), .val (.int (3 : Int32)), .val (.ref b4), .unset] [(.ref b1), (.long pl1), (.ref b44), (.ref b44)] _
    refine XS.aload X44.here hx rfl (hb hby at_135) rfl rfl ?_
    show Stp p e below T44 m 137 #[.val (.long pl1), .second, .val (.int pi2), .val (.int pi3), .val (.int pi4), .val (.int pi5), .val (.int pi6), .val (.int (1 : Int32)), .val (.ref b1), .val (.int (3 : Int32)), .val (.ref b4), .unset] [(.ref b4), (.ref b1), (.long pl1), (.ref b44), (.ref b44)] _
    refine st46.trans ?_
    show Stp p e below T46 m 140 #[.val (.long pl1), .second, .val (.int pi2), .val (.int pi3), .val (.int pi4), .val (.int pi5), .val (.int pi6), .val (.int (1 : Int32)), .val (.ref b1), .val (.int (3 : Int32)), .val (.ref b4), .unset] [(.ref b44)] _
    refine XS.astore X46.here hx rfl (hb hby at_140) rfl rfl (l' := #[.val (.long pl1), .second, .val (.int pi2), .val (.int pi3), .val (.int pi4), .val (.int pi5), .val (.int pi6), .val (.int (1 : Int32)), .val (.ref b1), .val (.int (3 : Int32)), .val (.ref b4), .val (.ref b44)]) rfl ?_
    show Stp p e below T46 m 142 #[.val (.long pl1), .second, .val (.int pi2), .val (.int pi3), .val (.int pi4), .val (.int pi5), .val (.int pi6), .val (.int (1 : Int32)), .val (.ref b1), .val (.int (3 : Int32)), .val (.ref b4), .val (.ref b44)] [] _
    refine XS.aload X46.here hx rfl (hb hby at_142) rfl rfl ?_
    show Stp p e below T46 m 144 #[.val (.long pl1), .second, .val (.int pi2), .val (.int pi3), .val (.int pi4), .val (.int pi5), .val (.int pi6), .val (.int (1 : Int32)), .val (.ref b1), .val (.int (3 : Int32)), .val (.ref b4), .val (.ref b44)] [(.ref b44)] _
    refine st60.trans ?_
    show Stp p e below T60 m 147 #[.val (.long pl1), .second, .val (.int pi2), .val (.int pi3), .val (.int pi4), .val (.int pi5), .val (.int pi6), .val (.int (1 : Int32)), .val (.ref b1), .val (.int (3 : Int32)), .val (.ref b4), .val (.ref b44)] [(.int (0 : Int32))] _
    refine XS.iload X60.here hx rfl (hb hby at_147) rfl ?_
    show Stp p e below T60 m 149 #[.val (.long pl1), .second, .val (.int pi2), .val (.int pi3), .val (.int pi4), .val (.int pi5), .val (.int pi6), .val (.int (1 : Int32)), .val (.ref b1), .val (.int (3 : Int32)), .val (.ref b4), .val (.ref b44)] [(.int (1 : Int32)), (.int (0 : Int32))] _
    refine XS.ifYes X60.here hx rfl (pc0 := 149) (pc' := 156) rfl (hb hby at_149) rfl ((if0 _ _).trans (feq (by decide : ¬ ((1 : Int32) = (0 : Int32)))).2) (by decide) (by decide) ?_
    show Stp p e below T60 m 156 #[.val (.long pl1), .second, .val (.int pi2), .val (.int pi3), .val (.int pi4), .val (.int pi5), .val (.int pi6), .val (.int (1 : Int32)), .val (.ref b1), .val (.int (3 : Int32)), .val (.ref b4), .val (.ref b44)] [(.int (0 : Int32))] _
    refine XS.iconst X60.here hx rfl (hb hby at_156) ?_
    show Stp p e below T60 m 157 #[.val (.long pl1), .second, .val (.int pi2), .val (.int pi3), .val (.int pi4), .val (.int pi5), .val (.int pi6), .val (.int (1 : Int32)), .val (.ref b1), .val (.int (3 : Int32)), .val (.ref b4), .val (.ref b44)] [(.int (0 : Int32)), (.int (0 : Int32))] _
    refine XS.icmpNo X60.here hx rfl (hb hby at_157) rfl (teq (rfl : (0 : Int32) = (0 : Int32))).2 ?_
    show Stp p e below T60 m 160 #[.val (.long pl1), .second, .val (.int pi2), .val (.int pi3), .val (.int pi4), .val (.int pi5), .val (.int pi6), .val (.int (1 : Int32)), .val (.ref b1), .val (.int (3 : Int32)), .val (.ref b4), .val (.ref b44)] [] _
    refine XS.iconst X60.here hx rfl (hb hby at_160) ?_
    show Stp p e below T60 m 161 #[.val (.long pl1), .second, .val (.int pi2), .val (.int pi3), .val (.int pi4), .val (.int pi5), .val (.int pi6), .val (.int (1 : Int32)), .val (.ref b1), .val (.int (3 : Int32)), .val (.ref b4), .val (.ref b44)] [(.int (1 : Int32))] _
    refine XS.goto X60.here hx rfl (pc0 := 161) (pc' := 165) rfl (hb hby at_161) (by decide) (by decide) ?_
    show Stp p e below T60 m 165 #[.val (.long pl1), .second, .val (.int pi2), .val (.int pi3), .val (.int pi4), .val (.int pi5), .val (.int pi6), .val (.int (1 : Int32)), .val (.ref b1), .val (.int (3 : Int32)), .val (.ref b4), .val (.ref b44)] [(.int (1 : Int32))] _
    exact retN X60 hx (t := .boolean) Bd.returns (by simp) (hb hby at_165) hr
  · exact ⟨rfl, N60⟩
set_option maxRecDepth 65536 in
set_option maxHeartbeats 40000000 in
theorem rm0_fftt (l : Launch) (Z : State) (a0 : Array Value) (hw : ∀ d ∈ tables_1, d.before a0 Z = true) (ws : List Jvm.Cond) (pl1 : Int64) (pi2 : Int32) (pi3 : Int32) (pi4 : Int32) (pi5 : Int32) (pi6 : Int32) (w_DEF : Addr) (kk_w_DEF : ClassId) (h0 : Heap) (n0 : Nat) (Z0 : n0 ≤ h0.size) (O0 : Old Z n0 h0) (S_DEFAULTCAPACITY_EMPTY_ELEMENTDATA : Sta Z Z.heap "java/util/ArrayList" "DEFAULTCAPACITY_EMPTY_ELEMENTDATA" "[Ljava/lang/Object;" (.ref w_DEF)) (V_w_DEF : Arv Z Z.heap w_DEF kk_w_DEF (.object "java/lang/Object") (0 : Int32) [] .null) (hc3_0 : ¬ ((pi2 &&& (3 : Int32)) = (0 : Int32))) (hc3_1 : ¬ ((pi2 &&& (3 : Int32)) = (1 : Int32))) (hc3_2 : (pi2 &&& (3 : Int32)) = (2 : Int32)) (hc52_3 : (pi3 &&& (3 : Int32)) = (0 : Int32)) :
    MetFree l x (head1 (Jvm.Cond.code x code maxLocals ret :: ws) room_1) (fun a U => a = #[(.long pl1), (.int pi2), (.int pi3), (.int pi4), (.int pi5), (.int pi6)] ∧ Z.Warmed39 U.vm ∧ U.heap = h0) (fun _ _ _ _ _ => True) (fun _ U o U' => ∃ v L, o = .returned v ∧ Q0 v L n0 ∧ FrameEnd U o U' L room_1.cells room_1.slots) := by
  refine MetFree.of_bodySF (plainFor_of_name pn_0) hisR ?_
  intro p e s m args below meth c s₁ Bd hml0 hP hK
  obtain ⟨rfl, hZ, hh⟩ := hP
  have hx := Bd.exec
  have hby := Bd.bytes
  have hml : c.maxLocals = 12 := hml0
  have hown : s.vm.findClass "com/example/shardwright/shardwright/cli/RowIsBlankPinLaw" = some m.cls := findClass_of_methodNamed Bd.named
  have hnm := (name_of_methodNamed Bd.named Bd.method).1
  have X0 : Stand p l e room_1 s m #[(.long pl1), (.int pi2), (.int pi3), (.int pi4), (.int pi5), (.int pi6)] below meth c s₁ [] 0 0 := Stand.of_body Bd
  have e0 : s₁.heap = h0 := by rw [← hh, Bd.state]; rfl
  have N0 := Fr.nil n0
  have pre0 : ∀ t, Steps p.tables e below (s₁.setTop (mkF m 0 #[.val (.long pl1), .second, .val (.int pi2), .val (.int pi3), .val (.int pi4), .val (.int pi5), .val (.int pi6), .unset, .unset, .unset, .unset, .unset] [])) t → Steps p.tables e below (s₁.setTop (entryFrame m #[(.long pl1), (.int pi2), (.int pi3), (.int pi4), (.int pi5), (.int pi6)] maxLocals)) t := fun t k => castTop (ef_0 m pl1 pi2 pi3 pi4 pi5 pi6) k
  obtain ⟨T1, h1, k1, X1, e1, E1, A1, st1⟩ := newP X0 hx hZ (own_W hw 0 rfl) e0 (g := (mkF m 7 #[.val (.long pl1), .second, .val (.int pi2), .val (.int pi3), .val (.int pi4), .val (.int pi5), .val (.int pi6), .val (.int (2 : Int32)), .unset, .unset, .unset, .unset] [(.int (2 : Int32))])) rfl (hb hby at_7) rfl (by decide) (cap := 2) (by decide) (by decide) (by decide) (by decide)
  obtain ⟨b1, g1⟩ : ∃ z, z = h0.size := ⟨_, rfl⟩
  rw [← g1] at A1 st1
  have V1 : Arv Z h1 b1 k1 .byte (2 : Int32) [(.int (0 : Int32)), (.int (0 : Int32))] (.int (0 : Int32)) := (Arv.new A1 (by decide)).pad (pad_rep [] (.int (0 : Int32)) 2)
  have g_b1 : n0 ≤ b1 := Nat.le_trans Z0 (Nat.le_of_eq g1.symm)
  have V_c2 := V1
  obtain ⟨c2, Arc2, qc2, Sc2, Nc2, Hc2, Gc2⟩ := V_c2
  have hin3 : ¬ ((0 : Int32) < 0 ∨ c2.slots.size ≤ ((0 : Int32)).toNatClampNeg) := inb_of Sc2 ⟨by decide, by decide⟩
  obtain ⟨T3, h3, X3, e3, W3, st3⟩ := stB X1 hx hZ e1 Arc2 (j := (0 : Int32)) hin3 (g := (mkF m 22 #[.val (.long pl1), .second, .val (.int pi2), .val (.int pi3), .val (.int pi4), .val (.int pi5), .val (.int pi6), .val (.int (2 : Int32)), .val (.ref b1), .unset, .unset, .unset] [(.int (pi4.toInt8.toInt32)), (.int (0 : Int32)), (.ref b1)])) rfl rfl (hb hby at_22)
  have V3 : Arv Z h3 b1 k1 .byte (2 : Int32) [(.int (nar .byte (pi4.toInt8.toInt32))), (.int (0 : Int32))] (.int (0 : Int32)) := Arv.set Arc2 qc2 Sc2 Nc2 Hc2 Gc2 (fits_nar_byte _) W3 0 rfl (Nat.le_of_ble_eq_true rfl)
  have N3 := Fr.snoc X3 N0 g_b1
  have V_c4 := V3
  obtain ⟨c4, Arc4, qc4, Sc4, Nc4, Hc4, Gc4⟩ := V_c4
  have hin5 : ¬ ((1 : Int32) < 0 ∨ c4.slots.size ≤ ((1 : Int32)).toNatClampNeg) := inb_of Sc4 ⟨by decide, by decide⟩
  obtain ⟨T5, h5, X5, e5, W5, st5⟩ := stB X3 hx hZ e3 Arc4 (j := (1 : Int32)) hin5 (g := (mkF m 35 #[.val (.long pl1), .second, .val (.int pi2), .val (.int pi3), .val (.int pi4), .val (.int pi5), .val (.int pi6), .val (.int (2 : Int32)), .val (.ref b1), .unset, .unset, .unset] [(.int (pi5.toInt8.toInt32)), (.int (1 : Int32)), (.ref b1)])) rfl rfl (hb hby at_35)
  have V5 : Arv Z h5 b1 k1 .byte (2 : Int32) [(.int (nar .byte (pi4.toInt8.toInt32))), (.int (nar .byte (pi5.toInt8.toInt32)))] (.int (0 : Int32)) := Arv.set Arc4 qc4 Sc4 Nc4 Hc4 Gc4 (fits_nar_byte _) W5 1 rfl (Nat.le_of_ble_eq_true rfl)
  have N5 := Fr.snoc X5 N3 g_b1
  obtain ⟨T6, h6, X6, e6, E6, A6, D6, -, st6⟩ := newO X5 hx hZ hown (own_W hw 1 rfl) (own_W hw 2 rfl) (own_W hw 3 rfl) e5 (g := (mkF m 54 #[.val (.long pl1), .second, .val (.int pi2), .val (.int pi3), .val (.int pi4), .val (.int pi5), .val (.int pi6), .val (.int (2 : Int32)), .val (.ref b1), .val (.int (0 : Int32)), .unset, .unset] [])) rfl (hb hby at_54) (by decide) (by decide)
  obtain ⟨b6, g6⟩ : ∃ z, z = h5.size := ⟨_, rfl⟩
  rw [← g6] at A6 D6 st6
  have F_modCount_b6 : Fld Z h6 b6 "java/util/AbstractList" "modCount" "I" (.int (0 : Int32)) := D6 (Or.inl (own_W hw 23 rfl)) (ty := .int) (by decide)
  have F_elementData_b6 : Fld Z h6 b6 "java/util/ArrayList" "elementData" "[Ljava/lang/Object;" .null := D6 (Or.inl (own_W hw 26 rfl)) (ty := (.array (.object "java/lang/Object"))) (by decide)
  have F_size_b6 : Fld Z h6 b6 "java/util/ArrayList" "size" "I" (.int (0 : Int32)) := D6 (Or.inl (own_W hw 43 rfl)) (ty := .int) (by decide)
  have z7 := Nat.le_trans Z0 E1.1
  have z8 := Nat.le_trans z7 (Keep.of_wr W3).1
  have z9 := Nat.le_trans z8 (Keep.of_wr W5).1
  have g_b6 : n0 ≤ b6 := Nat.le_trans z9 (Nat.le_of_eq g6.symm)
  have z11 := Nat.le_trans z9 E6.1
  have o12 := O0.ext E1
  have o13 := o12.wr W3 g_b1
  have o14 := o13.wr W5 g_b1
  have o15 := o14.ext E6
  obtain ⟨_, _, ⟨T10, L10, k10, n10⟩, -, X10, ⟨Lc10, hQ10, l10, y10, z10⟩, st10⟩ := X6.specialBack hx (y := (⟨"java/util/ArrayList", "<init>", "()V"⟩ : MethodName)) rfl hown (mvT hZ (own_W hw 4 rfl)) (mvT hZ (own_W hw 5 rfl)) (mvT hZ (own_W hw 6 rfl)) (by decide) (backOf (W := 1) (rm1 l Z a0 hw [] b6 w_DEF (.int (0 : Int32)) .null (.int (0 : Int32)) h6 n0 z11 o15 A6 S_DEFAULTCAPACITY_EMPTY_ELEMENTDATA F_modCount_b6 F_elementData_b6 F_size_b6 g_b6) hZ (own_W hw 6 rfl) (own_W hw 3 rfl) (by decide) (by decide)) (g := (mkF m 58 #[.val (.long pl1), .second, .val (.int pi2), .val (.int pi3), .val (.int pi4), .val (.int pi5), .val (.int pi6), .val (.int (2 : Int32)), .val (.ref b1), .val (.int (0 : Int32)), .unset, .unset] [(.ref b6), (.ref b6)])) rfl (by rw [hml]; rfl) (Steps.refl _) (a := b6) (argsL := []) (rest := [(.ref b6)]) (lenOf pd_0 rfl) rfl (by show 2 * 0 + _ ≤ _; exact Nat.le_of_eq rfl) (hb hby at_58) (fun _ _ => ⟨rfl, e6, (by decide : 2 + 0 ≤ _), (by decide : 5 + 0 ≤ _)⟩)
  dsimp only [Pt.U, Pt.locs, Pt.cells, Pt.slots] at X10 l10 y10 z10 st10 hQ10
  subst l10 y10 z10
  obtain ⟨rfl, N10q, K10, qf10_0, qf10_1, qf10_2, qf10_3⟩ := hQ10
  have N10 := Fr.app N5 N10q
  obtain ⟨T16, h16, X16, e16, E16, A16, D16, -, st16⟩ := newO X10 hx hZ hown (own_W hw 66 rfl) (own_W hw 67 rfl) (own_W hw 68 rfl) rfl (g := (mkF m 128 #[.val (.long pl1), .second, .val (.int pi2), .val (.int pi3), .val (.int pi4), .val (.int pi5), .val (.int pi6), .val (.int (2 : Int32)), .val (.ref b1), .val (.int (0 : Int32)), .val (.ref b6), .unset] [])) rfl (hb hby at_128) (by decide) (by decide)
  obtain ⟨b16, g16⟩ : ∃ z, z = T10.heap.size := ⟨_, rfl⟩
  rw [← g16] at A16 D16 st16
  have F_line_b16 : Fld Z h16 b16 "com/example/shardwright/shardwright/cli/CsvReader$Row" "line" "J" (.long (0 : Int64)) := D16 (Or.inr (own_W hw 79 rfl)) (ty := .long) (by decide)
  have F_text_b16 : Fld Z h16 b16 "com/example/shardwright/shardwright/cli/CsvReader$Row" "text" "[B" .null := D16 (Or.inr (own_W hw 81 rfl)) (ty := (.array .byte)) (by decide)
  have F_fields_b16 : Fld Z h16 b16 "com/example/shardwright/shardwright/cli/CsvReader$Row" "fields" "Ljava/util/List;" .null := D16 (Or.inr (own_W hw 83 rfl)) (ty := (.object "java/util/List")) (by decide)
  have z17 := Nat.le_trans z11 K10.1
  have g_b16 : n0 ≤ b16 := Nat.le_trans z17 (Nat.le_of_eq g16.symm)
  have z19 := Nat.le_trans z17 E16.1
  have o20 := o15.keep K10 (allS g_b6 all0)
  have o21 := o20.ext E16
  obtain ⟨_, _, ⟨T18, L18, k18, n18⟩, -, X18, ⟨Lc18, hQ18, l18, y18, z18⟩, st18⟩ := X16.specialBack hx (y := (⟨"com/example/shardwright/shardwright/cli/CsvReader$Row", "<init>", "(J[BLjava/util/List;)V"⟩ : MethodName)) rfl hown (mvT hZ (own_W hw 69 rfl)) (mvT hZ (own_W hw 70 rfl)) (mvT hZ (own_W hw 71 rfl)) (by decide) (backOf (W := 1) (rm11 l Z a0 hw [] b16 pl1 b1 b6 (.long (0 : Int64)) .null .null h16 n0 z19 o21 A16 F_line_b16 g_b16 F_text_b16 F_fields_b16) hZ (own_W hw 71 rfl) (own_W hw 68 rfl) (by decide) (by decide)) (g := (mkF m 137 #[.val (.long pl1), .second, .val (.int pi2), .val (.int pi3), .val (.int pi4), .val (.int pi5), .val (.int pi6), .val (.int (2 : Int32)), .val (.ref b1), .val (.int (0 : Int32)), .val (.ref b6), .unset] [(.ref b6), (.ref b1), (.long pl1), (.ref b16), (.ref b16)])) rfl (by rw [hml]; rfl) (Steps.refl _) (a := b16) (argsL := [(.long pl1), (.ref b1), (.ref b6)]) (rest := [(.ref b16)]) (lenOf pd_7 rfl) rfl (by show 2 * 0 + _ ≤ _; exact Nat.le_of_eq rfl) (hb hby at_137) (fun _ _ => ⟨rfl, e16, (by decide : 3 + 0 ≤ _), (by decide : 8 + 0 ≤ _)⟩)
  dsimp only [Pt.U, Pt.locs, Pt.cells, Pt.slots] at X18 l18 y18 z18 st18 hQ18
  subst l18 y18 z18
  obtain ⟨rfl, N18q, K18, qf18_0, qf18_1, qf18_2, qf18_3⟩ := hQ18
  have N18 := Fr.app N10 N18q
  have f22 := V5.ext E6
  have f23 := f22.keep K10 (ninS (Nat.ne_of_lt (Nat.lt_of_lt_of_le V5.lt (Nat.le_of_eq g6.symm))) nin0)
  have f24 := f23.ext E16
  have f25 := f24.keep K18 (ninS (Nat.ne_of_lt (Nat.lt_of_lt_of_le f23.lt (Nat.le_of_eq g16.symm))) nin0)
  have z27 := Nat.le_trans z19 K18.1
  have o28 := o21.keep K18 (allS g_b16 all0)
  obtain ⟨cq26, kq26, q26a, q26b, q26c⟩ := isOf hZ rfl qf18_0
  obtain ⟨_, _, ⟨T26, L26, k26, n26⟩, -, X26, ⟨Lc26, hQ26, l26, y26, z26⟩, st26⟩ := X18.virtualBack hx (y := (⟨"com/example/shardwright/shardwright/cli/CsvReader$Row", "isBlank", "()Z"⟩ : MethodName)) (z := (⟨"com/example/shardwright/shardwright/cli/CsvReader$Row", "isBlank", "()Z"⟩ : MethodName)) hown (mvT hZ (own_W hw 84 rfl)) (mvT hZ (own_W hw 85 rfl)) (notFace_of_selects (args := #[]) (mvT hZ (own_W hw 87 rfl))) (mvT hZ (own_W hw 87 rfl)) (mvT hZ (own_W hw 86 rfl)) (by decide) (backOf (W := 0) (rm13_2 l Z a0 hw [] b16 b1 k1 (nar .byte (pi4.toInt8.toInt32)) (nar .byte (pi5.toInt8.toInt32)) T18.heap n0 z27 o28 qf18_2 f25) hZ (own_W hw 88 rfl) (own_W hw 68 rfl) (by decide) (by decide)) q26a q26c (g := (mkF m 144 #[.val (.long pl1), .second, .val (.int pi2), .val (.int pi3), .val (.int pi4), .val (.int pi5), .val (.int pi6), .val (.int (2 : Int32)), .val (.ref b1), .val (.int (0 : Int32)), .val (.ref b6), .val (.ref b16)] [(.ref b16)])) rfl (by rw [hml]; rfl) (Steps.refl _) (argsL := []) (rest := []) (lenOf pd_8 rfl) rfl (by show 2 * 0 + _ ≤ _; exact Nat.le_of_eq rfl) (hb hby at_144) (fun _ _ => ⟨rfl, rfl, (by decide : 3 + 0 ≤ _), (by decide : 8 + 0 ≤ _)⟩)
  dsimp only [Pt.U, Pt.locs, Pt.cells, Pt.slots] at X26 l26 y26 z26 st26 hQ26
  subst l26 y26 z26
  obtain ⟨rfl, N26q, eq26⟩ := hQ26
  have N26 := Fr.app N18 N26q
  obtain ⟨fs, hr, hrun, hended, hW, hsame⟩ := X26.leave (v := some (.int (1 : Int32))) (fun h => by rw [Bd.returns] at h; cases h)
  refine ⟨_, _, pre0 _ ?_, hrun, hended, _, _, rfl, ?_, ⟨_, rfl⟩, hW, hsame.mono (by decide) (by decide)⟩
  · show Stp p e below s₁ m 0 #[.val (.long pl1), .second, .val (.int pi2), .val (.int pi3), .val (.int pi4), .val (.int pi5), .val (.int pi6), .unset, .unset, .unset, .unset, .unset] [] _
    refine XS.iloadN X0.here hx rfl (hb hby at_0) rfl ?_
    show Stp p e below s₁ m 1 #[.val (.long pl1), .second, .val (.int pi2), .val (.int pi3), .val (.int pi4), .val (.int pi5), .val (.int pi6), .unset, .unset, .unset, .unset, .unset] [(.int pi2)] _
    refine XS.iconst X0.here hx rfl (hb hby at_1) ?_
    show Stp p e below s₁ m 2 #[.val (.long pl1), .second, .val (.int pi2), .val (.int pi3), .val (.int pi4), .val (.int pi5), .val (.int pi6), .unset, .unset, .unset, .unset, .unset] [(.int (3 : Int32)), (.int pi2)] _
    refine XS.iand X0.here hx rfl (hb hby at_2) rfl ?_
    show Stp p e below s₁ m 3 #[.val (.long pl1), .second, .val (.int pi2), .val (.int pi3), .val (.int pi4), .val (.int pi5), .val (.int pi6), .unset, .unset, .unset, .unset, .unset] [(.int (pi2 &&& (3 : Int32)))] _
    refine XS.istore X0.here hx rfl (hb hby at_3) rfl (l' := #[.val (.long pl1), .second, .val (.int pi2), .val (.int pi3), .val (.int pi4), .val (.int pi5), .val (.int pi6), .val (.int (pi2 &&& (3 : Int32))), .unset, .unset, .unset, .unset]) rfl ?_
    show Stp p e below s₁ m 5 #[.val (.long pl1), .second, .val (.int pi2), .val (.int pi3), .val (.int pi4), .val (.int pi5), .val (.int pi6), .val (.int (pi2 &&& (3 : Int32))), .unset, .unset, .unset, .unset] [] _
    rw [show (pi2 &&& (3 : Int32)) = (2 : Int32) from hc3_2]
    show Stp p e below s₁ m 5 #[.val (.long pl1), .second, .val (.int pi2), .val (.int pi3), .val (.int pi4), .val (.int pi5), .val (.int pi6), .val (.int (2 : Int32)), .unset, .unset, .unset, .unset] [] _
    refine XS.iload X0.here hx rfl (hb hby at_5) rfl ?_
    show Stp p e below s₁ m 7 #[.val (.long pl1), .second, .val (.int pi2), .val (.int pi3), .val (.int pi4), .val (.int pi5), .val (.int pi6), .val (.int (2 : Int32)), .unset, .unset, .unset, .unset] [(.int (2 : Int32))] _
    refine st1 _ ?_
    show Stp p e below T1 m 9 #[.val (.long pl1), .second, .val (.int pi2), .val (.int pi3), .val (.int pi4), .val (.int pi5), .val (.int pi6), .val (.int (2 : Int32)), .unset, .unset, .unset, .unset] [(.ref b1)] _
    refine XS.astore X1.here hx rfl (hb hby at_9) rfl rfl (l' := #[.val (.long pl1), .second, .val (.int pi2), .val (.int pi3), .val (.int pi4), .val (.int pi5), .val (.int pi6), .val (.int (2 : Int32)), .val (.ref b1), .unset, .unset, .unset]) rfl ?_
    show Stp p e below T1 m 11 #[.val (.long pl1), .second, .val (.int pi2), .val (.int pi3), .val (.int pi4), .val (.int pi5), .val (.int pi6), .val (.int (2 : Int32)), .val (.ref b1), .unset, .unset, .unset] [] _
    refine XS.iload X1.here hx rfl (hb hby at_11) rfl ?_
    show Stp p e below T1 m 13 #[.val (.long pl1), .second, .val (.int pi2), .val (.int pi3), .val (.int pi4), .val (.int pi5), .val (.int pi6), .val (.int (2 : Int32)), .val (.ref b1), .unset, .unset, .unset] [(.int (2 : Int32))] _
    refine XS.ifNo X1.here hx rfl (hb hby at_13) rfl ((if0 _ _).trans (tlt (by decide : (0 : Int32) < (2 : Int32))).2.2.2) ?_
    show Stp p e below T1 m 16 #[.val (.long pl1), .second, .val (.int pi2), .val (.int pi3), .val (.int pi4), .val (.int pi5), .val (.int pi6), .val (.int (2 : Int32)), .val (.ref b1), .unset, .unset, .unset] [] _
    refine XS.aload X1.here hx rfl (hb hby at_16) rfl rfl ?_
    show Stp p e below T1 m 18 #[.val (.long pl1), .second, .val (.int pi2), .val (.int pi3), .val (.int pi4), .val (.int pi5), .val (.int pi6), .val (.int (2 : Int32)), .val (.ref b1), .unset, .unset, .unset] [(.ref b1)] _
    refine XS.iconst X1.here hx rfl (hb hby at_18) ?_
    show Stp p e below T1 m 19 #[.val (.long pl1), .second, .val (.int pi2), .val (.int pi3), .val (.int pi4), .val (.int pi5), .val (.int pi6), .val (.int (2 : Int32)), .val (.ref b1), .unset, .unset, .unset] [(.int (0 : Int32)), (.ref b1)] _
    refine XS.iload X1.here hx rfl (hb hby at_19) rfl ?_
    show Stp p e below T1 m 21 #[.val (.long pl1), .second, .val (.int pi2), .val (.int pi3), .val (.int pi4), .val (.int pi5), .val (.int pi6), .val (.int (2 : Int32)), .val (.ref b1), .unset, .unset, .unset] [(.int pi4), (.int (0 : Int32)), (.ref b1)] _
    refine XS.i2b X1.here hx rfl (hb hby at_21) rfl ?_
    show Stp p e below T1 m 22 #[.val (.long pl1), .second, .val (.int pi2), .val (.int pi3), .val (.int pi4), .val (.int pi5), .val (.int pi6), .val (.int (2 : Int32)), .val (.ref b1), .unset, .unset, .unset] [(.int (pi4.toInt8.toInt32)), (.int (0 : Int32)), (.ref b1)] _
    refine st3 _ ?_
    show Stp p e below T3 m 23 #[.val (.long pl1), .second, .val (.int pi2), .val (.int pi3), .val (.int pi4), .val (.int pi5), .val (.int pi6), .val (.int (2 : Int32)), .val (.ref b1), .unset, .unset, .unset] [] _
    refine XS.iload X3.here hx rfl (hb hby at_23) rfl ?_
    show Stp p e below T3 m 25 #[.val (.long pl1), .second, .val (.int pi2), .val (.int pi3), .val (.int pi4), .val (.int pi5), .val (.int pi6), .val (.int (2 : Int32)), .val (.ref b1), .unset, .unset, .unset] [(.int (2 : Int32))] _
    refine XS.iconst X3.here hx rfl (hb hby at_25) ?_
    show Stp p e below T3 m 26 #[.val (.long pl1), .second, .val (.int pi2), .val (.int pi3), .val (.int pi4), .val (.int pi5), .val (.int pi6), .val (.int (2 : Int32)), .val (.ref b1), .unset, .unset, .unset] [(.int (1 : Int32)), (.int (2 : Int32))] _
    refine XS.icmpNo X3.here hx rfl (hb hby at_26) rfl (tlt (by decide : (1 : Int32) < (2 : Int32))).2.2.2 ?_
    show Stp p e below T3 m 29 #[.val (.long pl1), .second, .val (.int pi2), .val (.int pi3), .val (.int pi4), .val (.int pi5), .val (.int pi6), .val (.int (2 : Int32)), .val (.ref b1), .unset, .unset, .unset] [] _
    refine XS.aload X3.here hx rfl (hb hby at_29) rfl rfl ?_
    show Stp p e below T3 m 31 #[.val (.long pl1), .second, .val (.int pi2), .val (.int pi3), .val (.int pi4), .val (.int pi5), .val (.int pi6), .val (.int (2 : Int32)), .val (.ref b1), .unset, .unset, .unset] [(.ref b1)] _
    refine XS.iconst X3.here hx rfl (hb hby at_31) ?_
    show Stp p e below T3 m 32 #[.val (.long pl1), .second, .val (.int pi2), .val (.int pi3), .val (.int pi4), .val (.int pi5), .val (.int pi6), .val (.int (2 : Int32)), .val (.ref b1), .unset, .unset, .unset] [(.int (1 : Int32)), (.ref b1)] _
    refine XS.iload X3.here hx rfl (hb hby at_32) rfl ?_
    show Stp p e below T3 m 34 #[.val (.long pl1), .second, .val (.int pi2), .val (.int pi3), .val (.int pi4), .val (.int pi5), .val (.int pi6), .val (.int (2 : Int32)), .val (.ref b1), .unset, .unset, .unset] [(.int pi5), (.int (1 : Int32)), (.ref b1)] _
    refine XS.i2b X3.here hx rfl (hb hby at_34) rfl ?_
    show Stp p e below T3 m 35 #[.val (.long pl1), .second, .val (.int pi2), .val (.int pi3), .val (.int pi4), .val (.int pi5), .val (.int pi6), .val (.int (2 : Int32)), .val (.ref b1), .unset, .unset, .unset] [(.int (pi5.toInt8.toInt32)), (.int (1 : Int32)), (.ref b1)] _
    refine st5 _ ?_
    show Stp p e below T5 m 36 #[.val (.long pl1), .second, .val (.int pi2), .val (.int pi3), .val (.int pi4), .val (.int pi5), .val (.int pi6), .val (.int (2 : Int32)), .val (.ref b1), .unset, .unset, .unset] [] _
    refine XS.iload X5.here hx rfl (hb hby at_36) rfl ?_
    show Stp p e below T5 m 38 #[.val (.long pl1), .second, .val (.int pi2), .val (.int pi3), .val (.int pi4), .val (.int pi5), .val (.int pi6), .val (.int (2 : Int32)), .val (.ref b1), .unset, .unset, .unset] [(.int (2 : Int32))] _
    refine XS.iconst X5.here hx rfl (hb hby at_38) ?_
    show Stp p e below T5 m 39 #[.val (.long pl1), .second, .val (.int pi2), .val (.int pi3), .val (.int pi4), .val (.int pi5), .val (.int pi6), .val (.int (2 : Int32)), .val (.ref b1), .unset, .unset, .unset] [(.int (2 : Int32)), (.int (2 : Int32))] _
    refine XS.icmpYes X5.here hx rfl (pc0 := 39) (pc' := 49) rfl (hb hby at_39) rfl (flt (by simp : ¬ ((2 : Int32) < (2 : Int32)))).2.2.2 (by decide) (by decide) ?_
    show Stp p e below T5 m 49 #[.val (.long pl1), .second, .val (.int pi2), .val (.int pi3), .val (.int pi4), .val (.int pi5), .val (.int pi6), .val (.int (2 : Int32)), .val (.ref b1), .unset, .unset, .unset] [] _
    refine XS.iloadN X5.here hx rfl (hb hby at_49) rfl ?_
    show Stp p e below T5 m 50 #[.val (.long pl1), .second, .val (.int pi2), .val (.int pi3), .val (.int pi4), .val (.int pi5), .val (.int pi6), .val (.int (2 : Int32)), .val (.ref b1), .unset, .unset, .unset] [(.int pi3)] _
    refine XS.iconst X5.here hx rfl (hb hby at_50) ?_
    show Stp p e below T5 m 51 #[.val (.long pl1), .second, .val (.int pi2), .val (.int pi3), .val (.int pi4), .val (.int pi5), .val (.int pi6), .val (.int (2 : Int32)), .val (.ref b1), .unset, .unset, .unset] [(.int (3 : Int32)), (.int pi3)] _
    refine XS.iand X5.here hx rfl (hb hby at_51) rfl ?_
    show Stp p e below T5 m 52 #[.val (.long pl1), .second, .val (.int pi2), .val (.int pi3), .val (.int pi4), .val (.int pi5), .val (.int pi6), .val (.int (2 : Int32)), .val (.ref b1), .unset, .unset, .unset] [(.int (pi3 &&& (3 : Int32)))] _
    refine XS.istore X5.here hx rfl (hb hby at_52) rfl (l' := #[.val (.long pl1), .second, .val (.int pi2), .val (.int pi3), .val (.int pi4), .val (.int pi5), .val (.int pi6), .val (.int (2 : Int32)), .val (.ref b1), .val (.int (pi3 &&& (3 : Int32))), .unset, .unset]) rfl ?_
    show Stp p e below T5 m 54 #[.val (.long pl1), .second, .val (.int pi2), .val (.int pi3), .val (.int pi4), .val (.int pi5), .val (.int pi6), .val (.int (2 : Int32)), .val (.ref b1), .val (.int (pi3 &&& (3 : Int32))), .unset, .unset] [] _
    rw [show (pi3 &&& (3 : Int32)) = (0 : Int32) from hc52_3]
    show Stp p e below T5 m 54 #[.val (.long pl1), .second, .val (.int pi2), .val (.int pi3), .val (.int pi4), .val (.int pi5), .val (.int pi6), .val (.int (2 : Int32)), .val (.ref b1), .val (.int (0 : Int32)), .unset, .unset] [] _
    refine st6 _ ?_
    show Stp p e below T6 m 57 #[.val (.long pl1), .second, .val (.int pi2), .val (.int pi3), .val (.int pi4), .val (.int pi5), .val (.int pi6), .val (.int (2 : Int32)), .val (.ref b1), .val (.int (0 : Int32)), .unset, .unset] [(.ref b6)] _
    refine XS.dup X6.here hx rfl (hb hby at_57) rfl rfl ?_
    show Stp p e below T6 m 58 #[.val (.long pl1), .second, .val (.int pi2), .val (.int pi3), .val (.int pi4), .val (.int pi5), .val (.int pi6), .val (.int (2 : Int32)), .val (.ref b1), .val (.int (0 : Int32)), .unset, .unset] [(.ref b6), (.ref b6)] _
    refine st10.trans ?_
    show Stp p e below T10 m 61 #[.val (.long pl1), .second, .val (.int pi2), .val (.int pi3), .val (.int pi4), .val (.int pi5), .val (.int pi6), .val (.int (2 : Int32)), .val (.ref b1), .val (.int (0 : Int32)), .unset, .unset] [(.ref b6)] _
    refine XS.astore X10.here hx rfl (hb hby at_61) rfl rfl (l' := #[.val (.long pl1), .second, .val (.int pi2), .val (.int pi3), .val (.int pi4), .val (.int pi5), .val (.int pi6), .val (.int (2 : Int32)), .val (.ref b1), .val (.int (0 : Int32)), .val (.ref b6), .unset]) rfl ?_
    show Stp p e below T10 m 63 #[.val (.long pl1), .second, .val (.int pi2), .val (.int pi3), .val (.int pi4), .val (.int pi5), .val (.int pi6), .val (.int (2 : Int32)), .val (.ref b1), .val (.int (0 : Int32)), .val (.ref b6), .unset] [] _
    refine XS.iload X10.here hx rfl (hb hby at_63) rfl ?_
    show Stp p e below T10 m 65 #[.val (.long pl1), .second, .val (.int pi2), .val (.int pi3), .val (.int pi4), .val (.int pi5), .val (.int pi6), .val (.int (2 : Int32)), .val (.ref b1), .val (.int (0 : Int32)), .val (.ref b6), .unset] [(.int (0 : Int32))] _
    refine XS.ifYes X10.here hx rfl (pc0 := 65) (pc' := 84) rfl (hb hby at_65) rfl ((if0 _ _).trans (flt (by simp : ¬ ((0 : Int32) < (0 : Int32)))).2.2.2) (by decide) (by decide) ?_
    show Stp p e below T10 m 84 #[.val (.long pl1), .second, .val (.int pi2), .val (.int pi3), .val (.int pi4), .val (.int pi5), .val (.int pi6), .val (.int (2 : Int32)), .val (.ref b1), .val (.int (0 : Int32)), .val (.ref b6), .unset] [] _
    refine XS.iload X10.here hx rfl (hb hby at_84) rfl ?_
    show Stp p e below T10 m 86 #[.val (.long pl1), .second, .val (.int pi2), .val (.int pi3), .val (.int pi4), .val (.int pi5), .val (.int pi6), .val (.int (2 : Int32)), .val (.ref b1), .val (.int (0 : Int32)), .val (.ref b6), .unset] [(.int (0 : Int32))] _
    refine XS.iconst X10.here hx rfl (hb hby at_86) ?_
    show Stp p e below T10 m 87 #[.val (.long pl1), .second, .val (.int pi2), .val (.int pi3), .val (.int pi4), .val (.int pi5), .val (.int pi6), .val (.int (2 : Int32)), .val (.ref b1), .val (.int (0 : Int32)), .val (.ref b6), .unset] [(.int (1 : Int32)), (.int (0 : Int32))] _
    refine XS.icmpYes X10.here hx rfl (pc0 := 87) (pc' := 106) rfl (hb hby at_87) rfl (flt (by decide : ¬ ((1 : Int32) < (0 : Int32)))).2.2.2 (by decide) (by decide) ?_
    show Stp p e below T10 m 106 #[.val (.long pl1), .second, .val (.int pi2), .val (.int pi3), .val (.int pi4), .val (.int pi5), .val (.int pi6), .val (.int (2 : Int32)), .val (.ref b1), .val (.int (0 : Int32)), .val (.ref b6), .unset] [] _
    refine XS.iload X10.here hx rfl (hb hby at_106) rfl ?_
    show Stp p e below T10 m 108 #[.val (.long pl1), .second, .val (.int pi2), .val (.int pi3), .val (.int pi4), .val (.int pi5), .val (.int pi6), .val (.int (2 : Int32)), .val (.ref b1), .val (.int (0 : Int32)), .val (.ref b6), .unset] [(.int (0 : Int32))] _
    refine XS.iconst X10.here hx rfl (hb hby at_108) ?_
    show Stp p e below T10 m 109 #[.val (.long pl1), .second, .val (.int pi2), .val (.int pi3), .val (.int pi4), .val (.int pi5), .val (.int pi6), .val (.int (2 : Int32)), .val (.ref b1), .val (.int (0 : Int32)), .val (.ref b6), .unset] [(.int (2 : Int32)), (.int (0 : Int32))] _
    refine XS.icmpYes X10.here hx rfl (pc0 := 109) (pc' := 128) rfl (hb hby at_109) rfl (flt (by decide : ¬ ((2 : Int32) < (0 : Int32)))).2.2.2 (by decide) (by decide) ?_
    show Stp p e below T10 m 128 #[.val (.long pl1), .second, .val (.int pi2), .val (.int pi3), .val (.int pi4), .val (.int pi5), .val (.int pi6), .val (.int (2 : Int32)), .val (.ref b1), .val (.int (0 : Int32)), .val (.ref b6), .unset] [] _
    refine st16 _ ?_
    show Stp p e below T16 m 131 #[.val (.long pl1), .second, .val (.int pi2), .val (.int pi3), .val (.int pi4), .val (.int pi5), .val (.int pi6), .val (.int (2 : Int32)), .val (.ref b1), .val (.int (0 : Int32)), .val (.ref b6), .unset] [(.ref b16)] _
    refine XS.dup X16.here hx rfl (hb hby at_131) rfl rfl ?_
    show Stp p e below T16 m 132 #[.val (.long pl1), .second, .val (.int pi2), .val (.int pi3), .val (.int pi4), .val (.int pi5), .val (.int pi6), .val (.int (2 : Int32)), .val (.ref b1), .val (.int (0 : Int32)), .val (.ref b6), .unset] [(.ref b16), (.ref b16)] _
    refine XS.lloadN X16.here hx rfl (hb hby at_132) rfl ?_
    show Stp p e below T16 m 133 #[.val (.long pl1), .second, .val (.int pi2), .val (.int pi3), .val (.int pi4), .val (.int pi5), .val (.int pi6), .val (.int (2 : Int32)), .val (.ref b1), .val (.int (0 : Int32)), .val (.ref b6), .unset] [(.long pl1), (.ref b16), (.ref b16)] _
    refine XS.aload X16.here hx rfl (hb hby at_133) rfl rfl ?_
    show Stp p e below T16 m 135 #[.val (.long pl1), .second, .val (.int pi2), .val (.int pi3), .val (.int pi4), .val (.int pi5), .val (.int pi6), .val (.int (2 : Int32)), .val (.ref b1), .val (.int (0 : Int32)), .val (.ref b6), .unset] [(.ref b1), (.long pl1), (.ref b16), (.ref b16)] _
    refine XS.aload X16.here hx rfl (hb hby at_135) rfl rfl ?_
    show Stp p e below T16 m 137 #[.val (.long pl1), .second, .val (.int pi2), .val (.int pi3), .val (.int pi4), .val (.int pi5), .val (.int pi6), .val (.int (2 : Int32)), .val (.ref b1), .val (.int (0 : Int32)), .val (.ref b6), .unset] [(.ref b6), (.ref b1), (.long pl1), (.ref b16), (.ref b16)] _
    refine st18.trans ?_
    show Stp p e below T18 m 140 #[.val (.long pl1), .second, .val (.int pi2), .val (.int pi3), .val (.int pi4), .val (.int pi5), .val (.int pi6), .val (.int (2 : Int32)), .val (.ref b1), .val (.int (0 : Int32)), .val (.ref b6), .unset] [(.ref b16)] _
    refine XS.astore X18.here hx rfl (hb hby at_140) rfl rfl (l' := #[.val (.long pl1), .second, .val (.int pi2), .val (.int pi3), .val (.int pi4), .val (.int pi5), .val (.int pi6), .val (.int (2 : Int32)), .val (.ref b1), .val (.int (0 : Int32)), .val (.ref b6), .val (.ref b16)]) rfl ?_
    show Stp p e below T18 m 142 #[.val (.long pl1), .second, .val (.int pi2), .val (.int pi3), .val (.int pi4), .val (.int pi5), .val (.int pi6), .val (.int (2 : Int32)), .val (.ref b1), .val (.int (0 : Int32)), .val (.ref b6), .val (.ref b16)] [] _
    refine XS.aload X18.here hx rfl (hb hby at_142) rfl rfl ?_
    show Stp p e below T18 m 144 #[.val (.long pl1), .second, .val (.int pi2), .val (.int pi3), .val (.int pi4), .val (.int pi5), .val (.int pi6), .val (.int (2 : Int32)), .val (.ref b1), .val (.int (0 : Int32)), .val (.ref b6), .val (.ref b16)] [(.ref b16)] _
    refine st26.trans ?_
    show Stp p e below T26 m 147 #[.val (.long pl1), .second, .val (.int pi2), .val (.int pi3), .val (.int pi4), .val (.int pi5), .val (.int pi6), .val (.int (2 : Int32)), .val (.ref b1), .val (.int (0 : Int32)), .val (.ref b6), .val (.ref b16)] [(.int (0 : Int32))] _
    refine XS.iload X26.here hx rfl (hb hby at_147) rfl ?_
    show Stp p e below T26 m 149 #[.val (.long pl1), .second, .val (.int pi2), .val (.int pi3), .val (.int pi4), .val (.int pi5), .val (.int pi6), .val (.int (2 : Int32)), .val (.ref b1), .val (.int (0 : Int32)), .val (.ref b6), .val (.ref b16)] [(.int (2 : Int32)), (.int (0 : Int32))] _
    refine XS.ifYes X26.here hx rfl (pc0 := 149) (pc' := 156) rfl (hb hby at_149) rfl ((if0 _ _).trans (feq (by decide : ¬ ((2 : Int32) = (0 : Int32)))).2) (by decide) (by decide) ?_
    show Stp p e below T26 m 156 #[.val (.long pl1), .second, .val (.int pi2), .val (.int pi3), .val (.int pi4), .val (.int pi5), .val (.int pi6), .val (.int (2 : Int32)), .val (.ref b1), .val (.int (0 : Int32)), .val (.ref b6), .val (.ref b16)] [(.int (0 : Int32))] _
    refine XS.iconst X26.here hx rfl (hb hby at_156) ?_
    show Stp p e below T26 m 157 #[.val (.long pl1), .second, .val (.int pi2), .val (.int pi3), .val (.int pi4), .val (.int pi5), .val (.int pi6), .val (.int (2 : Int32)), .val (.ref b1), .val (.int (0 : Int32)), .val (.ref b6), .val (.ref b16)] [(.int (0 : Int32)), (.int (0 : Int32))] _
    refine XS.icmpNo X26.here hx rfl (hb hby at_157) rfl (teq (rfl : (0 : Int32) = (0 : Int32))).2 ?_
    show Stp p e below T26 m 160 #[.val (.long pl1), .second, .val (.int pi2), .val (.int pi3), .val (.int pi4), .val (.int pi5), .val (.int pi6), .val (.int (2 : Int32)), .val (.ref b1), .val (.int (0 : Int32)), .val (.ref b6), .val (.ref b16)] [] _
    refine XS.iconst X26.here hx rfl (hb hby at_160) ?_
    show Stp p e below T26 m 161 #[.val (.long pl1), .second, .val (.int pi2), .val (.int pi3), .val (.int pi4), .val (.int pi5), .val (.int pi6), .val (.int (2 : Int32)), .val (.ref b1), .val (.int (0 : Int32)), .val (.ref b6), .val (.ref b16)] [(.int (1 : Int32))] _
    refine XS.goto X26.here hx rfl (pc0 := 161) (pc' := 165) rfl (hb hby at_161) (by decide) (by decide) ?_
    show Stp p e below T26 m 165 #[.val (.long pl1), .second, .val (.int pi2), .val (.int pi3), .val (.int pi4), .val (.int pi5), .val (.int pi6), .val (.int (2 : Int32)), .val (.ref b1), .val (.int (0 : Int32)), .val (.ref b6), .val (.ref b16)] [(.int (1 : Int32))] _
    exact retN X26 hx (t := .boolean) Bd.returns (by simp) (hb hby at_165) hr
  · exact ⟨rfl, N26⟩
set_option maxRecDepth 65536 in
set_option maxHeartbeats 40000000 in
theorem rm0_fftft (l : Launch) (Z : State) (a0 : Array Value) (hw : ∀ d ∈ tables_1, d.before a0 Z = true) (ws : List Jvm.Cond) (pl1 : Int64) (pi2 : Int32) (pi3 : Int32) (pi4 : Int32) (pi5 : Int32) (pi6 : Int32) (w_DEF : Addr) (kk_w_DEF : ClassId) (h0 : Heap) (n0 : Nat) (Z0 : n0 ≤ h0.size) (O0 : Old Z n0 h0) (S_DEFAULTCAPACITY_EMPTY_ELEMENTDATA : Sta Z Z.heap "java/util/ArrayList" "DEFAULTCAPACITY_EMPTY_ELEMENTDATA" "[Ljava/lang/Object;" (.ref w_DEF)) (V_w_DEF : Arv Z Z.heap w_DEF kk_w_DEF (.object "java/lang/Object") (0 : Int32) [] .null) (hc3_0 : ¬ ((pi2 &&& (3 : Int32)) = (0 : Int32))) (hc3_1 : ¬ ((pi2 &&& (3 : Int32)) = (1 : Int32))) (hc3_2 : (pi2 &&& (3 : Int32)) = (2 : Int32)) (hc52_3 : ¬ ((pi3 &&& (3 : Int32)) = (0 : Int32))) (hc52_4 : (pi3 &&& (3 : Int32)) = (1 : Int32)) :
    MetFree l x (head1 (Jvm.Cond.code x code maxLocals ret :: ws) room_1) (fun a U => a = #[(.long pl1), (.int pi2), (.int pi3), (.int pi4), (.int pi5), (.int pi6)] ∧ Z.Warmed39 U.vm ∧ U.heap = h0) (fun _ _ _ _ _ => True) (fun _ U o U' => ∃ v L, o = .returned v ∧ Q0 v L n0 ∧ FrameEnd U o U' L room_1.cells room_1.slots) := by
  refine MetFree.of_bodySF (plainFor_of_name pn_0) hisR ?_
  intro p e s m args below meth c s₁ Bd hml0 hP hK
  obtain ⟨rfl, hZ, hh⟩ := hP
  have hx := Bd.exec
  have hby := Bd.bytes
  have hml : c.maxLocals = 12 := hml0
  have hown : s.vm.findClass "com/example/shardwright/shardwright/cli/RowIsBlankPinLaw" = some m.cls := findClass_of_methodNamed Bd.named
  have hnm := (name_of_methodNamed Bd.named Bd.method).1
  have X0 : Stand p l e room_1 s m #[(.long pl1), (.int pi2), (.int pi3), (.int pi4), (.int pi5), (.int pi6)] below meth c s₁ [] 0 0 := Stand.of_body Bd
  have e0 : s₁.heap = h0 := by rw [← hh, Bd.state]; rfl
  have N0 := Fr.nil n0
  have pre0 : ∀ t, Steps p.tables e below (s₁.setTop (mkF m 0 #[.val (.long pl1), .second, .val (.int pi2), .val (.int pi3), .val (.int pi4), .val (.int pi5), .val (.int pi6), .unset, .unset, .unset, .unset, .unset] [])) t → Steps p.tables e below (s₁.setTop (entryFrame m #[(.long pl1), (.int pi2), (.int pi3), (.int pi4), (.int pi5), (.int pi6)] maxLocals)) t := fun t k => castTop (ef_0 m pl1 pi2 pi3 pi4 pi5 pi6) k
  obtain ⟨T1, h1, k1, X1, e1, E1, A1, st1⟩ := newP X0 hx hZ (own_W hw 0 rfl) e0 (g := (mkF m 7 #[.val (.long pl1), .second, .val (.int pi2), .val (.int pi3), .val (.int pi4), .val (.int pi5), .val (.int pi6), .val (.int (2 : Int32)), .unset, .unset, .unset, .unset] [(.int (2 : Int32))])) rfl (hb hby at_7) rfl (by decide) (cap := 2) (by decide) (by decide) (by decide) (by decide)
  obtain ⟨b1, g1⟩ : ∃ z, z = h0.size := ⟨_, rfl⟩
  rw [← g1] at A1 st1
  have V1 : Arv Z h1 b1 k1 .byte (2 : Int32) [(.int (0 : Int32)), (.int (0 : Int32))] (.int (0 : Int32)) := (Arv.new A1 (by decide)).pad (pad_rep [] (.int (0 : Int32)) 2)
  have g_b1 : n0 ≤ b1 := Nat.le_trans Z0 (Nat.le_of_eq g1.symm)
  have V_c2 := V1
  obtain ⟨c2, Arc2, qc2, Sc2, Nc2, Hc2, Gc2⟩ := V_c2
  have hin3 : ¬ ((0 : Int32) < 0 ∨ c2.slots.size ≤ ((0 : Int32)).toNatClampNeg) := inb_of Sc2 ⟨by decide, by decide⟩
  obtain ⟨T3, h3, X3, e3, W3, st3⟩ := stB X1 hx hZ e1 Arc2 (j := (0 : Int32)) hin3 (g := (mkF m 22 #[.val (.long pl1), .second, .val (.int pi2), .val (.int pi3), .val (.int pi4), .val (.int pi5), .val (.int pi6), .val (.int (2 : Int32)), .val (.ref b1), .unset, .unset, .unset] [(.int (pi4.toInt8.toInt32)), (.int (0 : Int32)), (.ref b1)])) rfl rfl (hb hby at_22)
  have V3 : Arv Z h3 b1 k1 .byte (2 : Int32) [(.int (nar .byte (pi4.toInt8.toInt32))), (.int (0 : Int32))] (.int (0 : Int32)) := Arv.set Arc2 qc2 Sc2 Nc2 Hc2 Gc2 (fits_nar_byte _) W3 0 rfl (Nat.le_of_ble_eq_true rfl)
  have N3 := Fr.snoc X3 N0 g_b1
  have V_c4 := V3
  obtain ⟨c4, Arc4, qc4, Sc4, Nc4, Hc4, Gc4⟩ := V_c4
  have hin5 : ¬ ((1 : Int32) < 0 ∨ c4.slots.size ≤ ((1 : Int32)).toNatClampNeg) := inb_of Sc4 ⟨by decide, by decide⟩
  obtain ⟨T5, h5, X5, e5, W5, st5⟩ := stB X3 hx hZ e3 Arc4 (j := (1 : Int32)) hin5 (g := (mkF m 35 #[.val (.long pl1), .second, .val (.int pi2), .val (.int pi3), .val (.int pi4), .val (.int pi5), .val (.int pi6), .val (.int (2 : Int32)), .val (.ref b1), .unset, .unset, .unset] [(.int (pi5.toInt8.toInt32)), (.int (1 : Int32)), (.ref b1)])) rfl rfl (hb hby at_35)
  have V5 : Arv Z h5 b1 k1 .byte (2 : Int32) [(.int (nar .byte (pi4.toInt8.toInt32))), (.int (nar .byte (pi5.toInt8.toInt32)))] (.int (0 : Int32)) := Arv.set Arc4 qc4 Sc4 Nc4 Hc4 Gc4 (fits_nar_byte _) W5 1 rfl (Nat.le_of_ble_eq_true rfl)
  have N5 := Fr.snoc X5 N3 g_b1
  obtain ⟨T6, h6, X6, e6, E6, A6, D6, -, st6⟩ := newO X5 hx hZ hown (own_W hw 1 rfl) (own_W hw 2 rfl) (own_W hw 3 rfl) e5 (g := (mkF m 54 #[.val (.long pl1), .second, .val (.int pi2), .val (.int pi3), .val (.int pi4), .val (.int pi5), .val (.int pi6), .val (.int (2 : Int32)), .val (.ref b1), .val (.int (1 : Int32)), .unset, .unset] [])) rfl (hb hby at_54) (by decide) (by decide)
  obtain ⟨b6, g6⟩ : ∃ z, z = h5.size := ⟨_, rfl⟩
  rw [← g6] at A6 D6 st6
  have F_modCount_b6 : Fld Z h6 b6 "java/util/AbstractList" "modCount" "I" (.int (0 : Int32)) := D6 (Or.inl (own_W hw 23 rfl)) (ty := .int) (by decide)
  have F_elementData_b6 : Fld Z h6 b6 "java/util/ArrayList" "elementData" "[Ljava/lang/Object;" .null := D6 (Or.inl (own_W hw 26 rfl)) (ty := (.array (.object "java/lang/Object"))) (by decide)
  have F_size_b6 : Fld Z h6 b6 "java/util/ArrayList" "size" "I" (.int (0 : Int32)) := D6 (Or.inl (own_W hw 43 rfl)) (ty := .int) (by decide)
  have z7 := Nat.le_trans Z0 E1.1
  have z8 := Nat.le_trans z7 (Keep.of_wr W3).1
  have z9 := Nat.le_trans z8 (Keep.of_wr W5).1
  have g_b6 : n0 ≤ b6 := Nat.le_trans z9 (Nat.le_of_eq g6.symm)
  have z11 := Nat.le_trans z9 E6.1
  have o12 := O0.ext E1
  have o13 := o12.wr W3 g_b1
  have o14 := o13.wr W5 g_b1
  have o15 := o14.ext E6
  obtain ⟨_, _, ⟨T10, L10, k10, n10⟩, -, X10, ⟨Lc10, hQ10, l10, y10, z10⟩, st10⟩ := X6.specialBack hx (y := (⟨"java/util/ArrayList", "<init>", "()V"⟩ : MethodName)) rfl hown (mvT hZ (own_W hw 4 rfl)) (mvT hZ (own_W hw 5 rfl)) (mvT hZ (own_W hw 6 rfl)) (by decide) (backOf (W := 1) (rm1 l Z a0 hw [] b6 w_DEF (.int (0 : Int32)) .null (.int (0 : Int32)) h6 n0 z11 o15 A6 S_DEFAULTCAPACITY_EMPTY_ELEMENTDATA F_modCount_b6 F_elementData_b6 F_size_b6 g_b6) hZ (own_W hw 6 rfl) (own_W hw 3 rfl) (by decide) (by decide)) (g := (mkF m 58 #[.val (.long pl1), .second, .val (.int pi2), .val (.int pi3), .val (.int pi4), .val (.int pi5), .val (.int pi6), .val (.int (2 : Int32)), .val (.ref b1), .val (.int (1 : Int32)), .unset, .unset] [(.ref b6), (.ref b6)])) rfl (by rw [hml]; rfl) (Steps.refl _) (a := b6) (argsL := []) (rest := [(.ref b6)]) (lenOf pd_0 rfl) rfl (by show 2 * 0 + _ ≤ _; exact Nat.le_of_eq rfl) (hb hby at_58) (fun _ _ => ⟨rfl, e6, (by decide : 2 + 0 ≤ _), (by decide : 5 + 0 ≤ _)⟩)
  dsimp only [Pt.U, Pt.locs, Pt.cells, Pt.slots] at X10 l10 y10 z10 st10 hQ10
  subst l10 y10 z10
  obtain ⟨rfl, N10q, K10, qf10_0, qf10_1, qf10_2, qf10_3⟩ := hQ10
  have N10 := Fr.app N5 N10q
  have z17 := Nat.le_trans z11 K10.1
  have o18 := o15.keep K10 (allS g_b6 all0)
  obtain ⟨_, _, ⟨T16, L16, k16, n16⟩, -, X16, ⟨Lc16, hQ16, l16, y16, z16⟩, st16⟩ := Jvm.LawKit.callS X10 hx (y := (⟨"com/example/shardwright/shardwright/cli/RowIsBlankPinLaw", "field", "(II)[B"⟩ : MethodName)) hown (mvT hZ (own_W hw 27 rfl)) (mvT hZ (own_W hw 28 rfl)) (mvT hZ (own_W hw 29 rfl)) (mvT hZ (own_W hw 30 rfl)) (by decide) (backOf (W := 1) (rm5 l Z a0 hw [] ((pi3.toUInt32 >>> ((2 : Int32) &&& 31).toUInt32).toInt32) pi4 T10.heap n0 z17 o18 ) hZ (own_W hw 30 rfl) (own_W hw 29 rfl) (by decide) (by decide)) (g := (mkF m 75 #[.val (.long pl1), .second, .val (.int pi2), .val (.int pi3), .val (.int pi4), .val (.int pi5), .val (.int pi6), .val (.int (2 : Int32)), .val (.ref b1), .val (.int (1 : Int32)), .val (.ref b6), .unset] [(.int pi4), (.int ((pi3.toUInt32 >>> ((2 : Int32) &&& 31).toUInt32).toInt32)), (.ref b6)])) rfl (by rw [hml]; rfl) (argsL := [(.int ((pi3.toUInt32 >>> ((2 : Int32) &&& 31).toUInt32).toInt32)), (.int pi4)]) (rest := [(.ref b6)]) (lenOf pd_1 rfl) rfl (by show 2 * 0 + _ ≤ _; exact Nat.le_of_eq rfl) (hb hby at_75) (fun _ _ => ⟨rfl, rfl, (by decide : 2 + 1 ≤ _), (by decide : 5 + 1 ≤ _)⟩)
  dsimp only [Pt.U, Pt.locs, Pt.cells, Pt.slots] at X16 l16 y16 z16 st16 hQ16
  subst l16 y16 z16
  obtain ⟨b16, rfl, N16q, K16, qf16_0, qf16_1⟩ := hQ16
  have N16 := Fr.app N10 N16q
  have f19 := qf10_0.keep K16
  have f20 := qf10_1.keep K16 nin0
  have f21 := qf10_2.keep K16 nin0
  have f22 := qf10_3.keep K16 nin0
  have z24 := Nat.le_trans z17 K16.1
  have o25 := o18.keep K16 all0
  obtain ⟨cq23, kq23, q23a, q23b, q23c⟩ := isOf hZ rfl f19
  obtain ⟨_, _, ⟨T23, L23, k23, n23⟩, -, X23, ⟨Lc23, hQ23, l23, y23, z23⟩, st23⟩ := X16.interfaceBack hx (xi := (⟨"java/util/List", "add", "(Ljava/lang/Object;)Z"⟩ : MethodName)) (y := (⟨"java/util/ArrayList", "add", "(Ljava/lang/Object;)Z"⟩ : MethodName)) hown (mvT hZ (own_W hw 31 rfl)) (mvT hZ (own_W hw 32 rfl)) (mvT hZ (own_W hw 33 rfl)) (mvT hZ (own_W hw 34 rfl)) (mvT hZ (own_W hw 35 rfl)) (mvT hZ (own_W hw 36 rfl)) (mvT hZ (own_W hw 37 rfl)) (mvT hZ (own_W hw 38 rfl)) (by decide) (backOf (W := 0) (rm6_0 l Z a0 hw [] b6 b16 w_DEF kk_w_DEF (0 : Int32) T16.heap n0 z24 o25 f19 qf16_1 S_DEFAULTCAPACITY_EMPTY_ELEMENTDATA V_w_DEF f20 f21 f22 g_b6) hZ (own_W hw 39 rfl) (own_W hw 3 rfl) (by decide) (by decide)) q23a q23b q23c (g := (mkF m 78 #[.val (.long pl1), .second, .val (.int pi2), .val (.int pi3), .val (.int pi4), .val (.int pi5), .val (.int pi6), .val (.int (2 : Int32)), .val (.ref b1), .val (.int (1 : Int32)), .val (.ref b6), .unset] [(.ref b16), (.ref b6)])) rfl (by rw [hml]; rfl) (Steps.refl _) (argsL := [(.ref b16)]) (rest := []) (lenOf pd_2 rfl) rfl (by show 2 * 0 + _ ≤ _; exact Nat.le_of_eq rfl) (hb hby at_78) (fun _ _ => ⟨rfl, rfl, (by decide : 3 + 1 ≤ _), (by decide : 6 + 10 ≤ _)⟩)
  dsimp only [Pt.U, Pt.locs, Pt.cells, Pt.slots] at X23 l23 y23 z23 st23 hQ23
  subst l23 y23 z23
  obtain ⟨b23, b23_1, rfl, N23q, K23, qf23_0, qf23_1, qf23_2, qf23_3, qf23_4, qf23_5, qf23_6⟩ := hQ23
  have N23 := Fr.app N16 N23q
  obtain ⟨T26, h26, X26, e26, E26, A26, D26, -, st26⟩ := newO X23 hx hZ hown (own_W hw 66 rfl) (own_W hw 67 rfl) (own_W hw 68 rfl) rfl (g := (mkF m 128 #[.val (.long pl1), .second, .val (.int pi2), .val (.int pi3), .val (.int pi4), .val (.int pi5), .val (.int pi6), .val (.int (2 : Int32)), .val (.ref b1), .val (.int (1 : Int32)), .val (.ref b6), .unset] [])) rfl (hb hby at_128) (by decide) (by decide)
  obtain ⟨b26, g26⟩ : ∃ z, z = T23.heap.size := ⟨_, rfl⟩
  rw [← g26] at A26 D26 st26
  have F_line_b26 : Fld Z h26 b26 "com/example/shardwright/shardwright/cli/CsvReader$Row" "line" "J" (.long (0 : Int64)) := D26 (Or.inr (own_W hw 79 rfl)) (ty := .long) (by decide)
  have F_text_b26 : Fld Z h26 b26 "com/example/shardwright/shardwright/cli/CsvReader$Row" "text" "[B" .null := D26 (Or.inr (own_W hw 81 rfl)) (ty := (.array .byte)) (by decide)
  have F_fields_b26 : Fld Z h26 b26 "com/example/shardwright/shardwright/cli/CsvReader$Row" "fields" "Ljava/util/List;" .null := D26 (Or.inr (own_W hw 83 rfl)) (ty := (.object "java/util/List")) (by decide)
  have z27 := Nat.le_trans z24 K23.1
  have g_b26 : n0 ≤ b26 := Nat.le_trans z27 (Nat.le_of_eq g26.symm)
  have z29 := Nat.le_trans z27 E26.1
  have o30 := o25.keep K23 (allS g_b6 all0)
  have o31 := o30.ext E26
  obtain ⟨_, _, ⟨T28, L28, k28, n28⟩, -, X28, ⟨Lc28, hQ28, l28, y28, z28⟩, st28⟩ := X26.specialBack hx (y := (⟨"com/example/shardwright/shardwright/cli/CsvReader$Row", "<init>", "(J[BLjava/util/List;)V"⟩ : MethodName)) rfl hown (mvT hZ (own_W hw 69 rfl)) (mvT hZ (own_W hw 70 rfl)) (mvT hZ (own_W hw 71 rfl)) (by decide) (backOf (W := 1) (rm11 l Z a0 hw [] b26 pl1 b1 b6 (.long (0 : Int64)) .null .null h26 n0 z29 o31 A26 F_line_b26 g_b26 F_text_b26 F_fields_b26) hZ (own_W hw 71 rfl) (own_W hw 68 rfl) (by decide) (by decide)) (g := (mkF m 137 #[.val (.long pl1), .second, .val (.int pi2), .val (.int pi3), .val (.int pi4), .val (.int pi5), .val (.int pi6), .val (.int (2 : Int32)), .val (.ref b1), .val (.int (1 : Int32)), .val (.ref b6), .unset] [(.ref b6), (.ref b1), (.long pl1), (.ref b26), (.ref b26)])) rfl (by rw [hml]; rfl) (Steps.refl _) (a := b26) (argsL := [(.long pl1), (.ref b1), (.ref b6)]) (rest := [(.ref b26)]) (lenOf pd_7 rfl) rfl (by show 2 * 0 + _ ≤ _; exact Nat.le_of_eq rfl) (hb hby at_137) (fun _ _ => ⟨rfl, e26, (by decide : 5 + 0 ≤ _), (by decide : 19 + 0 ≤ _)⟩)
  dsimp only [Pt.U, Pt.locs, Pt.cells, Pt.slots] at X28 l28 y28 z28 st28 hQ28
  subst l28 y28 z28
  obtain ⟨rfl, N28q, K28, qf28_0, qf28_1, qf28_2, qf28_3⟩ := hQ28
  have N28 := Fr.app N23 N28q
  have f32 := V5.ext E6
  have f33 := f32.keep K10 (ninS (Nat.ne_of_lt (Nat.lt_of_lt_of_le V5.lt (Nat.le_of_eq g6.symm))) nin0)
  have f34 := f33.keep K16 nin0
  have f35 := f34.keep K23 (ninS (Nat.ne_of_lt (Nat.lt_of_lt_of_le V5.lt (Nat.le_of_eq g6.symm))) nin0)
  have f36 := f35.ext E26
  have f37 := f36.keep K28 (ninS (Nat.ne_of_lt (Nat.lt_of_lt_of_le f35.lt (Nat.le_of_eq g26.symm))) nin0)
  have z39 := Nat.le_trans z29 K28.1
  have o40 := o31.keep K28 (allS g_b26 all0)
  obtain ⟨cq38, kq38, q38a, q38b, q38c⟩ := isOf hZ rfl qf28_0
  obtain ⟨_, _, ⟨T38, L38, k38, n38⟩, -, X38, ⟨Lc38, hQ38, l38, y38, z38⟩, st38⟩ := X28.virtualBack hx (y := (⟨"com/example/shardwright/shardwright/cli/CsvReader$Row", "isBlank", "()Z"⟩ : MethodName)) (z := (⟨"com/example/shardwright/shardwright/cli/CsvReader$Row", "isBlank", "()Z"⟩ : MethodName)) hown (mvT hZ (own_W hw 84 rfl)) (mvT hZ (own_W hw 85 rfl)) (notFace_of_selects (args := #[]) (mvT hZ (own_W hw 87 rfl))) (mvT hZ (own_W hw 87 rfl)) (mvT hZ (own_W hw 86 rfl)) (by decide) (backOf (W := 0) (rm13_2 l Z a0 hw [] b26 b1 k1 (nar .byte (pi4.toInt8.toInt32)) (nar .byte (pi5.toInt8.toInt32)) T28.heap n0 z39 o40 qf28_2 f37) hZ (own_W hw 88 rfl) (own_W hw 68 rfl) (by decide) (by decide)) q38a q38c (g := (mkF m 144 #[.val (.long pl1), .second, .val (.int pi2), .val (.int pi3), .val (.int pi4), .val (.int pi5), .val (.int pi6), .val (.int (2 : Int32)), .val (.ref b1), .val (.int (1 : Int32)), .val (.ref b6), .val (.ref b26)] [(.ref b26)])) rfl (by rw [hml]; rfl) (Steps.refl _) (argsL := []) (rest := []) (lenOf pd_8 rfl) rfl (by show 2 * 0 + _ ≤ _; exact Nat.le_of_eq rfl) (hb hby at_144) (fun _ _ => ⟨rfl, rfl, (by decide : 5 + 0 ≤ _), (by decide : 19 + 0 ≤ _)⟩)
  dsimp only [Pt.U, Pt.locs, Pt.cells, Pt.slots] at X38 l38 y38 z38 st38 hQ38
  subst l38 y38 z38
  obtain ⟨rfl, N38q, eq38⟩ := hQ38
  have N38 := Fr.app N28 N38q
  obtain ⟨fs, hr, hrun, hended, hW, hsame⟩ := X38.leave (v := some (.int (1 : Int32))) (fun h => by rw [Bd.returns] at h; cases h)
  refine ⟨_, _, pre0 _ ?_, hrun, hended, _, _, rfl, ?_, ⟨_, rfl⟩, hW, hsame.mono (by decide) (by decide)⟩
  · show Stp p e below s₁ m 0 #[.val (.long pl1), .second, .val (.int pi2), .val (.int pi3), .val (.int pi4), .val (.int pi5), .val (.int pi6), .unset, .unset, .unset, .unset, .unset] [] _
    refine XS.iloadN X0.here hx rfl (hb hby at_0) rfl ?_
    show Stp p e below s₁ m 1 #[.val (.long pl1), .second, .val (.int pi2), .val (.int pi3), .val (.int pi4), .val (.int pi5), .val (.int pi6), .unset, .unset, .unset, .unset, .unset] [(.int pi2)] _
    refine XS.iconst X0.here hx rfl (hb hby at_1) ?_
    show Stp p e below s₁ m 2 #[.val (.long pl1), .second, .val (.int pi2), .val (.int pi3), .val (.int pi4), .val (.int pi5), .val (.int pi6), .unset, .unset, .unset, .unset, .unset] [(.int (3 : Int32)), (.int pi2)] _
    refine XS.iand X0.here hx rfl (hb hby at_2) rfl ?_
    show Stp p e below s₁ m 3 #[.val (.long pl1), .second, .val (.int pi2), .val (.int pi3), .val (.int pi4), .val (.int pi5), .val (.int pi6), .unset, .unset, .unset, .unset, .unset] [(.int (pi2 &&& (3 : Int32)))] _
    refine XS.istore X0.here hx rfl (hb hby at_3) rfl (l' := #[.val (.long pl1), .second, .val (.int pi2), .val (.int pi3), .val (.int pi4), .val (.int pi5), .val (.int pi6), .val (.int (pi2 &&& (3 : Int32))), .unset, .unset, .unset, .unset]) rfl ?_
    show Stp p e below s₁ m 5 #[.val (.long pl1), .second, .val (.int pi2), .val (.int pi3), .val (.int pi4), .val (.int pi5), .val (.int pi6), .val (.int (pi2 &&& (3 : Int32))), .unset, .unset, .unset, .unset] [] _
    rw [show (pi2 &&& (3 : Int32)) = (2 : Int32) from hc3_2]
    show Stp p e below s₁ m 5 #[.val (.long pl1), .second, .val (.int pi2), .val (.int pi3), .val (.int pi4), .val (.int pi5), .val (.int pi6), .val (.int (2 : Int32)), .unset, .unset, .unset, .unset] [] _
    refine XS.iload X0.here hx rfl (hb hby at_5) rfl ?_
    show Stp p e below s₁ m 7 #[.val (.long pl1), .second, .val (.int pi2), .val (.int pi3), .val (.int pi4), .val (.int pi5), .val (.int pi6), .val (.int (2 : Int32)), .unset, .unset, .unset, .unset] [(.int (2 : Int32))] _
    refine st1 _ ?_
    show Stp p e below T1 m 9 #[.val (.long pl1), .second, .val (.int pi2), .val (.int pi3), .val (.int pi4), .val (.int pi5), .val (.int pi6), .val (.int (2 : Int32)), .unset, .unset, .unset, .unset] [(.ref b1)] _
    refine XS.astore X1.here hx rfl (hb hby at_9) rfl rfl (l' := #[.val (.long pl1), .second, .val (.int pi2), .val (.int pi3), .val (.int pi4), .val (.int pi5), .val (.int pi6), .val (.int (2 : Int32)), .val (.ref b1), .unset, .unset, .unset]) rfl ?_
    show Stp p e below T1 m 11 #[.val (.long pl1), .second, .val (.int pi2), .val (.int pi3), .val (.int pi4), .val (.int pi5), .val (.int pi6), .val (.int (2 : Int32)), .val (.ref b1), .unset, .unset, .unset] [] _
    refine XS.iload X1.here hx rfl (hb hby at_11) rfl ?_
    show Stp p e below T1 m 13 #[.val (.long pl1), .second, .val (.int pi2), .val (.int pi3), .val (.int pi4), .val (.int pi5), .val (.int pi6), .val (.int (2 : Int32)), .val (.ref b1), .unset, .unset, .unset] [(.int (2 : Int32))] _
    refine XS.ifNo X1.here hx rfl (hb hby at_13) rfl ((if0 _ _).trans (tlt (by decide : (0 : Int32) < (2 : Int32))).2.2.2) ?_
    show Stp p e below T1 m 16 #[.val (.long pl1), .second, .val (.int pi2), .val (.int pi3), .val (.int pi4), .val (.int pi5), .val (.int pi6), .val (.int (2 : Int32)), .val (.ref b1), .unset, .unset, .unset] [] _
    refine XS.aload X1.here hx rfl (hb hby at_16) rfl rfl ?_
    show Stp p e below T1 m 18 #[.val (.long pl1), .second, .val (.int pi2), .val (.int pi3), .val (.int pi4), .val (.int pi5), .val (.int pi6), .val (.int (2 : Int32)), .val (.ref b1), .unset, .unset, .unset] [(.ref b1)] _
    refine XS.iconst X1.here hx rfl (hb hby at_18) ?_
    show Stp p e below T1 m 19 #[.val (.long pl1), .second, .val (.int pi2), .val (.int pi3), .val (.int pi4), .val (.int pi5), .val (.int pi6), .val (.int (2 : Int32)), .val (.ref b1), .unset, .unset, .unset] [(.int (0 : Int32)), (.ref b1)] _
    refine XS.iload X1.here hx rfl (hb hby at_19) rfl ?_
    show Stp p e below T1 m 21 #[.val (.long pl1), .second, .val (.int pi2), .val (.int pi3), .val (.int pi4), .val (.int pi5), .val (.int pi6), .val (.int (2 : Int32)), .val (.ref b1), .unset, .unset, .unset] [(.int pi4), (.int (0 : Int32)), (.ref b1)] _
    refine XS.i2b X1.here hx rfl (hb hby at_21) rfl ?_
    show Stp p e below T1 m 22 #[.val (.long pl1), .second, .val (.int pi2), .val (.int pi3), .val (.int pi4), .val (.int pi5), .val (.int pi6), .val (.int (2 : Int32)), .val (.ref b1), .unset, .unset, .unset] [(.int (pi4.toInt8.toInt32)), (.int (0 : Int32)), (.ref b1)] _
    refine st3 _ ?_
    show Stp p e below T3 m 23 #[.val (.long pl1), .second, .val (.int pi2), .val (.int pi3), .val (.int pi4), .val (.int pi5), .val (.int pi6), .val (.int (2 : Int32)), .val (.ref b1), .unset, .unset, .unset] [] _
    refine XS.iload X3.here hx rfl (hb hby at_23) rfl ?_
    show Stp p e below T3 m 25 #[.val (.long pl1), .second, .val (.int pi2), .val (.int pi3), .val (.int pi4), .val (.int pi5), .val (.int pi6), .val (.int (2 : Int32)), .val (.ref b1), .unset, .unset, .unset] [(.int (2 : Int32))] _
    refine XS.iconst X3.here hx rfl (hb hby at_25) ?_
    show Stp p e below T3 m 26 #[.val (.long pl1), .second, .val (.int pi2), .val (.int pi3), .val (.int pi4), .val (.int pi5), .val (.int pi6), .val (.int (2 : Int32)), .val (.ref b1), .unset, .unset, .unset] [(.int (1 : Int32)), (.int (2 : Int32))] _
    refine XS.icmpNo X3.here hx rfl (hb hby at_26) rfl (tlt (by decide : (1 : Int32) < (2 : Int32))).2.2.2 ?_
    show Stp p e below T3 m 29 #[.val (.long pl1), .second, .val (.int pi2), .val (.int pi3), .val (.int pi4), .val (.int pi5), .val (.int pi6), .val (.int (2 : Int32)), .val (.ref b1), .unset, .unset, .unset] [] _
    refine XS.aload X3.here hx rfl (hb hby at_29) rfl rfl ?_
    show Stp p e below T3 m 31 #[.val (.long pl1), .second, .val (.int pi2), .val (.int pi3), .val (.int pi4), .val (.int pi5), .val (.int pi6), .val (.int (2 : Int32)), .val (.ref b1), .unset, .unset, .unset] [(.ref b1)] _
    refine XS.iconst X3.here hx rfl (hb hby at_31) ?_
    show Stp p e below T3 m 32 #[.val (.long pl1), .second, .val (.int pi2), .val (.int pi3), .val (.int pi4), .val (.int pi5), .val (.int pi6), .val (.int (2 : Int32)), .val (.ref b1), .unset, .unset, .unset] [(.int (1 : Int32)), (.ref b1)] _
    refine XS.iload X3.here hx rfl (hb hby at_32) rfl ?_
    show Stp p e below T3 m 34 #[.val (.long pl1), .second, .val (.int pi2), .val (.int pi3), .val (.int pi4), .val (.int pi5), .val (.int pi6), .val (.int (2 : Int32)), .val (.ref b1), .unset, .unset, .unset] [(.int pi5), (.int (1 : Int32)), (.ref b1)] _
    refine XS.i2b X3.here hx rfl (hb hby at_34) rfl ?_
    show Stp p e below T3 m 35 #[.val (.long pl1), .second, .val (.int pi2), .val (.int pi3), .val (.int pi4), .val (.int pi5), .val (.int pi6), .val (.int (2 : Int32)), .val (.ref b1), .unset, .unset, .unset] [(.int (pi5.toInt8.toInt32)), (.int (1 : Int32)), (.ref b1)] _
    refine st5 _ ?_
    show Stp p e below T5 m 36 #[.val (.long pl1), .second, .val (.int pi2), .val (.int pi3), .val (.int pi4), .val (.int pi5), .val (.int pi6), .val (.int (2 : Int32)), .val (.ref b1), .unset, .unset, .unset] [] _
    refine XS.iload X5.here hx rfl (hb hby at_36) rfl ?_
    show Stp p e below T5 m 38 #[.val (.long pl1), .second, .val (.int pi2), .val (.int pi3), .val (.int pi4), .val (.int pi5), .val (.int pi6), .val (.int (2 : Int32)), .val (.ref b1), .unset, .unset, .unset] [(.int (2 : Int32))] _
    refine XS.iconst X5.here hx rfl (hb hby at_38) ?_
    show Stp p e below T5 m 39 #[.val (.long pl1), .second, .val (.int pi2), .val (.int pi3), .val (.int pi4), .val (.int pi5), .val (.int pi6), .val (.int (2 : Int32)), .val (.ref b1), .unset, .unset, .unset] [(.int (2 : Int32)), (.int (2 : Int32))] _
    refine XS.icmpYes X5.here hx rfl (pc0 := 39) (pc' := 49) rfl (hb hby at_39) rfl (flt (by simp : ¬ ((2 : Int32) < (2 : Int32)))).2.2.2 (by decide) (by decide) ?_
    show Stp p e below T5 m 49 #[.val (.long pl1), .second, .val (.int pi2), .val (.int pi3), .val (.int pi4), .val (.int pi5), .val (.int pi6), .val (.int (2 : Int32)), .val (.ref b1), .unset, .unset, .unset] [] _
    refine XS.iloadN X5.here hx rfl (hb hby at_49) rfl ?_
    show Stp p e below T5 m 50 #[.val (.long pl1), .second, .val (.int pi2), .val (.int pi3), .val (.int pi4), .val (.int pi5), .val (.int pi6), .val (.int (2 : Int32)), .val (.ref b1), .unset, .unset, .unset] [(.int pi3)] _
    refine XS.iconst X5.here hx rfl (hb hby at_50) ?_
    show Stp p e below T5 m 51 #[.val (.long pl1), .second, .val (.int pi2), .val (.int pi3), .val (.int pi4), .val (.int pi5), .val (.int pi6), .val (.int (2 : Int32)), .val (.ref b1), .unset, .unset, .unset] [(.int (3 : Int32)), (.int pi3)] _
    refine XS.iand X5.here hx rfl (hb hby at_51) rfl ?_
    show Stp p e below T5 m 52 #[.val (.long pl1), .second, .val (.int pi2), .val (.int pi3), .val (.int pi4), .val (.int pi5), .val (.int pi6), .val (.int (2 : Int32)), .val (.ref b1), .unset, .unset, .unset] [(.int (pi3 &&& (3 : Int32)))] _
    refine XS.istore X5.here hx rfl (hb hby at_52) rfl (l' := #[.val (.long pl1), .second, .val (.int pi2), .val (.int pi3), .val (.int pi4), .val (.int pi5), .val (.int pi6), .val (.int (2 : Int32)), .val (.ref b1), .val (.int (pi3 &&& (3 : Int32))), .unset, .unset]) rfl ?_
    show Stp p e below T5 m 54 #[.val (.long pl1), .second, .val (.int pi2), .val (.int pi3), .val (.int pi4), .val (.int pi5), .val (.int pi6), .val (.int (2 : Int32)), .val (.ref b1), .val (.int (pi3 &&& (3 : Int32))), .unset, .unset] [] _
    rw [show (pi3 &&& (3 : Int32)) = (1 : Int32) from hc52_4]
    show Stp p e below T5 m 54 #[.val (.long pl1), .second, .val (.int pi2), .val (.int pi3), .val (.int pi4), .val (.int pi5), .val (.int pi6), .val (.int (2 : Int32)), .val (.ref b1), .val (.int (1 : Int32)), .unset, .unset] [] _
    refine st6 _ ?_
    show Stp p e below T6 m 57 #[.val (.long pl1), .second, .val (.int pi2), .val (.int pi3), .val (.int pi4), .val (.int pi5), .val (.int pi6), .val (.int (2 : Int32)), .val (.ref b1), .val (.int (1 : Int32)), .unset, .unset] [(.ref b6)] _
    refine XS.dup X6.here hx rfl (hb hby at_57) rfl rfl ?_
    show Stp p e below T6 m 58 #[.val (.long pl1), .second, .val (.int pi2), .val (.int pi3), .val (.int pi4), .val (.int pi5), .val (.int pi6), .val (.int (2 : Int32)), .val (.ref b1), .val (.int (1 : Int32)), .unset, .unset] [(.ref b6), (.ref b6)] _
    refine st10.trans ?_
    show Stp p e below T10 m 61 #[.val (.long pl1), .second, .val (.int pi2), .val (.int pi3), .val (.int pi4), .val (.int pi5), .val (.int pi6), .val (.int (2 : Int32)), .val (.ref b1), .val (.int (1 : Int32)), .unset, .unset] [(.ref b6)] _
    refine XS.astore X10.here hx rfl (hb hby at_61) rfl rfl (l' := #[.val (.long pl1), .second, .val (.int pi2), .val (.int pi3), .val (.int pi4), .val (.int pi5), .val (.int pi6), .val (.int (2 : Int32)), .val (.ref b1), .val (.int (1 : Int32)), .val (.ref b6), .unset]) rfl ?_
    show Stp p e below T10 m 63 #[.val (.long pl1), .second, .val (.int pi2), .val (.int pi3), .val (.int pi4), .val (.int pi5), .val (.int pi6), .val (.int (2 : Int32)), .val (.ref b1), .val (.int (1 : Int32)), .val (.ref b6), .unset] [] _
    refine XS.iload X10.here hx rfl (hb hby at_63) rfl ?_
    show Stp p e below T10 m 65 #[.val (.long pl1), .second, .val (.int pi2), .val (.int pi3), .val (.int pi4), .val (.int pi5), .val (.int pi6), .val (.int (2 : Int32)), .val (.ref b1), .val (.int (1 : Int32)), .val (.ref b6), .unset] [(.int (1 : Int32))] _
    refine XS.ifNo X10.here hx rfl (hb hby at_65) rfl ((if0 _ _).trans (tlt (by decide : (0 : Int32) < (1 : Int32))).2.2.2) ?_
    show Stp p e below T10 m 68 #[.val (.long pl1), .second, .val (.int pi2), .val (.int pi3), .val (.int pi4), .val (.int pi5), .val (.int pi6), .val (.int (2 : Int32)), .val (.ref b1), .val (.int (1 : Int32)), .val (.ref b6), .unset] [] _
    refine XS.aload X10.here hx rfl (hb hby at_68) rfl rfl ?_
    show Stp p e below T10 m 70 #[.val (.long pl1), .second, .val (.int pi2), .val (.int pi3), .val (.int pi4), .val (.int pi5), .val (.int pi6), .val (.int (2 : Int32)), .val (.ref b1), .val (.int (1 : Int32)), .val (.ref b6), .unset] [(.ref b6)] _
    refine XS.iloadN X10.here hx rfl (hb hby at_70) rfl ?_
    show Stp p e below T10 m 71 #[.val (.long pl1), .second, .val (.int pi2), .val (.int pi3), .val (.int pi4), .val (.int pi5), .val (.int pi6), .val (.int (2 : Int32)), .val (.ref b1), .val (.int (1 : Int32)), .val (.ref b6), .unset] [(.int pi3), (.ref b6)] _
    refine XS.iconst X10.here hx rfl (hb hby at_71) ?_
    show Stp p e below T10 m 72 #[.val (.long pl1), .second, .val (.int pi2), .val (.int pi3), .val (.int pi4), .val (.int pi5), .val (.int pi6), .val (.int (2 : Int32)), .val (.ref b1), .val (.int (1 : Int32)), .val (.ref b6), .unset] [(.int (2 : Int32)), (.int pi3), (.ref b6)] _
    refine XS.iushr X10.here hx rfl (hb hby at_72) rfl ?_
    show Stp p e below T10 m 73 #[.val (.long pl1), .second, .val (.int pi2), .val (.int pi3), .val (.int pi4), .val (.int pi5), .val (.int pi6), .val (.int (2 : Int32)), .val (.ref b1), .val (.int (1 : Int32)), .val (.ref b6), .unset] [(.int ((pi3.toUInt32 >>> ((2 : Int32) &&& 31).toUInt32).toInt32)), (.ref b6)] _
    refine XS.iload X10.here hx rfl (hb hby at_73) rfl ?_
    show Stp p e below T10 m 75 #[.val (.long pl1), .second, .val (.int pi2), .val (.int pi3), .val (.int pi4), .val (.int pi5), .val (.int pi6), .val (.int (2 : Int32)), .val (.ref b1), .val (.int (1 : Int32)), .val (.ref b6), .unset] [(.int pi4), (.int ((pi3.toUInt32 >>> ((2 : Int32) &&& 31).toUInt32).toInt32)), (.ref b6)] _
    refine st16 _ ?_
    show Stp p e below T16 m 78 #[.val (.long pl1), .second, .val (.int pi2), .val (.int pi3), .val (.int pi4), .val (.int pi5), .val (.int pi6), .val (.int (2 : Int32)), .val (.ref b1), .val (.int (1 : Int32)), .val (.ref b6), .unset] [(.ref b16), (.ref b6)] _
    refine st23.trans ?_
    show Stp p e below T23 m 83 #[.val (.long pl1), .second, .val (.int pi2), .val (.int pi3), .val (.int pi4), .val (.int pi5), .val (.int pi6), .val (.int (2 : Int32)), .val (.ref b1), .val (.int (1 : Int32)), .val (.ref b6), .unset] [(.int (1 : Int32))] _
    refine XS.pop X23.here hx rfl (hb hby at_83) rfl rfl ?_
    show Stp p e below T23 m 84 #[.val (.long pl1), .second, .val (.int pi2), .val (.int pi3), .val (.int pi4), .val (.int pi5), .val (.int pi6), .val (.int (2 : Int32)), .val (.ref b1), .val (.int (1 : Int32)), .val (.ref b6), .unset] [] _
    refine XS.iload X23.here hx rfl (hb hby at_84) rfl ?_
    show Stp p e below T23 m 86 #[.val (.long pl1), .second, .val (.int pi2), .val (.int pi3), .val (.int pi4), .val (.int pi5), .val (.int pi6), .val (.int (2 : Int32)), .val (.ref b1), .val (.int (1 : Int32)), .val (.ref b6), .unset] [(.int (1 : Int32))] _
    refine XS.iconst X23.here hx rfl (hb hby at_86) ?_
    show Stp p e below T23 m 87 #[.val (.long pl1), .second, .val (.int pi2), .val (.int pi3), .val (.int pi4), .val (.int pi5), .val (.int pi6), .val (.int (2 : Int32)), .val (.ref b1), .val (.int (1 : Int32)), .val (.ref b6), .unset] [(.int (1 : Int32)), (.int (1 : Int32))] _
    refine XS.icmpYes X23.here hx rfl (pc0 := 87) (pc' := 106) rfl (hb hby at_87) rfl (flt (by simp : ¬ ((1 : Int32) < (1 : Int32)))).2.2.2 (by decide) (by decide) ?_
    show Stp p e below T23 m 106 #[.val (.long pl1), .second, .val (.int pi2), .val (.int pi3), .val (.int pi4), .val (.int pi5), .val (.int pi6), .val (.int (2 : Int32)), .val (.ref b1), .val (.int (1 : Int32)), .val (.ref b6), .unset] [] _
    refine XS.iload X23.here hx rfl (hb hby at_106) rfl ?_
    show Stp p e below T23 m 108 #[.val (.long pl1), .second, .val (.int pi2), .val (.int pi3), .val (.int pi4), .val (.int pi5), .val (.int pi6), .val (.int (2 : Int32)), .val (.ref b1), .val (.int (1 : Int32)), .val (.ref b6), .unset] [(.int (1 : Int32))] _
    refine XS.iconst X23.here hx rfl (hb hby at_108) ?_
    show Stp p e below T23 m 109 #[.val (.long pl1), .second, .val (.int pi2), .val (.int pi3), .val (.int pi4), .val (.int pi5), .val (.int pi6), .val (.int (2 : Int32)), .val (.ref b1), .val (.int (1 : Int32)), .val (.ref b6), .unset] [(.int (2 : Int32)), (.int (1 : Int32))] _
    refine XS.icmpYes X23.here hx rfl (pc0 := 109) (pc' := 128) rfl (hb hby at_109) rfl (flt (by decide : ¬ ((2 : Int32) < (1 : Int32)))).2.2.2 (by decide) (by decide) ?_
    show Stp p e below T23 m 128 #[.val (.long pl1), .second, .val (.int pi2), .val (.int pi3), .val (.int pi4), .val (.int pi5), .val (.int pi6), .val (.int (2 : Int32)), .val (.ref b1), .val (.int (1 : Int32)), .val (.ref b6), .unset] [] _
    refine st26 _ ?_
    show Stp p e below T26 m 131 #[.val (.long pl1), .second, .val (.int pi2), .val (.int pi3), .val (.int pi4), .val (.int pi5), .val (.int pi6), .val (.int (2 : Int32)), .val (.ref b1), .val (.int (1 : Int32)), .val (.ref b6), .unset] [(.ref b26)] _
    refine XS.dup X26.here hx rfl (hb hby at_131) rfl rfl ?_
    show Stp p e below T26 m 132 #[.val (.long pl1), .second, .val (.int pi2), .val (.int pi3), .val (.int pi4), .val (.int pi5), .val (.int pi6), .val (.int (2 : Int32)), .val (.ref b1), .val (.int (1 : Int32)), .val (.ref b6), .unset] [(.ref b26), (.ref b26)] _
    refine XS.lloadN X26.here hx rfl (hb hby at_132) rfl ?_
    show Stp p e below T26 m 133 #[.val (.long pl1), .second, .val (.int pi2), .val (.int pi3), .val (.int pi4), .val (.int pi5), .val (.int pi6), .val (.int (2 : Int32)), .val (.ref b1), .val (.int (1 : Int32)), .val (.ref b6), .unset] [(.long pl1), (.ref b26), (.ref b26)] _
    refine XS.aload X26.here hx rfl (hb hby at_133) rfl rfl ?_
    show Stp p e below T26 m 135 #[.val (.long pl1), .second, .val (.int pi2), .val (.int pi3), .val (.int pi4), .val (.int pi5), .val (.int pi6), .val (.int (2 : Int32)), .val (.ref b1), .val (.int (1 : Int32)), .val (.ref b6), .unset] [(.ref b1), (.long pl1), (.ref b26), (.ref b26)] _
    refine XS.aload X26.here hx rfl (hb hby at_135) rfl rfl ?_
    show Stp p e below T26 m 137 #[.val (.long pl1), .second, .val (.int pi2), .val (.int pi3), .val (.int pi4), .val (.int pi5), .val (.int pi6), .val (.int (2 : Int32)), .val (.ref b1), .val (.int (1 : Int32)), .val (.ref b6), .unset] [(.ref b6), (.ref b1), (.long pl1), (.ref b26), (.ref b26)] _
    refine st28.trans ?_
    show Stp p e below T28 m 140 #[.val (.long pl1), .second, .val (.int pi2), .val (.int pi3), .val (.int pi4), .val (.int pi5), .val (.int pi6), .val (.int (2 : Int32)), .val (.ref b1), .val (.int (1 : Int32)), .val (.ref b6), .unset] [(.ref b26)] _
    refine XS.astore X28.here hx rfl (hb hby at_140) rfl rfl (l' := #[.val (.long pl1), .second, .val (.int pi2), .val (.int pi3), .val (.int pi4), .val (.int pi5), .val (.int pi6), .val (.int (2 : Int32)), .val (.ref b1), .val (.int (1 : Int32)), .val (.ref b6), .val (.ref b26)]) rfl ?_
    show Stp p e below T28 m 142 #[.val (.long pl1), .second, .val (.int pi2), .val (.int pi3), .val (.int pi4), .val (.int pi5), .val (.int pi6), .val (.int (2 : Int32)), .val (.ref b1), .val (.int (1 : Int32)), .val (.ref b6), .val (.ref b26)] [] _
    refine XS.aload X28.here hx rfl (hb hby at_142) rfl rfl ?_
    show Stp p e below T28 m 144 #[.val (.long pl1), .second, .val (.int pi2), .val (.int pi3), .val (.int pi4), .val (.int pi5), .val (.int pi6), .val (.int (2 : Int32)), .val (.ref b1), .val (.int (1 : Int32)), .val (.ref b6), .val (.ref b26)] [(.ref b26)] _
    refine st38.trans ?_
    show Stp p e below T38 m 147 #[.val (.long pl1), .second, .val (.int pi2), .val (.int pi3), .val (.int pi4), .val (.int pi5), .val (.int pi6), .val (.int (2 : Int32)), .val (.ref b1), .val (.int (1 : Int32)), .val (.ref b6), .val (.ref b26)] [(.int (0 : Int32))] _
    refine XS.iload X38.here hx rfl (hb hby at_147) rfl ?_
    show Stp p e below T38 m 149 #[.val (.long pl1), .second, .val (.int pi2), .val (.int pi3), .val (.int pi4), .val (.int pi5), .val (.int pi6), .val (.int (2 : Int32)), .val (.ref b1), .val (.int (1 : Int32)), .val (.ref b6), .val (.ref b26)] [(.int (2 : Int32)), (.int (0 : Int32))] _
    refine XS.ifYes X38.here hx rfl (pc0 := 149) (pc' := 156) rfl (hb hby at_149) rfl ((if0 _ _).trans (feq (by decide : ¬ ((2 : Int32) = (0 : Int32)))).2) (by decide) (by decide) ?_
    show Stp p e below T38 m 156 #[.val (.long pl1), .second, .val (.int pi2), .val (.int pi3), .val (.int pi4), .val (.int pi5), .val (.int pi6), .val (.int (2 : Int32)), .val (.ref b1), .val (.int (1 : Int32)), .val (.ref b6), .val (.ref b26)] [(.int (0 : Int32))] _
    refine XS.iconst X38.here hx rfl (hb hby at_156) ?_
    show Stp p e below T38 m 157 #[.val (.long pl1), .second, .val (.int pi2), .val (.int pi3), .val (.int pi4), .val (.int pi5), .val (.int pi6), .val (.int (2 : Int32)), .val (.ref b1), .val (.int (1 : Int32)), .val (.ref b6), .val (.ref b26)] [(.int (0 : Int32)), (.int (0 : Int32))] _
    refine XS.icmpNo X38.here hx rfl (hb hby at_157) rfl (teq (rfl : (0 : Int32) = (0 : Int32))).2 ?_
    show Stp p e below T38 m 160 #[.val (.long pl1), .second, .val (.int pi2), .val (.int pi3), .val (.int pi4), .val (.int pi5), .val (.int pi6), .val (.int (2 : Int32)), .val (.ref b1), .val (.int (1 : Int32)), .val (.ref b6), .val (.ref b26)] [] _
    refine XS.iconst X38.here hx rfl (hb hby at_160) ?_
    show Stp p e below T38 m 161 #[.val (.long pl1), .second, .val (.int pi2), .val (.int pi3), .val (.int pi4), .val (.int pi5), .val (.int pi6), .val (.int (2 : Int32)), .val (.ref b1), .val (.int (1 : Int32)), .val (.ref b6), .val (.ref b26)] [(.int (1 : Int32))] _
    refine XS.goto X38.here hx rfl (pc0 := 161) (pc' := 165) rfl (hb hby at_161) (by decide) (by decide) ?_
    show Stp p e below T38 m 165 #[.val (.long pl1), .second, .val (.int pi2), .val (.int pi3), .val (.int pi4), .val (.int pi5), .val (.int pi6), .val (.int (2 : Int32)), .val (.ref b1), .val (.int (1 : Int32)), .val (.ref b6), .val (.ref b26)] [(.int (1 : Int32))] _
    exact retN X38 hx (t := .boolean) Bd.returns (by simp) (hb hby at_165) hr
  · exact ⟨rfl, N38⟩
set_option maxRecDepth 65536 in
set_option maxHeartbeats 40000000 in
theorem rm0_fftfft (l : Launch) (Z : State) (a0 : Array Value) (hw : ∀ d ∈ tables_1, d.before a0 Z = true) (ws : List Jvm.Cond) (pl1 : Int64) (pi2 : Int32) (pi3 : Int32) (pi4 : Int32) (pi5 : Int32) (pi6 : Int32) (w_DEF : Addr) (kk_w_DEF : ClassId) (h0 : Heap) (n0 : Nat) (Z0 : n0 ≤ h0.size) (O0 : Old Z n0 h0) (S_DEFAULTCAPACITY_EMPTY_ELEMENTDATA : Sta Z Z.heap "java/util/ArrayList" "DEFAULTCAPACITY_EMPTY_ELEMENTDATA" "[Ljava/lang/Object;" (.ref w_DEF)) (V_w_DEF : Arv Z Z.heap w_DEF kk_w_DEF (.object "java/lang/Object") (0 : Int32) [] .null) (hc3_0 : ¬ ((pi2 &&& (3 : Int32)) = (0 : Int32))) (hc3_1 : ¬ ((pi2 &&& (3 : Int32)) = (1 : Int32))) (hc3_2 : (pi2 &&& (3 : Int32)) = (2 : Int32)) (hc52_3 : ¬ ((pi3 &&& (3 : Int32)) = (0 : Int32))) (hc52_4 : ¬ ((pi3 &&& (3 : Int32)) = (1 : Int32))) (hc52_5 : (pi3 &&& (3 : Int32)) = (2 : Int32)) :
    MetFree l x (head1 (Jvm.Cond.code x code maxLocals ret :: ws) room_1) (fun a U => a = #[(.long pl1), (.int pi2), (.int pi3), (.int pi4), (.int pi5), (.int pi6)] ∧ Z.Warmed39 U.vm ∧ U.heap = h0) (fun _ _ _ _ _ => True) (fun _ U o U' => ∃ v L, o = .returned v ∧ Q0 v L n0 ∧ FrameEnd U o U' L room_1.cells room_1.slots) := by
  refine MetFree.of_bodySF (plainFor_of_name pn_0) hisR ?_
  intro p e s m args below meth c s₁ Bd hml0 hP hK
  obtain ⟨rfl, hZ, hh⟩ := hP
  have hx := Bd.exec
  have hby := Bd.bytes
  have hml : c.maxLocals = 12 := hml0
  have hown : s.vm.findClass "com/example/shardwright/shardwright/cli/RowIsBlankPinLaw" = some m.cls := findClass_of_methodNamed Bd.named
  have hnm := (name_of_methodNamed Bd.named Bd.method).1
  have X0 : Stand p l e room_1 s m #[(.long pl1), (.int pi2), (.int pi3), (.int pi4), (.int pi5), (.int pi6)] below meth c s₁ [] 0 0 := Stand.of_body Bd
  have e0 : s₁.heap = h0 := by rw [← hh, Bd.state]; rfl
  have N0 := Fr.nil n0
  have pre0 : ∀ t, Steps p.tables e below (s₁.setTop (mkF m 0 #[.val (.long pl1), .second, .val (.int pi2), .val (.int pi3), .val (.int pi4), .val (.int pi5), .val (.int pi6), .unset, .unset, .unset, .unset, .unset] [])) t → Steps p.tables e below (s₁.setTop (entryFrame m #[(.long pl1), (.int pi2), (.int pi3), (.int pi4), (.int pi5), (.int pi6)] maxLocals)) t := fun t k => castTop (ef_0 m pl1 pi2 pi3 pi4 pi5 pi6) k
  obtain ⟨T1, h1, k1, X1, e1, E1, A1, st1⟩ := newP X0 hx hZ (own_W hw 0 rfl) e0 (g := (mkF m 7 #[.val (.long pl1), .second, .val (.int pi2), .val (.int pi3), .val (.int pi4), .val (.int pi5), .val (.int pi6), .val (.int (2 : Int32)), .unset, .unset, .unset, .unset] [(.int (2 : Int32))])) rfl (hb hby at_7) rfl (by decide) (cap := 2) (by decide) (by decide) (by decide) (by decide)
  obtain ⟨b1, g1⟩ : ∃ z, z = h0.size := ⟨_, rfl⟩
  rw [← g1] at A1 st1
  have V1 : Arv Z h1 b1 k1 .byte (2 : Int32) [(.int (0 : Int32)), (.int (0 : Int32))] (.int (0 : Int32)) := (Arv.new A1 (by decide)).pad (pad_rep [] (.int (0 : Int32)) 2)
  have g_b1 : n0 ≤ b1 := Nat.le_trans Z0 (Nat.le_of_eq g1.symm)
  have V_c2 := V1
  obtain ⟨c2, Arc2, qc2, Sc2, Nc2, Hc2, Gc2⟩ := V_c2
  have hin3 : ¬ ((0 : Int32) < 0 ∨ c2.slots.size ≤ ((0 : Int32)).toNatClampNeg) := inb_of Sc2 ⟨by decide, by decide⟩
  obtain ⟨T3, h3, X3, e3, W3, st3⟩ := stB X1 hx hZ e1 Arc2 (j := (0 : Int32)) hin3 (g := (mkF m 22 #[.val (.long pl1), .second, .val (.int pi2), .val (.int pi3), .val (.int pi4), .val (.int pi5), .val (.int pi6), .val (.int (2 : Int32)), .val (.ref b1), .unset, .unset, .unset] [(.int (pi4.toInt8.toInt32)), (.int (0 : Int32)), (.ref b1)])) rfl rfl (hb hby at_22)
  have V3 : Arv Z h3 b1 k1 .byte (2 : Int32) [(.int (nar .byte (pi4.toInt8.toInt32))), (.int (0 : Int32))] (.int (0 : Int32)) := Arv.set Arc2 qc2 Sc2 Nc2 Hc2 Gc2 (fits_nar_byte _) W3 0 rfl (Nat.le_of_ble_eq_true rfl)
  have N3 := Fr.snoc X3 N0 g_b1
  have V_c4 := V3
  obtain ⟨c4, Arc4, qc4, Sc4, Nc4, Hc4, Gc4⟩ := V_c4
  have hin5 : ¬ ((1 : Int32) < 0 ∨ c4.slots.size ≤ ((1 : Int32)).toNatClampNeg) := inb_of Sc4 ⟨by decide, by decide⟩
  obtain ⟨T5, h5, X5, e5, W5, st5⟩ := stB X3 hx hZ e3 Arc4 (j := (1 : Int32)) hin5 (g := (mkF m 35 #[.val (.long pl1), .second, .val (.int pi2), .val (.int pi3), .val (.int pi4), .val (.int pi5), .val (.int pi6), .val (.int (2 : Int32)), .val (.ref b1), .unset, .unset, .unset] [(.int (pi5.toInt8.toInt32)), (.int (1 : Int32)), (.ref b1)])) rfl rfl (hb hby at_35)
  have V5 : Arv Z h5 b1 k1 .byte (2 : Int32) [(.int (nar .byte (pi4.toInt8.toInt32))), (.int (nar .byte (pi5.toInt8.toInt32)))] (.int (0 : Int32)) := Arv.set Arc4 qc4 Sc4 Nc4 Hc4 Gc4 (fits_nar_byte _) W5 1 rfl (Nat.le_of_ble_eq_true rfl)
  have N5 := Fr.snoc X5 N3 g_b1
  obtain ⟨T6, h6, X6, e6, E6, A6, D6, -, st6⟩ := newO X5 hx hZ hown (own_W hw 1 rfl) (own_W hw 2 rfl) (own_W hw 3 rfl) e5 (g := (mkF m 54 #[.val (.long pl1), .second, .val (.int pi2), .val (.int pi3), .val (.int pi4), .val (.int pi5), .val (.int pi6), .val (.int (2 : Int32)), .val (.ref b1), .val (.int (2 : Int32)), .unset, .unset] [])) rfl (hb hby at_54) (by decide) (by decide)
  obtain ⟨b6, g6⟩ : ∃ z, z = h5.size := ⟨_, rfl⟩
  rw [← g6] at A6 D6 st6
  have F_modCount_b6 : Fld Z h6 b6 "java/util/AbstractList" "modCount" "I" (.int (0 : Int32)) := D6 (Or.inl (own_W hw 23 rfl)) (ty := .int) (by decide)
  have F_elementData_b6 : Fld Z h6 b6 "java/util/ArrayList" "elementData" "[Ljava/lang/Object;" .null := D6 (Or.inl (own_W hw 26 rfl)) (ty := (.array (.object "java/lang/Object"))) (by decide)
  have F_size_b6 : Fld Z h6 b6 "java/util/ArrayList" "size" "I" (.int (0 : Int32)) := D6 (Or.inl (own_W hw 43 rfl)) (ty := .int) (by decide)
  have z7 := Nat.le_trans Z0 E1.1
  have z8 := Nat.le_trans z7 (Keep.of_wr W3).1
  have z9 := Nat.le_trans z8 (Keep.of_wr W5).1
  have g_b6 : n0 ≤ b6 := Nat.le_trans z9 (Nat.le_of_eq g6.symm)
  have z11 := Nat.le_trans z9 E6.1
  have o12 := O0.ext E1
  have o13 := o12.wr W3 g_b1
  have o14 := o13.wr W5 g_b1
  have o15 := o14.ext E6
  obtain ⟨_, _, ⟨T10, L10, k10, n10⟩, -, X10, ⟨Lc10, hQ10, l10, y10, z10⟩, st10⟩ := X6.specialBack hx (y := (⟨"java/util/ArrayList", "<init>", "()V"⟩ : MethodName)) rfl hown (mvT hZ (own_W hw 4 rfl)) (mvT hZ (own_W hw 5 rfl)) (mvT hZ (own_W hw 6 rfl)) (by decide) (backOf (W := 1) (rm1 l Z a0 hw [] b6 w_DEF (.int (0 : Int32)) .null (.int (0 : Int32)) h6 n0 z11 o15 A6 S_DEFAULTCAPACITY_EMPTY_ELEMENTDATA F_modCount_b6 F_elementData_b6 F_size_b6 g_b6) hZ (own_W hw 6 rfl) (own_W hw 3 rfl) (by decide) (by decide)) (g := (mkF m 58 #[.val (.long pl1), .second, .val (.int pi2), .val (.int pi3), .val (.int pi4), .val (.int pi5), .val (.int pi6), .val (.int (2 : Int32)), .val (.ref b1), .val (.int (2 : Int32)), .unset, .unset] [(.ref b6), (.ref b6)])) rfl (by rw [hml]; rfl) (Steps.refl _) (a := b6) (argsL := []) (rest := [(.ref b6)]) (lenOf pd_0 rfl) rfl (by show 2 * 0 + _ ≤ _; exact Nat.le_of_eq rfl) (hb hby at_58) (fun _ _ => ⟨rfl, e6, (by decide : 2 + 0 ≤ _), (by decide : 5 + 0 ≤ _)⟩)
  dsimp only [Pt.U, Pt.locs, Pt.cells, Pt.slots] at X10 l10 y10 z10 st10 hQ10
  subst l10 y10 z10
  obtain ⟨rfl, N10q, K10, qf10_0, qf10_1, qf10_2, qf10_3⟩ := hQ10
  have N10 := Fr.app N5 N10q
  have z17 := Nat.le_trans z11 K10.1
  have o18 := o15.keep K10 (allS g_b6 all0)
  obtain ⟨_, _, ⟨T16, L16, k16, n16⟩, -, X16, ⟨Lc16, hQ16, l16, y16, z16⟩, st16⟩ := Jvm.LawKit.callS X10 hx (y := (⟨"com/example/shardwright/shardwright/cli/RowIsBlankPinLaw", "field", "(II)[B"⟩ : MethodName)) hown (mvT hZ (own_W hw 27 rfl)) (mvT hZ (own_W hw 28 rfl)) (mvT hZ (own_W hw 29 rfl)) (mvT hZ (own_W hw 30 rfl)) (by decide) (backOf (W := 1) (rm5 l Z a0 hw [] ((pi3.toUInt32 >>> ((2 : Int32) &&& 31).toUInt32).toInt32) pi4 T10.heap n0 z17 o18 ) hZ (own_W hw 30 rfl) (own_W hw 29 rfl) (by decide) (by decide)) (g := (mkF m 75 #[.val (.long pl1), .second, .val (.int pi2), .val (.int pi3), .val (.int pi4), .val (.int pi5), .val (.int pi6), .val (.int (2 : Int32)), .val (.ref b1), .val (.int (2 : Int32)), .val (.ref b6), .unset] [(.int pi4), (.int ((pi3.toUInt32 >>> ((2 : Int32) &&& 31).toUInt32).toInt32)), (.ref b6)])) rfl (by rw [hml]; rfl) (argsL := [(.int ((pi3.toUInt32 >>> ((2 : Int32) &&& 31).toUInt32).toInt32)), (.int pi4)]) (rest := [(.ref b6)]) (lenOf pd_1 rfl) rfl (by show 2 * 0 + _ ≤ _; exact Nat.le_of_eq rfl) (hb hby at_75) (fun _ _ => ⟨rfl, rfl, (by decide : 2 + 1 ≤ _), (by decide : 5 + 1 ≤ _)⟩)
  dsimp only [Pt.U, Pt.locs, Pt.cells, Pt.slots] at X16 l16 y16 z16 st16 hQ16
  subst l16 y16 z16
  obtain ⟨b16, rfl, N16q, K16, qf16_0, qf16_1⟩ := hQ16
  have N16 := Fr.app N10 N16q
  have f19 := qf10_0.keep K16
  have f20 := qf10_1.keep K16 nin0
  have f21 := qf10_2.keep K16 nin0
  have f22 := qf10_3.keep K16 nin0
  have z24 := Nat.le_trans z17 K16.1
  have o25 := o18.keep K16 all0
  obtain ⟨cq23, kq23, q23a, q23b, q23c⟩ := isOf hZ rfl f19
  obtain ⟨_, _, ⟨T23, L23, k23, n23⟩, -, X23, ⟨Lc23, hQ23, l23, y23, z23⟩, st23⟩ := X16.interfaceBack hx (xi := (⟨"java/util/List", "add", "(Ljava/lang/Object;)Z"⟩ : MethodName)) (y := (⟨"java/util/ArrayList", "add", "(Ljava/lang/Object;)Z"⟩ : MethodName)) hown (mvT hZ (own_W hw 31 rfl)) (mvT hZ (own_W hw 32 rfl)) (mvT hZ (own_W hw 33 rfl)) (mvT hZ (own_W hw 34 rfl)) (mvT hZ (own_W hw 35 rfl)) (mvT hZ (own_W hw 36 rfl)) (mvT hZ (own_W hw 37 rfl)) (mvT hZ (own_W hw 38 rfl)) (by decide) (backOf (W := 0) (rm6_0 l Z a0 hw [] b6 b16 w_DEF kk_w_DEF (0 : Int32) T16.heap n0 z24 o25 f19 qf16_1 S_DEFAULTCAPACITY_EMPTY_ELEMENTDATA V_w_DEF f20 f21 f22 g_b6) hZ (own_W hw 39 rfl) (own_W hw 3 rfl) (by decide) (by decide)) q23a q23b q23c (g := (mkF m 78 #[.val (.long pl1), .second, .val (.int pi2), .val (.int pi3), .val (.int pi4), .val (.int pi5), .val (.int pi6), .val (.int (2 : Int32)), .val (.ref b1), .val (.int (2 : Int32)), .val (.ref b6), .unset] [(.ref b16), (.ref b6)])) rfl (by rw [hml]; rfl) (Steps.refl _) (argsL := [(.ref b16)]) (rest := []) (lenOf pd_2 rfl) rfl (by show 2 * 0 + _ ≤ _; exact Nat.le_of_eq rfl) (hb hby at_78) (fun _ _ => ⟨rfl, rfl, (by decide : 3 + 1 ≤ _), (by decide : 6 + 10 ≤ _)⟩)
  dsimp only [Pt.U, Pt.locs, Pt.cells, Pt.slots] at X23 l23 y23 z23 st23 hQ23
  subst l23 y23 z23
  obtain ⟨b23, b23_1, rfl, N23q, K23, qf23_0, qf23_1, qf23_2, qf23_3, qf23_4, qf23_5, qf23_6⟩ := hQ23
  have N23 := Fr.app N16 N23q
  have z27 := Nat.le_trans z24 K23.1
  have o28 := o25.keep K23 (allS g_b6 all0)
  obtain ⟨_, _, ⟨T26, L26, k26, n26⟩, -, X26, ⟨Lc26, hQ26, l26, y26, z26⟩, st26⟩ := Jvm.LawKit.callS X23 hx (y := (⟨"com/example/shardwright/shardwright/cli/RowIsBlankPinLaw", "field", "(II)[B"⟩ : MethodName)) hown (mvT hZ (own_W hw 27 rfl)) (mvT hZ (own_W hw 28 rfl)) (mvT hZ (own_W hw 29 rfl)) (mvT hZ (own_W hw 30 rfl)) (by decide) (backOf (W := 1) (rm5 l Z a0 hw [] ((pi3.toUInt32 >>> ((3 : Int32) &&& 31).toUInt32).toInt32) pi5 T23.heap n0 z27 o28 ) hZ (own_W hw 30 rfl) (own_W hw 29 rfl) (by decide) (by decide)) (g := (mkF m 97 #[.val (.long pl1), .second, .val (.int pi2), .val (.int pi3), .val (.int pi4), .val (.int pi5), .val (.int pi6), .val (.int (2 : Int32)), .val (.ref b1), .val (.int (2 : Int32)), .val (.ref b6), .unset] [(.int pi5), (.int ((pi3.toUInt32 >>> ((3 : Int32) &&& 31).toUInt32).toInt32)), (.ref b6)])) rfl (by rw [hml]; rfl) (argsL := [(.int ((pi3.toUInt32 >>> ((3 : Int32) &&& 31).toUInt32).toInt32)), (.int pi5)]) (rest := [(.ref b6)]) (lenOf pd_1 rfl) rfl (by show 2 * 0 + _ ≤ _; exact Nat.le_of_eq rfl) (hb hby at_97) (fun _ _ => ⟨rfl, rfl, (by decide : 4 + 1 ≤ _), (by decide : 16 + 1 ≤ _)⟩)
  dsimp only [Pt.U, Pt.locs, Pt.cells, Pt.slots] at X26 l26 y26 z26 st26 hQ26
  subst l26 y26 z26
  obtain ⟨b26, rfl, N26q, K26, qf26_0, qf26_1⟩ := hQ26
  have N26 := Fr.app N23 N26q
  have f29 := qf23_0.keep K26
  have f30 := qf23_1.keep K26 nin0
  have f31 := qf23_2.keep K26 nin0
  have f32 := qf23_5.keep K26 nin0
  have f33 := qf23_3.keep K26 nin0
  have g_b23 : n0 ≤ b23 := Nat.le_trans z24 qf23_4
  have z35 := Nat.le_trans z27 K26.1
  have o36 := o28.keep K26 all0
  obtain ⟨cq34, kq34, q34a, q34b, q34c⟩ := isOf hZ rfl f29
  obtain ⟨_, _, ⟨T34, L34, k34, n34⟩, -, X34, ⟨Lc34, hQ34, l34, y34, z34⟩, st34⟩ := X26.interfaceBack hx (xi := (⟨"java/util/List", "add", "(Ljava/lang/Object;)Z"⟩ : MethodName)) (y := (⟨"java/util/ArrayList", "add", "(Ljava/lang/Object;)Z"⟩ : MethodName)) hown (mvT hZ (own_W hw 31 rfl)) (mvT hZ (own_W hw 32 rfl)) (mvT hZ (own_W hw 33 rfl)) (mvT hZ (own_W hw 34 rfl)) (mvT hZ (own_W hw 35 rfl)) (mvT hZ (own_W hw 36 rfl)) (mvT hZ (own_W hw 37 rfl)) (mvT hZ (own_W hw 38 rfl)) (by decide) (backOf (W := 0) (rm6_1 l Z a0 hw [] b6 b26 ((0 : Int32) + (1 : Int32)) b23 b23_1 (.ref b16) .null .null .null .null .null .null .null .null .null T26.heap n0 z35 o36 f29 qf26_1 f30 f31 f32 qf23_6 f33 g_b6 (Ne.symm (Nat.ne_of_lt (Nat.lt_of_lt_of_le f19.lt qf23_4))) g_b23) hZ (own_W hw 39 rfl) (own_W hw 3 rfl) (by decide) (by decide)) q34a q34b q34c (g := (mkF m 100 #[.val (.long pl1), .second, .val (.int pi2), .val (.int pi3), .val (.int pi4), .val (.int pi5), .val (.int pi6), .val (.int (2 : Int32)), .val (.ref b1), .val (.int (2 : Int32)), .val (.ref b6), .unset] [(.ref b26), (.ref b6)])) rfl (by rw [hml]; rfl) (Steps.refl _) (argsL := [(.ref b26)]) (rest := []) (lenOf pd_2 rfl) rfl (by show 2 * 0 + _ ≤ _; exact Nat.le_of_eq rfl) (hb hby at_100) (fun _ _ => ⟨rfl, rfl, (by decide : 5 + 0 ≤ _), (by decide : 17 + 0 ≤ _)⟩)
  dsimp only [Pt.U, Pt.locs, Pt.cells, Pt.slots] at X34 l34 y34 z34 st34 hQ34
  subst l34 y34 z34
  obtain ⟨rfl, N34q, K34, qf34_0, qf34_1, qf34_2, qf34_3, qf34_4, qf34_5⟩ := hQ34
  have N34 := Fr.app N26 N34q
  obtain ⟨T37, h37, X37, e37, E37, A37, D37, -, st37⟩ := newO X34 hx hZ hown (own_W hw 66 rfl) (own_W hw 67 rfl) (own_W hw 68 rfl) rfl (g := (mkF m 128 #[.val (.long pl1), .second, .val (.int pi2), .val (.int pi3), .val (.int pi4), .val (.int pi5), .val (.int pi6), .val (.int (2 : Int32)), .val (.ref b1), .val (.int (2 : Int32)), .val (.ref b6), .unset] [])) rfl (hb hby at_128) (by decide) (by decide)
  obtain ⟨b37, g37⟩ : ∃ z, z = T34.heap.size := ⟨_, rfl⟩
  rw [← g37] at A37 D37 st37
  have F_line_b37 : Fld Z h37 b37 "com/example/shardwright/shardwright/cli/CsvReader$Row" "line" "J" (.long (0 : Int64)) := D37 (Or.inr (own_W hw 79 rfl)) (ty := .long) (by decide)
  have F_text_b37 : Fld Z h37 b37 "com/example/shardwright/shardwright/cli/CsvReader$Row" "text" "[B" .null := D37 (Or.inr (own_W hw 81 rfl)) (ty := (.array .byte)) (by decide)
  have F_fields_b37 : Fld Z h37 b37 "com/example/shardwright/shardwright/cli/CsvReader$Row" "fields" "Ljava/util/List;" .null := D37 (Or.inr (own_W hw 83 rfl)) (ty := (.object "java/util/List")) (by decide)
  have z38 := Nat.le_trans z35 K34.1
  have g_b37 : n0 ≤ b37 := Nat.le_trans z38 (Nat.le_of_eq g37.symm)
  have z40 := Nat.le_trans z38 E37.1
  have o41 := o36.keep K34 (allS g_b6 (allS g_b23 all0))
  have o42 := o41.ext E37
  obtain ⟨_, _, ⟨T39, L39, k39, n39⟩, -, X39, ⟨Lc39, hQ39, l39, y39, z39⟩, st39⟩ := X37.specialBack hx (y := (⟨"com/example/shardwright/shardwright/cli/CsvReader$Row", "<init>", "(J[BLjava/util/List;)V"⟩ : MethodName)) rfl hown (mvT hZ (own_W hw 69 rfl)) (mvT hZ (own_W hw 70 rfl)) (mvT hZ (own_W hw 71 rfl)) (by decide) (backOf (W := 1) (rm11 l Z a0 hw [] b37 pl1 b1 b6 (.long (0 : Int64)) .null .null h37 n0 z40 o42 A37 F_line_b37 g_b37 F_text_b37 F_fields_b37) hZ (own_W hw 71 rfl) (own_W hw 68 rfl) (by decide) (by decide)) (g := (mkF m 137 #[.val (.long pl1), .second, .val (.int pi2), .val (.int pi3), .val (.int pi4), .val (.int pi5), .val (.int pi6), .val (.int (2 : Int32)), .val (.ref b1), .val (.int (2 : Int32)), .val (.ref b6), .unset] [(.ref b6), (.ref b1), (.long pl1), (.ref b37), (.ref b37)])) rfl (by rw [hml]; rfl) (Steps.refl _) (a := b37) (argsL := [(.long pl1), (.ref b1), (.ref b6)]) (rest := [(.ref b37)]) (lenOf pd_7 rfl) rfl (by show 2 * 0 + _ ≤ _; exact Nat.le_of_eq rfl) (hb hby at_137) (fun _ _ => ⟨rfl, e37, (by decide : 6 + 0 ≤ _), (by decide : 20 + 0 ≤ _)⟩)
  dsimp only [Pt.U, Pt.locs, Pt.cells, Pt.slots] at X39 l39 y39 z39 st39 hQ39
  subst l39 y39 z39
  obtain ⟨rfl, N39q, K39, qf39_0, qf39_1, qf39_2, qf39_3⟩ := hQ39
  have N39 := Fr.app N34 N39q
  have f43 := V5.ext E6
  have f44 := f43.keep K10 (ninS (Nat.ne_of_lt (Nat.lt_of_lt_of_le V5.lt (Nat.le_of_eq g6.symm))) nin0)
  have f45 := f44.keep K16 nin0
  have f46 := f45.keep K23 (ninS (Nat.ne_of_lt (Nat.lt_of_lt_of_le V5.lt (Nat.le_of_eq g6.symm))) nin0)
  have f47 := f46.keep K26 nin0
  have f48 := f47.keep K34 (ninS (Nat.ne_of_lt (Nat.lt_of_lt_of_le V5.lt (Nat.le_of_eq g6.symm))) (ninS (Nat.ne_of_lt (Nat.lt_of_lt_of_le f45.lt qf23_4)) nin0))
  have f49 := f48.ext E37
  have f50 := f49.keep K39 (ninS (Nat.ne_of_lt (Nat.lt_of_lt_of_le f48.lt (Nat.le_of_eq g37.symm))) nin0)
  have z52 := Nat.le_trans z40 K39.1
  have o53 := o42.keep K39 (allS g_b37 all0)
  obtain ⟨cq51, kq51, q51a, q51b, q51c⟩ := isOf hZ rfl qf39_0
  obtain ⟨_, _, ⟨T51, L51, k51, n51⟩, -, X51, ⟨Lc51, hQ51, l51, y51, z51⟩, st51⟩ := X39.virtualBack hx (y := (⟨"com/example/shardwright/shardwright/cli/CsvReader$Row", "isBlank", "()Z"⟩ : MethodName)) (z := (⟨"com/example/shardwright/shardwright/cli/CsvReader$Row", "isBlank", "()Z"⟩ : MethodName)) hown (mvT hZ (own_W hw 84 rfl)) (mvT hZ (own_W hw 85 rfl)) (notFace_of_selects (args := #[]) (mvT hZ (own_W hw 87 rfl))) (mvT hZ (own_W hw 87 rfl)) (mvT hZ (own_W hw 86 rfl)) (by decide) (backOf (W := 0) (rm13_2 l Z a0 hw [] b37 b1 k1 (nar .byte (pi4.toInt8.toInt32)) (nar .byte (pi5.toInt8.toInt32)) T39.heap n0 z52 o53 qf39_2 f50) hZ (own_W hw 88 rfl) (own_W hw 68 rfl) (by decide) (by decide)) q51a q51c (g := (mkF m 144 #[.val (.long pl1), .second, .val (.int pi2), .val (.int pi3), .val (.int pi4), .val (.int pi5), .val (.int pi6), .val (.int (2 : Int32)), .val (.ref b1), .val (.int (2 : Int32)), .val (.ref b6), .val (.ref b37)] [(.ref b37)])) rfl (by rw [hml]; rfl) (Steps.refl _) (argsL := []) (rest := []) (lenOf pd_8 rfl) rfl (by show 2 * 0 + _ ≤ _; exact Nat.le_of_eq rfl) (hb hby at_144) (fun _ _ => ⟨rfl, rfl, (by decide : 6 + 0 ≤ _), (by decide : 20 + 0 ≤ _)⟩)
  dsimp only [Pt.U, Pt.locs, Pt.cells, Pt.slots] at X51 l51 y51 z51 st51 hQ51
  subst l51 y51 z51
  obtain ⟨rfl, N51q, eq51⟩ := hQ51
  have N51 := Fr.app N39 N51q
  obtain ⟨fs, hr, hrun, hended, hW, hsame⟩ := X51.leave (v := some (.int (1 : Int32))) (fun h => by rw [Bd.returns] at h; cases h)
  refine ⟨_, _, pre0 _ ?_, hrun, hended, _, _, rfl, ?_, ⟨_, rfl⟩, hW, hsame.mono (by decide) (by decide)⟩
  · show Stp p e below s₁ m 0 #[.val (.long pl1), .second, .val (.int pi2), .val (.int pi3), .val (.int pi4), .val (.int pi5), .val (.int pi6), .unset, .unset, .unset, .unset, .unset] [] _
    refine XS.iloadN X0.here hx rfl (hb hby at_0) rfl ?_
    show Stp p e below s₁ m 1 #[.val (.long pl1), .second, .val (.int pi2), .val (.int pi3), .val (.int pi4), .val (.int pi5), .val (.int pi6), .unset, .unset, .unset, .unset, .unset] [(.int pi2)] _
    refine XS.iconst X0.here hx rfl (hb hby at_1) ?_
    show Stp p e below s₁ m 2 #[.val (.long pl1), .second, .val (.int pi2), .val (.int pi3), .val (.int pi4), .val (.int pi5), .val (.int pi6), .unset, .unset, .unset, .unset, .unset] [(.int (3 : Int32)), (.int pi2)] _
    refine XS.iand X0.here hx rfl (hb hby at_2) rfl ?_
    show Stp p e below s₁ m 3 #[.val (.long pl1), .second, .val (.int pi2), .val (.int pi3), .val (.int pi4), .val (.int pi5), .val (.int pi6), .unset, .unset, .unset, .unset, .unset] [(.int (pi2 &&& (3 : Int32)))] _
    refine XS.istore X0.here hx rfl (hb hby at_3) rfl (l' := #[.val (.long pl1), .second, .val (.int pi2), .val (.int pi3), .val (.int pi4), .val (.int pi5), .val (.int pi6), .val (.int (pi2 &&& (3 : Int32))), .unset, .unset, .unset, .unset]) rfl ?_
    show Stp p e below s₁ m 5 #[.val (.long pl1), .second, .val (.int pi2), .val (.int pi3), .val (.int pi4), .val (.int pi5), .val (.int pi6), .val (.int (pi2 &&& (3 : Int32))), .unset, .unset, .unset, .unset] [] _
    rw [show (pi2 &&& (3 : Int32)) = (2 : Int32) from hc3_2]
    show Stp p e below s₁ m 5 #[.val (.long pl1), .second, .val (.int pi2), .val (.int pi3), .val (.int pi4), .val (.int pi5), .val (.int pi6), .val (.int (2 : Int32)), .unset, .unset, .unset, .unset] [] _
    refine XS.iload X0.here hx rfl (hb hby at_5) rfl ?_
    show Stp p e below s₁ m 7 #[.val (.long pl1), .second, .val (.int pi2), .val (.int pi3), .val (.int pi4), .val (.int pi5), .val (.int pi6), .val (.int (2 : Int32)), .unset, .unset, .unset, .unset] [(.int (2 : Int32))] _
    refine st1 _ ?_
    show Stp p e below T1 m 9 #[.val (.long pl1), .second, .val (.int pi2), .val (.int pi3), .val (.int pi4), .val (.int pi5), .val (.int pi6), .val (.int (2 : Int32)), .unset, .unset, .unset, .unset] [(.ref b1)] _
    refine XS.astore X1.here hx rfl (hb hby at_9) rfl rfl (l' := #[.val (.long pl1), .second, .val (.int pi2), .val (.int pi3), .val (.int pi4), .val (.int pi5), .val (.int pi6), .val (.int (2 : Int32)), .val (.ref b1), .unset, .unset, .unset]) rfl ?_
    show Stp p e below T1 m 11 #[.val (.long pl1), .second, .val (.int pi2), .val (.int pi3), .val (.int pi4), .val (.int pi5), .val (.int pi6), .val (.int (2 : Int32)), .val (.ref b1), .unset, .unset, .unset] [] _
    refine XS.iload X1.here hx rfl (hb hby at_11) rfl ?_
    show Stp p e below T1 m 13 #[.val (.long pl1), .second, .val (.int pi2), .val (.int pi3), .val (.int pi4), .val (.int pi5), .val (.int pi6), .val (.int (2 : Int32)), .val (.ref b1), .unset, .unset, .unset] [(.int (2 : Int32))] _
    refine XS.ifNo X1.here hx rfl (hb hby at_13) rfl ((if0 _ _).trans (tlt (by decide : (0 : Int32) < (2 : Int32))).2.2.2) ?_
    show Stp p e below T1 m 16 #[.val (.long pl1), .second, .val (.int pi2), .val (.int pi3), .val (.int pi4), .val (.int pi5), .val (.int pi6), .val (.int (2 : Int32)), .val (.ref b1), .unset, .unset, .unset] [] _
    refine XS.aload X1.here hx rfl (hb hby at_16) rfl rfl ?_
    show Stp p e below T1 m 18 #[.val (.long pl1), .second, .val (.int pi2), .val (.int pi3), .val (.int pi4), .val (.int pi5), .val (.int pi6), .val (.int (2 : Int32)), .val (.ref b1), .unset, .unset, .unset] [(.ref b1)] _
    refine XS.iconst X1.here hx rfl (hb hby at_18) ?_
    show Stp p e below T1 m 19 #[.val (.long pl1), .second, .val (.int pi2), .val (.int pi3), .val (.int pi4), .val (.int pi5), .val (.int pi6), .val (.int (2 : Int32)), .val (.ref b1), .unset, .unset, .unset] [(.int (0 : Int32)), (.ref b1)] _
    refine XS.iload X1.here hx rfl (hb hby at_19) rfl ?_
    show Stp p e below T1 m 21 #[.val (.long pl1), .second, .val (.int pi2), .val (.int pi3), .val (.int pi4), .val (.int pi5), .val (.int pi6), .val (.int (2 : Int32)), .val (.ref b1), .unset, .unset, .unset] [(.int pi4), (.int (0 : Int32)), (.ref b1)] _
    refine XS.i2b X1.here hx rfl (hb hby at_21) rfl ?_
    show Stp p e below T1 m 22 #[.val (.long pl1), .second, .val (.int pi2), .val (.int pi3), .val (.int pi4), .val (.int pi5), .val (.int pi6), .val (.int (2 : Int32)), .val (.ref b1), .unset, .unset, .unset] [(.int (pi4.toInt8.toInt32)), (.int (0 : Int32)), (.ref b1)] _
    refine st3 _ ?_
    show Stp p e below T3 m 23 #[.val (.long pl1), .second, .val (.int pi2), .val (.int pi3), .val (.int pi4), .val (.int pi5), .val (.int pi6), .val (.int (2 : Int32)), .val (.ref b1), .unset, .unset, .unset] [] _
    refine XS.iload X3.here hx rfl (hb hby at_23) rfl ?_
    show Stp p e below T3 m 25 #[.val (.long pl1), .second, .val (.int pi2), .val (.int pi3), .val (.int pi4), .val (.int pi5), .val (.int pi6), .val (.int (2 : Int32)), .val (.ref b1), .unset, .unset, .unset] [(.int (2 : Int32))] _
    refine XS.iconst X3.here hx rfl (hb hby at_25) ?_
    show Stp p e below T3 m 26 #[.val (.long pl1), .second, .val (.int pi2), .val (.int pi3), .val (.int pi4), .val (.int pi5), .val (.int pi6), .val (.int (2 : Int32)), .val (.ref b1), .unset, .unset, .unset] [(.int (1 : Int32)), (.int (2 : Int32))] _
    refine XS.icmpNo X3.here hx rfl (hb hby at_26) rfl (tlt (by decide : (1 : Int32) < (2 : Int32))).2.2.2 ?_
    show Stp p e below T3 m 29 #[.val (.long pl1), .second, .val (.int pi2), .val (.int pi3), .val (.int pi4), .val (.int pi5), .val (.int pi6), .val (.int (2 : Int32)), .val (.ref b1), .unset, .unset, .unset] [] _
    refine XS.aload X3.here hx rfl (hb hby at_29) rfl rfl ?_
    show Stp p e below T3 m 31 #[.val (.long pl1), .second, .val (.int pi2), .val (.int pi3), .val (.int pi4), .val (.int pi5), .val (.int pi6), .val (.int (2 : Int32)), .val (.ref b1), .unset, .unset, .unset] [(.ref b1)] _
    refine XS.iconst X3.here hx rfl (hb hby at_31) ?_
    show Stp p e below T3 m 32 #[.val (.long pl1), .second, .val (.int pi2), .val (.int pi3), .val (.int pi4), .val (.int pi5), .val (.int pi6), .val (.int (2 : Int32)), .val (.ref b1), .unset, .unset, .unset] [(.int (1 : Int32)), (.ref b1)] _
    refine XS.iload X3.here hx rfl (hb hby at_32) rfl ?_
    show Stp p e below T3 m 34 #[.val (.long pl1), .second, .val (.int pi2), .val (.int pi3), .val (.int pi4), .val (.int pi5), .val (.int pi6), .val (.int (2 : Int32)), .val (.ref b1), .unset, .unset, .unset] [(.int pi5), (.int (1 : Int32)), (.ref b1)] _
    refine XS.i2b X3.here hx rfl (hb hby at_34) rfl ?_
    show Stp p e below T3 m 35 #[.val (.long pl1), .second, .val (.int pi2), .val (.int pi3), .val (.int pi4), .val (.int pi5), .val (.int pi6), .val (.int (2 : Int32)), .val (.ref b1), .unset, .unset, .unset] [(.int (pi5.toInt8.toInt32)), (.int (1 : Int32)), (.ref b1)] _
    refine st5 _ ?_
    show Stp p e below T5 m 36 #[.val (.long pl1), .second, .val (.int pi2), .val (.int pi3), .val (.int pi4), .val (.int pi5), .val (.int pi6), .val (.int (2 : Int32)), .val (.ref b1), .unset, .unset, .unset] [] _
    refine XS.iload X5.here hx rfl (hb hby at_36) rfl ?_
    show Stp p e below T5 m 38 #[.val (.long pl1), .second, .val (.int pi2), .val (.int pi3), .val (.int pi4), .val (.int pi5), .val (.int pi6), .val (.int (2 : Int32)), .val (.ref b1), .unset, .unset, .unset] [(.int (2 : Int32))] _
    refine XS.iconst X5.here hx rfl (hb hby at_38) ?_
    show Stp p e below T5 m 39 #[.val (.long pl1), .second, .val (.int pi2), .val (.int pi3), .val (.int pi4), .val (.int pi5), .val (.int pi6), .val (.int (2 : Int32)), .val (.ref b1), .unset, .unset, .unset] [(.int (2 : Int32)), (.int (2 : Int32))] _
    refine XS.icmpYes X5.here hx rfl (pc0 := 39) (pc' := 49) rfl (hb hby at_39) rfl (flt (by simp : ¬ ((2 : Int32) < (2 : Int32)))).2.2.2 (by decide) (by decide) ?_
    show Stp p e below T5 m 49 #[.val (.long pl1), .second, .val (.int pi2), .val (.int pi3), .val (.int pi4), .val (.int pi5), .val (.int pi6), .val (.int (2 : Int32)), .val (.ref b1), .unset, .unset, .unset] [] _
    refine XS.iloadN X5.here hx rfl (hb hby at_49) rfl ?_
    show Stp p e below T5 m 50 #[.val (.long pl1), .second, .val (.int pi2), .val (.int pi3), .val (.int pi4), .val (.int pi5), .val (.int pi6), .val (.int (2 : Int32)), .val (.ref b1), .unset, .unset, .unset] [(.int pi3)] _
    refine XS.iconst X5.here hx rfl (hb hby at_50) ?_
    show Stp p e below T5 m 51 #[.val (.long pl1), .second, .val (.int pi2), .val (.int pi3), .val (.int pi4), .val (.int pi5), .val (.int pi6), .val (.int (2 : Int32)), .val (.ref b1), .unset, .unset, .unset] [(.int (3 : Int32)), (.int pi3)] _
    refine XS.iand X5.here hx rfl (hb hby at_51) rfl ?_
    show Stp p e below T5 m 52 #[.val (.long pl1), .second, .val (.int pi2), .val (.int pi3), .val (.int pi4), .val (.int pi5), .val (.int pi6), .val (.int (2 : Int32)), .val (.ref b1), .unset, .unset, .unset] [(.int (pi3 &&& (3 : Int32)))] _
    refine XS.istore X5.here hx rfl (hb hby at_52) rfl (l' := #[.val (.long pl1), .second, .val (.int pi2), .val (.int pi3), .val (.int pi4), .val (.int pi5), .val (.int pi6), .val (.int (2 : Int32)), .val (.ref b1), .val (.int (pi3 &&& (3 : Int32))), .unset, .unset]) rfl ?_
    show Stp p e below T5 m 54 #[.val (.long pl1), .second, .val (.int pi2), .val (.int pi3), .val (.int pi4), .val (.int pi5), .val (.int pi6), .val (.int (2 : Int32)), .val (.ref b1), .val (.int (pi3 &&& (3 : Int32))), .unset, .unset] [] _
    rw [show (pi3 &&& (3 : Int32)) = (2 : Int32) from hc52_5]
    show Stp p e below T5 m 54 #[.val (.long pl1), .second, .val (.int pi2), .val (.int pi3), .val (.int pi4), .val (.int pi5), .val (.int pi6), .val (.int (2 : Int32)), .val (.ref b1), .val (.int (2 : Int32)), .unset, .unset] [] _
    refine st6 _ ?_
    show Stp p e below T6 m 57 #[.val (.long pl1), .second, .val (.int pi2), .val (.int pi3), .val (.int pi4), .val (.int pi5), .val (.int pi6), .val (.int (2 : Int32)), .val (.ref b1), .val (.int (2 : Int32)), .unset, .unset] [(.ref b6)] _
    refine XS.dup X6.here hx rfl (hb hby at_57) rfl rfl ?_
    show Stp p e below T6 m 58 #[.val (.long pl1), .second, .val (.int pi2), .val (.int pi3), .val (.int pi4), .val (.int pi5), .val (.int pi6), .val (.int (2 : Int32)), .val (.ref b1), .val (.int (2 : Int32)), .unset, .unset] [(.ref b6), (.ref b6)] _
    refine st10.trans ?_
    show Stp p e below T10 m 61 #[.val (.long pl1), .second, .val (.int pi2), .val (.int pi3), .val (.int pi4), .val (.int pi5), .val (.int pi6), .val (.int (2 : Int32)), .val (.ref b1), .val (.int (2 : Int32)), .unset, .unset] [(.ref b6)] _
    refine XS.astore X10.here hx rfl (hb hby at_61) rfl rfl (l' := #[.val (.long pl1), .second, .val (.int pi2), .val (.int pi3), .val (.int pi4), .val (.int pi5), .val (.int pi6), .val (.int (2 : Int32)), .val (.ref b1), .val (.int (2 : Int32)), .val (.ref b6), .unset]) rfl ?_
    show Stp p e below T10 m 63 #[.val (.long pl1), .second, .val (.int pi2), .val (.int pi3), .val (.int pi4), .val (.int pi5), .val (.int pi6), .val (.int (2 : Int32)), .val (.ref b1), .val (.int (2 : Int32)), .val (.ref b6), .unset] [] _
    refine XS.iload X10.here hx rfl (hb hby at_63) rfl ?_
    show Stp p e below T10 m 65 #[.val (.long pl1), .second, .val (.int pi2), .val (.int pi3), .val (.int pi4), .val (.int pi5), .val (.int pi6), .val (.int (2 : Int32)), .val (.ref b1), .val (.int (2 : Int32)), .val (.ref b6), .unset] [(.int (2 : Int32))] _
    refine XS.ifNo X10.here hx rfl (hb hby at_65) rfl ((if0 _ _).trans (tlt (by decide : (0 : Int32) < (2 : Int32))).2.2.2) ?_
    show Stp p e below T10 m 68 #[.val (.long pl1), .second, .val (.int pi2), .val (.int pi3), .val (.int pi4), .val (.int pi5), .val (.int pi6), .val (.int (2 : Int32)), .val (.ref b1), .val (.int (2 : Int32)), .val (.ref b6), .unset] [] _
    refine XS.aload X10.here hx rfl (hb hby at_68) rfl rfl ?_
    show Stp p e below T10 m 70 #[.val (.long pl1), .second, .val (.int pi2), .val (.int pi3), .val (.int pi4), .val (.int pi5), .val (.int pi6), .val (.int (2 : Int32)), .val (.ref b1), .val (.int (2 : Int32)), .val (.ref b6), .unset] [(.ref b6)] _
    refine XS.iloadN X10.here hx rfl (hb hby at_70) rfl ?_
    show Stp p e below T10 m 71 #[.val (.long pl1), .second, .val (.int pi2), .val (.int pi3), .val (.int pi4), .val (.int pi5), .val (.int pi6), .val (.int (2 : Int32)), .val (.ref b1), .val (.int (2 : Int32)), .val (.ref b6), .unset] [(.int pi3), (.ref b6)] _
    refine XS.iconst X10.here hx rfl (hb hby at_71) ?_
    show Stp p e below T10 m 72 #[.val (.long pl1), .second, .val (.int pi2), .val (.int pi3), .val (.int pi4), .val (.int pi5), .val (.int pi6), .val (.int (2 : Int32)), .val (.ref b1), .val (.int (2 : Int32)), .val (.ref b6), .unset] [(.int (2 : Int32)), (.int pi3), (.ref b6)] _
    refine XS.iushr X10.here hx rfl (hb hby at_72) rfl ?_
    show Stp p e below T10 m 73 #[.val (.long pl1), .second, .val (.int pi2), .val (.int pi3), .val (.int pi4), .val (.int pi5), .val (.int pi6), .val (.int (2 : Int32)), .val (.ref b1), .val (.int (2 : Int32)), .val (.ref b6), .unset] [(.int ((pi3.toUInt32 >>> ((2 : Int32) &&& 31).toUInt32).toInt32)), (.ref b6)] _
    refine XS.iload X10.here hx rfl (hb hby at_73) rfl ?_
    show Stp p e below T10 m 75 #[.val (.long pl1), .second, .val (.int pi2), .val (.int pi3), .val (.int pi4), .val (.int pi5), .val (.int pi6), .val (.int (2 : Int32)), .val (.ref b1), .val (.int (2 : Int32)), .val (.ref b6), .unset] [(.int pi4), (.int ((pi3.toUInt32 >>> ((2 : Int32) &&& 31).toUInt32).toInt32)), (.ref b6)] _
    refine st16 _ ?_
    show Stp p e below T16 m 78 #[.val (.long pl1), .second, .val (.int pi2), .val (.int pi3), .val (.int pi4), .val (.int pi5), .val (.int pi6), .val (.int (2 : Int32)), .val (.ref b1), .val (.int (2 : Int32)), .val (.ref b6), .unset] [(.ref b16), (.ref b6)] _
    refine st23.trans ?_
    show Stp p e below T23 m 83 #[.val (.long pl1), .second, .val (.int pi2), .val (.int pi3), .val (.int pi4), .val (.int pi5), .val (.int pi6), .val (.int (2 : Int32)), .val (.ref b1), .val (.int (2 : Int32)), .val (.ref b6), .unset] [(.int (1 : Int32))] _
    refine XS.pop X23.here hx rfl (hb hby at_83) rfl rfl ?_
    show Stp p e below T23 m 84 #[.val (.long pl1), .second, .val (.int pi2), .val (.int pi3), .val (.int pi4), .val (.int pi5), .val (.int pi6), .val (.int (2 : Int32)), .val (.ref b1), .val (.int (2 : Int32)), .val (.ref b6), .unset] [] _
    refine XS.iload X23.here hx rfl (hb hby at_84) rfl ?_
    show Stp p e below T23 m 86 #[.val (.long pl1), .second, .val (.int pi2), .val (.int pi3), .val (.int pi4), .val (.int pi5), .val (.int pi6), .val (.int (2 : Int32)), .val (.ref b1), .val (.int (2 : Int32)), .val (.ref b6), .unset] [(.int (2 : Int32))] _
    refine XS.iconst X23.here hx rfl (hb hby at_86) ?_
    show Stp p e below T23 m 87 #[.val (.long pl1), .second, .val (.int pi2), .val (.int pi3), .val (.int pi4), .val (.int pi5), .val (.int pi6), .val (.int (2 : Int32)), .val (.ref b1), .val (.int (2 : Int32)), .val (.ref b6), .unset] [(.int (1 : Int32)), (.int (2 : Int32))] _
    refine XS.icmpNo X23.here hx rfl (hb hby at_87) rfl (tlt (by decide : (1 : Int32) < (2 : Int32))).2.2.2 ?_
    show Stp p e below T23 m 90 #[.val (.long pl1), .second, .val (.int pi2), .val (.int pi3), .val (.int pi4), .val (.int pi5), .val (.int pi6), .val (.int (2 : Int32)), .val (.ref b1), .val (.int (2 : Int32)), .val (.ref b6), .unset] [] _
    refine XS.aload X23.here hx rfl (hb hby at_90) rfl rfl ?_
    show Stp p e below T23 m 92 #[.val (.long pl1), .second, .val (.int pi2), .val (.int pi3), .val (.int pi4), .val (.int pi5), .val (.int pi6), .val (.int (2 : Int32)), .val (.ref b1), .val (.int (2 : Int32)), .val (.ref b6), .unset] [(.ref b6)] _
    refine XS.iloadN X23.here hx rfl (hb hby at_92) rfl ?_
    show Stp p e below T23 m 93 #[.val (.long pl1), .second, .val (.int pi2), .val (.int pi3), .val (.int pi4), .val (.int pi5), .val (.int pi6), .val (.int (2 : Int32)), .val (.ref b1), .val (.int (2 : Int32)), .val (.ref b6), .unset] [(.int pi3), (.ref b6)] _
    refine XS.iconst X23.here hx rfl (hb hby at_93) ?_
    show Stp p e below T23 m 94 #[.val (.long pl1), .second, .val (.int pi2), .val (.int pi3), .val (.int pi4), .val (.int pi5), .val (.int pi6), .val (.int (2 : Int32)), .val (.ref b1), .val (.int (2 : Int32)), .val (.ref b6), .unset] [(.int (3 : Int32)), (.int pi3), (.ref b6)] _
    refine XS.iushr X23.here hx rfl (hb hby at_94) rfl ?_
    show Stp p e below T23 m 95 #[.val (.long pl1), .second, .val (.int pi2), .val (.int pi3), .val (.int pi4), .val (.int pi5), .val (.int pi6), .val (.int (2 : Int32)), .val (.ref b1), .val (.int (2 : Int32)), .val (.ref b6), .unset] [(.int ((pi3.toUInt32 >>> ((3 : Int32) &&& 31).toUInt32).toInt32)), (.ref b6)] _
    refine XS.iload X23.here hx rfl (hb hby at_95) rfl ?_
    show Stp p e below T23 m 97 #[.val (.long pl1), .second, .val (.int pi2), .val (.int pi3), .val (.int pi4), .val (.int pi5), .val (.int pi6), .val (.int (2 : Int32)), .val (.ref b1), .val (.int (2 : Int32)), .val (.ref b6), .unset] [(.int pi5), (.int ((pi3.toUInt32 >>> ((3 : Int32) &&& 31).toUInt32).toInt32)), (.ref b6)] _
    refine st26 _ ?_
    show Stp p e below T26 m 100 #[.val (.long pl1), .second, .val (.int pi2), .val (.int pi3), .val (.int pi4), .val (.int pi5), .val (.int pi6), .val (.int (2 : Int32)), .val (.ref b1), .val (.int (2 : Int32)), .val (.ref b6), .unset] [(.ref b26), (.ref b6)] _
    refine st34.trans ?_
    show Stp p e below T34 m 105 #[.val (.long pl1), .second, .val (.int pi2), .val (.int pi3), .val (.int pi4), .val (.int pi5), .val (.int pi6), .val (.int (2 : Int32)), .val (.ref b1), .val (.int (2 : Int32)), .val (.ref b6), .unset] [(.int (1 : Int32))] _
    refine XS.pop X34.here hx rfl (hb hby at_105) rfl rfl ?_
    show Stp p e below T34 m 106 #[.val (.long pl1), .second, .val (.int pi2), .val (.int pi3), .val (.int pi4), .val (.int pi5), .val (.int pi6), .val (.int (2 : Int32)), .val (.ref b1), .val (.int (2 : Int32)), .val (.ref b6), .unset] [] _
    refine XS.iload X34.here hx rfl (hb hby at_106) rfl ?_
    show Stp p e below T34 m 108 #[.val (.long pl1), .second, .val (.int pi2), .val (.int pi3), .val (.int pi4), .val (.int pi5), .val (.int pi6), .val (.int (2 : Int32)), .val (.ref b1), .val (.int (2 : Int32)), .val (.ref b6), .unset] [(.int (2 : Int32))] _
    refine XS.iconst X34.here hx rfl (hb hby at_108) ?_
    show Stp p e below T34 m 109 #[.val (.long pl1), .second, .val (.int pi2), .val (.int pi3), .val (.int pi4), .val (.int pi5), .val (.int pi6), .val (.int (2 : Int32)), .val (.ref b1), .val (.int (2 : Int32)), .val (.ref b6), .unset] [(.int (2 : Int32)), (.int (2 : Int32))] _
    refine XS.icmpYes X34.here hx rfl (pc0 := 109) (pc' := 128) rfl (hb hby at_109) rfl (flt (by simp : ¬ ((2 : Int32) < (2 : Int32)))).2.2.2 (by decide) (by decide) ?_
    show Stp p e below T34 m 128 #[.val (.long pl1), .second, .val (.int pi2), .val (.int pi3), .val (.int pi4), .val (.int pi5), .val (.int pi6), .val (.int (2 : Int32)), .val (.ref b1), .val (.int (2 : Int32)), .val (.ref b6), .unset] [] _
    refine st37 _ ?_
    show Stp p e below T37 m 131 #[.val (.long pl1), .second, .val (.int pi2), .val (.int pi3), .val (.int pi4), .val (.int pi5), .val (.int pi6), .val (.int (2 : Int32)), .val (.ref b1), .val (.int (2 : Int32)), .val (.ref b6), .unset] [(.ref b37)] _
    refine XS.dup X37.here hx rfl (hb hby at_131) rfl rfl ?_
    show Stp p e below T37 m 132 #[.val (.long pl1), .second, .val (.int pi2), .val (.int pi3), .val (.int pi4), .val (.int pi5), .val (.int pi6), .val (.int (2 : Int32)), .val (.ref b1), .val (.int (2 : Int32)), .val (.ref b6), .unset] [(.ref b37), (.ref b37)] _
    refine XS.lloadN X37.here hx rfl (hb hby at_132) rfl ?_
    show Stp p e below T37 m 133 #[.val (.long pl1), .second, .val (.int pi2), .val (.int pi3), .val (.int pi4), .val (.int pi5), .val (.int pi6), .val (.int (2 : Int32)), .val (.ref b1), .val (.int (2 : Int32)), .val (.ref b6), .unset] [(.long pl1), (.ref b37), (.ref b37)] _
    refine XS.aload X37.here hx rfl (hb hby at_133) rfl rfl ?_
    show Stp p e below T37 m 135 #[.val (.long pl1), .second, .val (.int pi2), .val (.int pi3), .val (.int pi4), .val (.int pi5), .val (.int pi6), .val (.int (2 : Int32)), .val (.ref b1), .val (.int (2 : Int32)), .val (.ref b6), .unset] [(.ref b1), (.long pl1), (.ref b37), (.ref b37)] _
    refine XS.aload X37.here hx rfl (hb hby at_135) rfl rfl ?_
    show Stp p e below T37 m 137 #[.val (.long pl1), .second, .val (.int pi2), .val (.int pi3), .val (.int pi4), .val (.int pi5), .val (.int pi6), .val (.int (2 : Int32)), .val (.ref b1), .val (.int (2 : Int32)), .val (.ref b6), .unset] [(.ref b6), (.ref b1), (.long pl1), (.ref b37), (.ref b37)] _
    refine st39.trans ?_
    show Stp p e below T39 m 140 #[.val (.long pl1), .second, .val (.int pi2), .val (.int pi3), .val (.int pi4), .val (.int pi5), .val (.int pi6), .val (.int (2 : Int32)), .val (.ref b1), .val (.int (2 : Int32)), .val (.ref b6), .unset] [(.ref b37)] _
    refine XS.astore X39.here hx rfl (hb hby at_140) rfl rfl (l' := #[.val (.long pl1), .second, .val (.int pi2), .val (.int pi3), .val (.int pi4), .val (.int pi5), .val (.int pi6), .val (.int (2 : Int32)), .val (.ref b1), .val (.int (2 : Int32)), .val (.ref b6), .val (.ref b37)]) rfl ?_
    show Stp p e below T39 m 142 #[.val (.long pl1), .second, .val (.int pi2), .val (.int pi3), .val (.int pi4), .val (.int pi5), .val (.int pi6), .val (.int (2 : Int32)), .val (.ref b1), .val (.int (2 : Int32)), .val (.ref b6), .val (.ref b37)] [] _
    refine XS.aload X39.here hx rfl (hb hby at_142) rfl rfl ?_
    show Stp p e below T39 m 144 #[.val (.long pl1), .second, .val (.int pi2), .val (.int pi3), .val (.int pi4), .val (.int pi5), .val (.int pi6), .val (.int (2 : Int32)), .val (.ref b1), .val (.int (2 : Int32)), .val (.ref b6), .val (.ref b37)] [(.ref b37)] _
    refine st51.trans ?_
    show Stp p e below T51 m 147 #[.val (.long pl1), .second, .val (.int pi2), .val (.int pi3), .val (.int pi4), .val (.int pi5), .val (.int pi6), .val (.int (2 : Int32)), .val (.ref b1), .val (.int (2 : Int32)), .val (.ref b6), .val (.ref b37)] [(.int (0 : Int32))] _
    refine XS.iload X51.here hx rfl (hb hby at_147) rfl ?_
    show Stp p e below T51 m 149 #[.val (.long pl1), .second, .val (.int pi2), .val (.int pi3), .val (.int pi4), .val (.int pi5), .val (.int pi6), .val (.int (2 : Int32)), .val (.ref b1), .val (.int (2 : Int32)), .val (.ref b6), .val (.ref b37)] [(.int (2 : Int32)), (.int (0 : Int32))] _
    refine XS.ifYes X51.here hx rfl (pc0 := 149) (pc' := 156) rfl (hb hby at_149) rfl ((if0 _ _).trans (feq (by decide : ¬ ((2 : Int32) = (0 : Int32)))).2) (by decide) (by decide) ?_
    show Stp p e below T51 m 156 #[.val (.long pl1), .second, .val (.int pi2), .val (.int pi3), .val (.int pi4), .val (.int pi5), .val (.int pi6), .val (.int (2 : Int32)), .val (.ref b1), .val (.int (2 : Int32)), .val (.ref b6), .val (.ref b37)] [(.int (0 : Int32))] _
    refine XS.iconst X51.here hx rfl (hb hby at_156) ?_
    show Stp p e below T51 m 157 #[.val (.long pl1), .second, .val (.int pi2), .val (.int pi3), .val (.int pi4), .val (.int pi5), .val (.int pi6), .val (.int (2 : Int32)), .val (.ref b1), .val (.int (2 : Int32)), .val (.ref b6), .val (.ref b37)] [(.int (0 : Int32)), (.int (0 : Int32))] _
    refine XS.icmpNo X51.here hx rfl (hb hby at_157) rfl (teq (rfl : (0 : Int32) = (0 : Int32))).2 ?_
    show Stp p e below T51 m 160 #[.val (.long pl1), .second, .val (.int pi2), .val (.int pi3), .val (.int pi4), .val (.int pi5), .val (.int pi6), .val (.int (2 : Int32)), .val (.ref b1), .val (.int (2 : Int32)), .val (.ref b6), .val (.ref b37)] [] _
    refine XS.iconst X51.here hx rfl (hb hby at_160) ?_
    show Stp p e below T51 m 161 #[.val (.long pl1), .second, .val (.int pi2), .val (.int pi3), .val (.int pi4), .val (.int pi5), .val (.int pi6), .val (.int (2 : Int32)), .val (.ref b1), .val (.int (2 : Int32)), .val (.ref b6), .val (.ref b37)] [(.int (1 : Int32))] _
    refine XS.goto X51.here hx rfl (pc0 := 161) (pc' := 165) rfl (hb hby at_161) (by decide) (by decide) ?_
    show Stp p e below T51 m 165 #[.val (.long pl1), .second, .val (.int pi2), .val (.int pi3), .val (.int pi4), .val (.int pi5), .val (.int pi6), .val (.int (2 : Int32)), .val (.ref b1), .val (.int (2 : Int32)), .val (.ref b6), .val (.ref b37)] [(.int (1 : Int32))] _
    exact retN X51 hx (t := .boolean) Bd.returns (by simp) (hb hby at_165) hr
  · exact ⟨rfl, N51⟩
set_option maxRecDepth 65536 in
set_option maxHeartbeats 40000000 in
theorem rm0_fftfff (l : Launch) (Z : State) (a0 : Array Value) (hw : ∀ d ∈ tables_1, d.before a0 Z = true) (ws : List Jvm.Cond) (pl1 : Int64) (pi2 : Int32) (pi3 : Int32) (pi4 : Int32) (pi5 : Int32) (pi6 : Int32) (w_DEF : Addr) (kk_w_DEF : ClassId) (h0 : Heap) (n0 : Nat) (Z0 : n0 ≤ h0.size) (O0 : Old Z n0 h0) (S_DEFAULTCAPACITY_EMPTY_ELEMENTDATA : Sta Z Z.heap "java/util/ArrayList" "DEFAULTCAPACITY_EMPTY_ELEMENTDATA" "[Ljava/lang/Object;" (.ref w_DEF)) (V_w_DEF : Arv Z Z.heap w_DEF kk_w_DEF (.object "java/lang/Object") (0 : Int32) [] .null) (hc3_0 : ¬ ((pi2 &&& (3 : Int32)) = (0 : Int32))) (hc3_1 : ¬ ((pi2 &&& (3 : Int32)) = (1 : Int32))) (hc3_2 : (pi2 &&& (3 : Int32)) = (2 : Int32)) (hc52_3 : ¬ ((pi3 &&& (3 : Int32)) = (0 : Int32))) (hc52_4 : ¬ ((pi3 &&& (3 : Int32)) = (1 : Int32))) (hc52_5 : ¬ ((pi3 &&& (3 : Int32)) = (2 : Int32))) :
    MetFree l x (head1 (Jvm.Cond.code x code maxLocals ret :: ws) room_1) (fun a U => a = #[(.long pl1), (.int pi2), (.int pi3), (.int pi4), (.int pi5), (.int pi6)] ∧ Z.Warmed39 U.vm ∧ U.heap = h0) (fun _ _ _ _ _ => True) (fun _ U o U' => ∃ v L, o = .returned v ∧ Q0 v L n0 ∧ FrameEnd U o U' L room_1.cells room_1.slots) := by
  refine MetFree.of_bodySF (plainFor_of_name pn_0) hisR ?_
  intro p e s m args below meth c s₁ Bd hml0 hP hK
  obtain ⟨rfl, hZ, hh⟩ := hP
  have hx := Bd.exec
  have hby := Bd.bytes
  have hml : c.maxLocals = 12 := hml0
  have hown : s.vm.findClass "com/example/shardwright/shardwright/cli/RowIsBlankPinLaw" = some m.cls := findClass_of_methodNamed Bd.named
  have hnm := (name_of_methodNamed Bd.named Bd.method).1
  have X0 : Stand p l e room_1 s m #[(.long pl1), (.int pi2), (.int pi3), (.int pi4), (.int pi5), (.int pi6)] below meth c s₁ [] 0 0 := Stand.of_body Bd
  have e0 : s₁.heap = h0 := by rw [← hh, Bd.state]; rfl
  have N0 := Fr.nil n0
  have pre0 : ∀ t, Steps p.tables e below (s₁.setTop (mkF m 0 #[.val (.long pl1), .second, .val (.int pi2), .val (.int pi3), .val (.int pi4), .val (.int pi5), .val (.int pi6), .unset, .unset, .unset, .unset, .unset] [])) t → Steps p.tables e below (s₁.setTop (entryFrame m #[(.long pl1), (.int pi2), (.int pi3), (.int pi4), (.int pi5), (.int pi6)] maxLocals)) t := fun t k => castTop (ef_0 m pl1 pi2 pi3 pi4 pi5 pi6) k
  obtain ⟨T1, h1, k1, X1, e1, E1, A1, st1⟩ := newP X0 hx hZ (own_W hw 0 rfl) e0 (g := (mkF m 7 #[.val (.long pl1), .second, .val (.int pi2), .val (.int pi3), .val (.int pi4), .val (.int pi5), .val (.int pi6), .val (.int (2 : Int32)), .unset, .unset, .unset, .unset] [(.int (2 : Int32))])) rfl (hb hby at_7) rfl (by decide) (cap := 2) (by decide) (by decide) (by decide) (by decide)
  obtain ⟨b1, g1⟩ : ∃ z, z = h0.size := ⟨_, rfl⟩
  rw [← g1] at A1 st1
  have V1 : Arv Z h1 b1 k1 .byte (2 : Int32) [(.int (0 : Int32)), (.int (0 : Int32))] (.int (0 : Int32)) := (Arv.new A1 (by decide)).pad (pad_rep [] (.int (0 : Int32)) 2)
  have g_b1 : n0 ≤ b1 := Nat.le_trans Z0 (Nat.le_of_eq g1.symm)
  have V_c2 := V1
  obtain ⟨c2, Arc2, qc2, Sc2, Nc2, Hc2, Gc2⟩ := V_c2
  have hin3 : ¬ ((0 : Int32) < 0 ∨ c2.slots.size ≤ ((0 : Int32)).toNatClampNeg) := inb_of Sc2 ⟨by decide, by decide⟩
  obtain ⟨T3, h3, X3, e3, W3, st3⟩ := stB X1 hx hZ e1 Arc2 (j := (0 : Int32)) hin3 (g := (mkF m 22 #[.val (.long pl1), .second, .val (.int pi2), .val (.int pi3), .val (.int pi4), .val (.int pi5), .val (.int pi6), .val (.int (2 : Int32)), .val (.ref b1), .unset, .unset, .unset] [(.int (pi4.toInt8.toInt32)), (.int (0 : Int32)), (.ref b1)])) rfl rfl (hb hby at_22)
  have V3 : Arv Z h3 b1 k1 .byte (2 : Int32) [(.int (nar .byte (pi4.toInt8.toInt32))), (.int (0 : Int32))] (.int (0 : Int32)) := Arv.set Arc2 qc2 Sc2 Nc2 Hc2 Gc2 (fits_nar_byte _) W3 0 rfl (Nat.le_of_ble_eq_true rfl)
  have N3 := Fr.snoc X3 N0 g_b1
  have V_c4 := V3
  obtain ⟨c4, Arc4, qc4, Sc4, Nc4, Hc4, Gc4⟩ := V_c4
  have hin5 : ¬ ((1 : Int32) < 0 ∨ c4.slots.size ≤ ((1 : Int32)).toNatClampNeg) := inb_of Sc4 ⟨by decide, by decide⟩
  obtain ⟨T5, h5, X5, e5, W5, st5⟩ := stB X3 hx hZ e3 Arc4 (j := (1 : Int32)) hin5 (g := (mkF m 35 #[.val (.long pl1), .second, .val (.int pi2), .val (.int pi3), .val (.int pi4), .val (.int pi5), .val (.int pi6), .val (.int (2 : Int32)), .val (.ref b1), .unset, .unset, .unset] [(.int (pi5.toInt8.toInt32)), (.int (1 : Int32)), (.ref b1)])) rfl rfl (hb hby at_35)
  have V5 : Arv Z h5 b1 k1 .byte (2 : Int32) [(.int (nar .byte (pi4.toInt8.toInt32))), (.int (nar .byte (pi5.toInt8.toInt32)))] (.int (0 : Int32)) := Arv.set Arc4 qc4 Sc4 Nc4 Hc4 Gc4 (fits_nar_byte _) W5 1 rfl (Nat.le_of_ble_eq_true rfl)
  have N5 := Fr.snoc X5 N3 g_b1
  obtain ⟨T6, h6, X6, e6, E6, A6, D6, -, st6⟩ := newO X5 hx hZ hown (own_W hw 1 rfl) (own_W hw 2 rfl) (own_W hw 3 rfl) e5 (g := (mkF m 54 #[.val (.long pl1), .second, .val (.int pi2), .val (.int pi3), .val (.int pi4), .val (.int pi5), .val (.int pi6), .val (.int (2 : Int32)), .val (.ref b1), .val (.int (3 : Int32)), .unset, .unset] [])) rfl (hb hby at_54) (by decide) (by decide)
  obtain ⟨b6, g6⟩ : ∃ z, z = h5.size := ⟨_, rfl⟩
  rw [← g6] at A6 D6 st6
  have F_modCount_b6 : Fld Z h6 b6 "java/util/AbstractList" "modCount" "I" (.int (0 : Int32)) := D6 (Or.inl (own_W hw 23 rfl)) (ty := .int) (by decide)
  have F_elementData_b6 : Fld Z h6 b6 "java/util/ArrayList" "elementData" "[Ljava/lang/Object;" .null := D6 (Or.inl (own_W hw 26 rfl)) (ty := (.array (.object "java/lang/Object"))) (by decide)
  have F_size_b6 : Fld Z h6 b6 "java/util/ArrayList" "size" "I" (.int (0 : Int32)) := D6 (Or.inl (own_W hw 43 rfl)) (ty := .int) (by decide)
  have z7 := Nat.le_trans Z0 E1.1
  have z8 := Nat.le_trans z7 (Keep.of_wr W3).1
  have z9 := Nat.le_trans z8 (Keep.of_wr W5).1
  have g_b6 : n0 ≤ b6 := Nat.le_trans z9 (Nat.le_of_eq g6.symm)
  have z11 := Nat.le_trans z9 E6.1
  have o12 := O0.ext E1
  have o13 := o12.wr W3 g_b1
  have o14 := o13.wr W5 g_b1
  have o15 := o14.ext E6
  obtain ⟨_, _, ⟨T10, L10, k10, n10⟩, -, X10, ⟨Lc10, hQ10, l10, y10, z10⟩, st10⟩ := X6.specialBack hx (y := (⟨"java/util/ArrayList", "<init>", "()V"⟩ : MethodName)) rfl hown (mvT hZ (own_W hw 4 rfl)) (mvT hZ (own_W hw 5 rfl)) (mvT hZ (own_W hw 6 rfl)) (by decide) (backOf (W := 1) (rm1 l Z a0 hw [] b6 w_DEF (.int (0 : Int32)) .null (.int (0 : Int32)) h6 n0 z11 o15 A6 S_DEFAULTCAPACITY_EMPTY_ELEMENTDATA F_modCount_b6 F_elementData_b6 F_size_b6 g_b6) hZ (own_W hw 6 rfl) (own_W hw 3 rfl) (by decide) (by decide)) (g := (mkF m 58 #[.val (.long pl1), .second, .val (.int pi2), .val (.int pi3), .val (.int pi4), .val (.int pi5), .val (.int pi6), .val (.int (2 : Int32)), .val (.ref b1), .val (.int (3 : Int32)), .unset, .unset] [(.ref b6), (.ref b6)])) rfl (by rw [hml]; rfl) (Steps.refl _) (a := b6) (argsL := []) (rest := [(.ref b6)]) (lenOf pd_0 rfl) rfl (by show 2 * 0 + _ ≤ _; exact Nat.le_of_eq rfl) (hb hby at_58) (fun _ _ => ⟨rfl, e6, (by decide : 2 + 0 ≤ _), (by decide : 5 + 0 ≤ _)⟩)
  dsimp only [Pt.U, Pt.locs, Pt.cells, Pt.slots] at X10 l10 y10 z10 st10 hQ10
  subst l10 y10 z10
  obtain ⟨rfl, N10q, K10, qf10_0, qf10_1, qf10_2, qf10_3⟩ := hQ10
  have N10 := Fr.app N5 N10q
  have z17 := Nat.le_trans z11 K10.1
  have o18 := o15.keep K10 (allS g_b6 all0)
  obtain ⟨_, _, ⟨T16, L16, k16, n16⟩, -, X16, ⟨Lc16, hQ16, l16, y16, z16⟩, st16⟩ := Jvm.LawKit.callS X10 hx (y := (⟨"com/example/shardwright/shardwright/cli/RowIsBlankPinLaw", "field", "(II)[B"⟩ : MethodName)) hown (mvT hZ (own_W hw 27 rfl)) (mvT hZ (own_W hw 28 rfl)) (mvT hZ (own_W hw 29 rfl)) (mvT hZ (own_W hw 30 rfl)) (by decide) (backOf (W := 1) (rm5 l Z a0 hw [] ((pi3.toUInt32 >>> ((2 : Int32) &&& 31).toUInt32).toInt32) pi4 T10.heap n0 z17 o18 ) hZ (own_W hw 30 rfl) (own_W hw 29 rfl) (by decide) (by decide)) (g := (mkF m 75 #[.val (.long pl1), .second, .val (.int pi2), .val (.int pi3), .val (.int pi4), .val (.int pi5), .val (.int pi6), .val (.int (2 : Int32)), .val (.ref b1), .val (.int (3 : Int32)), .val (.ref b6), .unset] [(.int pi4), (.int ((pi3.toUInt32 >>> ((2 : Int32) &&& 31).toUInt32).toInt32)), (.ref b6)])) rfl (by rw [hml]; rfl) (argsL := [(.int ((pi3.toUInt32 >>> ((2 : Int32) &&& 31).toUInt32).toInt32)), (.int pi4)]) (rest := [(.ref b6)]) (lenOf pd_1 rfl) rfl (by show 2 * 0 + _ ≤ _; exact Nat.le_of_eq rfl) (hb hby at_75) (fun _ _ => ⟨rfl, rfl, (by decide : 2 + 1 ≤ _), (by decide : 5 + 1 ≤ _)⟩)
  dsimp only [Pt.U, Pt.locs, Pt.cells, Pt.slots] at X16 l16 y16 z16 st16 hQ16
  subst l16 y16 z16
  obtain ⟨b16, rfl, N16q, K16, qf16_0, qf16_1⟩ := hQ16
  have N16 := Fr.app N10 N16q
  have f19 := qf10_0.keep K16
  have f20 := qf10_1.keep K16 nin0
  have f21 := qf10_2.keep K16 nin0
  have f22 := qf10_3.keep K16 nin0
  have z24 := Nat.le_trans z17 K16.1
  have o25 := o18.keep K16 all0
  obtain ⟨cq23, kq23, q23a, q23b, q23c⟩ := isOf hZ rfl f19
  obtain ⟨_, _, ⟨T23, L23, k23, n23⟩, -, X23, ⟨Lc23, hQ23, l23, y23, z23⟩, st23⟩ := X16.interfaceBack hx (xi := (⟨"java/util/List", "add", "(Ljava/lang/Object;)Z"⟩ : MethodName)) (y := (⟨"java/util/ArrayList", "add", "(Ljava/lang/Object;)Z"⟩ : MethodName)) hown (mvT hZ (own_W hw 31 rfl)) (mvT hZ (own_W hw 32 rfl)) (mvT hZ (own_W hw 33 rfl)) (mvT hZ (own_W hw 34 rfl)) (mvT hZ (own_W hw 35 rfl)) (mvT hZ (own_W hw 36 rfl)) (mvT hZ (own_W hw 37 rfl)) (mvT hZ (own_W hw 38 rfl)) (by decide) (backOf (W := 0) (rm6_0 l Z a0 hw [] b6 b16 w_DEF kk_w_DEF (0 : Int32) T16.heap n0 z24 o25 f19 qf16_1 S_DEFAULTCAPACITY_EMPTY_ELEMENTDATA V_w_DEF f20 f21 f22 g_b6) hZ (own_W hw 39 rfl) (own_W hw 3 rfl) (by decide) (by decide)) q23a q23b q23c (g := (mkF m 78 #[.val (.long pl1), .second, .val (.int pi2), .val (.int pi3), .val (.int pi4), .val (.int pi5), .val (.int pi6), .val (.int (2 : Int32)), .val (.ref b1), .val (.int (3 : Int32)), .val (.ref b6), .unset] [(.ref b16), (.ref b6)])) rfl (by rw [hml]; rfl) (Steps.refl _) (argsL := [(.ref b16)]) (rest := []) (lenOf pd_2 rfl) rfl (by show 2 * 0 + _ ≤ _; exact Nat.le_of_eq rfl) (hb hby at_78) (fun _ _ => ⟨rfl, rfl, (by decide : 3 + 1 ≤ _), (by decide : 6 + 10 ≤ _)⟩)
  dsimp only [Pt.U, Pt.locs, Pt.cells, Pt.slots] at X23 l23 y23 z23 st23 hQ23
  subst l23 y23 z23
  obtain ⟨b23, b23_1, rfl, N23q, K23, qf23_0, qf23_1, qf23_2, qf23_3, qf23_4, qf23_5, qf23_6⟩ := hQ23
  have N23 := Fr.app N16 N23q
  have z27 := Nat.le_trans z24 K23.1
  have o28 := o25.keep K23 (allS g_b6 all0)
  obtain ⟨_, _, ⟨T26, L26, k26, n26⟩, -, X26, ⟨Lc26, hQ26, l26, y26, z26⟩, st26⟩ := Jvm.LawKit.callS X23 hx (y := (⟨"com/example/shardwright/shardwright/cli/RowIsBlankPinLaw", "field", "(II)[B"⟩ : MethodName)) hown (mvT hZ (own_W hw 27 rfl)) (mvT hZ (own_W hw 28 rfl)) (mvT hZ (own_W hw 29 rfl)) (mvT hZ (own_W hw 30 rfl)) (by decide) (backOf (W := 1) (rm5 l Z a0 hw [] ((pi3.toUInt32 >>> ((3 : Int32) &&& 31).toUInt32).toInt32) pi5 T23.heap n0 z27 o28 ) hZ (own_W hw 30 rfl) (own_W hw 29 rfl) (by decide) (by decide)) (g := (mkF m 97 #[.val (.long pl1), .second, .val (.int pi2), .val (.int pi3), .val (.int pi4), .val (.int pi5), .val (.int pi6), .val (.int (2 : Int32)), .val (.ref b1), .val (.int (3 : Int32)), .val (.ref b6), .unset] [(.int pi5), (.int ((pi3.toUInt32 >>> ((3 : Int32) &&& 31).toUInt32).toInt32)), (.ref b6)])) rfl (by rw [hml]; rfl) (argsL := [(.int ((pi3.toUInt32 >>> ((3 : Int32) &&& 31).toUInt32).toInt32)), (.int pi5)]) (rest := [(.ref b6)]) (lenOf pd_1 rfl) rfl (by show 2 * 0 + _ ≤ _; exact Nat.le_of_eq rfl) (hb hby at_97) (fun _ _ => ⟨rfl, rfl, (by decide : 4 + 1 ≤ _), (by decide : 16 + 1 ≤ _)⟩)
  dsimp only [Pt.U, Pt.locs, Pt.cells, Pt.slots] at X26 l26 y26 z26 st26 hQ26
  subst l26 y26 z26
  obtain ⟨b26, rfl, N26q, K26, qf26_0, qf26_1⟩ := hQ26
  have N26 := Fr.app N23 N26q
  have f29 := qf23_0.keep K26
  have f30 := qf23_1.keep K26 nin0
  have f31 := qf23_2.keep K26 nin0
  have f32 := qf23_5.keep K26 nin0
  have f33 := qf23_3.keep K26 nin0
  have g_b23 : n0 ≤ b23 := Nat.le_trans z24 qf23_4
  have z35 := Nat.le_trans z27 K26.1
  have o36 := o28.keep K26 all0
  obtain ⟨cq34, kq34, q34a, q34b, q34c⟩ := isOf hZ rfl f29
  obtain ⟨_, _, ⟨T34, L34, k34, n34⟩, -, X34, ⟨Lc34, hQ34, l34, y34, z34⟩, st34⟩ := X26.interfaceBack hx (xi := (⟨"java/util/List", "add", "(Ljava/lang/Object;)Z"⟩ : MethodName)) (y := (⟨"java/util/ArrayList", "add", "(Ljava/lang/Object;)Z"⟩ : MethodName)) hown (mvT hZ (own_W hw 31 rfl)) (mvT hZ (own_W hw 32 rfl)) (mvT hZ (own_W hw 33 rfl)) (mvT hZ (own_W hw 34 rfl)) (mvT hZ (own_W hw 35 rfl)) (mvT hZ (own_W hw 36 rfl)) (mvT hZ (own_W hw 37 rfl)) (mvT hZ (own_W hw 38 rfl)) (by decide) (backOf (W := 0) (rm6_1 l Z a0 hw [] b6 b26 ((0 : Int32) + (1 : Int32)) b23 b23_1 (.ref b16) .null .null .null .null .null .null .null .null .null T26.heap n0 z35 o36 f29 qf26_1 f30 f31 f32 qf23_6 f33 g_b6 (Ne.symm (Nat.ne_of_lt (Nat.lt_of_lt_of_le f19.lt qf23_4))) g_b23) hZ (own_W hw 39 rfl) (own_W hw 3 rfl) (by decide) (by decide)) q34a q34b q34c (g := (mkF m 100 #[.val (.long pl1), .second, .val (.int pi2), .val (.int pi3), .val (.int pi4), .val (.int pi5), .val (.int pi6), .val (.int (2 : Int32)), .val (.ref b1), .val (.int (3 : Int32)), .val (.ref b6), .unset] [(.ref b26), (.ref b6)])) rfl (by rw [hml]; rfl) (Steps.refl _) (argsL := [(.ref b26)]) (rest := []) (lenOf pd_2 rfl) rfl (by show 2 * 0 + _ ≤ _; exact Nat.le_of_eq rfl) (hb hby at_100) (fun _ _ => ⟨rfl, rfl, (by decide : 5 + 0 ≤ _), (by decide : 17 + 0 ≤ _)⟩)
  dsimp only [Pt.U, Pt.locs, Pt.cells, Pt.slots] at X34 l34 y34 z34 st34 hQ34
  subst l34 y34 z34
  obtain ⟨rfl, N34q, K34, qf34_0, qf34_1, qf34_2, qf34_3, qf34_4, qf34_5⟩ := hQ34
  have N34 := Fr.app N26 N34q
  have z38 := Nat.le_trans z35 K34.1
  have o39 := o36.keep K34 (allS g_b6 (allS g_b23 all0))
  obtain ⟨_, _, ⟨T37, L37, k37, n37⟩, -, X37, ⟨Lc37, hQ37, l37, y37, z37⟩, st37⟩ := Jvm.LawKit.callS X34 hx (y := (⟨"com/example/shardwright/shardwright/cli/RowIsBlankPinLaw", "field", "(II)[B"⟩ : MethodName)) hown (mvT hZ (own_W hw 27 rfl)) (mvT hZ (own_W hw 28 rfl)) (mvT hZ (own_W hw 29 rfl)) (mvT hZ (own_W hw 30 rfl)) (by decide) (backOf (W := 1) (rm5 l Z a0 hw [] ((pi3.toUInt32 >>> ((4 : Int32) &&& 31).toUInt32).toInt32) pi6 T34.heap n0 z38 o39 ) hZ (own_W hw 30 rfl) (own_W hw 29 rfl) (by decide) (by decide)) (g := (mkF m 119 #[.val (.long pl1), .second, .val (.int pi2), .val (.int pi3), .val (.int pi4), .val (.int pi5), .val (.int pi6), .val (.int (2 : Int32)), .val (.ref b1), .val (.int (3 : Int32)), .val (.ref b6), .unset] [(.int pi6), (.int ((pi3.toUInt32 >>> ((4 : Int32) &&& 31).toUInt32).toInt32)), (.ref b6)])) rfl (by rw [hml]; rfl) (argsL := [(.int ((pi3.toUInt32 >>> ((4 : Int32) &&& 31).toUInt32).toInt32)), (.int pi6)]) (rest := [(.ref b6)]) (lenOf pd_1 rfl) rfl (by show 2 * 0 + _ ≤ _; exact Nat.le_of_eq rfl) (hb hby at_119) (fun _ _ => ⟨rfl, rfl, (by decide : 5 + 1 ≤ _), (by decide : 17 + 1 ≤ _)⟩)
  dsimp only [Pt.U, Pt.locs, Pt.cells, Pt.slots] at X37 l37 y37 z37 st37 hQ37
  subst l37 y37 z37
  obtain ⟨b37, rfl, N37q, K37, qf37_0, qf37_1⟩ := hQ37
  have N37 := Fr.app N34 N37q
  have f40 := qf34_0.keep K37
  have f41 := qf34_1.keep K37 nin0
  have f42 := qf34_2.keep K37 nin0
  have f43 := qf34_4.keep K37 nin0
  have f44 := qf34_3.keep K37 nin0
  have z46 := Nat.le_trans z38 K37.1
  have o47 := o39.keep K37 all0
  obtain ⟨cq45, kq45, q45a, q45b, q45c⟩ := isOf hZ rfl f40
  obtain ⟨_, _, ⟨T45, L45, k45, n45⟩, -, X45, ⟨Lc45, hQ45, l45, y45, z45⟩, st45⟩ := X37.interfaceBack hx (xi := (⟨"java/util/List", "add", "(Ljava/lang/Object;)Z"⟩ : MethodName)) (y := (⟨"java/util/ArrayList", "add", "(Ljava/lang/Object;)Z"⟩ : MethodName)) hown (mvT hZ (own_W hw 31 rfl)) (mvT hZ (own_W hw 32 rfl)) (mvT hZ (own_W hw 33 rfl)) (mvT hZ (own_W hw 34 rfl)) (mvT hZ (own_W hw 35 rfl)) (mvT hZ (own_W hw 36 rfl)) (mvT hZ (own_W hw 37 rfl)) (mvT hZ (own_W hw 38 rfl)) (by decide) (backOf (W := 0) (rm6_2 l Z a0 hw [] b6 b37 (((0 : Int32) + (1 : Int32)) + (1 : Int32)) b23 b23_1 (.ref b16) (.ref b26) .null .null .null .null .null .null .null .null T37.heap n0 z46 o47 f40 qf37_1 f41 f42 f43 qf34_5 f44 g_b6 (Ne.symm (Nat.ne_of_lt (Nat.lt_of_lt_of_le f19.lt qf23_4))) g_b23) hZ (own_W hw 39 rfl) (own_W hw 3 rfl) (by decide) (by decide)) q45a q45b q45c (g := (mkF m 122 #[.val (.long pl1), .second, .val (.int pi2), .val (.int pi3), .val (.int pi4), .val (.int pi5), .val (.int pi6), .val (.int (2 : Int32)), .val (.ref b1), .val (.int (3 : Int32)), .val (.ref b6), .unset] [(.ref b37), (.ref b6)])) rfl (by rw [hml]; rfl) (Steps.refl _) (argsL := [(.ref b37)]) (rest := []) (lenOf pd_2 rfl) rfl (by show 2 * 0 + _ ≤ _; exact Nat.le_of_eq rfl) (hb hby at_122) (fun _ _ => ⟨rfl, rfl, (by decide : 6 + 0 ≤ _), (by decide : 18 + 0 ≤ _)⟩)
  dsimp only [Pt.U, Pt.locs, Pt.cells, Pt.slots] at X45 l45 y45 z45 st45 hQ45
  subst l45 y45 z45
  obtain ⟨rfl, N45q, K45, qf45_0, qf45_1, qf45_2, qf45_3, qf45_4, qf45_5⟩ := hQ45
  have N45 := Fr.app N37 N45q
  obtain ⟨T48, h48, X48, e48, E48, A48, D48, -, st48⟩ := newO X45 hx hZ hown (own_W hw 66 rfl) (own_W hw 67 rfl) (own_W hw 68 rfl) rfl (g := (mkF m 128 #[.val (.long pl1), .second, .val (.int pi2), .val (.int pi3), .val (.int pi4), .val (.int pi5), .val (.int pi6), .val (.int (2 : Int32)), .val (.ref b1), .val (.int (3 : Int32)), .val (.ref b6), .unset] [])) rfl (hb hby at_128) (by decide) (by decide)
  obtain ⟨b48, g48⟩ : ∃ z, z = T45.heap.size := ⟨_, rfl⟩
  rw [← g48] at A48 D48 st48
  have F_line_b48 : Fld Z h48 b48 "com/example/shardwright/shardwright/cli/CsvReader$Row" "line" "J" (.long (0 : Int64)) := D48 (Or.inr (own_W hw 79 rfl)) (ty := .long) (by decide)
  have F_text_b48 : Fld Z h48 b48 "com/example/shardwright/shardwright/cli/CsvReader$Row" "text" "[B" .null := D48 (Or.inr (own_W hw 81 rfl)) (ty := (.array .byte)) (by decide)
  have F_fields_b48 : Fld Z h48 b48 "com/example/shardwright/shardwright/cli/CsvReader$Row" "fields" "Ljava/util/List;" .null := D48 (Or.inr (own_W hw 83 rfl)) (ty := (.object "java/util/List")) (by decide)
  have z49 := Nat.le_trans z46 K45.1
  have g_b48 : n0 ≤ b48 := Nat.le_trans z49 (Nat.le_of_eq g48.symm)
  have z51 := Nat.le_trans z49 E48.1
  have o52 := o47.keep K45 (allS g_b6 (allS g_b23 all0))
  have o53 := o52.ext E48
  obtain ⟨_, _, ⟨T50, L50, k50, n50⟩, -, X50, ⟨Lc50, hQ50, l50, y50, z50⟩, st50⟩ := X48.specialBack hx (y := (⟨"com/example/shardwright/shardwright/cli/CsvReader$Row", "<init>", "(J[BLjava/util/List;)V"⟩ : MethodName)) rfl hown (mvT hZ (own_W hw 69 rfl)) (mvT hZ (own_W hw 70 rfl)) (mvT hZ (own_W hw 71 rfl)) (by decide) (backOf (W := 1) (rm11 l Z a0 hw [] b48 pl1 b1 b6 (.long (0 : Int64)) .null .null h48 n0 z51 o53 A48 F_line_b48 g_b48 F_text_b48 F_fields_b48) hZ (own_W hw 71 rfl) (own_W hw 68 rfl) (by decide) (by decide)) (g := (mkF m 137 #[.val (.long pl1), .second, .val (.int pi2), .val (.int pi3), .val (.int pi4), .val (.int pi5), .val (.int pi6), .val (.int (2 : Int32)), .val (.ref b1), .val (.int (3 : Int32)), .val (.ref b6), .unset] [(.ref b6), (.ref b1), (.long pl1), (.ref b48), (.ref b48)])) rfl (by rw [hml]; rfl) (Steps.refl _) (a := b48) (argsL := [(.long pl1), (.ref b1), (.ref b6)]) (rest := [(.ref b48)]) (lenOf pd_7 rfl) rfl (by show 2 * 0 + _ ≤ _; exact Nat.le_of_eq rfl) (hb hby at_137) (fun _ _ => ⟨rfl, e48, (by decide : 7 + 0 ≤ _), (by decide : 21 + 0 ≤ _)⟩)
  dsimp only [Pt.U, Pt.locs, Pt.cells, Pt.slots] at X50 l50 y50 z50 st50 hQ50
  subst l50 y50 z50
  obtain ⟨rfl, N50q, K50, qf50_0, qf50_1, qf50_2, qf50_3⟩ := hQ50
  have N50 := Fr.app N45 N50q
  have f54 := V5.ext E6
  have f55 := f54.keep K10 (ninS (Nat.ne_of_lt (Nat.lt_of_lt_of_le V5.lt (Nat.le_of_eq g6.symm))) nin0)
  have f56 := f55.keep K16 nin0
  have f57 := f56.keep K23 (ninS (Nat.ne_of_lt (Nat.lt_of_lt_of_le V5.lt (Nat.le_of_eq g6.symm))) nin0)
  have f58 := f57.keep K26 nin0
  have f59 := f58.keep K34 (ninS (Nat.ne_of_lt (Nat.lt_of_lt_of_le V5.lt (Nat.le_of_eq g6.symm))) (ninS (Nat.ne_of_lt (Nat.lt_of_lt_of_le f56.lt qf23_4)) nin0))
  have f60 := f59.keep K37 nin0
  have f61 := f60.keep K45 (ninS (Nat.ne_of_lt (Nat.lt_of_lt_of_le V5.lt (Nat.le_of_eq g6.symm))) (ninS (Nat.ne_of_lt (Nat.lt_of_lt_of_le f56.lt qf23_4)) nin0))
  have f62 := f61.ext E48
  have f63 := f62.keep K50 (ninS (Nat.ne_of_lt (Nat.lt_of_lt_of_le f61.lt (Nat.le_of_eq g48.symm))) nin0)
  have z65 := Nat.le_trans z51 K50.1
  have o66 := o53.keep K50 (allS g_b48 all0)
  obtain ⟨cq64, kq64, q64a, q64b, q64c⟩ := isOf hZ rfl qf50_0
  obtain ⟨_, _, ⟨T64, L64, k64, n64⟩, -, X64, ⟨Lc64, hQ64, l64, y64, z64⟩, st64⟩ := X50.virtualBack hx (y := (⟨"com/example/shardwright/shardwright/cli/CsvReader$Row", "isBlank", "()Z"⟩ : MethodName)) (z := (⟨"com/example/shardwright/shardwright/cli/CsvReader$Row", "isBlank", "()Z"⟩ : MethodName)) hown (mvT hZ (own_W hw 84 rfl)) (mvT hZ (own_W hw 85 rfl)) (notFace_of_selects (args := #[]) (mvT hZ (own_W hw 87 rfl))) (mvT hZ (own_W hw 87 rfl)) (mvT hZ (own_W hw 86 rfl)) (by decide) (backOf (W := 0) (rm13_2 l Z a0 hw [] b48 b1 k1 (nar .byte (pi4.toInt8.toInt32)) (nar .byte (pi5.toInt8.toInt32)) T50.heap n0 z65 o66 qf50_2 f63) hZ (own_W hw 88 rfl) (own_W hw 68 rfl) (by decide) (by decide)) q64a q64c (g := (mkF m 144 #[.val (.long pl1), .second, .val (.int pi2), .val (.int pi3), .val (.int pi4), .val (.int pi5), .val (.int pi6), .val (.int (2 : Int32)), .val (.ref b1), .val (.int (3 : Int32)), .val (.ref b6), .val (.ref b48)] [(.ref b48)])) rfl (by rw [hml]; rfl) (Steps.refl _) (argsL := []) (rest := []) (lenOf pd_8 rfl) rfl (by show 2 * 0 + _ ≤ _; exact Nat.le_of_eq rfl) (hb hby at_144) (fun _ _ => ⟨rfl, rfl, (by decide : 7 + 0 ≤ _), (by decide : 21 + 0 ≤ _)⟩)
  dsimp only [Pt.U, Pt.locs, Pt.cells, Pt.slots] at X64 l64 y64 z64 st64 hQ64
  subst l64 y64 z64
  obtain ⟨rfl, N64q, eq64⟩ := hQ64
  have N64 := Fr.app N50 N64q
  obtain ⟨fs, hr, hrun, hended, hW, hsame⟩ := X64.leave (v := some (.int (1 : Int32))) (fun h => by rw [Bd.returns] at h; cases h)
  refine ⟨_, _, pre0 _ ?_, hrun, hended, _, _, rfl, ?_, ⟨_, rfl⟩, hW, hsame.mono (by decide) (by decide)⟩
  · show Stp p e below s₁ m 0 #[.val (.long pl1), .second, .val (.int pi2), .val (.int pi3), .val (.int pi4), .val (.int pi5), .val (.int pi6), .unset, .unset, .unset, .unset, .unset] [] _
    refine XS.iloadN X0.here hx rfl (hb hby at_0) rfl ?_
    show Stp p e below s₁ m 1 #[.val (.long pl1), .second, .val (.int pi2), .val (.int pi3), .val (.int pi4), .val (.int pi5), .val (.int pi6), .unset, .unset, .unset, .unset, .unset] [(.int pi2)] _
    refine XS.iconst X0.here hx rfl (hb hby at_1) ?_
    show Stp p e below s₁ m 2 #[.val (.long pl1), .second, .val (.int pi2), .val (.int pi3), .val (.int pi4), .val (.int pi5), .val (.int pi6), .unset, .unset, .unset, .unset, .unset] [(.int (3 : Int32)), (.int pi2)] _
    refine XS.iand X0.here hx rfl (hb hby at_2) rfl ?_
    show Stp p e below s₁ m 3 #[.val (.long pl1), .second, .val (.int pi2), .val (.int pi3), .val (.int pi4), .val (.int pi5), .val (.int pi6), .unset, .unset, .unset, .unset, .unset] [(.int (pi2 &&& (3 : Int32)))] _
    refine XS.istore X0.here hx rfl (hb hby at_3) rfl (l' := #[.val (.long pl1), .second, .val (.int pi2), .val (.int pi3), .val (.int pi4), .val (.int pi5), .val (.int pi6), .val (.int (pi2 &&& (3 : Int32))), .unset, .unset, .unset, .unset]) rfl ?_
    show Stp p e below s₁ m 5 #[.val (.long pl1), .second, .val (.int pi2), .val (.int pi3), .val (.int pi4), .val (.int pi5), .val (.int pi6), .val (.int (pi2 &&& (3 : Int32))), .unset, .unset, .unset, .unset] [] _
    rw [show (pi2 &&& (3 : Int32)) = (2 : Int32) from hc3_2]
    show Stp p e below s₁ m 5 #[.val (.long pl1), .second, .val (.int pi2), .val (.int pi3), .val (.int pi4), .val (.int pi5), .val (.int pi6), .val (.int (2 : Int32)), .unset, .unset, .unset, .unset] [] _
    refine XS.iload X0.here hx rfl (hb hby at_5) rfl ?_
    show Stp p e below s₁ m 7 #[.val (.long pl1), .second, .val (.int pi2), .val (.int pi3), .val (.int pi4), .val (.int pi5), .val (.int pi6), .val (.int (2 : Int32)), .unset, .unset, .unset, .unset] [(.int (2 : Int32))] _
    refine st1 _ ?_
    show Stp p e below T1 m 9 #[.val (.long pl1), .second, .val (.int pi2), .val (.int pi3), .val (.int pi4), .val (.int pi5), .val (.int pi6), .val (.int (2 : Int32)), .unset, .unset, .unset, .unset] [(.ref b1)] _
    refine XS.astore X1.here hx rfl (hb hby at_9) rfl rfl (l' := #[.val (.long pl1), .second, .val (.int pi2), .val (.int pi3), .val (.int pi4), .val (.int pi5), .val (.int pi6), .val (.int (2 : Int32)), .val (.ref b1), .unset, .unset, .unset]) rfl ?_
    show Stp p e below T1 m 11 #[.val (.long pl1), .second, .val (.int pi2), .val (.int pi3), .val (.int pi4), .val (.int pi5), .val (.int pi6), .val (.int (2 : Int32)), .val (.ref b1), .unset, .unset, .unset] [] _
    refine XS.iload X1.here hx rfl (hb hby at_11) rfl ?_
    show Stp p e below T1 m 13 #[.val (.long pl1), .second, .val (.int pi2), .val (.int pi3), .val (.int pi4), .val (.int pi5), .val (.int pi6), .val (.int (2 : Int32)), .val (.ref b1), .unset, .unset, .unset] [(.int (2 : Int32))] _
    refine XS.ifNo X1.here hx rfl (hb hby at_13) rfl ((if0 _ _).trans (tlt (by decide : (0 : Int32) < (2 : Int32))).2.2.2) ?_
    show Stp p e below T1 m 16 #[.val (.long pl1), .second, .val (.int pi2), .val (.int pi3), .val (.int pi4), .val (.int pi5), .val (.int pi6), .val (.int (2 : Int32)), .val (.ref b1), .unset, .unset, .unset] [] _
    refine XS.aload X1.here hx rfl (hb hby at_16) rfl rfl ?_
    show Stp p e below T1 m 18 #[.val (.long pl1), .second, .val (.int pi2), .val (.int pi3), .val (.int pi4), .val (.int pi5), .val (.int pi6), .val (.int (2 : Int32)), .val (.ref b1), .unset, .unset, .unset] [(.ref b1)] _
    refine XS.iconst X1.here hx rfl (hb hby at_18) ?_
    show Stp p e below T1 m 19 #[.val (.long pl1), .second, .val (.int pi2), .val (.int pi3), .val (.int pi4), .val (.int pi5), .val (.int pi6), .val (.int (2 : Int32)), .val (.ref b1), .unset, .unset, .unset] [(.int (0 : Int32)), (.ref b1)] _
    refine XS.iload X1.here hx rfl (hb hby at_19) rfl ?_
    show Stp p e below T1 m 21 #[.val (.long pl1), .second, .val (.int pi2), .val (.int pi3), .val (.int pi4), .val (.int pi5), .val (.int pi6), .val (.int (2 : Int32)), .val (.ref b1), .unset, .unset, .unset] [(.int pi4), (.int (0 : Int32)), (.ref b1)] _
    refine XS.i2b X1.here hx rfl (hb hby at_21) rfl ?_
    show Stp p e below T1 m 22 #[.val (.long pl1), .second, .val (.int pi2), .val (.int pi3), .val (.int pi4), .val (.int pi5), .val (.int pi6), .val (.int (2 : Int32)), .val (.ref b1), .unset, .unset, .unset] [(.int (pi4.toInt8.toInt32)), (.int (0 : Int32)), (.ref b1)] _
    refine st3 _ ?_
    show Stp p e below T3 m 23 #[.val (.long pl1), .second, .val (.int pi2), .val (.int pi3), .val (.int pi4), .val (.int pi5), .val (.int pi6), .val (.int (2 : Int32)), .val (.ref b1), .unset, .unset, .unset] [] _
    refine XS.iload X3.here hx rfl (hb hby at_23) rfl ?_
    show Stp p e below T3 m 25 #[.val (.long pl1), .second, .val (.int pi2), .val (.int pi3), .val (.int pi4), .val (.int pi5), .val (.int pi6), .val (.int (2 : Int32)), .val (.ref b1), .unset, .unset, .unset] [(.int (2 : Int32))] _
    refine XS.iconst X3.here hx rfl (hb hby at_25) ?_
    show Stp p e below T3 m 26 #[.val (.long pl1), .second, .val (.int pi2), .val (.int pi3), .val (.int pi4), .val (.int pi5), .val (.int pi6), .val (.int (2 : Int32)), .val (.ref b1), .unset, .unset, .unset] [(.int (1 : Int32)), (.int (2 : Int32))] _
    refine XS.icmpNo X3.here hx rfl (hb hby at_26) rfl (tlt (by decide : (1 : Int32) < (2 : Int32))).2.2.2 ?_
    show Stp p e below T3 m 29 #[.val (.long pl1), .second, .val (.int pi2), .val (.int pi3), .val (.int pi4), .val (.int pi5), .val (.int pi6), .val (.int (2 : Int32)), .val (.ref b1), .unset, .unset, .unset] [] _
    refine XS.aload X3.here hx rfl (hb hby at_29) rfl rfl ?_
    show Stp p e below T3 m 31 #[.val (.long pl1), .second, .val (.int pi2), .val (.int pi3), .val (.int pi4), .val (.int pi5), .val (.int pi6), .val (.int (2 : Int32)), .val (.ref b1), .unset, .unset, .unset] [(.ref b1)] _
    refine XS.iconst X3.here hx rfl (hb hby at_31) ?_
    show Stp p e below T3 m 32 #[.val (.long pl1), .second, .val (.int pi2), .val (.int pi3), .val (.int pi4), .val (.int pi5), .val (.int pi6), .val (.int (2 : Int32)), .val (.ref b1), .unset, .unset, .unset] [(.int (1 : Int32)), (.ref b1)] _
    refine XS.iload X3.here hx rfl (hb hby at_32) rfl ?_
    show Stp p e below T3 m 34 #[.val (.long pl1), .second, .val (.int pi2), .val (.int pi3), .val (.int pi4), .val (.int pi5), .val (.int pi6), .val (.int (2 : Int32)), .val (.ref b1), .unset, .unset, .unset] [(.int pi5), (.int (1 : Int32)), (.ref b1)] _
    refine XS.i2b X3.here hx rfl (hb hby at_34) rfl ?_
    show Stp p e below T3 m 35 #[.val (.long pl1), .second, .val (.int pi2), .val (.int pi3), .val (.int pi4), .val (.int pi5), .val (.int pi6), .val (.int (2 : Int32)), .val (.ref b1), .unset, .unset, .unset] [(.int (pi5.toInt8.toInt32)), (.int (1 : Int32)), (.ref b1)] _
    refine st5 _ ?_
    show Stp p e below T5 m 36 #[.val (.long pl1), .second, .val (.int pi2), .val (.int pi3), .val (.int pi4), .val (.int pi5), .val (.int pi6), .val (.int (2 : Int32)), .val (.ref b1), .unset, .unset, .unset] [] _
    refine XS.iload X5.here hx rfl (hb hby at_36) rfl ?_
    show Stp p e below T5 m 38 #[.val (.long pl1), .second, .val (.int pi2), .val (.int pi3), .val (.int pi4), .val (.int pi5), .val (.int pi6), .val (.int (2 : Int32)), .val (.ref b1), .unset, .unset, .unset] [(.int (2 : Int32))] _
    refine XS.iconst X5.here hx rfl (hb hby at_38) ?_
    show Stp p e below T5 m 39 #[.val (.long pl1), .second, .val (.int pi2), .val (.int pi3), .val (.int pi4), .val (.int pi5), .val (.int pi6), .val (.int (2 : Int32)), .val (.ref b1), .unset, .unset, .unset] [(.int (2 : Int32)), (.int (2 : Int32))] _
    refine XS.icmpYes X5.here hx rfl (pc0 := 39) (pc' := 49) rfl (hb hby at_39) rfl (flt (by simp : ¬ ((2 : Int32) < (2 : Int32)))).2.2.2 (by decide) (by decide) ?_
    show Stp p e below T5 m 49 #[.val (.long pl1), .second, .val (.int pi2), .val (.int pi3), .val (.int pi4), .val (.int pi5), .val (.int pi6), .val (.int (2 : Int32)), .val (.ref b1), .unset, .unset, .unset] [] _
    refine XS.iloadN X5.here hx rfl (hb hby at_49) rfl ?_
    show Stp p e below T5 m 50 #[.val (.long pl1), .second, .val (.int pi2), .val (.int pi3), .val (.int pi4), .val (.int pi5), .val (.int pi6), .val (.int (2 : Int32)), .val (.ref b1), .unset, .unset, .unset] [(.int pi3)] _
    refine XS.iconst X5.here hx rfl (hb hby at_50) ?_
    show Stp p e below T5 m 51 #[.val (.long pl1), .second, .val (.int pi2), .val (.int pi3), .val (.int pi4), .val (.int pi5), .val (.int pi6), .val (.int (2 : Int32)), .val (.ref b1), .unset, .unset, .unset] [(.int (3 : Int32)), (.int pi3)] _
    refine XS.iand X5.here hx rfl (hb hby at_51) rfl ?_
    show Stp p e below T5 m 52 #[.val (.long pl1), .second, .val (.int pi2), .val (.int pi3), .val (.int pi4), .val (.int pi5), .val (.int pi6), .val (.int (2 : Int32)), .val (.ref b1), .unset, .unset, .unset] [(.int (pi3 &&& (3 : Int32)))] _
    refine XS.istore X5.here hx rfl (hb hby at_52) rfl (l' := #[.val (.long pl1), .second, .val (.int pi2), .val (.int pi3), .val (.int pi4), .val (.int pi5), .val (.int pi6), .val (.int (2 : Int32)), .val (.ref b1), .val (.int (pi3 &&& (3 : Int32))), .unset, .unset]) rfl ?_
    show Stp p e below T5 m 54 #[.val (.long pl1), .second, .val (.int pi2), .val (.int pi3), .val (.int pi4), .val (.int pi5), .val (.int pi6), .val (.int (2 : Int32)), .val (.ref b1), .val (.int (pi3 &&& (3 : Int32))), .unset, .unset] [] _
    rw [show (pi3 &&& (3 : Int32)) = (3 : Int32) from own_n3 hc52_3 hc52_4 hc52_5]
    show Stp p e below T5 m 54 #[.val (.long pl1), .second, .val (.int pi2), .val (.int pi3), .val (.int pi4), .val (.int pi5), .val (.int pi6), .val (.int (2 : Int32)), .val (.ref b1), .val (.int (3 : Int32)), .unset, .unset] [] _
    refine st6 _ ?_
    show Stp p e below T6 m 57 #[.val (.long pl1), .second, .val (.int pi2), .val (.int pi3), .val (.int pi4), .val (.int pi5), .val (.int pi6), .val (.int (2 : Int32)), .val (.ref b1), .val (.int (3 : Int32)), .unset, .unset] [(.ref b6)] _
    refine XS.dup X6.here hx rfl (hb hby at_57) rfl rfl ?_
    show Stp p e below T6 m 58 #[.val (.long pl1), .second, .val (.int pi2), .val (.int pi3), .val (.int pi4), .val (.int pi5), .val (.int pi6), .val (.int (2 : Int32)), .val (.ref b1), .val (.int (3 : Int32)), .unset, .unset] [(.ref b6), (.ref b6)] _
    refine st10.trans ?_
    show Stp p e below T10 m 61 #[.val (.long pl1), .second, .val (.int pi2), .val (.int pi3), .val (.int pi4), .val (.int pi5), .val (.int pi6), .val (.int (2 : Int32)), .val (.ref b1), .val (.int (3 : Int32)), .unset, .unset] [(.ref b6)] _
    refine XS.astore X10.here hx rfl (hb hby at_61) rfl rfl (l' := #[.val (.long pl1), .second, .val (.int pi2), .val (.int pi3), .val (.int pi4), .val (.int pi5), .val (.int pi6), .val (.int (2 : Int32)), .val (.ref b1), .val (.int (3 : Int32)), .val (.ref b6), .unset]) rfl ?_
    show Stp p e below T10 m 63 #[.val (.long pl1), .second, .val (.int pi2), .val (.int pi3), .val (.int pi4), .val (.int pi5), .val (.int pi6), .val (.int (2 : Int32)), .val (.ref b1), .val (.int (3 : Int32)), .val (.ref b6), .unset] [] _
    refine XS.iload X10.here hx rfl (hb hby at_63) rfl ?_
    show Stp p e below T10 m 65 #[.val (.long pl1), .second, .val (.int pi2), .val (.int pi3), .val (.int pi4), .val (.int pi5), .val (.int pi6), .val (.int (2 : Int32)), .val (.ref b1), .val (.int (3 : Int32)), .val (.ref b6), .unset] [(.int (3 : Int32))] _
    refine XS.ifNo X10.here hx rfl (hb hby at_65) rfl ((if0 _ _).trans (tlt (by decide : (0 : Int32) < (3 : Int32))).2.2.2) ?_
    show Stp p e below T10 m 68 #[.val (.long pl1), .second, .val (.int pi2), .val (.int pi3), .val (.int pi4), .val (.int pi5), .val (.int pi6), .val (.int (2 : Int32)), .val (.ref b1), .val (.int (3 : Int32)), .val (.ref b6), .unset] [] _
    refine XS.aload X10.here hx rfl (hb hby at_68) rfl rfl ?_
    show Stp p e below T10 m 70 #[.val (.long pl1), .second, .val (.int pi2), .val (.int pi3), .val (.int pi4), .val (.int pi5), .val (.int pi6), .val (.int (2 : Int32)), .val (.ref b1), .val (.int (3 : Int32)), .val (.ref b6), .unset] [(.ref b6)] _
    refine XS.iloadN X10.here hx rfl (hb hby at_70) rfl ?_
    show Stp p e below T10 m 71 #[.val (.long pl1), .second, .val (.int pi2), .val (.int pi3), .val (.int pi4), .val (.int pi5), .val (.int pi6), .val (.int (2 : Int32)), .val (.ref b1), .val (.int (3 : Int32)), .val (.ref b6), .unset] [(.int pi3), (.ref b6)] _
    refine XS.iconst X10.here hx rfl (hb hby at_71) ?_
    show Stp p e below T10 m 72 #[.val (.long pl1), .second, .val (.int pi2), .val (.int pi3), .val (.int pi4), .val (.int pi5), .val (.int pi6), .val (.int (2 : Int32)), .val (.ref b1), .val (.int (3 : Int32)), .val (.ref b6), .unset] [(.int (2 : Int32)), (.int pi3), (.ref b6)] _
    refine XS.iushr X10.here hx rfl (hb hby at_72) rfl ?_
    show Stp p e below T10 m 73 #[.val (.long pl1), .second, .val (.int pi2), .val (.int pi3), .val (.int pi4), .val (.int pi5), .val (.int pi6), .val (.int (2 : Int32)), .val (.ref b1), .val (.int (3 : Int32)), .val (.ref b6), .unset] [(.int ((pi3.toUInt32 >>> ((2 : Int32) &&& 31).toUInt32).toInt32)), (.ref b6)] _
    refine XS.iload X10.here hx rfl (hb hby at_73) rfl ?_
    show Stp p e below T10 m 75 #[.val (.long pl1), .second, .val (.int pi2), .val (.int pi3), .val (.int pi4), .val (.int pi5), .val (.int pi6), .val (.int (2 : Int32)), .val (.ref b1), .val (.int (3 : Int32)), .val (.ref b6), .unset] [(.int pi4), (.int ((pi3.toUInt32 >>> ((2 : Int32) &&& 31).toUInt32).toInt32)), (.ref b6)] _
    refine st16 _ ?_
    show Stp p e below T16 m 78 #[.val (.long pl1), .second, .val (.int pi2), .val (.int pi3), .val (.int pi4), .val (.int pi5), .val (.int pi6), .val (.int (2 : Int32)), .val (.ref b1), .val (.int (3 : Int32)), .val (.ref b6), .unset] [(.ref b16), (.ref b6)] _
    refine st23.trans ?_
    show Stp p e below T23 m 83 #[.val (.long pl1), .second, .val (.int pi2), .val (.int pi3), .val (.int pi4), .val (.int pi5), .val (.int pi6), .val (.int (2 : Int32)), .val (.ref b1), .val (.int (3 : Int32)), .val (.ref b6), .unset] [(.int (1 : Int32))] _
    refine XS.pop X23.here hx rfl (hb hby at_83) rfl rfl ?_
    show Stp p e below T23 m 84 #[.val (.long pl1), .second, .val (.int pi2), .val (.int pi3), .val (.int pi4), .val (.int pi5), .val (.int pi6), .val (.int (2 : Int32)), .val (.ref b1), .val (.int (3 : Int32)), .val (.ref b6), .unset] [] _
    refine XS.iload X23.here hx rfl (hb hby at_84) rfl ?_
    show Stp p e below T23 m 86 #[.val (.long pl1), .second, .val (.int pi2), .val (.int pi3), .val (.int pi4), .val (.int pi5), .val (.int pi6), .val (.int (2 : Int32)), .val (.ref b1), .val (.int (3 : Int32)), .val (.ref b6), .unset] [(.int (3 : Int32))] _
    refine XS.iconst X23.here hx rfl (hb hby at_86) ?_
    show Stp p e below T23 m 87 #[.val (.long pl1), .second, .val (.int pi2), .val (.int pi3), .val (.int pi4), .val (.int pi5), .val (.int pi6), .val (.int (2 : Int32)), .val (.ref b1), .val (.int (3 : Int32)), .val (.ref b6), .unset] [(.int (1 : Int32)), (.int (3 : Int32))] _
    refine XS.icmpNo X23.here hx rfl (hb hby at_87) rfl (tlt (by decide : (1 : Int32) < (3 : Int32))).2.2.2 ?_
    show Stp p e below T23 m 90 #[.val (.long pl1), .second, .val (.int pi2), .val (.int pi3), .val (.int pi4), .val (.int pi5), .val (.int pi6), .val (.int (2 : Int32)), .val (.ref b1), .val (.int (3 : Int32)), .val (.ref b6), .unset] [] _
    refine XS.aload X23.here hx rfl (hb hby at_90) rfl rfl ?_
    show Stp p e below T23 m 92 #[.val (.long pl1), .second, .val (.int pi2), .val (.int pi3), .val (.int pi4), .val (.int pi5), .val (.int pi6), .val (.int (2 : Int32)), .val (.ref b1), .val (.int (3 : Int32)), .val (.ref b6), .unset] [(.ref b6)] _
    refine XS.iloadN X23.here hx rfl (hb hby at_92) rfl ?_
    show Stp p e below T23 m 93 #[.val (.long pl1), .second, .val (.int pi2), .val (.int pi3), .val (.int pi4), .val (.int pi5), .val (.int pi6), .val (.int (2 : Int32)), .val (.ref b1), .val (.int (3 : Int32)), .val (.ref b6), .unset] [(.int pi3), (.ref b6)] _
    refine XS.iconst X23.here hx rfl (hb hby at_93) ?_
    show Stp p e below T23 m 94 #[.val (.long pl1), .second, .val (.int pi2), .val (.int pi3), .val (.int pi4), .val (.int pi5), .val (.int pi6), .val (.int (2 : Int32)), .val (.ref b1), .val (.int (3 : Int32)), .val (.ref b6), .unset] [(.int (3 : Int32)), (.int pi3), (.ref b6)] _
    refine XS.iushr X23.here hx rfl (hb hby at_94) rfl ?_
    show Stp p e below T23 m 95 #[.val (.long pl1), .second, .val (.int pi2), .val (.int pi3), .val (.int pi4), .val (.int pi5), .val (.int pi6), .val (.int (2 : Int32)), .val (.ref b1), .val (.int (3 : Int32)), .val (.ref b6), .unset] [(.int ((pi3.toUInt32 >>> ((3 : Int32) &&& 31).toUInt32).toInt32)), (.ref b6)] _
    refine XS.iload X23.here hx rfl (hb hby at_95) rfl ?_
    show Stp p e below T23 m 97 #[.val (.long pl1), .second, .val (.int pi2), .val (.int pi3), .val (.int pi4), .val (.int pi5), .val (.int pi6), .val (.int (2 : Int32)), .val (.ref b1), .val (.int (3 : Int32)), .val (.ref b6), .unset] [(.int pi5), (.int ((pi3.toUInt32 >>> ((3 : Int32) &&& 31).toUInt32).toInt32)), (.ref b6)] _
    refine st26 _ ?_
    show Stp p e below T26 m 100 #[.val (.long pl1), .second, .val (.int pi2), .val (.int pi3), .val (.int pi4), .val (.int pi5), .val (.int pi6), .val (.int (2 : Int32)), .val (.ref b1), .val (.int (3 : Int32)), .val (.ref b6), .unset] [(.ref b26), (.ref b6)] _
    refine st34.trans ?_
    show Stp p e below T34 m 105 #[.val (.long pl1), .second, .val (.int pi2), .val (.int pi3), .val (.int pi4), .val (.int pi5), .val (.int pi6), .val (.int (2 : Int32)), .val (.ref b1), .val (.int (3 : Int32)), .val (.ref b6), .unset] [(.int (1 : Int32))] _
    refine XS.pop X34.here hx rfl (hb hby at_105) rfl rfl ?_
    show Stp p e below T34 m 106 #[.val (.long pl1), .second, .val (.int pi2), .val (.int pi3), .val (.int pi4), .val (.int pi5), .val (.int pi6), .val (.int (2 : Int32)), .val (.ref b1), .val (.int (3 : Int32)), .val (.ref b6), .unset] [] _
    refine XS.iload X34.here hx rfl (hb hby at_106) rfl ?_
    show Stp p e below T34 m 108 #[.val (.long pl1), .second, .val (.int pi2), .val (.int pi3), .val (.int pi4), .val (.int pi5), .val (.int pi6), .val (.int (2 : Int32)), .val (.ref b1), .val (.int (3 : Int32)), .val (.ref b6), .unset] [(.int (3 : Int32))] _
    refine XS.iconst X34.here hx rfl (hb hby at_108) ?_
    show Stp p e below T34 m 109 #[.val (.long pl1), .second, .val (.int pi2), .val (.int pi3), .val (.int pi4), .val (.int pi5), .val (.int pi6), .val (.int (2 : Int32)), .val (.ref b1), .val (.int (3 : Int32)), .val (.ref b6), .unset] [(.int (2 : Int32)), (.int (3 : Int32))] _
    refine XS.icmpNo X34.here hx rfl (hb hby at_109) rfl (tlt (by decide : (2 : Int32) < (3 : Int32))).2.2.2 ?_
    show Stp p e below T34 m 112 #[.val (.long pl1), .second, .val (.int pi2), .val (.int pi3), .val (.int pi4), .val (.int pi5), .val (.int pi6), .val (.int (2 : Int32)), .val (.ref b1), .val (.int (3 : Int32)), .val (.ref b6), .unset] [] _
    refine XS.aload X34.here hx rfl (hb hby at_112) rfl rfl ?_
    show Stp p e below T34 m 114 #[.val (.long pl1), .second, .val (.int pi2), .val (.int pi3), .val (.int pi4), .val (.int pi5), .val (.int pi6), .val (.int (2 : Int32)), .val (.ref b1), .val (.int (3 : Int32)), .val (.ref b6), .unset] [(.ref b6)] _
    refine XS.iloadN X34.here hx rfl (hb hby at_114) rfl ?_
    show Stp p e below T34 m 115 #[.val (.long pl1), .second, .val (.int pi2), .val (.int pi3), .val (.int pi4), .val (.int pi5), .val (.int pi6), .val (.int (2 : Int32)), .val (.ref b1), .val (.int (3 : Int32)), .val (.ref b6), .unset] [(.int pi3), (.ref b6)] _
    refine XS.iconst X34.here hx rfl (hb hby at_115) ?_
    show Stp p e below T34 m 116 #[.val (.long pl1), .second, .val (.int pi2), .val (.int pi3), .val (.int pi4), .val (.int pi5), .val (.int pi6), .val (.int (2 : Int32)), .val (.ref b1), .val (.int (3 : Int32)), .val (.ref b6), .unset] [(.int (4 : Int32)), (.int pi3), (.ref b6)] _
    refine XS.iushr X34.here hx rfl (hb hby at_116) rfl ?_
    show Stp p e below T34 m 117 #[.val (.long pl1), .second, .val (.int pi2), .val (.int pi3), .val (.int pi4), .val (.int pi5), .val (.int pi6), .val (.int (2 : Int32)), .val (.ref b1), .val (.int (3 : Int32)), .val (.ref b6), .unset] [(.int ((pi3.toUInt32 >>> ((4 : Int32) &&& 31).toUInt32).toInt32)), (.ref b6)] _
    refine XS.iload X34.here hx rfl (hb hby at_117) rfl ?_
    show Stp p e below T34 m 119 #[.val (.long pl1), .second, .val (.int pi2), .val (.int pi3), .val (.int pi4), .val (.int pi5), .val (.int pi6), .val (.int (2 : Int32)), .val (.ref b1), .val (.int (3 : Int32)), .val (.ref b6), .unset] [(.int pi6), (.int ((pi3.toUInt32 >>> ((4 : Int32) &&& 31).toUInt32).toInt32)), (.ref b6)] _
    refine st37 _ ?_
    show Stp p e below T37 m 122 #[.val (.long pl1), .second, .val (.int pi2), .val (.int pi3), .val (.int pi4), .val (.int pi5), .val (.int pi6), .val (.int (2 : Int32)), .val (.ref b1), .val (.int (3 : Int32)), .val (.ref b6), .unset] [(.ref b37), (.ref b6)] _
    refine st45.trans ?_
    show Stp p e below T45 m 127 #[.val (.long pl1), .second, .val (.int pi2), .val (.int pi3), .val (.int pi4), .val (.int pi5), .val (.int pi6), .val (.int (2 : Int32)), .val (.ref b1), .val (.int (3 : Int32)), .val (.ref b6), .unset] [(.int (1 : Int32))] _
    refine XS.pop X45.here hx rfl (hb hby at_127) rfl rfl ?_
    show Stp p e below T45 m 128 #[.val (.long pl1), .second, .val (.int pi2), .val (.int pi3), .val (.int pi4), .val (.int pi5), .val (.int pi6), .val (.int (2 : Int32)), .val (.ref b1), .val (.int (3 : Int32)), .val (.ref b6), .unset] [] _
    refine st48 _ ?_
    show Stp p e below T48 m 131 #[.val (.long pl1), .second, .val (.int pi2), .val (.int pi3), .val (.int pi4), .val (.int pi5), .val (.int pi6), .val (.int (2 : Int32)), .val (.ref b1), .val (.int (3 : Int32)), .val (.ref b6), .unset] [(.ref b48)] _
    refine XS.dup X48.here hx rfl (hb hby at_131) rfl rfl ?_
    show Stp p e below T48 m 132 #[.val (.long pl1), .second, .val (.int pi2), .val (.int pi3), .val (.int pi4), .val (.int pi5), .val (.int pi6), .val (.int (2 : Int32)), .val (.ref b1), .val (.int (3 : Int32)), .val (.ref b6), .unset] [(.ref b48), (.ref b48)] _
    refine XS.lloadN X48.here hx rfl (hb hby at_132) rfl ?_
    show Stp p e below T48 m 133 #[.val (.long pl1), .second, .val (.int pi2), .val (.int pi3), .val (.int pi4), .val (.int pi5), .val (.int pi6), .val (.int (2 : Int32)), .val (.ref b1), .val (.int (3 : Int32)), .val (.ref b6), .unset] [(.long pl1), (.ref b48), (.ref b48)] _
    refine XS.aload X48.here hx rfl (hb hby at_133) rfl rfl ?_
    show Stp p e below T48 m 135 #[.val (.long pl1), .second, .val (.int pi2), .val (.int pi3), .val (.int pi4), .val (.int pi5), .val (.int pi6), .val (.int (2 : Int32)), .val (.ref b1), .val (.int (3 : Int32)), .val (.ref b6), .unset] [(.ref b1), (.long pl1), (.ref b48), (.ref b48)] _
    refine XS.aload X48.here hx rfl (hb hby at_135) rfl rfl ?_
    show Stp p e below T48 m 137 #[.val (.long pl1), .second, .val (.int pi2), .val (.int pi3), .val (.int pi4), .val (.int pi5), .val (.int pi6), .val (.int (2 : Int32)), .val (.ref b1), .val (.int (3 : Int32)), .val (.ref b6), .unset] [(.ref b6), (.ref b1), (.long pl1), (.ref b48), (.ref b48)] _
    refine st50.trans ?_
    show Stp p e below T50 m 140 #[.val (.long pl1), .second, .val (.int pi2), .val (.int pi3), .val (.int pi4), .val (.int pi5), .val (.int pi6), .val (.int (2 : Int32)), .val (.ref b1), .val (.int (3 : Int32)), .val (.ref b6), .unset] [(.ref b48)] _
    refine XS.astore X50.here hx rfl (hb hby at_140) rfl rfl (l' := #[.val (.long pl1), .second, .val (.int pi2), .val (.int pi3), .val (.int pi4), .val (.int pi5), .val (.int pi6), .val (.int (2 : Int32)), .val (.ref b1), .val (.int (3 : Int32)), .val (.ref b6), .val (.ref b48)]) rfl ?_
    show Stp p e below T50 m 142 #[.val (.long pl1), .second, .val (.int pi2), .val (.int pi3), .val (.int pi4), .val (.int pi5), .val (.int pi6), .val (.int (2 : Int32)), .val (.ref b1), .val (.int (3 : Int32)), .val (.ref b6), .val (.ref b48)] [] _
    refine XS.aload X50.here hx rfl (hb hby at_142) rfl rfl ?_
    show Stp p e below T50 m 144 #[.val (.long pl1), .second, .val (.int pi2), .val (.int pi3), .val (.int pi4), .val (.int pi5), .val (.int pi6), .val (.int (2 : Int32)), .val (.ref b1), .val (.int (3 : Int32)), .val (.ref b6), .val (.ref b48)] [(.ref b48)] _
    refine st64.trans ?_
    show Stp p e below T64 m 147 #[.val (.long pl1), .second, .val (.int pi2), .val (.int pi3), .val (.int pi4), .val (.int pi5), .val (.int pi6), .val (.int (2 : Int32)), .val (.ref b1), .val (.int (3 : Int32)), .val (.ref b6), .val (.ref b48)] [(.int (0 : Int32))] _
    refine XS.iload X64.here hx rfl (hb hby at_147) rfl ?_
    show Stp p e below T64 m 149 #[.val (.long pl1), .second, .val (.int pi2), .val (.int pi3), .val (.int pi4), .val (.int pi5), .val (.int pi6), .val (.int (2 : Int32)), .val (.ref b1), .val (.int (3 : Int32)), .val (.ref b6), .val (.ref b48)] [(.int (2 : Int32)), (.int (0 : Int32))] _
    refine XS.ifYes X64.here hx rfl (pc0 := 149) (pc' := 156) rfl (hb hby at_149) rfl ((if0 _ _).trans (feq (by decide : ¬ ((2 : Int32) = (0 : Int32)))).2) (by decide) (by decide) ?_
    show Stp p e below T64 m 156 #[.val (.long pl1), .second, .val (.int pi2), .val (.int pi3), .val (.int pi4), .val (.int pi5), .val (.int pi6), .val (.int (2 : Int32)), .val (.ref b1), .val (.int (3 : Int32)), .val (.ref b6), .val (.ref b48)] [(.int (0 : Int32))] _
    refine XS.iconst X64.here hx rfl (hb hby at_156) ?_
    show Stp p e below T64 m 157 #[.val (.long pl1), .second, .val (.int pi2), .val (.int pi3), .val (.int pi4), .val (.int pi5), .val (.int pi6), .val (.int (2 : Int32)), .val (.ref b1), .val (.int (3 : Int32)), .val (.ref b6), .val (.ref b48)] [(.int (0 : Int32)), (.int (0 : Int32))] _
    refine XS.icmpNo X64.here hx rfl (hb hby at_157) rfl (teq (rfl : (0 : Int32) = (0 : Int32))).2 ?_
    show Stp p e below T64 m 160 #[.val (.long pl1), .second, .val (.int pi2), .val (.int pi3), .val (.int pi4), .val (.int pi5), .val (.int pi6), .val (.int (2 : Int32)), .val (.ref b1), .val (.int (3 : Int32)), .val (.ref b6), .val (.ref b48)] [] _
    refine XS.iconst X64.here hx rfl (hb hby at_160) ?_
    show Stp p e below T64 m 161 #[.val (.long pl1), .second, .val (.int pi2), .val (.int pi3), .val (.int pi4), .val (.int pi5), .val (.int pi6), .val (.int (2 : Int32)), .val (.ref b1), .val (.int (3 : Int32)), .val (.ref b6), .val (.ref b48)] [(.int (1 : Int32))] _
    refine XS.goto X64.here hx rfl (pc0 := 161) (pc' := 165) rfl (hb hby at_161) (by decide) (by decide) ?_
    show Stp p e below T64 m 165 #[.val (.long pl1), .second, .val (.int pi2), .val (.int pi3), .val (.int pi4), .val (.int pi5), .val (.int pi6), .val (.int (2 : Int32)), .val (.ref b1), .val (.int (3 : Int32)), .val (.ref b6), .val (.ref b48)] [(.int (1 : Int32))] _
    exact retN X64 hx (t := .boolean) Bd.returns (by simp) (hb hby at_165) hr
  · exact ⟨rfl, N64⟩
set_option maxRecDepth 65536 in
set_option maxHeartbeats 40000000 in
theorem rm0_ffft (l : Launch) (Z : State) (a0 : Array Value) (hw : ∀ d ∈ tables_1, d.before a0 Z = true) (ws : List Jvm.Cond) (pl1 : Int64) (pi2 : Int32) (pi3 : Int32) (pi4 : Int32) (pi5 : Int32) (pi6 : Int32) (w_DEF : Addr) (kk_w_DEF : ClassId) (h0 : Heap) (n0 : Nat) (Z0 : n0 ≤ h0.size) (O0 : Old Z n0 h0) (S_DEFAULTCAPACITY_EMPTY_ELEMENTDATA : Sta Z Z.heap "java/util/ArrayList" "DEFAULTCAPACITY_EMPTY_ELEMENTDATA" "[Ljava/lang/Object;" (.ref w_DEF)) (V_w_DEF : Arv Z Z.heap w_DEF kk_w_DEF (.object "java/lang/Object") (0 : Int32) [] .null) (hc3_0 : ¬ ((pi2 &&& (3 : Int32)) = (0 : Int32))) (hc3_1 : ¬ ((pi2 &&& (3 : Int32)) = (1 : Int32))) (hc3_2 : ¬ ((pi2 &&& (3 : Int32)) = (2 : Int32))) (hc52_3 : (pi3 &&& (3 : Int32)) = (0 : Int32)) :
    MetFree l x (head1 (Jvm.Cond.code x code maxLocals ret :: ws) room_1) (fun a U => a = #[(.long pl1), (.int pi2), (.int pi3), (.int pi4), (.int pi5), (.int pi6)] ∧ Z.Warmed39 U.vm ∧ U.heap = h0) (fun _ _ _ _ _ => True) (fun _ U o U' => ∃ v L, o = .returned v ∧ Q0 v L n0 ∧ FrameEnd U o U' L room_1.cells room_1.slots) := by
  refine MetFree.of_bodySF (plainFor_of_name pn_0) hisR ?_
  intro p e s m args below meth c s₁ Bd hml0 hP hK
  obtain ⟨rfl, hZ, hh⟩ := hP
  have hx := Bd.exec
  have hby := Bd.bytes
  have hml : c.maxLocals = 12 := hml0
  have hown : s.vm.findClass "com/example/shardwright/shardwright/cli/RowIsBlankPinLaw" = some m.cls := findClass_of_methodNamed Bd.named
  have hnm := (name_of_methodNamed Bd.named Bd.method).1
  have X0 : Stand p l e room_1 s m #[(.long pl1), (.int pi2), (.int pi3), (.int pi4), (.int pi5), (.int pi6)] below meth c s₁ [] 0 0 := Stand.of_body Bd
  have e0 : s₁.heap = h0 := by rw [← hh, Bd.state]; rfl
  have N0 := Fr.nil n0
  have pre0 : ∀ t, Steps p.tables e below (s₁.setTop (mkF m 0 #[.val (.long pl1), .second, .val (.int pi2), .val (.int pi3), .val (.int pi4), .val (.int pi5), .val (.int pi6), .unset, .unset, .unset, .unset, .unset] [])) t → Steps p.tables e below (s₁.setTop (entryFrame m #[(.long pl1), (.int pi2), (.int pi3), (.int pi4), (.int pi5), (.int pi6)] maxLocals)) t := fun t k => castTop (ef_0 m pl1 pi2 pi3 pi4 pi5 pi6) k
  obtain ⟨T1, h1, k1, X1, e1, E1, A1, st1⟩ := newP X0 hx hZ (own_W hw 0 rfl) e0 (g := (mkF m 7 #[.val (.long pl1), .second, .val (.int pi2), .val (.int pi3), .val (.int pi4), .val (.int pi5), .val (.int pi6), .val (.int (3 : Int32)), .unset, .unset, .unset, .unset] [(.int (3 : Int32))])) rfl (hb hby at_7) rfl (by decide) (cap := 3) (by decide) (by decide) (by decide) (by decide)
  obtain ⟨b1, g1⟩ : ∃ z, z = h0.size := ⟨_, rfl⟩
  rw [← g1] at A1 st1
  have V1 : Arv Z h1 b1 k1 .byte (3 : Int32) [(.int (0 : Int32)), (.int (0 : Int32)), (.int (0 : Int32))] (.int (0 : Int32)) := (Arv.new A1 (by decide)).pad (pad_rep [] (.int (0 : Int32)) 3)
  have g_b1 : n0 ≤ b1 := Nat.le_trans Z0 (Nat.le_of_eq g1.symm)
  have V_c2 := V1
  obtain ⟨c2, Arc2, qc2, Sc2, Nc2, Hc2, Gc2⟩ := V_c2
  have hin3 : ¬ ((0 : Int32) < 0 ∨ c2.slots.size ≤ ((0 : Int32)).toNatClampNeg) := inb_of Sc2 ⟨by decide, by decide⟩
  obtain ⟨T3, h3, X3, e3, W3, st3⟩ := stB X1 hx hZ e1 Arc2 (j := (0 : Int32)) hin3 (g := (mkF m 22 #[.val (.long pl1), .second, .val (.int pi2), .val (.int pi3), .val (.int pi4), .val (.int pi5), .val (.int pi6), .val (.int (3 : Int32)), .val (.ref b1), .unset, .unset, .unset] [(.int (pi4.toInt8.toInt32)), (.int (0 : Int32)), (.ref b1)])) rfl rfl (hb hby at_22)
  have V3 : Arv Z h3 b1 k1 .byte (3 : Int32) [(.int (nar .byte (pi4.toInt8.toInt32))), (.int (0 : Int32)), (.int (0 : Int32))] (.int (0 : Int32)) := Arv.set Arc2 qc2 Sc2 Nc2 Hc2 Gc2 (fits_nar_byte _) W3 0 rfl (Nat.le_of_ble_eq_true rfl)
  have N3 := Fr.snoc X3 N0 g_b1
  have V_c4 := V3
  obtain ⟨c4, Arc4, qc4, Sc4, Nc4, Hc4, Gc4⟩ := V_c4
  have hin5 : ¬ ((1 : Int32) < 0 ∨ c4.slots.size ≤ ((1 : Int32)).toNatClampNeg) := inb_of Sc4 ⟨by decide, by decide⟩
  obtain ⟨T5, h5, X5, e5, W5, st5⟩ := stB X3 hx hZ e3 Arc4 (j := (1 : Int32)) hin5 (g := (mkF m 35 #[.val (.long pl1), .second, .val (.int pi2), .val (.int pi3), .val (.int pi4), .val (.int pi5), .val (.int pi6), .val (.int (3 : Int32)), .val (.ref b1), .unset, .unset, .unset] [(.int (pi5.toInt8.toInt32)), (.int (1 : Int32)), (.ref b1)])) rfl rfl (hb hby at_35)
  have V5 : Arv Z h5 b1 k1 .byte (3 : Int32) [(.int (nar .byte (pi4.toInt8.toInt32))), (.int (nar .byte (pi5.toInt8.toInt32))), (.int (0 : Int32))] (.int (0 : Int32)) := Arv.set Arc4 qc4 Sc4 Nc4 Hc4 Gc4 (fits_nar_byte _) W5 1 rfl (Nat.le_of_ble_eq_true rfl)
  have N5 := Fr.snoc X5 N3 g_b1
  have V_c6 := V5
  obtain ⟨c6, Arc6, qc6, Sc6, Nc6, Hc6, Gc6⟩ := V_c6
  have hin7 : ¬ ((2 : Int32) < 0 ∨ c6.slots.size ≤ ((2 : Int32)).toNatClampNeg) := inb_of Sc6 ⟨by decide, by decide⟩
  obtain ⟨T7, h7, X7, e7, W7, st7⟩ := stB X5 hx hZ e5 Arc6 (j := (2 : Int32)) hin7 (g := (mkF m 48 #[.val (.long pl1), .second, .val (.int pi2), .val (.int pi3), .val (.int pi4), .val (.int pi5), .val (.int pi6), .val (.int (3 : Int32)), .val (.ref b1), .unset, .unset, .unset] [(.int (pi6.toInt8.toInt32)), (.int (2 : Int32)), (.ref b1)])) rfl rfl (hb hby at_48)
  have V7 : Arv Z h7 b1 k1 .byte (3 : Int32) [(.int (nar .byte (pi4.toInt8.toInt32))), (.int (nar .byte (pi5.toInt8.toInt32))), (.int (nar .byte (pi6.toInt8.toInt32)))] (.int (0 : Int32)) := Arv.set Arc6 qc6 Sc6 Nc6 Hc6 Gc6 (fits_nar_byte _) W7 2 rfl (Nat.le_of_ble_eq_true rfl)
  have N7 := Fr.snoc X7 N5 g_b1
  obtain ⟨T8, h8, X8, e8, E8, A8, D8, -, st8⟩ := newO X7 hx hZ hown (own_W hw 1 rfl) (own_W hw 2 rfl) (own_W hw 3 rfl) e7 (g := (mkF m 54 #[.val (.long pl1), .second, .val (.int pi2), .val (.int pi3), .val (.int pi4), .val (.int pi5), .val (.int pi6), .val (.int (3 : Int32)), .val (.ref b1), .val (.int (0 : Int32)), .unset, .unset] [])) rfl (hb hby at_54) (by decide) (by decide)
  obtain ⟨b8, g8⟩ : ∃ z, z = h7.size := ⟨_, rfl⟩
  rw [← g8] at A8 D8 st8
  have F_modCount_b8 : Fld Z h8 b8 "java/util/AbstractList" "modCount" "I" (.int (0 : Int32)) := D8 (Or.inl (own_W hw 23 rfl)) (ty := .int) (by decide)
  have F_elementData_b8 : Fld Z h8 b8 "java/util/ArrayList" "elementData" "[Ljava/lang/Object;" .null := D8 (Or.inl (own_W hw 26 rfl)) (ty := (.array (.object "java/lang/Object"))) (by decide)
  have F_size_b8 : Fld Z h8 b8 "java/util/ArrayList" "size" "I" (.int (0 : Int32)) := D8 (Or.inl (own_W hw 43 rfl)) (ty := .int) (by decide)
  have z9 := Nat.le_trans Z0 E1.1
  have z10 := Nat.le_trans z9 (Keep.of_wr W3).1
  have z11 := Nat.le_trans z10 (Keep.of_wr W5).1
  have z12 := Nat.le_trans z11 (Keep.of_wr W7).1
  have g_b8 : n0 ≤ b8 := Nat.le_trans z12 (Nat.le_of_eq g8.symm)
  have z14 := Nat.le_trans z12 E8.1
  have o15 := O0.ext E1
  have o16 := o15.wr W3 g_b1
  have o17 := o16.wr W5 g_b1
  have o18 := o17.wr W7 g_b1
  have o19 := o18.ext E8
  obtain ⟨_, _, ⟨T13, L13, k13, n13⟩, -, X13, ⟨Lc13, hQ13, l13, y13, z13⟩, st13⟩ := X8.specialBack hx (y := (⟨"java/util/ArrayList", "<init>", "()V"⟩ : MethodName)) rfl hown (mvT hZ (own_W hw 4 rfl)) (mvT hZ (own_W hw 5 rfl)) (mvT hZ (own_W hw 6 rfl)) (by decide) (backOf (W := 1) (rm1 l Z a0 hw [] b8 w_DEF (.int (0 : Int32)) .null (.int (0 : Int32)) h8 n0 z14 o19 A8 S_DEFAULTCAPACITY_EMPTY_ELEMENTDATA F_modCount_b8 F_elementData_b8 F_size_b8 g_b8) hZ (own_W hw 6 rfl) (own_W hw 3 rfl) (by decide) (by decide)) (g := (mkF m 58 #[.val (.long pl1), .second, .val (.int pi2), .val (.int pi3), .val (.int pi4), .val (.int pi5), .val (.int pi6), .val (.int (3 : Int32)), .val (.ref b1), .val (.int (0 : Int32)), .unset, .unset] [(.ref b8), (.ref b8)])) rfl (by rw [hml]; rfl) (Steps.refl _) (a := b8) (argsL := []) (rest := [(.ref b8)]) (lenOf pd_0 rfl) rfl (by show 2 * 0 + _ ≤ _; exact Nat.le_of_eq rfl) (hb hby at_58) (fun _ _ => ⟨rfl, e8, (by decide : 2 + 0 ≤ _), (by decide : 6 + 0 ≤ _)⟩)
  dsimp only [Pt.U, Pt.locs, Pt.cells, Pt.slots] at X13 l13 y13 z13 st13 hQ13
  subst l13 y13 z13
  obtain ⟨rfl, N13q, K13, qf13_0, qf13_1, qf13_2, qf13_3⟩ := hQ13
  have N13 := Fr.app N7 N13q
  obtain ⟨T20, h20, X20, e20, E20, A20, D20, -, st20⟩ := newO X13 hx hZ hown (own_W hw 66 rfl) (own_W hw 67 rfl) (own_W hw 68 rfl) rfl (g := (mkF m 128 #[.val (.long pl1), .second, .val (.int pi2), .val (.int pi3), .val (.int pi4), .val (.int pi5), .val (.int pi6), .val (.int (3 : Int32)), .val (.ref b1), .val (.int (0 : Int32)), .val (.ref b8), .unset] [])) rfl (hb hby at_128) (by decide) (by decide)
  obtain ⟨b20, g20⟩ : ∃ z, z = T13.heap.size := ⟨_, rfl⟩
  rw [← g20] at A20 D20 st20
  have F_line_b20 : Fld Z h20 b20 "com/example/shardwright/shardwright/cli/CsvReader$Row" "line" "J" (.long (0 : Int64)) := D20 (Or.inr (own_W hw 79 rfl)) (ty := .long) (by decide)
  have F_text_b20 : Fld Z h20 b20 "com/example/shardwright/shardwright/cli/CsvReader$Row" "text" "[B" .null := D20 (Or.inr (own_W hw 81 rfl)) (ty := (.array .byte)) (by decide)
  have F_fields_b20 : Fld Z h20 b20 "com/example/shardwright/shardwright/cli/CsvReader$Row" "fields" "Ljava/util/List;" .null := D20 (Or.inr (own_W hw 83 rfl)) (ty := (.object "java/util/List")) (by decide)
  have z21 := Nat.le_trans z14 K13.1
  have g_b20 : n0 ≤ b20 := Nat.le_trans z21 (Nat.le_of_eq g20.symm)
  have z23 := Nat.le_trans z21 E20.1
  have o24 := o19.keep K13 (allS g_b8 all0)
  have o25 := o24.ext E20
  obtain ⟨_, _, ⟨T22, L22, k22, n22⟩, -, X22, ⟨Lc22, hQ22, l22, y22, z22⟩, st22⟩ := X20.specialBack hx (y := (⟨"com/example/shardwright/shardwright/cli/CsvReader$Row", "<init>", "(J[BLjava/util/List;)V"⟩ : MethodName)) rfl hown (mvT hZ (own_W hw 69 rfl)) (mvT hZ (own_W hw 70 rfl)) (mvT hZ (own_W hw 71 rfl)) (by decide) (backOf (W := 1) (rm11 l Z a0 hw [] b20 pl1 b1 b8 (.long (0 : Int64)) .null .null h20 n0 z23 o25 A20 F_line_b20 g_b20 F_text_b20 F_fields_b20) hZ (own_W hw 71 rfl) (own_W hw 68 rfl) (by decide) (by decide)) (g := (mkF m 137 #[.val (.long pl1), .second, .val (.int pi2), .val (.int pi3), .val (.int pi4), .val (.int pi5), .val (.int pi6), .val (.int (3 : Int32)), .val (.ref b1), .val (.int (0 : Int32)), .val (.ref b8), .unset] [(.ref b8), (.ref b1), (.long pl1), (.ref b20), (.ref b20)])) rfl (by rw [hml]; rfl) (Steps.refl _) (a := b20) (argsL := [(.long pl1), (.ref b1), (.ref b8)]) (rest := [(.ref b20)]) (lenOf pd_7 rfl) rfl (by show 2 * 0 + _ ≤ _; exact Nat.le_of_eq rfl) (hb hby at_137) (fun _ _ => ⟨rfl, e20, (by decide : 3 + 0 ≤ _), (by decide : 9 + 0 ≤ _)⟩)
  dsimp only [Pt.U, Pt.locs, Pt.cells, Pt.slots] at X22 l22 y22 z22 st22 hQ22
  subst l22 y22 z22
  obtain ⟨rfl, N22q, K22, qf22_0, qf22_1, qf22_2, qf22_3⟩ := hQ22
  have N22 := Fr.app N13 N22q
  have f26 := V7.ext E8
  have f27 := f26.keep K13 (ninS (Nat.ne_of_lt (Nat.lt_of_lt_of_le V7.lt (Nat.le_of_eq g8.symm))) nin0)
  have f28 := f27.ext E20
  have f29 := f28.keep K22 (ninS (Nat.ne_of_lt (Nat.lt_of_lt_of_le f27.lt (Nat.le_of_eq g20.symm))) nin0)
  have z31 := Nat.le_trans z23 K22.1
  have o32 := o25.keep K22 (allS g_b20 all0)
  obtain ⟨cq30, kq30, q30a, q30b, q30c⟩ := isOf hZ rfl qf22_0
  obtain ⟨_, _, ⟨T30, L30, k30, n30⟩, -, X30, ⟨Lc30, hQ30, l30, y30, z30⟩, st30⟩ := X22.virtualBack hx (y := (⟨"com/example/shardwright/shardwright/cli/CsvReader$Row", "isBlank", "()Z"⟩ : MethodName)) (z := (⟨"com/example/shardwright/shardwright/cli/CsvReader$Row", "isBlank", "()Z"⟩ : MethodName)) hown (mvT hZ (own_W hw 84 rfl)) (mvT hZ (own_W hw 85 rfl)) (notFace_of_selects (args := #[]) (mvT hZ (own_W hw 87 rfl))) (mvT hZ (own_W hw 87 rfl)) (mvT hZ (own_W hw 86 rfl)) (by decide) (backOf (W := 0) (rm13_3 l Z a0 hw [] b20 b1 k1 (nar .byte (pi4.toInt8.toInt32)) (nar .byte (pi5.toInt8.toInt32)) (nar .byte (pi6.toInt8.toInt32)) T22.heap n0 z31 o32 qf22_2 f29) hZ (own_W hw 88 rfl) (own_W hw 68 rfl) (by decide) (by decide)) q30a q30c (g := (mkF m 144 #[.val (.long pl1), .second, .val (.int pi2), .val (.int pi3), .val (.int pi4), .val (.int pi5), .val (.int pi6), .val (.int (3 : Int32)), .val (.ref b1), .val (.int (0 : Int32)), .val (.ref b8), .val (.ref b20)] [(.ref b20)])) rfl (by rw [hml]; rfl) (Steps.refl _) (argsL := []) (rest := []) (lenOf pd_8 rfl) rfl (by show 2 * 0 + _ ≤ _; exact Nat.le_of_eq rfl) (hb hby at_144) (fun _ _ => ⟨rfl, rfl, (by decide : 3 + 0 ≤ _), (by decide : 9 + 0 ≤ _)⟩)
  dsimp only [Pt.U, Pt.locs, Pt.cells, Pt.slots] at X30 l30 y30 z30 st30 hQ30
  subst l30 y30 z30
  obtain ⟨rfl, N30q, eq30⟩ := hQ30
  have N30 := Fr.app N22 N30q
  obtain ⟨fs, hr, hrun, hended, hW, hsame⟩ := X30.leave (v := some (.int (1 : Int32))) (fun h => by rw [Bd.returns] at h; cases h)
  refine ⟨_, _, pre0 _ ?_, hrun, hended, _, _, rfl, ?_, ⟨_, rfl⟩, hW, hsame.mono (by decide) (by decide)⟩
  · show Stp p e below s₁ m 0 #[.val (.long pl1), .second, .val (.int pi2), .val (.int pi3), .val (.int pi4), .val (.int pi5), .val (.int pi6), .unset, .unset, .unset, .unset, .unset] [] _
    refine XS.iloadN X0.here hx rfl (hb hby at_0) rfl ?_
    show Stp p e below s₁ m 1 #[.val (.long pl1), .second, .val (.int pi2), .val (.int pi3), .val (.int pi4), .val (.int pi5), .val (.int pi6), .unset, .unset, .unset, .unset, .unset] [(.int pi2)] _
    refine XS.iconst X0.here hx rfl (hb hby at_1) ?_
    show Stp p e below s₁ m 2 #[.val (.long pl1), .second, .val (.int pi2), .val (.int pi3), .val (.int pi4), .val (.int pi5), .val (.int pi6), .unset, .unset, .unset, .unset, .unset] [(.int (3 : Int32)), (.int pi2)] _
    refine XS.iand X0.here hx rfl (hb hby at_2) rfl ?_
    show Stp p e below s₁ m 3 #[.val (.long pl1), .second, .val (.int pi2), .val (.int pi3), .val (.int pi4), .val (.int pi5), .val (.int pi6), .unset, .unset, .unset, .unset, .unset] [(.int (pi2 &&& (3 : Int32)))] _
    refine XS.istore X0.here hx rfl (hb hby at_3) rfl (l' := #[.val (.long pl1), .second, .val (.int pi2), .val (.int pi3), .val (.int pi4), .val (.int pi5), .val (.int pi6), .val (.int (pi2 &&& (3 : Int32))), .unset, .unset, .unset, .unset]) rfl ?_
    show Stp p e below s₁ m 5 #[.val (.long pl1), .second, .val (.int pi2), .val (.int pi3), .val (.int pi4), .val (.int pi5), .val (.int pi6), .val (.int (pi2 &&& (3 : Int32))), .unset, .unset, .unset, .unset] [] _
    rw [show (pi2 &&& (3 : Int32)) = (3 : Int32) from own_n3 hc3_0 hc3_1 hc3_2]
    show Stp p e below s₁ m 5 #[.val (.long pl1), .second, .val (.int pi2), .val (.int pi3), .val (.int pi4), .val (.int pi5), .val (.int pi6), .val (.int (3 : Int32)), .unset, .unset, .unset, .unset] [] _
    refine XS.iload X0.here hx rfl (hb hby at_5) rfl ?_
    show Stp p e below s₁ m 7 #[.val (.long pl1), .second, .val (.int pi2), .val (.int pi3), .val (.int pi4), .val (.int pi5), .val (.int pi6), .val (.int (3 : Int32)), .unset, .unset, .unset, .unset] [(.int (3 : Int32))] _
    refine st1 _ ?_
    show Stp p e below T1 m 9 #[.val (.long pl1), .second, .val (.int pi2), .val (.int pi3), .val (.int pi4), .val (.int pi5), .val (.int pi6), .val (.int (3 : Int32)), .unset, .unset, .unset, .unset] [(.ref b1)] _
    refine XS.astore X1.here hx rfl (hb hby at_9) rfl rfl (l' := #[.val (.long pl1), .second, .val (.int pi2), .val (.int pi3), .val (.int pi4), .val (.int pi5), .val (.int pi6), .val (.int (3 : Int32)), .val (.ref b1), .unset, .unset, .unset]) rfl ?_
    show Stp p e below T1 m 11 #[.val (.long pl1), .second, .val (.int pi2), .val (.int pi3), .val (.int pi4), .val (.int pi5), .val (.int pi6), .val (.int (3 : Int32)), .val (.ref b1), .unset, .unset, .unset] [] _
    refine XS.iload X1.here hx rfl (hb hby at_11) rfl ?_
    show Stp p e below T1 m 13 #[.val (.long pl1), .second, .val (.int pi2), .val (.int pi3), .val (.int pi4), .val (.int pi5), .val (.int pi6), .val (.int (3 : Int32)), .val (.ref b1), .unset, .unset, .unset] [(.int (3 : Int32))] _
    refine XS.ifNo X1.here hx rfl (hb hby at_13) rfl ((if0 _ _).trans (tlt (by decide : (0 : Int32) < (3 : Int32))).2.2.2) ?_
    show Stp p e below T1 m 16 #[.val (.long pl1), .second, .val (.int pi2), .val (.int pi3), .val (.int pi4), .val (.int pi5), .val (.int pi6), .val (.int (3 : Int32)), .val (.ref b1), .unset, .unset, .unset] [] _
    refine XS.aload X1.here hx rfl (hb hby at_16) rfl rfl ?_
    show Stp p e below T1 m 18 #[.val (.long pl1), .second, .val (.int pi2), .val (.int pi3), .val (.int pi4), .val (.int pi5), .val (.int pi6), .val (.int (3 : Int32)), .val (.ref b1), .unset, .unset, .unset] [(.ref b1)] _
    refine XS.iconst X1.here hx rfl (hb hby at_18) ?_
    show Stp p e below T1 m 19 #[.val (.long pl1), .second, .val (.int pi2), .val (.int pi3), .val (.int pi4), .val (.int pi5), .val (.int pi6), .val (.int (3 : Int32)), .val (.ref b1), .unset, .unset, .unset] [(.int (0 : Int32)), (.ref b1)] _
    refine XS.iload X1.here hx rfl (hb hby at_19) rfl ?_
    show Stp p e below T1 m 21 #[.val (.long pl1), .second, .val (.int pi2), .val (.int pi3), .val (.int pi4), .val (.int pi5), .val (.int pi6), .val (.int (3 : Int32)), .val (.ref b1), .unset, .unset, .unset] [(.int pi4), (.int (0 : Int32)), (.ref b1)] _
    refine XS.i2b X1.here hx rfl (hb hby at_21) rfl ?_
    show Stp p e below T1 m 22 #[.val (.long pl1), .second, .val (.int pi2), .val (.int pi3), .val (.int pi4), .val (.int pi5), .val (.int pi6), .val (.int (3 : Int32)), .val (.ref b1), .unset, .unset, .unset] [(.int (pi4.toInt8.toInt32)), (.int (0 : Int32)), (.ref b1)] _
    refine st3 _ ?_
    show Stp p e below T3 m 23 #[.val (.long pl1), .second, .val (.int pi2), .val (.int pi3), .val (.int pi4), .val (.int pi5), .val (.int pi6), .val (.int (3 : Int32)), .val (.ref b1), .unset, .unset, .unset] [] _
    refine XS.iload X3.here hx rfl (hb hby at_23) rfl ?_
    show Stp p e below T3 m 25 #[.val (.long pl1), .second, .val (.int pi2), .val (.int pi3), .val (.int pi4), .val (.int pi5), .val (.int pi6), .val (.int (3 : Int32)), .val (.ref b1), .unset, .unset, .unset] [(.int (3 : Int32))] _
    refine XS.iconst X3.here hx rfl (hb hby at_25) ?_
    show Stp p e below T3 m 26 #[.val (.long pl1), .second, .val (.int pi2), .val (.int pi3), .val (.int pi4), .val (.int pi5), .val (.int pi6), .val (.int (3 : Int32)), .val (.ref b1), .unset, .unset, .unset] [(.int (1 : Int32)), (.int (3 : Int32))] _
    refine XS.icmpNo X3.here hx rfl (hb hby at_26) rfl (tlt (by decide : (1 : Int32) < (3 : Int32))).2.2.2 ?_
    show Stp p e below T3 m 29 #[.val (.long pl1), .second, .val (.int pi2), .val (.int pi3), .val (.int pi4), .val (.int pi5), .val (.int pi6), .val (.int (3 : Int32)), .val (.ref b1), .unset, .unset, .unset] [] _
    refine XS.aload X3.here hx rfl (hb hby at_29) rfl rfl ?_
    show Stp p e below T3 m 31 #[.val (.long pl1), .second, .val (.int pi2), .val (.int pi3), .val (.int pi4), .val (.int pi5), .val (.int pi6), .val (.int (3 : Int32)), .val (.ref b1), .unset, .unset, .unset] [(.ref b1)] _
    refine XS.iconst X3.here hx rfl (hb hby at_31) ?_
    show Stp p e below T3 m 32 #[.val (.long pl1), .second, .val (.int pi2), .val (.int pi3), .val (.int pi4), .val (.int pi5), .val (.int pi6), .val (.int (3 : Int32)), .val (.ref b1), .unset, .unset, .unset] [(.int (1 : Int32)), (.ref b1)] _
    refine XS.iload X3.here hx rfl (hb hby at_32) rfl ?_
    show Stp p e below T3 m 34 #[.val (.long pl1), .second, .val (.int pi2), .val (.int pi3), .val (.int pi4), .val (.int pi5), .val (.int pi6), .val (.int (3 : Int32)), .val (.ref b1), .unset, .unset, .unset] [(.int pi5), (.int (1 : Int32)), (.ref b1)] _
    refine XS.i2b X3.here hx rfl (hb hby at_34) rfl ?_
    show Stp p e below T3 m 35 #[.val (.long pl1), .second, .val (.int pi2), .val (.int pi3), .val (.int pi4), .val (.int pi5), .val (.int pi6), .val (.int (3 : Int32)), .val (.ref b1), .unset, .unset, .unset] [(.int (pi5.toInt8.toInt32)), (.int (1 : Int32)), (.ref b1)] _
    refine st5 _ ?_
    show Stp p e below T5 m 36 #[.val (.long pl1), .second, .val (.int pi2), .val (.int pi3), .val (.int pi4), .val (.int pi5), .val (.int pi6), .val (.int (3 : Int32)), .val (.ref b1), .unset, .unset, .unset] [] _
    refine XS.iload X5.here hx rfl (hb hby at_36) rfl ?_
    show Stp p e below T5 m 38 #[.val (.long pl1), .second, .val (.int pi2), .val (.int pi3), .val (.int pi4), .val (.int pi5), .val (.int pi6), .val (.int (3 : Int32)), .val (.ref b1), .unset, .unset, .unset] [(.int (3 : Int32))] _
    refine XS.iconst X5.here hx rfl (hb hby at_38) ?_
    show Stp p e below T5 m 39 #[.val (.long pl1), .second, .val (.int pi2), .val (.int pi3), .val (.int pi4), .val (.int pi5), .val (.int pi6), .val (.int (3 : Int32)), .val (.ref b1), .unset, .unset, .unset] [(.int (2 : Int32)), (.int (3 : Int32))] _
    refine XS.icmpNo X5.here hx rfl (hb hby at_39) rfl (tlt (by decide : (2 : Int32) < (3 : Int32))).2.2.2 ?_
    show Stp p e below T5 m 42 #[.val (.long pl1), .second, .val (.int pi2), .val (.int pi3), .val (.int pi4), .val (.int pi5), .val (.int pi6), .val (.int (3 : Int32)), .val (.ref b1), .unset, .unset, .unset] [] _
    refine XS.aload X5.here hx rfl (hb hby at_42) rfl rfl ?_
    show Stp p e below T5 m 44 #[.val (.long pl1), .second, .val (.int pi2), .val (.int pi3), .val (.int pi4), .val (.int pi5), .val (.int pi6), .val (.int (3 : Int32)), .val (.ref b1), .unset, .unset, .unset] [(.ref b1)] _
    refine XS.iconst X5.here hx rfl (hb hby at_44) ?_
    show Stp p e below T5 m 45 #[.val (.long pl1), .second, .val (.int pi2), .val (.int pi3), .val (.int pi4), .val (.int pi5), .val (.int pi6), .val (.int (3 : Int32)), .val (.ref b1), .unset, .unset, .unset] [(.int (2 : Int32)), (.ref b1)] _
    refine XS.iload X5.here hx rfl (hb hby at_45) rfl ?_
    show Stp p e below T5 m 47 #[.val (.long pl1), .second, .val (.int pi2), .val (.int pi3), .val (.int pi4), .val (.int pi5), .val (.int pi6), .val (.int (3 : Int32)), .val (.ref b1), .unset, .unset, .unset] [(.int pi6), (.int (2 : Int32)), (.ref b1)] _
    refine XS.i2b X5.here hx rfl (hb hby at_47) rfl ?_
    show Stp p e below T5 m 48 #[.val (.long pl1), .second, .val (.int pi2), .val (.int pi3), .val (.int pi4), .val (.int pi5), .val (.int pi6), .val (.int (3 : Int32)), .val (.ref b1), .unset, .unset, .unset] [(.int (pi6.toInt8.toInt32)), (.int (2 : Int32)), (.ref b1)] _
    refine st7 _ ?_
    show Stp p e below T7 m 49 #[.val (.long pl1), .second, .val (.int pi2), .val (.int pi3), .val (.int pi4), .val (.int pi5), .val (.int pi6), .val (.int (3 : Int32)), .val (.ref b1), .unset, .unset, .unset] [] _
    refine XS.iloadN X7.here hx rfl (hb hby at_49) rfl ?_
    show Stp p e below T7 m 50 #[.val (.long pl1), .second, .val (.int pi2), .val (.int pi3), .val (.int pi4), .val (.int pi5), .val (.int pi6), .val (.int (3 : Int32)), .val (.ref b1), .unset, .unset, .unset] [(.int pi3)] _
    refine XS.iconst X7.here hx rfl (hb hby at_50) ?_
    show Stp p e below T7 m 51 #[.val (.long pl1), .second, .val (.int pi2), .val (.int pi3), .val (.int pi4), .val (.int pi5), .val (.int pi6), .val (.int (3 : Int32)), .val (.ref b1), .unset, .unset, .unset] [(.int (3 : Int32)), (.int pi3)] _
    refine XS.iand X7.here hx rfl (hb hby at_51) rfl ?_
    show Stp p e below T7 m 52 #[.val (.long pl1), .second, .val (.int pi2), .val (.int pi3), .val (.int pi4), .val (.int pi5), .val (.int pi6), .val (.int (3 : Int32)), .val (.ref b1), .unset, .unset, .unset] [(.int (pi3 &&& (3 : Int32)))] _
    refine XS.istore X7.here hx rfl (hb hby at_52) rfl (l' := #[.val (.long pl1), .second, .val (.int pi2), .val (.int pi3), .val (.int pi4), .val (.int pi5), .val (.int pi6), .val (.int (3 : Int32)), .val (.ref b1), .val (.int (pi3 &&& (3 : Int32))), .unset, .unset]) rfl ?_
    show Stp p e below T7 m 54 #[.val (.long pl1), .second, .val (.int pi2), .val (.int pi3), .val (.int pi4), .val (.int pi5), .val (.int pi6), .val (.int (3 : Int32)), .val (.ref b1), .val (.int (pi3 &&& (3 : Int32))), .unset, .unset] [] _
    rw [show (pi3 &&& (3 : Int32)) = (0 : Int32) from hc52_3]
    show Stp p e below T7 m 54 #[.val (.long pl1), .second, .val (.int pi2), .val (.int pi3), .val (.int pi4), .val (.int pi5), .val (.int pi6), .val (.int (3 : Int32)), .val (.ref b1), .val (.int (0 : Int32)), .unset, .unset] [] _
    refine st8 _ ?_
    show Stp p e below T8 m 57 #[.val (.long pl1), .second, .val (.int pi2), .val (.int pi3), .val (.int pi4), .val (.int pi5), .val (.int pi6), .val (.int (3 : Int32)), .val (.ref b1), .val (.int (0 : Int32)), .unset, .unset] [(.ref b8)] _
    refine XS.dup X8.here hx rfl (hb hby at_57) rfl rfl ?_
    show Stp p e below T8 m 58 #[.val (.long pl1), .second, .val (.int pi2), .val (.int pi3), .val (.int pi4), .val (.int pi5), .val (.int pi6), .val (.int (3 : Int32)), .val (.ref b1), .val (.int (0 : Int32)), .unset, .unset] [(.ref b8), (.ref b8)] _
    refine st13.trans ?_
    show Stp p e below T13 m 61 #[.val (.long pl1), .second, .val (.int pi2), .val (.int pi3), .val (.int pi4), .val (.int pi5), .val (.int pi6), .val (.int (3 : Int32)), .val (.ref b1), .val (.int (0 : Int32)), .unset, .unset] [(.ref b8)] _
    refine XS.astore X13.here hx rfl (hb hby at_61) rfl rfl (l' := #[.val (.long pl1), .second, .val (.int pi2), .val (.int pi3), .val (.int pi4), .val (.int pi5), .val (.int pi6), .val (.int (3 : Int32)), .val (.ref b1), .val (.int (0 : Int32)), .val (.ref b8), .unset]) rfl ?_
    show Stp p e below T13 m 63 #[.val (.long pl1), .second, .val (.int pi2), .val (.int pi3), .val (.int pi4), .val (.int pi5), .val (.int pi6), .val (.int (3 : Int32)), .val (.ref b1), .val (.int (0 : Int32)), .val (.ref b8), .unset] [] _
    refine XS.iload X13.here hx rfl (hb hby at_63) rfl ?_
    show Stp p e below T13 m 65 #[.val (.long pl1), .second, .val (.int pi2), .val (.int pi3), .val (.int pi4), .val (.int pi5), .val (.int pi6), .val (.int (3 : Int32)), .val (.ref b1), .val (.int (0 : Int32)), .val (.ref b8), .unset] [(.int (0 : Int32))] _
    refine XS.ifYes X13.here hx rfl (pc0 := 65) (pc' := 84) rfl (hb hby at_65) rfl ((if0 _ _).trans (flt (by simp : ¬ ((0 : Int32) < (0 : Int32)))).2.2.2) (by decide) (by decide) ?_
    show Stp p e below T13 m 84 #[.val (.long pl1), .second, .val (.int pi2), .val (.int pi3), .val (.int pi4), .val (.int pi5), .val (.int pi6), .val (.int (3 : Int32)), .val (.ref b1), .val (.int (0 : Int32)), .val (.ref b8), .unset] [] _
    refine XS.iload X13.here hx rfl (hb hby at_84) rfl ?_
    show Stp p e below T13 m 86 #[.val (.long pl1), .second, .val (.int pi2), .val (.int pi3), .val (.int pi4), .val (.int pi5), .val (.int pi6), .val (.int (3 : Int32)), .val (.ref b1), .val (.int (0 : Int32)), .val (.ref b8), .unset] [(.int (0 : Int32))] _
    refine XS.iconst X13.here hx rfl (hb hby at_86) ?_
    show Stp p e below T13 m 87 #[.val (.long pl1), .second, .val (.int pi2), .val (.int pi3), .val (.int pi4), .val (.int pi5), .val (.int pi6), .val (.int (3 : Int32)), .val (.ref b1), .val (.int (0 : Int32)), .val (.ref b8), .unset] [(.int (1 : Int32)), (.int (0 : Int32))] _
    refine XS.icmpYes X13.here hx rfl (pc0 := 87) (pc' := 106) rfl (hb hby at_87) rfl (flt (by decide : ¬ ((1 : Int32) < (0 : Int32)))).2.2.2 (by decide) (by decide) ?_
    show Stp p e below T13 m 106 #[.val (.long pl1), .second, .val (.int pi2), .val (.int pi3), .val (.int pi4), .val (.int pi5), .val (.int pi6), .val (.int (3 : Int32)), .val (.ref b1), .val (.int (0 : Int32)), .val (.ref b8), .unset] [] _
    refine XS.iload X13.here hx rfl (hb hby at_106) rfl ?_
    show Stp p e below T13 m 108 #[.val (.long pl1), .second, .val (.int pi2), .val (.int pi3), .val (.int pi4), .val (.int pi5), .val (.int pi6), .val (.int (3 : Int32)), .val (.ref b1), .val (.int (0 : Int32)), .val (.ref b8), .unset] [(.int (0 : Int32))] _
    refine XS.iconst X13.here hx rfl (hb hby at_108) ?_
    show Stp p e below T13 m 109 #[.val (.long pl1), .second, .val (.int pi2), .val (.int pi3), .val (.int pi4), .val (.int pi5), .val (.int pi6), .val (.int (3 : Int32)), .val (.ref b1), .val (.int (0 : Int32)), .val (.ref b8), .unset] [(.int (2 : Int32)), (.int (0 : Int32))] _
    refine XS.icmpYes X13.here hx rfl (pc0 := 109) (pc' := 128) rfl (hb hby at_109) rfl (flt (by decide : ¬ ((2 : Int32) < (0 : Int32)))).2.2.2 (by decide) (by decide) ?_
    show Stp p e below T13 m 128 #[.val (.long pl1), .second, .val (.int pi2), .val (.int pi3), .val (.int pi4), .val (.int pi5), .val (.int pi6), .val (.int (3 : Int32)), .val (.ref b1), .val (.int (0 : Int32)), .val (.ref b8), .unset] [] _
    refine st20 _ ?_
    show Stp p e below T20 m 131 #[.val (.long pl1), .second, .val (.int pi2), .val (.int pi3), .val (.int pi4), .val (.int pi5), .val (.int pi6), .val (.int (3 : Int32)), .val (.ref b1), .val (.int (0 : Int32)), .val (.ref b8), .unset] [(.ref b20)] _
    refine XS.dup X20.here hx rfl (hb hby at_131) rfl rfl ?_
    show Stp p e below T20 m 132 #[.val (.long pl1), .second, .val (.int pi2), .val (.int pi3), .val (.int pi4), .val (.int pi5), .val (.int pi6), .val (.int (3 : Int32)), .val (.ref b1), .val (.int (0 : Int32)), .val (.ref b8), .unset] [(.ref b20), (.ref b20)] _
    refine XS.lloadN X20.here hx rfl (hb hby at_132) rfl ?_
    show Stp p e below T20 m 133 #[.val (.long pl1), .second, .val (.int pi2), .val (.int pi3), .val (.int pi4), .val (.int pi5), .val (.int pi6), .val (.int (3 : Int32)), .val (.ref b1), .val (.int (0 : Int32)), .val (.ref b8), .unset] [(.long pl1), (.ref b20), (.ref b20)] _
    refine XS.aload X20.here hx rfl (hb hby at_133) rfl rfl ?_
    show Stp p e below T20 m 135 #[.val (.long pl1), .second, .val (.int pi2), .val (.int pi3), .val (.int pi4), .val (.int pi5), .val (.int pi6), .val (.int (3 : Int32)), .val (.ref b1), .val (.int (0 : Int32)), .val (.ref b8), .unset] [(.ref b1), (.long pl1), (.ref b20), (.ref b20)] _
    refine XS.aload X20.here hx rfl (hb hby at_135) rfl rfl ?_
    show Stp p e below T20 m 137 #[.val (.long pl1), .second, .val (.int pi2), .val (.int pi3), .val (.int pi4), .val (.int pi5), .val (.int pi6), .val (.int (3 : Int32)), .val (.ref b1), .val (.int (0 : Int32)), .val (.ref b8), .unset] [(.ref b8), (.ref b1), (.long pl1), (.ref b20), (.ref b20)] _
    refine st22.trans ?_
    show Stp p e below T22 m 140 #[.val (.long pl1), .second, .val (.int pi2), .val (.int pi3), .val (.int pi4), .val (.int pi5), .val (.int pi6), .val (.int (3 : Int32)), .val (.ref b1), .val (.int (0 : Int32)), .val (.ref b8), .unset] [(.ref b20)] _
    refine XS.astore X22.here hx rfl (hb hby at_140) rfl rfl (l' := #[.val (.long pl1), .second, .val (.int pi2), .val (.int pi3), .val (.int pi4), .val (.int pi5), .val (.int pi6), .val (.int (3 : Int32)), .val (.ref b1), .val (.int (0 : Int32)), .val (.ref b8), .val (.ref b20)]) rfl ?_
    show Stp p e below T22 m 142 #[.val (.long pl1), .second, .val (.int pi2), .val (.int pi3), .val (.int pi4), .val (.int pi5), .val (.int pi6), .val (.int (3 : Int32)), .val (.ref b1), .val (.int (0 : Int32)), .val (.ref b8), .val (.ref b20)] [] _
    refine XS.aload X22.here hx rfl (hb hby at_142) rfl rfl ?_
    show Stp p e below T22 m 144 #[.val (.long pl1), .second, .val (.int pi2), .val (.int pi3), .val (.int pi4), .val (.int pi5), .val (.int pi6), .val (.int (3 : Int32)), .val (.ref b1), .val (.int (0 : Int32)), .val (.ref b8), .val (.ref b20)] [(.ref b20)] _
    refine st30.trans ?_
    show Stp p e below T30 m 147 #[.val (.long pl1), .second, .val (.int pi2), .val (.int pi3), .val (.int pi4), .val (.int pi5), .val (.int pi6), .val (.int (3 : Int32)), .val (.ref b1), .val (.int (0 : Int32)), .val (.ref b8), .val (.ref b20)] [(.int (0 : Int32))] _
    refine XS.iload X30.here hx rfl (hb hby at_147) rfl ?_
    show Stp p e below T30 m 149 #[.val (.long pl1), .second, .val (.int pi2), .val (.int pi3), .val (.int pi4), .val (.int pi5), .val (.int pi6), .val (.int (3 : Int32)), .val (.ref b1), .val (.int (0 : Int32)), .val (.ref b8), .val (.ref b20)] [(.int (3 : Int32)), (.int (0 : Int32))] _
    refine XS.ifYes X30.here hx rfl (pc0 := 149) (pc' := 156) rfl (hb hby at_149) rfl ((if0 _ _).trans (feq (by decide : ¬ ((3 : Int32) = (0 : Int32)))).2) (by decide) (by decide) ?_
    show Stp p e below T30 m 156 #[.val (.long pl1), .second, .val (.int pi2), .val (.int pi3), .val (.int pi4), .val (.int pi5), .val (.int pi6), .val (.int (3 : Int32)), .val (.ref b1), .val (.int (0 : Int32)), .val (.ref b8), .val (.ref b20)] [(.int (0 : Int32))] _
    refine XS.iconst X30.here hx rfl (hb hby at_156) ?_
    show Stp p e below T30 m 157 #[.val (.long pl1), .second, .val (.int pi2), .val (.int pi3), .val (.int pi4), .val (.int pi5), .val (.int pi6), .val (.int (3 : Int32)), .val (.ref b1), .val (.int (0 : Int32)), .val (.ref b8), .val (.ref b20)] [(.int (0 : Int32)), (.int (0 : Int32))] _
    refine XS.icmpNo X30.here hx rfl (hb hby at_157) rfl (teq (rfl : (0 : Int32) = (0 : Int32))).2 ?_
    show Stp p e below T30 m 160 #[.val (.long pl1), .second, .val (.int pi2), .val (.int pi3), .val (.int pi4), .val (.int pi5), .val (.int pi6), .val (.int (3 : Int32)), .val (.ref b1), .val (.int (0 : Int32)), .val (.ref b8), .val (.ref b20)] [] _
    refine XS.iconst X30.here hx rfl (hb hby at_160) ?_
    show Stp p e below T30 m 161 #[.val (.long pl1), .second, .val (.int pi2), .val (.int pi3), .val (.int pi4), .val (.int pi5), .val (.int pi6), .val (.int (3 : Int32)), .val (.ref b1), .val (.int (0 : Int32)), .val (.ref b8), .val (.ref b20)] [(.int (1 : Int32))] _
    refine XS.goto X30.here hx rfl (pc0 := 161) (pc' := 165) rfl (hb hby at_161) (by decide) (by decide) ?_
    show Stp p e below T30 m 165 #[.val (.long pl1), .second, .val (.int pi2), .val (.int pi3), .val (.int pi4), .val (.int pi5), .val (.int pi6), .val (.int (3 : Int32)), .val (.ref b1), .val (.int (0 : Int32)), .val (.ref b8), .val (.ref b20)] [(.int (1 : Int32))] _
    exact retN X30 hx (t := .boolean) Bd.returns (by simp) (hb hby at_165) hr
  · exact ⟨rfl, N30⟩
set_option maxRecDepth 65536 in
set_option maxHeartbeats 40000000 in
theorem rm0_fffft (l : Launch) (Z : State) (a0 : Array Value) (hw : ∀ d ∈ tables_1, d.before a0 Z = true) (ws : List Jvm.Cond) (pl1 : Int64) (pi2 : Int32) (pi3 : Int32) (pi4 : Int32) (pi5 : Int32) (pi6 : Int32) (w_DEF : Addr) (kk_w_DEF : ClassId) (h0 : Heap) (n0 : Nat) (Z0 : n0 ≤ h0.size) (O0 : Old Z n0 h0) (S_DEFAULTCAPACITY_EMPTY_ELEMENTDATA : Sta Z Z.heap "java/util/ArrayList" "DEFAULTCAPACITY_EMPTY_ELEMENTDATA" "[Ljava/lang/Object;" (.ref w_DEF)) (V_w_DEF : Arv Z Z.heap w_DEF kk_w_DEF (.object "java/lang/Object") (0 : Int32) [] .null) (hc3_0 : ¬ ((pi2 &&& (3 : Int32)) = (0 : Int32))) (hc3_1 : ¬ ((pi2 &&& (3 : Int32)) = (1 : Int32))) (hc3_2 : ¬ ((pi2 &&& (3 : Int32)) = (2 : Int32))) (hc52_3 : ¬ ((pi3 &&& (3 : Int32)) = (0 : Int32))) (hc52_4 : (pi3 &&& (3 : Int32)) = (1 : Int32)) :
    MetFree l x (head1 (Jvm.Cond.code x code maxLocals ret :: ws) room_1) (fun a U => a = #[(.long pl1), (.int pi2), (.int pi3), (.int pi4), (.int pi5), (.int pi6)] ∧ Z.Warmed39 U.vm ∧ U.heap = h0) (fun _ _ _ _ _ => True) (fun _ U o U' => ∃ v L, o = .returned v ∧ Q0 v L n0 ∧ FrameEnd U o U' L room_1.cells room_1.slots) := by
  refine MetFree.of_bodySF (plainFor_of_name pn_0) hisR ?_
  intro p e s m args below meth c s₁ Bd hml0 hP hK
  obtain ⟨rfl, hZ, hh⟩ := hP
  have hx := Bd.exec
  have hby := Bd.bytes
  have hml : c.maxLocals = 12 := hml0
  have hown : s.vm.findClass "com/example/shardwright/shardwright/cli/RowIsBlankPinLaw" = some m.cls := findClass_of_methodNamed Bd.named
  have hnm := (name_of_methodNamed Bd.named Bd.method).1
  have X0 : Stand p l e room_1 s m #[(.long pl1), (.int pi2), (.int pi3), (.int pi4), (.int pi5), (.int pi6)] below meth c s₁ [] 0 0 := Stand.of_body Bd
  have e0 : s₁.heap = h0 := by rw [← hh, Bd.state]; rfl
  have N0 := Fr.nil n0
  have pre0 : ∀ t, Steps p.tables e below (s₁.setTop (mkF m 0 #[.val (.long pl1), .second, .val (.int pi2), .val (.int pi3), .val (.int pi4), .val (.int pi5), .val (.int pi6), .unset, .unset, .unset, .unset, .unset] [])) t → Steps p.tables e below (s₁.setTop (entryFrame m #[(.long pl1), (.int pi2), (.int pi3), (.int pi4), (.int pi5), (.int pi6)] maxLocals)) t := fun t k => castTop (ef_0 m pl1 pi2 pi3 pi4 pi5 pi6) k
  obtain ⟨T1, h1, k1, X1, e1, E1, A1, st1⟩ := newP X0 hx hZ (own_W hw 0 rfl) e0 (g := (mkF m 7 #[.val (.long pl1), .second, .val (.int pi2), .val (.int pi3), .val (.int pi4), .val (.int pi5), .val (.int pi6), .val (.int (3 : Int32)), .unset, .unset, .unset, .unset] [(.int (3 : Int32))])) rfl (hb hby at_7) rfl (by decide) (cap := 3) (by decide) (by decide) (by decide) (by decide)
  obtain ⟨b1, g1⟩ : ∃ z, z = h0.size := ⟨_, rfl⟩
  rw [← g1] at A1 st1
  have V1 : Arv Z h1 b1 k1 .byte (3 : Int32) [(.int (0 : Int32)), (.int (0 : Int32)), (.int (0 : Int32))] (.int (0 : Int32)) := (Arv.new A1 (by decide)).pad (pad_rep [] (.int (0 : Int32)) 3)
  have g_b1 : n0 ≤ b1 := Nat.le_trans Z0 (Nat.le_of_eq g1.symm)
  have V_c2 := V1
  obtain ⟨c2, Arc2, qc2, Sc2, Nc2, Hc2, Gc2⟩ := V_c2
  have hin3 : ¬ ((0 : Int32) < 0 ∨ c2.slots.size ≤ ((0 : Int32)).toNatClampNeg) := inb_of Sc2 ⟨by decide, by decide⟩
  obtain ⟨T3, h3, X3, e3, W3, st3⟩ := stB X1 hx hZ e1 Arc2 (j := (0 : Int32)) hin3 (g := (mkF m 22 #[.val (.long pl1), .second, .val (.int pi2), .val (.int pi3), .val (.int pi4), .val (.int pi5), .val (.int pi6), .val (.int (3 : Int32)), .val (.ref b1), .unset, .unset, .unset] [(.int (pi4.toInt8.toInt32)), (.int (0 : Int32)), (.ref b1)])) rfl rfl (hb hby at_22)
  have V3 : Arv Z h3 b1 k1 .byte (3 : Int32) [(.int (nar .byte (pi4.toInt8.toInt32))), (.int (0 : Int32)), (.int (0 : Int32))] (.int (0 : Int32)) := Arv.set Arc2 qc2 Sc2 Nc2 Hc2 Gc2 (fits_nar_byte _) W3 0 rfl (Nat.le_of_ble_eq_true rfl)
  have N3 := Fr.snoc X3 N0 g_b1
  have V_c4 := V3
  obtain ⟨c4, Arc4, qc4, Sc4, Nc4, Hc4, Gc4⟩ := V_c4
  have hin5 : ¬ ((1 : Int32) < 0 ∨ c4.slots.size ≤ ((1 : Int32)).toNatClampNeg) := inb_of Sc4 ⟨by decide, by decide⟩
  obtain ⟨T5, h5, X5, e5, W5, st5⟩ := stB X3 hx hZ e3 Arc4 (j := (1 : Int32)) hin5 (g := (mkF m 35 #[.val (.long pl1), .second, .val (.int pi2), .val (.int pi3), .val (.int pi4), .val (.int pi5), .val (.int pi6), .val (.int (3 : Int32)), .val (.ref b1), .unset, .unset, .unset] [(.int (pi5.toInt8.toInt32)), (.int (1 : Int32)), (.ref b1)])) rfl rfl (hb hby at_35)
  have V5 : Arv Z h5 b1 k1 .byte (3 : Int32) [(.int (nar .byte (pi4.toInt8.toInt32))), (.int (nar .byte (pi5.toInt8.toInt32))), (.int (0 : Int32))] (.int (0 : Int32)) := Arv.set Arc4 qc4 Sc4 Nc4 Hc4 Gc4 (fits_nar_byte _) W5 1 rfl (Nat.le_of_ble_eq_true rfl)
  have N5 := Fr.snoc X5 N3 g_b1
  have V_c6 := V5
  obtain ⟨c6, Arc6, qc6, Sc6, Nc6, Hc6, Gc6⟩ := V_c6
  have hin7 : ¬ ((2 : Int32) < 0 ∨ c6.slots.size ≤ ((2 : Int32)).toNatClampNeg) := inb_of Sc6 ⟨by decide, by decide⟩
  obtain ⟨T7, h7, X7, e7, W7, st7⟩ := stB X5 hx hZ e5 Arc6 (j := (2 : Int32)) hin7 (g := (mkF m 48 #[.val (.long pl1), .second, .val (.int pi2), .val (.int pi3), .val (.int pi4), .val (.int pi5), .val (.int pi6), .val (.int (3 : Int32)), .val (.ref b1), .unset, .unset, .unset] [(.int (pi6.toInt8.toInt32)), (.int (2 : Int32)), (.ref b1)])) rfl rfl (hb hby at_48)
  have V7 : Arv Z h7 b1 k1 .byte (3 : Int32) [(.int (nar .byte (pi4.toInt8.toInt32))), (.int (nar .byte (pi5.toInt8.toInt32))), (.int (nar .byte (pi6.toInt8.toInt32)))] (.int (0 : Int32)) := Arv.set Arc6 qc6 Sc6 Nc6 Hc6 Gc6 (fits_nar_byte _) W7 2 rfl (Nat.le_of_ble_eq_true rfl)
  have N7 := Fr.snoc X7 N5 g_b1
  obtain ⟨T8, h8, X8, e8, E8, A8, D8, -, st8⟩ := newO X7 hx hZ hown (own_W hw 1 rfl) (own_W hw 2 rfl) (own_W hw 3 rfl) e7 (g := (mkF m 54 #[.val (.long pl1), .second, .val (.int pi2), .val (.int pi3), .val (.int pi4), .val (.int pi5), .val (.int pi6), .val (.int (3 : Int32)), .val (.ref b1), .val (.int (1 : Int32)), .unset, .unset] [])) rfl (hb hby at_54) (by decide) (by decide)
  obtain ⟨b8, g8⟩ : ∃ z, z = h7.size := ⟨_, rfl⟩
  rw [← g8] at A8 D8 st8
  have F_modCount_b8 : Fld Z h8 b8 "java/util/AbstractList" "modCount" "I" (.int (0 : Int32)) := D8 (Or.inl (own_W hw 23 rfl)) (ty := .int) (by decide)
  have F_elementData_b8 : Fld Z h8 b8 "java/util/ArrayList" "elementData" "[Ljava/lang/Object;" .null := D8 (Or.inl (own_W hw 26 rfl)) (ty := (.array (.object "java/lang/Object"))) (by decide)
  have F_size_b8 : Fld Z h8 b8 "java/util/ArrayList" "size" "I" (.int (0 : Int32)) := D8 (Or.inl (own_W hw 43 rfl)) (ty := .int) (by decide)
  have z9 := Nat.le_trans Z0 E1.1
  have z10 := Nat.le_trans z9 (Keep.of_wr W3).1
  have z11 := Nat.le_trans z10 (Keep.of_wr W5).1
  have z12 := Nat.le_trans z11 (Keep.of_wr W7).1
  have g_b8 : n0 ≤ b8 := Nat.le_trans z12 (Nat.le_of_eq g8.symm)
  have z14 := Nat.le_trans z12 E8.1
  have o15 := O0.ext E1
  have o16 := o15.wr W3 g_b1
  have o17 := o16.wr W5 g_b1
  have o18 := o17.wr W7 g_b1
  have o19 := o18.ext E8
  obtain ⟨_, _, ⟨T13, L13, k13, n13⟩, -, X13, ⟨Lc13, hQ13, l13, y13, z13⟩, st13⟩ := X8.specialBack hx (y := (⟨"java/util/ArrayList", "<init>", "()V"⟩ : MethodName)) rfl hown (mvT hZ (own_W hw 4 rfl)) (mvT hZ (own_W hw 5 rfl)) (mvT hZ (own_W hw 6 rfl)) (by decide) (backOf (W := 1) (rm1 l Z a0 hw [] b8 w_DEF (.int (0 : Int32)) .null (.int (0 : Int32)) h8 n0 z14 o19 A8 S_DEFAULTCAPACITY_EMPTY_ELEMENTDATA F_modCount_b8 F_elementData_b8 F_size_b8 g_b8) hZ (own_W hw 6 rfl) (own_W hw 3 rfl) (by decide) (by decide)) (g := (mkF m 58 #[.val (.long pl1), .second, .val (.int pi2), .val (.int pi3), .val (.int pi4), .val (.int pi5), .val (.int pi6), .val (.int (3 : Int32)), .val (.ref b1), .val (.int (1 : Int32)), .unset, .unset] [(.ref b8), (.ref b8)])) rfl (by rw [hml]; rfl) (Steps.refl _) (a := b8) (argsL := []) (rest := [(.ref b8)]) (lenOf pd_0 rfl) rfl (by show 2 * 0 + _ ≤ _; exact Nat.le_of_eq rfl) (hb hby at_58) (fun _ _ => ⟨rfl, e8, (by decide : 2 + 0 ≤ _), (by decide : 6 + 0 ≤ _)⟩)
  dsimp only [Pt.U, Pt.locs, Pt.cells, Pt.slots] at X13 l13 y13 z13 st13 hQ13
  subst l13 y13 z13
  obtain ⟨rfl, N13q, K13, qf13_0, qf13_1, qf13_2, qf13_3⟩ := hQ13
  have N13 := Fr.app N7 N13q
  have z21 := Nat.le_trans z14 K13.1
  have o22 := o19.keep K13 (allS g_b8 all0)
  obtain ⟨_, _, ⟨T20, L20, k20, n20⟩, -, X20, ⟨Lc20, hQ20, l20, y20, z20⟩, st20⟩ := Jvm.LawKit.callS X13 hx (y := (⟨"com/example/shardwright/shardwright/cli/RowIsBlankPinLaw", "field", "(II)[B"⟩ : MethodName)) hown (mvT hZ (own_W hw 27 rfl)) (mvT hZ (own_W hw 28 rfl)) (mvT hZ (own_W hw 29 rfl)) (mvT hZ (own_W hw 30 rfl)) (by decide) (backOf (W := 1) (rm5 l Z a0 hw [] ((pi3.toUInt32 >>> ((2 : Int32) &&& 31).toUInt32).toInt32) pi4 T13.heap n0 z21 o22 ) hZ (own_W hw 30 rfl) (own_W hw 29 rfl) (by decide) (by decide)) (g := (mkF m 75 #[.val (.long pl1), .second, .val (.int pi2), .val (.int pi3), .val (.int pi4), .val (.int pi5), .val (.int pi6), .val (.int (3 : Int32)), .val (.ref b1), .val (.int (1 : Int32)), .val (.ref b8), .unset] [(.int pi4), (.int ((pi3.toUInt32 >>> ((2 : Int32) &&& 31).toUInt32).toInt32)), (.ref b8)])) rfl (by rw [hml]; rfl) (argsL := [(.int ((pi3.toUInt32 >>> ((2 : Int32) &&& 31).toUInt32).toInt32)), (.int pi4)]) (rest := [(.ref b8)]) (lenOf pd_1 rfl) rfl (by show 2 * 0 + _ ≤ _; exact Nat.le_of_eq rfl) (hb hby at_75) (fun _ _ => ⟨rfl, rfl, (by decide : 2 + 1 ≤ _), (by decide : 6 + 1 ≤ _)⟩)
  dsimp only [Pt.U, Pt.locs, Pt.cells, Pt.slots] at X20 l20 y20 z20 st20 hQ20
  subst l20 y20 z20
  obtain ⟨b20, rfl, N20q, K20, qf20_0, qf20_1⟩ := hQ20
  have N20 := Fr.app N13 N20q
  have f23 := qf13_0.keep K20
  have f24 := qf13_1.keep K20 nin0
  have f25 := qf13_2.keep K20 nin0
  have f26 := qf13_3.keep K20 nin0
  have z28 := Nat.le_trans z21 K20.1
  have o29 := o22.keep K20 all0
  obtain ⟨cq27, kq27, q27a, q27b, q27c⟩ := isOf hZ rfl f23
  obtain ⟨_, _, ⟨T27, L27, k27, n27⟩, -, X27, ⟨Lc27, hQ27, l27, y27, z27⟩, st27⟩ := X20.interfaceBack hx (xi := (⟨"java/util/List", "add", "(Ljava/lang/Object;)Z"⟩ : MethodName)) (y := (⟨"java/util/ArrayList", "add", "(Ljava/lang/Object;)Z"⟩ : MethodName)) hown (mvT hZ (own_W hw 31 rfl)) (mvT hZ (own_W hw 32 rfl)) (mvT hZ (own_W hw 33 rfl)) (mvT hZ (own_W hw 34 rfl)) (mvT hZ (own_W hw 35 rfl)) (mvT hZ (own_W hw 36 rfl)) (mvT hZ (own_W hw 37 rfl)) (mvT hZ (own_W hw 38 rfl)) (by decide) (backOf (W := 0) (rm6_0 l Z a0 hw [] b8 b20 w_DEF kk_w_DEF (0 : Int32) T20.heap n0 z28 o29 f23 qf20_1 S_DEFAULTCAPACITY_EMPTY_ELEMENTDATA V_w_DEF f24 f25 f26 g_b8) hZ (own_W hw 39 rfl) (own_W hw 3 rfl) (by decide) (by decide)) q27a q27b q27c (g := (mkF m 78 #[.val (.long pl1), .second, .val (.int pi2), .val (.int pi3), .val (.int pi4), .val (.int pi5), .val (.int pi6), .val (.int (3 : Int32)), .val (.ref b1), .val (.int (1 : Int32)), .val (.ref b8), .unset] [(.ref b20), (.ref b8)])) rfl (by rw [hml]; rfl) (Steps.refl _) (argsL := [(.ref b20)]) (rest := []) (lenOf pd_2 rfl) rfl (by show 2 * 0 + _ ≤ _; exact Nat.le_of_eq rfl) (hb hby at_78) (fun _ _ => ⟨rfl, rfl, (by decide : 3 + 1 ≤ _), (by decide : 7 + 10 ≤ _)⟩)
  dsimp only [Pt.U, Pt.locs, Pt.cells, Pt.slots] at X27 l27 y27 z27 st27 hQ27
  subst l27 y27 z27
  obtain ⟨b27, b27_1, rfl, N27q, K27, qf27_0, qf27_1, qf27_2, qf27_3, qf27_4, qf27_5, qf27_6⟩ := hQ27
  have N27 := Fr.app N20 N27q
  obtain ⟨T30, h30, X30, e30, E30, A30, D30, -, st30⟩ := newO X27 hx hZ hown (own_W hw 66 rfl) (own_W hw 67 rfl) (own_W hw 68 rfl) rfl (g := (mkF m 128 #[.val (.long pl1), .second, .val (.int pi2), .val (.int pi3), .val (.int pi4), .val (.int pi5), .val (.int pi6), .val (.int (3 : Int32)), .val (.ref b1), .val (.int (1 : Int32)), .val (.ref b8), .unset] [])) rfl (hb hby at_128) (by decide) (by decide)
  obtain ⟨b30, g30⟩ : ∃ z, z = T27.heap.size := ⟨_, rfl⟩
  rw [← g30] at A30 D30 st30
  have F_line_b30 : Fld Z h30 b30 "com/example/shardwright/shardwright/cli/CsvReader$Row" "line" "J" (.long (0 : Int64)) := D30 (Or.inr (own_W hw 79 rfl)) (ty := .long) (by decide)
  have F_text_b30 : Fld Z h30 b30 "com/example/shardwright/shardwright/cli/CsvReader$Row" "text" "[B" .null := D30 (Or.inr (own_W hw 81 rfl)) (ty := (.array .byte)) (by decide)
  have F_fields_b30 : Fld Z h30 b30 "com/example/shardwright/shardwright/cli/CsvReader$Row" "fields" "Ljava/util/List;" .null := D30 (Or.inr (own_W hw 83 rfl)) (ty := (.object "java/util/List")) (by decide)
  have z31 := Nat.le_trans z28 K27.1
  have g_b30 : n0 ≤ b30 := Nat.le_trans z31 (Nat.le_of_eq g30.symm)
  have z33 := Nat.le_trans z31 E30.1
  have o34 := o29.keep K27 (allS g_b8 all0)
  have o35 := o34.ext E30
  obtain ⟨_, _, ⟨T32, L32, k32, n32⟩, -, X32, ⟨Lc32, hQ32, l32, y32, z32⟩, st32⟩ := X30.specialBack hx (y := (⟨"com/example/shardwright/shardwright/cli/CsvReader$Row", "<init>", "(J[BLjava/util/List;)V"⟩ : MethodName)) rfl hown (mvT hZ (own_W hw 69 rfl)) (mvT hZ (own_W hw 70 rfl)) (mvT hZ (own_W hw 71 rfl)) (by decide) (backOf (W := 1) (rm11 l Z a0 hw [] b30 pl1 b1 b8 (.long (0 : Int64)) .null .null h30 n0 z33 o35 A30 F_line_b30 g_b30 F_text_b30 F_fields_b30) hZ (own_W hw 71 rfl) (own_W hw 68 rfl) (by decide) (by decide)) (g := (mkF m 137 #[.val (.long pl1), .second, .val (.int pi2), .val (.int pi3), .val (.int pi4), .val (.int pi5), .val (.int pi6), .val (.int (3 : Int32)), .val (.ref b1), .val (.int (1 : Int32)), .val (.ref b8), .unset] [(.ref b8), (.ref b1), (.long pl1), (.ref b30), (.ref b30)])) rfl (by rw [hml]; rfl) (Steps.refl _) (a := b30) (argsL := [(.long pl1), (.ref b1), (.ref b8)]) (rest := [(.ref b30)]) (lenOf pd_7 rfl) rfl (by show 2 * 0 + _ ≤ _; exact Nat.le_of_eq rfl) (hb hby at_137) (fun _ _ => ⟨rfl, e30, (by decide : 5 + 0 ≤ _), (by decide : 20 + 0 ≤ _)⟩)
  dsimp only [Pt.U, Pt.locs, Pt.cells, Pt.slots] at X32 l32 y32 z32 st32 hQ32
  subst l32 y32 z32
  obtain ⟨rfl, N32q, K32, qf32_0, qf32_1, qf32_2, qf32_3⟩ := hQ32
  have N32 := Fr.app N27 N32q
  have f36 := V7.ext E8
  have f37 := f36.keep K13 (ninS (Nat.ne_of_lt (Nat.lt_of_lt_of_le V7.lt (Nat.le_of_eq g8.symm))) nin0)
  have f38 := f37.keep K20 nin0
  have f39 := f38.keep K27 (ninS (Nat.ne_of_lt (Nat.lt_of_lt_of_le V7.lt (Nat.le_of_eq g8.symm))) nin0)
  have f40 := f39.ext E30
  have f41 := f40.keep K32 (ninS (Nat.ne_of_lt (Nat.lt_of_lt_of_le f39.lt (Nat.le_of_eq g30.symm))) nin0)
  have z43 := Nat.le_trans z33 K32.1
  have o44 := o35.keep K32 (allS g_b30 all0)
  obtain ⟨cq42, kq42, q42a, q42b, q42c⟩ := isOf hZ rfl qf32_0
  obtain ⟨_, _, ⟨T42, L42, k42, n42⟩, -, X42, ⟨Lc42, hQ42, l42, y42, z42⟩, st42⟩ := X32.virtualBack hx (y := (⟨"com/example/shardwright/shardwright/cli/CsvReader$Row", "isBlank", "()Z"⟩ : MethodName)) (z := (⟨"com/example/shardwright/shardwright/cli/CsvReader$Row", "isBlank", "()Z"⟩ : MethodName)) hown (mvT hZ (own_W hw 84 rfl)) (mvT hZ (own_W hw 85 rfl)) (notFace_of_selects (args := #[]) (mvT hZ (own_W hw 87 rfl))) (mvT hZ (own_W hw 87 rfl)) (mvT hZ (own_W hw 86 rfl)) (by decide) (backOf (W := 0) (rm13_3 l Z a0 hw [] b30 b1 k1 (nar .byte (pi4.toInt8.toInt32)) (nar .byte (pi5.toInt8.toInt32)) (nar .byte (pi6.toInt8.toInt32)) T32.heap n0 z43 o44 qf32_2 f41) hZ (own_W hw 88 rfl) (own_W hw 68 rfl) (by decide) (by decide)) q42a q42c (g := (mkF m 144 #[.val (.long pl1), .second, .val (.int pi2), .val (.int pi3), .val (.int pi4), .val (.int pi5), .val (.int pi6), .val (.int (3 : Int32)), .val (.ref b1), .val (.int (1 : Int32)), .val (.ref b8), .val (.ref b30)] [(.ref b30)])) rfl (by rw [hml]; rfl) (Steps.refl _) (argsL := []) (rest := []) (lenOf pd_8 rfl) rfl (by show 2 * 0 + _ ≤ _; exact Nat.le_of_eq rfl) (hb hby at_144) (fun _ _ => ⟨rfl, rfl, (by decide : 5 + 0 ≤ _), (by decide : 20 + 0 ≤ _)⟩)
  dsimp only [Pt.U, Pt.locs, Pt.cells, Pt.slots] at X42 l42 y42 z42 st42 hQ42
  subst l42 y42 z42
  obtain ⟨rfl, N42q, eq42⟩ := hQ42
  have N42 := Fr.app N32 N42q
  obtain ⟨fs, hr, hrun, hended, hW, hsame⟩ := X42.leave (v := some (.int (1 : Int32))) (fun h => by rw [Bd.returns] at h; cases h)
  refine ⟨_, _, pre0 _ ?_, hrun, hended, _, _, rfl, ?_, ⟨_, rfl⟩, hW, hsame.mono (by decide) (by decide)⟩
  · show Stp p e below s₁ m 0 #[.val (.long pl1), .second, .val (.int pi2), .val (.int pi3), .val (.int pi4), .val (.int pi5), .val (.int pi6), .unset, .unset, .unset, .unset, .unset] [] _
    refine XS.iloadN X0.here hx rfl (hb hby at_0) rfl ?_
    show Stp p e below s₁ m 1 #[.val (.long pl1), .second, .val (.int pi2), .val (.int pi3), .val (.int pi4), .val (.int pi5), .val (.int pi6), .unset, .unset, .unset, .unset, .unset] [(.int pi2)] _
    refine XS.iconst X0.here hx rfl (hb hby at_1) ?_
    show Stp p e below s₁ m 2 #[.val (.long pl1), .second, .val (.int pi2), .val (.int pi3), .val (.int pi4), .val (.int pi5), .val (.int pi6), .unset, .unset, .unset, .unset, .unset] [(.int (3 : Int32)), (.int pi2)] _
    refine XS.iand X0.here hx rfl (hb hby at_2) rfl ?_
    show Stp p e below s₁ m 3 #[.val (.long pl1), .second, .val (.int pi2), .val (.int pi3), .val (.int pi4), .val (.int pi5), .val (.int pi6), .unset, .unset, .unset, .unset, .unset] [(.int (pi2 &&& (3 : Int32)))] _
    refine XS.istore X0.here hx rfl (hb hby at_3) rfl (l' := #[.val (.long pl1), .second, .val (.int pi2), .val (.int pi3), .val (.int pi4), .val (.int pi5), .val (.int pi6), .val (.int (pi2 &&& (3 : Int32))), .unset, .unset, .unset, .unset]) rfl ?_
    show Stp p e below s₁ m 5 #[.val (.long pl1), .second, .val (.int pi2), .val (.int pi3), .val (.int pi4), .val (.int pi5), .val (.int pi6), .val (.int (pi2 &&& (3 : Int32))), .unset, .unset, .unset, .unset] [] _
    rw [show (pi2 &&& (3 : Int32)) = (3 : Int32) from own_n3 hc3_0 hc3_1 hc3_2]
    show Stp p e below s₁ m 5 #[.val (.long pl1), .second, .val (.int pi2), .val (.int pi3), .val (.int pi4), .val (.int pi5), .val (.int pi6), .val (.int (3 : Int32)), .unset, .unset, .unset, .unset] [] _
    refine XS.iload X0.here hx rfl (hb hby at_5) rfl ?_
    show Stp p e below s₁ m 7 #[.val (.long pl1), .second, .val (.int pi2), .val (.int pi3), .val (.int pi4), .val (.int pi5), .val (.int pi6), .val (.int (3 : Int32)), .unset, .unset, .unset, .unset] [(.int (3 : Int32))] _
    refine st1 _ ?_
    show Stp p e below T1 m 9 #[.val (.long pl1), .second, .val (.int pi2), .val (.int pi3), .val (.int pi4), .val (.int pi5), .val (.int pi6), .val (.int (3 : Int32)), .unset, .unset, .unset, .unset] [(.ref b1)] _
    refine XS.astore X1.here hx rfl (hb hby at_9) rfl rfl (l' := #[.val (.long pl1), .second, .val (.int pi2), .val (.int pi3), .val (.int pi4), .val (.int pi5), .val (.int pi6), .val (.int (3 : Int32)), .val (.ref b1), .unset, .unset, .unset]) rfl ?_
    show Stp p e below T1 m 11 #[.val (.long pl1), .second, .val (.int pi2), .val (.int pi3), .val (.int pi4), .val (.int pi5), .val (.int pi6), .val (.int (3 : Int32)), .val (.ref b1), .unset, .unset, .unset] [] _
    refine XS.iload X1.here hx rfl (hb hby at_11) rfl ?_
    show Stp p e below T1 m 13 #[.val (.long pl1), .second, .val (.int pi2), .val (.int pi3), .val (.int pi4), .val (.int pi5), .val (.int pi6), .val (.int (3 : Int32)), .val (.ref b1), .unset, .unset, .unset] [(.int (3 : Int32))] _
    refine XS.ifNo X1.here hx rfl (hb hby at_13) rfl ((if0 _ _).trans (tlt (by decide : (0 : Int32) < (3 : Int32))).2.2.2) ?_
    show Stp p e below T1 m 16 #[.val (.long pl1), .second, .val (.int pi2), .val (.int pi3), .val (.int pi4), .val (.int pi5), .val (.int pi6), .val (.int (3 : Int32)), .val (.ref b1), .unset, .unset, .unset] [] _
    refine XS.aload X1.here hx rfl (hb hby at_16) rfl rfl ?_
    show Stp p e below T1 m 18 #[.val (.long pl1), .second, .val (.int pi2), .val (.int pi3), .val (.int pi4), .val (.int pi5), .val (.int pi6), .val (.int (3 : Int32)), .val (.ref b1), .unset, .unset, .unset] [(.ref b1)] _
    refine XS.iconst X1.here hx rfl (hb hby at_18) ?_
    show Stp p e below T1 m 19 #[.val (.long pl1), .second, .val (.int pi2), .val (.int pi3), .val (.int pi4), .val (.int pi5), .val (.int pi6), .val (.int (3 : Int32)), .val (.ref b1), .unset, .unset, .unset] [(.int (0 : Int32)), (.ref b1)] _
    refine XS.iload X1.here hx rfl (hb hby at_19) rfl ?_
    show Stp p e below T1 m 21 #[.val (.long pl1), .second, .val (.int pi2), .val (.int pi3), .val (.int pi4), .val (.int pi5), .val (.int pi6), .val (.int (3 : Int32)), .val (.ref b1), .unset, .unset, .unset] [(.int pi4), (.int (0 : Int32)), (.ref b1)] _
    refine XS.i2b X1.here hx rfl (hb hby at_21) rfl ?_
    show Stp p e below T1 m 22 #[.val (.long pl1), .second, .val (.int pi2), .val (.int pi3), .val (.int pi4), .val (.int pi5), .val (.int pi6), .val (.int (3 : Int32)), .val (.ref b1), .unset, .unset, .unset] [(.int (pi4.toInt8.toInt32)), (.int (0 : Int32)), (.ref b1)] _
    refine st3 _ ?_
    show Stp p e below T3 m 23 #[.val (.long pl1), .second, .val (.int pi2), .val (.int pi3), .val (.int pi4), .val (.int pi5), .val (.int pi6), .val (.int (3 : Int32)), .val (.ref b1), .unset, .unset, .unset] [] _
    refine XS.iload X3.here hx rfl (hb hby at_23) rfl ?_
    show Stp p e below T3 m 25 #[.val (.long pl1), .second, .val (.int pi2), .val (.int pi3), .val (.int pi4), .val (.int pi5), .val (.int pi6), .val (.int (3 : Int32)), .val (.ref b1), .unset, .unset, .unset] [(.int (3 : Int32))] _
    refine XS.iconst X3.here hx rfl (hb hby at_25) ?_
    show Stp p e below T3 m 26 #[.val (.long pl1), .second, .val (.int pi2), .val (.int pi3), .val (.int pi4), .val (.int pi5), .val (.int pi6), .val (.int (3 : Int32)), .val (.ref b1), .unset, .unset, .unset] [(.int (1 : Int32)), (.int (3 : Int32))] _
    refine XS.icmpNo X3.here hx rfl (hb hby at_26) rfl (tlt (by decide : (1 : Int32) < (3 : Int32))).2.2.2 ?_
    show Stp p e below T3 m 29 #[.val (.long pl1), .second, .val (.int pi2), .val (.int pi3), .val (.int pi4), .val (.int pi5), .val (.int pi6), .val (.int (3 : Int32)), .val (.ref b1), .unset, .unset, .unset] [] _
    refine XS.aload X3.here hx rfl (hb hby at_29) rfl rfl ?_
    show Stp p e below T3 m 31 #[.val (.long pl1), .second, .val (.int pi2), .val (.int pi3), .val (.int pi4), .val (.int pi5), .val (.int pi6), .val (.int (3 : Int32)), .val (.ref b1), .unset, .unset, .unset] [(.ref b1)] _
    refine XS.iconst X3.here hx rfl (hb hby at_31) ?_
    show Stp p e below T3 m 32 #[.val (.long pl1), .second, .val (.int pi2), .val (.int pi3), .val (.int pi4), .val (.int pi5), .val (.int pi6), .val (.int (3 : Int32)), .val (.ref b1), .unset, .unset, .unset] [(.int (1 : Int32)), (.ref b1)] _
    refine XS.iload X3.here hx rfl (hb hby at_32) rfl ?_
    show Stp p e below T3 m 34 #[.val (.long pl1), .second, .val (.int pi2), .val (.int pi3), .val (.int pi4), .val (.int pi5), .val (.int pi6), .val (.int (3 : Int32)), .val (.ref b1), .unset, .unset, .unset] [(.int pi5), (.int (1 : Int32)), (.ref b1)] _
    refine XS.i2b X3.here hx rfl (hb hby at_34) rfl ?_
    show Stp p e below T3 m 35 #[.val (.long pl1), .second, .val (.int pi2), .val (.int pi3), .val (.int pi4), .val (.int pi5), .val (.int pi6), .val (.int (3 : Int32)), .val (.ref b1), .unset, .unset, .unset] [(.int (pi5.toInt8.toInt32)), (.int (1 : Int32)), (.ref b1)] _
    refine st5 _ ?_
    show Stp p e below T5 m 36 #[.val (.long pl1), .second, .val (.int pi2), .val (.int pi3), .val (.int pi4), .val (.int pi5), .val (.int pi6), .val (.int (3 : Int32)), .val (.ref b1), .unset, .unset, .unset] [] _
    refine XS.iload X5.here hx rfl (hb hby at_36) rfl ?_
    show Stp p e below T5 m 38 #[.val (.long pl1), .second, .val (.int pi2), .val (.int pi3), .val (.int pi4), .val (.int pi5), .val (.int pi6), .val (.int (3 : Int32)), .val (.ref b1), .unset, .unset, .unset] [(.int (3 : Int32))] _
    refine XS.iconst X5.here hx rfl (hb hby at_38) ?_
    show Stp p e below T5 m 39 #[.val (.long pl1), .second, .val (.int pi2), .val (.int pi3), .val (.int pi4), .val (.int pi5), .val (.int pi6), .val (.int (3 : Int32)), .val (.ref b1), .unset, .unset, .unset] [(.int (2 : Int32)), (.int (3 : Int32))] _
    refine XS.icmpNo X5.here hx rfl (hb hby at_39) rfl (tlt (by decide : (2 : Int32) < (3 : Int32))).2.2.2 ?_
    show Stp p e below T5 m 42 #[.val (.long pl1), .second, .val (.int pi2), .val (.int pi3), .val (.int pi4), .val (.int pi5), .val (.int pi6), .val (.int (3 : Int32)), .val (.ref b1), .unset, .unset, .unset] [] _
    refine XS.aload X5.here hx rfl (hb hby at_42) rfl rfl ?_
    show Stp p e below T5 m 44 #[.val (.long pl1), .second, .val (.int pi2), .val (.int pi3), .val (.int pi4), .val (.int pi5), .val (.int pi6), .val (.int (3 : Int32)), .val (.ref b1), .unset, .unset, .unset] [(.ref b1)] _
    refine XS.iconst X5.here hx rfl (hb hby at_44) ?_
    show Stp p e below T5 m 45 #[.val (.long pl1), .second, .val (.int pi2), .val (.int pi3), .val (.int pi4), .val (.int pi5), .val (.int pi6), .val (.int (3 : Int32)), .val (.ref b1), .unset, .unset, .unset] [(.int (2 : Int32)), (.ref b1)] _
    refine XS.iload X5.here hx rfl (hb hby at_45) rfl ?_
    show Stp p e below T5 m 47 #[.val (.long pl1), .second, .val (.int pi2), .val (.int pi3), .val (.int pi4), .val (.int pi5), .val (.int pi6), .val (.int (3 : Int32)), .val (.ref b1), .unset, .unset, .unset] [(.int pi6), (.int (2 : Int32)), (.ref b1)] _
    refine XS.i2b X5.here hx rfl (hb hby at_47) rfl ?_
    show Stp p e below T5 m 48 #[.val (.long pl1), .second, .val (.int pi2), .val (.int pi3), .val (.int pi4), .val (.int pi5), .val (.int pi6), .val (.int (3 : Int32)), .val (.ref b1), .unset, .unset, .unset] [(.int (pi6.toInt8.toInt32)), (.int (2 : Int32)), (.ref b1)] _
    refine st7 _ ?_
    show Stp p e below T7 m 49 #[.val (.long pl1), .second, .val (.int pi2), .val (.int pi3), .val (.int pi4), .val (.int pi5), .val (.int pi6), .val (.int (3 : Int32)), .val (.ref b1), .unset, .unset, .unset] [] _
    refine XS.iloadN X7.here hx rfl (hb hby at_49) rfl ?_
    show Stp p e below T7 m 50 #[.val (.long pl1), .second, .val (.int pi2), .val (.int pi3), .val (.int pi4), .val (.int pi5), .val (.int pi6), .val (.int (3 : Int32)), .val (.ref b1), .unset, .unset, .unset] [(.int pi3)] _
    refine XS.iconst X7.here hx rfl (hb hby at_50) ?_
    show Stp p e below T7 m 51 #[.val (.long pl1), .second, .val (.int pi2), .val (.int pi3), .val (.int pi4), .val (.int pi5), .val (.int pi6), .val (.int (3 : Int32)), .val (.ref b1), .unset, .unset, .unset] [(.int (3 : Int32)), (.int pi3)] _
    refine XS.iand X7.here hx rfl (hb hby at_51) rfl ?_
    show Stp p e below T7 m 52 #[.val (.long pl1), .second, .val (.int pi2), .val (.int pi3), .val (.int pi4), .val (.int pi5), .val (.int pi6), .val (.int (3 : Int32)), .val (.ref b1), .unset, .unset, .unset] [(.int (pi3 &&& (3 : Int32)))] _
    refine XS.istore X7.here hx rfl (hb hby at_52) rfl (l' := #[.val (.long pl1), .second, .val (.int pi2), .val (.int pi3), .val (.int pi4), .val (.int pi5), .val (.int pi6), .val (.int (3 : Int32)), .val (.ref b1), .val (.int (pi3 &&& (3 : Int32))), .unset, .unset]) rfl ?_
    show Stp p e below T7 m 54 #[.val (.long pl1), .second, .val (.int pi2), .val (.int pi3), .val (.int pi4), .val (.int pi5), .val (.int pi6), .val (.int (3 : Int32)), .val (.ref b1), .val (.int (pi3 &&& (3 : Int32))), .unset, .unset] [] _
    rw [show (pi3 &&& (3 : Int32)) = (1 : Int32) from hc52_4]
    show Stp p e below T7 m 54 #[.val (.long pl1), .second, .val (.int pi2), .val (.int pi3), .val (.int pi4), .val (.int pi5), .val (.int pi6), .val (.int (3 : Int32)), .val (.ref b1), .val (.int (1 : Int32)), .unset, .unset] [] _
    refine st8 _ ?_
    show Stp p e below T8 m 57 #[.val (.long pl1), .second, .val (.int pi2), .val (.int pi3), .val (.int pi4), .val (.int pi5), .val (.int pi6), .val (.int (3 : Int32)), .val (.ref b1), .val (.int (1 : Int32)), .unset, .unset] [(.ref b8)] _
    refine XS.dup X8.here hx rfl (hb hby at_57) rfl rfl ?_
    show Stp p e below T8 m 58 #[.val (.long pl1), .second, .val (.int pi2), .val (.int pi3), .val (.int pi4), .val (.int pi5), .val (.int pi6), .val (.int (3 : Int32)), .val (.ref b1), .val (.int (1 : Int32)), .unset, .unset] [(.ref b8), (.ref b8)] _
    refine st13.trans ?_
    show Stp p e below T13 m 61 #[.val (.long pl1), .second, .val (.int pi2), .val (.int pi3), .val (.int pi4), .val (.int pi5), .val (.int pi6), .val (.int (3 : Int32)), .val (.ref b1), .val (.int (1 : Int32)), .unset, .unset] [(.ref b8)] _
    refine XS.astore X13.here hx rfl (hb hby at_61) rfl rfl (l' := #[.val (.long pl1), .second, .val (.int pi2), .val (.int pi3), .val (.int pi4), .val (.int pi5), .val (.int pi6), .val (.int (3 : Int32)), .val (.ref b1), .val (.int (1 : Int32)), .val (.ref b8), .unset]) rfl ?_
    show Stp p e below T13 m 63 #[.val (.long pl1), .second, .val (.int pi2), .val (.int pi3), .val (.int pi4), .val (.int pi5), .val (.int pi6), .val (.int (3 : Int32)), .val (.ref b1), .val (.int (1 : Int32)), .val (.ref b8), .unset] [] _
    refine XS.iload X13.here hx rfl (hb hby at_63) rfl ?_
    show Stp p e below T13 m 65 #[.val (.long pl1), .second, .val (.int pi2), .val (.int pi3), .val (.int pi4), .val (.int pi5), .val (.int pi6), .val (.int (3 : Int32)), .val (.ref b1), .val (.int (1 : Int32)), .val (.ref b8), .unset] [(.int (1 : Int32))] _
    refine XS.ifNo X13.here hx rfl (hb hby at_65) rfl ((if0 _ _).trans (tlt (by decide : (0 : Int32) < (1 : Int32))).2.2.2) ?_
    show Stp p e below T13 m 68 #[.val (.long pl1), .second, .val (.int pi2), .val (.int pi3), .val (.int pi4), .val (.int pi5), .val (.int pi6), .val (.int (3 : Int32)), .val (.ref b1), .val (.int (1 : Int32)), .val (.ref b8), .unset] [] _
    refine XS.aload X13.here hx rfl (hb hby at_68) rfl rfl ?_
    show Stp p e below T13 m 70 #[.val (.long pl1), .second, .val (.int pi2), .val (.int pi3), .val (.int pi4), .val (.int pi5), .val (.int pi6), .val (.int (3 : Int32)), .val (.ref b1), .val (.int (1 : Int32)), .val (.ref b8), .unset] [(.ref b8)] _
    refine XS.iloadN X13.here hx rfl (hb hby at_70) rfl ?_
    show Stp p e below T13 m 71 #[.val (.long pl1), .second, .val (.int pi2), .val (.int pi3), .val (.int pi4), .val (.int pi5), .val (.int pi6), .val (.int (3 : Int32)), .val (.ref b1), .val (.int (1 : Int32)), .val (.ref b8), .unset] [(.int pi3), (.ref b8)] _
    refine XS.iconst X13.here hx rfl (hb hby at_71) ?_
    show Stp p e below T13 m 72 #[.val (.long pl1), .second, .val (.int pi2), .val (.int pi3), .val (.int pi4), .val (.int pi5), .val (.int pi6), .val (.int (3 : Int32)), .val (.ref b1), .val (.int (1 : Int32)), .val (.ref b8), .unset] [(.int (2 : Int32)), (.int pi3), (.ref b8)] _
    refine XS.iushr X13.here hx rfl (hb hby at_72) rfl ?_
    show Stp p e below T13 m 73 #[.val (.long pl1), .second, .val (.int pi2), .val (.int pi3), .val (.int pi4), .val (.int pi5), .val (.int pi6), .val (.int (3 : Int32)), .val (.ref b1), .val (.int (1 : Int32)), .val (.ref b8), .unset] [(.int ((pi3.toUInt32 >>> ((2 : Int32) &&& 31).toUInt32).toInt32)), (.ref b8)] _
    refine XS.iload X13.here hx rfl (hb hby at_73) rfl ?_
    show Stp p e below T13 m 75 #[.val (.long pl1), .second, .val (.int pi2), .val (.int pi3), .val (.int pi4), .val (.int pi5), .val (.int pi6), .val (.int (3 : Int32)), .val (.ref b1), .val (.int (1 : Int32)), .val (.ref b8), .unset] [(.int pi4), (.int ((pi3.toUInt32 >>> ((2 : Int32) &&& 31).toUInt32).toInt32)), (.ref b8)] _
    refine st20 _ ?_
    show Stp p e below T20 m 78 #[.val (.long pl1), .second, .val (.int pi2), .val (.int pi3), .val (.int pi4), .val (.int pi5), .val (.int pi6), .val (.int (3 : Int32)), .val (.ref b1), .val (.int (1 : Int32)), .val (.ref b8), .unset] [(.ref b20), (.ref b8)] _
    refine st27.trans ?_
    show Stp p e below T27 m 83 #[.val (.long pl1), .second, .val (.int pi2), .val (.int pi3), .val (.int pi4), .val (.int pi5), .val (.int pi6), .val (.int (3 : Int32)), .val (.ref b1), .val (.int (1 : Int32)), .val (.ref b8), .unset] [(.int (1 : Int32))] _
    refine XS.pop X27.here hx rfl (hb hby at_83) rfl rfl ?_
    show Stp p e below T27 m 84 #[.val (.long pl1), .second, .val (.int pi2), .val (.int pi3), .val (.int pi4), .val (.int pi5), .val (.int pi6), .val (.int (3 : Int32)), .val (.ref b1), .val (.int (1 : Int32)), .val (.ref b8), .unset] [] _
    refine XS.iload X27.here hx rfl (hb hby at_84) rfl ?_
    show Stp p e below T27 m 86 #[.val (.long pl1), .second, .val (.int pi2), .val (.int pi3), .val (.int pi4), .val (.int pi5), .val (.int pi6), .val (.int (3 : Int32)), .val (.ref b1), .val (.int (1 : Int32)), .val (.ref b8), .unset] [(.int (1 : Int32))] _
    refine XS.iconst X27.here hx rfl (hb hby at_86) ?_
    show Stp p e below T27 m 87 #[.val (.long pl1), .second, .val (.int pi2), .val (.int pi3), .val (.int pi4), .val (.int pi5), .val (.int pi6), .val (.int (3 : Int32)), .val (.ref b1), .val (.int (1 : Int32)), .val (.ref b8), .unset] [(.int (1 : Int32)), (.int (1 : Int32))] _
    refine XS.icmpYes X27.here hx rfl (pc0 := 87) (pc' := 106) rfl (hb hby at_87) rfl (flt (by simp : ¬ ((1 : Int32) < (1 : Int32)))).2.2.2 (by decide) (by decide) ?_
    show Stp p e below T27 m 106 #[.val (.long pl1), .second, .val (.int pi2), .val (.int pi3), .val (.int pi4), .val (.int pi5), .val (.int pi6), .val (.int (3 : Int32)), .val (.ref b1), .val (.int (1 : Int32)), .val (.ref b8), .unset] [] _
    refine XS.iload X27.here hx rfl (hb hby at_106) rfl ?_
    show Stp p e below T27 m 108 #[.val (.long pl1), .second, .val (.int pi2), .val (.int pi3), .val (.int pi4), .val (.int pi5), .val (.int pi6), .val (.int (3 : Int32)), .val (.ref b1), .val (.int (1 : Int32)), .val (.ref b8), .unset] [(.int (1 : Int32))] _
    refine XS.iconst X27.here hx rfl (hb hby at_108) ?_
    show Stp p e below T27 m 109 #[.val (.long pl1), .second, .val (.int pi2), .val (.int pi3), .val (.int pi4), .val (.int pi5), .val (.int pi6), .val (.int (3 : Int32)), .val (.ref b1), .val (.int (1 : Int32)), .val (.ref b8), .unset] [(.int (2 : Int32)), (.int (1 : Int32))] _
    refine XS.icmpYes X27.here hx rfl (pc0 := 109) (pc' := 128) rfl (hb hby at_109) rfl (flt (by decide : ¬ ((2 : Int32) < (1 : Int32)))).2.2.2 (by decide) (by decide) ?_
    show Stp p e below T27 m 128 #[.val (.long pl1), .second, .val (.int pi2), .val (.int pi3), .val (.int pi4), .val (.int pi5), .val (.int pi6), .val (.int (3 : Int32)), .val (.ref b1), .val (.int (1 : Int32)), .val (.ref b8), .unset] [] _
    refine st30 _ ?_
    show Stp p e below T30 m 131 #[.val (.long pl1), .second, .val (.int pi2), .val (.int pi3), .val (.int pi4), .val (.int pi5), .val (.int pi6), .val (.int (3 : Int32)), .val (.ref b1), .val (.int (1 : Int32)), .val (.ref b8), .unset] [(.ref b30)] _
    refine XS.dup X30.here hx rfl (hb hby at_131) rfl rfl ?_
    show Stp p e below T30 m 132 #[.val (.long pl1), .second, .val (.int pi2), .val (.int pi3), .val (.int pi4), .val (.int pi5), .val (.int pi6), .val (.int (3 : Int32)), .val (.ref b1), .val (.int (1 : Int32)), .val (.ref b8), .unset] [(.ref b30), (.ref b30)] _
    refine XS.lloadN X30.here hx rfl (hb hby at_132) rfl ?_
    show Stp p e below T30 m 133 #[.val (.long pl1), .second, .val (.int pi2), .val (.int pi3), .val (.int pi4), .val (.int pi5), .val (.int pi6), .val (.int (3 : Int32)), .val (.ref b1), .val (.int (1 : Int32)), .val (.ref b8), .unset] [(.long pl1), (.ref b30), (.ref b30)] _
    refine XS.aload X30.here hx rfl (hb hby at_133) rfl rfl ?_
    show Stp p e below T30 m 135 #[.val (.long pl1), .second, .val (.int pi2), .val (.int pi3), .val (.int pi4), .val (.int pi5), .val (.int pi6), .val (.int (3 : Int32)), .val (.ref b1), .val (.int (1 : Int32)), .val (.ref b8), .unset] [(.ref b1), (.long pl1), (.ref b30), (.ref b30)] _
    refine XS.aload X30.here hx rfl (hb hby at_135) rfl rfl ?_
    show Stp p e below T30 m 137 #[.val (.long pl1), .second, .val (.int pi2), .val (.int pi3), .val (.int pi4), .val (.int pi5), .val (.int pi6), .val (.int (3 : Int32)), .val (.ref b1), .val (.int (1 : Int32)), .val (.ref b8), .unset] [(.ref b8), (.ref b1), (.long pl1), (.ref b30), (.ref b30)] _
    refine st32.trans ?_
    show Stp p e below T32 m 140 #[.val (.long pl1), .second, .val (.int pi2), .val (.int pi3), .val (.int pi4), .val (.int pi5), .val (.int pi6), .val (.int (3 : Int32)), .val (.ref b1), .val (.int (1 : Int32)), .val (.ref b8), .unset] [(.ref b30)] _
    refine XS.astore X32.here hx rfl (hb hby at_140) rfl rfl (l' := #[.val (.long pl1), .second, .val (.int pi2), .val (.int pi3), .val (.int pi4), .val (.int pi5), .val (.int pi6), .val (.int (3 : Int32)), .val (.ref b1), .val (.int (1 : Int32)), .val (.ref b8), .val (.ref b30)]) rfl ?_
    show Stp p e below T32 m 142 #[.val (.long pl1), .second, .val (.int pi2), .val (.int pi3), .val (.int pi4), .val (.int pi5), .val (.int pi6), .val (.int (3 : Int32)), .val (.ref b1), .val (.int (1 : Int32)), .val (.ref b8), .val (.ref b30)] [] _
    refine XS.aload X32.here hx rfl (hb hby at_142) rfl rfl ?_
    show Stp p e below T32 m 144 #[.val (.long pl1), .second, .val (.int pi2), .val (.int pi3), .val (.int pi4), .val (.int pi5), .val (.int pi6), .val (.int (3 : Int32)), .val (.ref b1), .val (.int (1 : Int32)), .val (.ref b8), .val (.ref b30)] [(.ref b30)] _
    refine st42.trans ?_
    show Stp p e below T42 m 147 #[.val (.long pl1), .second, .val (.int pi2), .val (.int pi3), .val (.int pi4), .val (.int pi5), .val (.int pi6), .val (.int (3 : Int32)), .val (.ref b1), .val (.int (1 : Int32)), .val (.ref b8), .val (.ref b30)] [(.int (0 : Int32))] _
    refine XS.iload X42.here hx rfl (hb hby at_147) rfl ?_
    show Stp p e below T42 m 149 #[.val (.long pl1), .second, .val (.int pi2), .val (.int pi3), .val (.int pi4), .val (.int pi5), .val (.int pi6), .val (.int (3 : Int32)), .val (.ref b1), .val (.int (1 : Int32)), .val (.ref b8), .val (.ref b30)] [(.int (3 : Int32)), (.int (0 : Int32))] _
    refine XS.ifYes X42.here hx rfl (pc0 := 149) (pc' := 156) rfl (hb hby at_149) rfl ((if0 _ _).trans (feq (by decide : ¬ ((3 : Int32) = (0 : Int32)))).2) (by decide) (by decide) ?_
    show Stp p e below T42 m 156 #[.val (.long pl1), .second, .val (.int pi2), .val (.int pi3), .val (.int pi4), .val (.int pi5), .val (.int pi6), .val (.int (3 : Int32)), .val (.ref b1), .val (.int (1 : Int32)), .val (.ref b8), .val (.ref b30)] [(.int (0 : Int32))] _
    refine XS.iconst X42.here hx rfl (hb hby at_156) ?_
    show Stp p e below T42 m 157 #[.val (.long pl1), .second, .val (.int pi2), .val (.int pi3), .val (.int pi4), .val (.int pi5), .val (.int pi6), .val (.int (3 : Int32)), .val (.ref b1), .val (.int (1 : Int32)), .val (.ref b8), .val (.ref b30)] [(.int (0 : Int32)), (.int (0 : Int32))] _
    refine XS.icmpNo X42.here hx rfl (hb hby at_157) rfl (teq (rfl : (0 : Int32) = (0 : Int32))).2 ?_
    show Stp p e below T42 m 160 #[.val (.long pl1), .second, .val (.int pi2), .val (.int pi3), .val (.int pi4), .val (.int pi5), .val (.int pi6), .val (.int (3 : Int32)), .val (.ref b1), .val (.int (1 : Int32)), .val (.ref b8), .val (.ref b30)] [] _
    refine XS.iconst X42.here hx rfl (hb hby at_160) ?_
    show Stp p e below T42 m 161 #[.val (.long pl1), .second, .val (.int pi2), .val (.int pi3), .val (.int pi4), .val (.int pi5), .val (.int pi6), .val (.int (3 : Int32)), .val (.ref b1), .val (.int (1 : Int32)), .val (.ref b8), .val (.ref b30)] [(.int (1 : Int32))] _
    refine XS.goto X42.here hx rfl (pc0 := 161) (pc' := 165) rfl (hb hby at_161) (by decide) (by decide) ?_
    show Stp p e below T42 m 165 #[.val (.long pl1), .second, .val (.int pi2), .val (.int pi3), .val (.int pi4), .val (.int pi5), .val (.int pi6), .val (.int (3 : Int32)), .val (.ref b1), .val (.int (1 : Int32)), .val (.ref b8), .val (.ref b30)] [(.int (1 : Int32))] _
    exact retN X42 hx (t := .boolean) Bd.returns (by simp) (hb hby at_165) hr
  · exact ⟨rfl, N42⟩
set_option maxRecDepth 65536 in
set_option maxHeartbeats 40000000 in
theorem rm0_ffffft (l : Launch) (Z : State) (a0 : Array Value) (hw : ∀ d ∈ tables_1, d.before a0 Z = true) (ws : List Jvm.Cond) (pl1 : Int64) (pi2 : Int32) (pi3 : Int32) (pi4 : Int32) (pi5 : Int32) (pi6 : Int32) (w_DEF : Addr) (kk_w_DEF : ClassId) (h0 : Heap) (n0 : Nat) (Z0 : n0 ≤ h0.size) (O0 : Old Z n0 h0) (S_DEFAULTCAPACITY_EMPTY_ELEMENTDATA : Sta Z Z.heap "java/util/ArrayList" "DEFAULTCAPACITY_EMPTY_ELEMENTDATA" "[Ljava/lang/Object;" (.ref w_DEF)) (V_w_DEF : Arv Z Z.heap w_DEF kk_w_DEF (.object "java/lang/Object") (0 : Int32) [] .null) (hc3_0 : ¬ ((pi2 &&& (3 : Int32)) = (0 : Int32))) (hc3_1 : ¬ ((pi2 &&& (3 : Int32)) = (1 : Int32))) (hc3_2 : ¬ ((pi2 &&& (3 : Int32)) = (2 : Int32))) (hc52_3 : ¬ ((pi3 &&& (3 : Int32)) = (0 : Int32))) (hc52_4 : ¬ ((pi3 &&& (3 : Int32)) = (1 : Int32))) (hc52_5 : (pi3 &&& (3 : Int32)) = (2 : Int32)) :
    MetFree l x (head1 (Jvm.Cond.code x code maxLocals ret :: ws) room_1) (fun a U => a = #[(.long pl1), (.int pi2), (.int pi3), (.int pi4), (.int pi5), (.int pi6)] ∧ Z.Warmed39 U.vm ∧ U.heap = h0) (fun _ _ _ _ _ => True) (fun _ U o U' => ∃ v L, o = .returned v ∧ Q0 v L n0 ∧ FrameEnd U o U' L room_1.cells room_1.slots) := by
  refine MetFree.of_bodySF (plainFor_of_name pn_0) hisR ?_
  intro p e s m args below meth c s₁ Bd hml0 hP hK
  obtain ⟨rfl, hZ, hh⟩ := hP
  have hx := Bd.exec
  have hby := Bd.bytes
  have hml : c.maxLocals = 12 := hml0
  have hown : s.vm.findClass "com/example/shardwright/shardwright/cli/RowIsBlankPinLaw" = some m.cls := findClass_of_methodNamed Bd.named
  have hnm := (name_of_methodNamed Bd.named Bd.method).1
  have X0 : Stand p l e room_1 s m #[(.long pl1), (.int pi2), (.int pi3), (.int pi4), (.int pi5), (.int pi6)] below meth c s₁ [] 0 0 := Stand.of_body Bd
  have e0 : s₁.heap = h0 := by rw [← hh, Bd.state]; rfl
  have N0 := Fr.nil n0
  have pre0 : ∀ t, Steps p.tables e below (s₁.setTop (mkF m 0 #[.val (.long pl1), .second, .val (.int pi2), .val (.int pi3), .val (.int pi4), .val (.int pi5), .val (.int pi6), .unset, .unset, .unset, .unset, .unset] [])) t → Steps p.tables e below (s₁.setTop (entryFrame m #[(.long pl1), (.int pi2), (.int pi3), (.int pi4), (.int pi5), (.int pi6)] maxLocals)) t := fun t k => castTop (ef_0 m pl1 pi2 pi3 pi4 pi5 pi6) k
  obtain ⟨T1, h1, k1, X1, e1, E1, A1, st1⟩ := newP X0 hx hZ (own_W hw 0 rfl) e0 (g := (mkF m 7 #[.val (.long pl1), .second, .val (.int pi2), .val (.int pi3), .val (.int pi4), .val (.int pi5), .val (.int pi6), .val (.int (3 : Int32)), .unset, .unset, .unset, .unset] [(.int (3 : Int32))])) rfl (hb hby at_7) rfl (by decide) (cap := 3) (by decide) (by decide) (by decide) (by decide)
  obtain ⟨b1, g1⟩ : ∃ z, z = h0.size := ⟨_, rfl⟩
  rw [← g1] at A1 st1
  have V1 : Arv Z h1 b1 k1 .byte (3 : Int32) [(.int (0 : Int32)), (.int (0 : Int32)), (.int (0 : Int32))] (.int (0 : Int32)) := (Arv.new A1 (by decide)).pad (pad_rep [] (.int (0 : Int32)) 3)
  have g_b1 : n0 ≤ b1 := Nat.le_trans Z0 (Nat.le_of_eq g1.symm)
  have V_c2 := V1
  obtain ⟨c2, Arc2, qc2, Sc2, Nc2, Hc2, Gc2⟩ := V_c2
  have hin3 : ¬ ((0 : Int32) < 0 ∨ c2.slots.size ≤ ((0 : Int32)).toNatClampNeg) := inb_of Sc2 ⟨by decide, by decide⟩
  obtain ⟨T3, h3, X3, e3, W3, st3⟩ := stB X1 hx hZ e1 Arc2 (j := (0 : Int32)) hin3 (g := (mkF m 22 #[.val (.long pl1), .second, .val (.int pi2), .val (.int pi3), .val (.int pi4), .val (.int pi5), .val (.int pi6), .val (.int (3 : Int32)), .val (.ref b1), .unset, .unset, .unset] [(.int (pi4.toInt8.toInt32)), (.int (0 : Int32)), (.ref b1)])) rfl rfl (hb hby at_22)
  have V3 : Arv Z h3 b1 k1 .byte (3 : Int32) [(.int (nar .byte (pi4.toInt8.toInt32))), (.int (0 : Int32)), (.int (0 : Int32))] (.int (0 : Int32)) := Arv.set Arc2 qc2 Sc2 Nc2 Hc2 Gc2 (fits_nar_byte _) W3 0 rfl (Nat.le_of_ble_eq_true rfl)
  have N3 := Fr.snoc X3 N0 g_b1
  have V_c4 := V3
  obtain ⟨c4, Arc4, qc4, Sc4, Nc4, Hc4, Gc4⟩ := V_c4
  have hin5 : ¬ ((1 : Int32) < 0 ∨ c4.slots.size ≤ ((1 : Int32)).toNatClampNeg) := inb_of Sc4 ⟨by decide, by decide⟩
  obtain ⟨T5, h5, X5, e5, W5, st5⟩ := stB X3 hx hZ e3 Arc4 (j := (1 : Int32)) hin5 (g := (mkF m 35 #[.val (.long pl1), .second, .val (.int pi2), .val (.int pi3), .val (.int pi4), .val (.int pi5), .val (.int pi6), .val (.int (3 : Int32)), .val (.ref b1), .unset, .unset, .unset] [(.int (pi5.toInt8.toInt32)), (.int (1 : Int32)), (.ref b1)])) rfl rfl (hb hby at_35)
  have V5 : Arv Z h5 b1 k1 .byte (3 : Int32) [(.int (nar .byte (pi4.toInt8.toInt32))), (.int (nar .byte (pi5.toInt8.toInt32))), (.int (0 : Int32))] (.int (0 : Int32)) := Arv.set Arc4 qc4 Sc4 Nc4 Hc4 Gc4 (fits_nar_byte _) W5 1 rfl (Nat.le_of_ble_eq_true rfl)
  have N5 := Fr.snoc X5 N3 g_b1
  have V_c6 := V5
  obtain ⟨c6, Arc6, qc6, Sc6, Nc6, Hc6, Gc6⟩ := V_c6
  have hin7 : ¬ ((2 : Int32) < 0 ∨ c6.slots.size ≤ ((2 : Int32)).toNatClampNeg) := inb_of Sc6 ⟨by decide, by decide⟩
  obtain ⟨T7, h7, X7, e7, W7, st7⟩ := stB X5 hx hZ e5 Arc6 (j := (2 : Int32)) hin7 (g := (mkF m 48 #[.val (.long pl1), .second, .val (.int pi2), .val (.int pi3), .val (.int pi4), .val (.int pi5), .val (.int pi6), .val (.int (3 : Int32)), .val (.ref b1), .unset, .unset, .unset] [(.int (pi6.toInt8.toInt32)), (.int (2 : Int32)), (.ref b1)])) rfl rfl (hb hby at_48)
  have V7 : Arv Z h7 b1 k1 .byte (3 : Int32) [(.int (nar .byte (pi4.toInt8.toInt32))), (.int (nar .byte (pi5.toInt8.toInt32))), (.int (nar .byte (pi6.toInt8.toInt32)))] (.int (0 : Int32)) := Arv.set Arc6 qc6 Sc6 Nc6 Hc6 Gc6 (fits_nar_byte _) W7 2 rfl (Nat.le_of_ble_eq_true rfl)
  have N7 := Fr.snoc X7 N5 g_b1
  obtain ⟨T8, h8, X8, e8, E8, A8, D8, -, st8⟩ := newO X7 hx hZ hown (own_W hw 1 rfl) (own_W hw 2 rfl) (own_W hw 3 rfl) e7 (g := (mkF m 54 #[.val (.long pl1), .second, .val (.int pi2), .val (.int pi3), .val (.int pi4), .val (.int pi5), .val (.int pi6), .val (.int (3 : Int32)), .val (.ref b1), .val (.int (2 : Int32)), .unset, .unset] [])) rfl (hb hby at_54) (by decide) (by decide)
  obtain ⟨b8, g8⟩ : ∃ z, z = h7.size := ⟨_, rfl⟩
  rw [← g8] at A8 D8 st8
  have F_modCount_b8 : Fld Z h8 b8 "java/util/AbstractList" "modCount" "I" (.int (0 : Int32)) := D8 (Or.inl (own_W hw 23 rfl)) (ty := .int) (by decide)
  have F_elementData_b8 : Fld Z h8 b8 "java/util/ArrayList" "elementData" "[Ljava/lang/Object;" .null := D8 (Or.inl (own_W hw 26 rfl)) (ty := (.array (.object "java/lang/Object"))) (by decide)
  have F_size_b8 : Fld Z h8 b8 "java/util/ArrayList" "size" "I" (.int (0 : Int32)) := D8 (Or.inl (own_W hw 43 rfl)) (ty := .int) (by decide)
  have z9 := Nat.le_trans Z0 E1.1
  have z10 := Nat.le_trans z9 (Keep.of_wr W3).1
  have z11 := Nat.le_trans z10 (Keep.of_wr W5).1
  have z12 := Nat.le_trans z11 (Keep.of_wr W7).1
  have g_b8 : n0 ≤ b8 := Nat.le_trans z12 (Nat.le_of_eq g8.symm)
  have z14 := Nat.le_trans z12 E8.1
  have o15 := O0.ext E1
  have o16 := o15.wr W3 g_b1
  have o17 := o16.wr W5 g_b1
  have o18 := o17.wr W7 g_b1
  have o19 := o18.ext E8
  obtain ⟨_, _, ⟨T13, L13, k13, n13⟩, -, X13, ⟨Lc13, hQ13, l13, y13, z13⟩, st13⟩ := X8.specialBack hx (y := (⟨"java/util/ArrayList", "<init>", "()V"⟩ : MethodName)) rfl hown (mvT hZ (own_W hw 4 rfl)) (mvT hZ (own_W hw 5 rfl)) (mvT hZ (own_W hw 6 rfl)) (by decide) (backOf (W := 1) (rm1 l Z a0 hw [] b8 w_DEF (.int (0 : Int32)) .null (.int (0 : Int32)) h8 n0 z14 o19 A8 S_DEFAULTCAPACITY_EMPTY_ELEMENTDATA F_modCount_b8 F_elementData_b8 F_size_b8 g_b8) hZ (own_W hw 6 rfl) (own_W hw 3 rfl) (by decide) (by decide)) (g := (mkF m 58 #[.val (.long pl1), .second, .val (.int pi2), .val (.int pi3), .val (.int pi4), .val (.int pi5), .val (.int pi6), .val (.int (3 : Int32)), .val (.ref b1), .val (.int (2 : Int32)), .unset, .unset] [(.ref b8), (.ref b8)])) rfl (by rw [hml]; rfl) (Steps.refl _) (a := b8) (argsL := []) (rest := [(.ref b8)]) (lenOf pd_0 rfl) rfl (by show 2 * 0 + _ ≤ _; exact Nat.le_of_eq rfl) (hb hby at_58) (fun _ _ => ⟨rfl, e8, (by decide : 2 + 0 ≤ _), (by decide : 6 + 0 ≤ _)⟩)
  dsimp only [Pt.U, Pt.locs, Pt.cells, Pt.slots] at X13 l13 y13 z13 st13 hQ13
  subst l13 y13 z13
  obtain ⟨rfl, N13q, K13, qf13_0, qf13_1, qf13_2, qf13_3⟩ := hQ13
  have N13 := Fr.app N7 N13q
  have z21 := Nat.le_trans z14 K13.1
  have o22 := o19.keep K13 (allS g_b8 all0)
  obtain ⟨_, _, ⟨T20, L20, k20, n20⟩, -, X20, ⟨Lc20, hQ20, l20, y20, z20⟩, st20⟩ := Jvm.LawKit.callS X13 hx (y := (⟨"com/example/shardwright/shardwright/cli/RowIsBlankPinLaw", "field", "(II)[B"⟩ : MethodName)) hown (mvT hZ (own_W hw 27 rfl)) (mvT hZ (own_W hw 28 rfl)) (mvT hZ (own_W hw 29 rfl)) (mvT hZ (own_W hw 30 rfl)) (by decide) (backOf (W := 1) (rm5 l Z a0 hw [] ((pi3.toUInt32 >>> ((2 : Int32) &&& 31).toUInt32).toInt32) pi4 T13.heap n0 z21 o22 ) hZ (own_W hw 30 rfl) (own_W hw 29 rfl) (by decide) (by decide)) (g := (mkF m 75 #[.val (.long pl1), .second, .val (.int pi2), .val (.int pi3), .val (.int pi4), .val (.int pi5), .val (.int pi6), .val (.int (3 : Int32)), .val (.ref b1), .val (.int (2 : Int32)), .val (.ref b8), .unset] [(.int pi4), (.int ((pi3.toUInt32 >>> ((2 : Int32) &&& 31).toUInt32).toInt32)), (.ref b8)])) rfl (by rw [hml]; rfl) (argsL := [(.int ((pi3.toUInt32 >>> ((2 : Int32) &&& 31).toUInt32).toInt32)), (.int pi4)]) (rest := [(.ref b8)]) (lenOf pd_1 rfl) rfl (by show 2 * 0 + _ ≤ _; exact Nat.le_of_eq rfl) (hb hby at_75) (fun _ _ => ⟨rfl, rfl, (by decide : 2 + 1 ≤ _), (by decide : 6 + 1 ≤ _)⟩)
  dsimp only [Pt.U, Pt.locs, Pt.cells, Pt.slots] at X20 l20 y20 z20 st20 hQ20
  subst l20 y20 z20
  obtain ⟨b20, rfl, N20q, K20, qf20_0, qf20_1⟩ := hQ20
  have N20 := Fr.app N13 N20q
  have f23 := qf13_0.keep K20
  have f24 := qf13_1.keep K20 nin0
  have f25 := qf13_2.keep K20 nin0
  have f26 := qf13_3.keep K20 nin0
  have z28 := Nat.le_trans z21 K20.1
  have o29 := o22.keep K20 all0
  obtain ⟨cq27, kq27, q27a, q27b, q27c⟩ := isOf hZ rfl f23
  obtain ⟨_, _, ⟨T27, L27, k27, n27⟩, -, X27, ⟨Lc27, hQ27, l27, y27, z27⟩, st27⟩ := X20.interfaceBack hx (xi := (⟨"java/util/List", "add", "(Ljava/lang/Object;)Z"⟩ : MethodName)) (y := (⟨"java/util/ArrayList", "add", "(Ljava/lang/Object;)Z"⟩ : MethodName)) hown (mvT hZ (own_W hw 31 rfl)) (mvT hZ (own_W hw 32 rfl)) (mvT hZ (own_W hw 33 rfl)) (mvT hZ (own_W hw 34 rfl)) (mvT hZ (own_W hw 35 rfl)) (mvT hZ (own_W hw 36 rfl)) (mvT hZ (own_W hw 37 rfl)) (mvT hZ (own_W hw 38 rfl)) (by decide) (backOf (W := 0) (rm6_0 l Z a0 hw [] b8 b20 w_DEF kk_w_DEF (0 : Int32) T20.heap n0 z28 o29 f23 qf20_1 S_DEFAULTCAPACITY_EMPTY_ELEMENTDATA V_w_DEF f24 f25 f26 g_b8) hZ (own_W hw 39 rfl) (own_W hw 3 rfl) (by decide) (by decide)) q27a q27b q27c (g := (mkF m 78 #[.val (.long pl1), .second, .val (.int pi2), .val (.int pi3), .val (.int pi4), .val (.int pi5), .val (.int pi6), .val (.int (3 : Int32)), .val (.ref b1), .val (.int (2 : Int32)), .val (.ref b8), .unset] [(.ref b20), (.ref b8)])) rfl (by rw [hml]; rfl) (Steps.refl _) (argsL := [(.ref b20)]) (rest := []) (lenOf pd_2 rfl) rfl (by show 2 * 0 + _ ≤ _; exact Nat.le_of_eq rfl) (hb hby at_78) (fun _ _ => ⟨rfl, rfl, (by decide : 3 + 1 ≤ _), (by decide : 7 + 10 ≤ _)⟩)
  dsimp only [Pt.U, Pt.locs, Pt.cells, Pt.slots] at X27 l27 y27 z27 st27 hQ27
  subst l27 y27 z27
  obtain ⟨b27, b27_1, rfl, N27q, K27, qf27_0, qf27_1, qf27_2, qf27_3, qf27_4, qf27_5, qf27_6⟩ := hQ27
  have N27 := Fr.app N20 N27q
  have z31 := Nat.le_trans z28 K27.1
  have o32 := o29.keep K27 (allS g_b8 all0)
  obtain ⟨_, _, ⟨T30, L30, k30, n30⟩, -, X30, ⟨Lc30, hQ30, l30, y30, z30⟩, st30⟩ := Jvm.LawKit.callS X27 hx (y := (⟨"com/example/shardwright/shardwright/cli/RowIsBlankPinLaw", "field", "(II)[B"⟩ : MethodName)) hown (mvT hZ (own_W hw 27 rfl)) (mvT hZ (own_W hw 28 rfl)) (mvT hZ (own_W hw 29 rfl)) (mvT hZ (own_W hw 30 rfl)) (by decide) (backOf (W := 1) (rm5 l Z a0 hw [] ((pi3.toUInt32 >>> ((3 : Int32) &&& 31).toUInt32).toInt32) pi5 T27.heap n0 z31 o32 ) hZ (own_W hw 30 rfl) (own_W hw 29 rfl) (by decide) (by decide)) (g := (mkF m 97 #[.val (.long pl1), .second, .val (.int pi2), .val (.int pi3), .val (.int pi4), .val (.int pi5), .val (.int pi6), .val (.int (3 : Int32)), .val (.ref b1), .val (.int (2 : Int32)), .val (.ref b8), .unset] [(.int pi5), (.int ((pi3.toUInt32 >>> ((3 : Int32) &&& 31).toUInt32).toInt32)), (.ref b8)])) rfl (by rw [hml]; rfl) (argsL := [(.int ((pi3.toUInt32 >>> ((3 : Int32) &&& 31).toUInt32).toInt32)), (.int pi5)]) (rest := [(.ref b8)]) (lenOf pd_1 rfl) rfl (by show 2 * 0 + _ ≤ _; exact Nat.le_of_eq rfl) (hb hby at_97) (fun _ _ => ⟨rfl, rfl, (by decide : 4 + 1 ≤ _), (by decide : 17 + 1 ≤ _)⟩)
  dsimp only [Pt.U, Pt.locs, Pt.cells, Pt.slots] at X30 l30 y30 z30 st30 hQ30
  subst l30 y30 z30
  obtain ⟨b30, rfl, N30q, K30, qf30_0, qf30_1⟩ := hQ30
  have N30 := Fr.app N27 N30q
  have f33 := qf27_0.keep K30
  have f34 := qf27_1.keep K30 nin0
  have f35 := qf27_2.keep K30 nin0
  have f36 := qf27_5.keep K30 nin0
  have f37 := qf27_3.keep K30 nin0
  have g_b27 : n0 ≤ b27 := Nat.le_trans z28 qf27_4
  have z39 := Nat.le_trans z31 K30.1
  have o40 := o32.keep K30 all0
  obtain ⟨cq38, kq38, q38a, q38b, q38c⟩ := isOf hZ rfl f33
  obtain ⟨_, _, ⟨T38, L38, k38, n38⟩, -, X38, ⟨Lc38, hQ38, l38, y38, z38⟩, st38⟩ := X30.interfaceBack hx (xi := (⟨"java/util/List", "add", "(Ljava/lang/Object;)Z"⟩ : MethodName)) (y := (⟨"java/util/ArrayList", "add", "(Ljava/lang/Object;)Z"⟩ : MethodName)) hown (mvT hZ (own_W hw 31 rfl)) (mvT hZ (own_W hw 32 rfl)) (mvT hZ (own_W hw 33 rfl)) (mvT hZ (own_W hw 34 rfl)) (mvT hZ (own_W hw 35 rfl)) (mvT hZ (own_W hw 36 rfl)) (mvT hZ (own_W hw 37 rfl)) (mvT hZ (own_W hw 38 rfl)) (by decide) (backOf (W := 0) (rm6_1 l Z a0 hw [] b8 b30 ((0 : Int32) + (1 : Int32)) b27 b27_1 (.ref b20) .null .null .null .null .null .null .null .null .null T30.heap n0 z39 o40 f33 qf30_1 f34 f35 f36 qf27_6 f37 g_b8 (Ne.symm (Nat.ne_of_lt (Nat.lt_of_lt_of_le f23.lt qf27_4))) g_b27) hZ (own_W hw 39 rfl) (own_W hw 3 rfl) (by decide) (by decide)) q38a q38b q38c (g := (mkF m 100 #[.val (.long pl1), .second, .val (.int pi2), .val (.int pi3), .val (.int pi4), .val (.int pi5), .val (.int pi6), .val (.int (3 : Int32)), .val (.ref b1), .val (.int (2 : Int32)), .val (.ref b8), .unset] [(.ref b30), (.ref b8)])) rfl (by rw [hml]; rfl) (Steps.refl _) (argsL := [(.ref b30)]) (rest := []) (lenOf pd_2 rfl) rfl (by show 2 * 0 + _ ≤ _; exact Nat.le_of_eq rfl) (hb hby at_100) (fun _ _ => ⟨rfl, rfl, (by decide : 5 + 0 ≤ _), (by decide : 18 + 0 ≤ _)⟩)
  dsimp only [Pt.U, Pt.locs, Pt.cells, Pt.slots] at X38 l38 y38 z38 st38 hQ38
  subst l38 y38 z38
  obtain ⟨rfl, N38q, K38, qf38_0, qf38_1, qf38_2, qf38_3, qf38_4, qf38_5⟩ := hQ38
  have N38 := Fr.app N30 N38q
  obtain ⟨T41, h41, X41, e41, E41, A41, D41, -, st41⟩ := newO X38 hx hZ hown (own_W hw 66 rfl) (own_W hw 67 rfl) (own_W hw 68 rfl) rfl (g := (mkF m 128 #[.val (.long pl1), .second, .val (.int pi2), .val (.int pi3), .val (.int pi4), .val (.int pi5), .val (.int pi6), .val (.int (3 : Int32)), .val (.ref b1), .val (.int (2 : Int32)), .val (.ref b8), .unset] [])) rfl (hb hby at_128) (by decide) (by decide)
  obtain ⟨b41, g41⟩ : ∃ z, z = T38.heap.size := ⟨_, rfl⟩
  rw [← g41] at A41 D41 st41
  have F_line_b41 : Fld Z h41 b41 "com/example/shardwright/shardwright/cli/CsvReader$Row" "line" "J" (.long (0 : Int64)) := D41 (Or.inr (own_W hw 79 rfl)) (ty := .long) (by decide)
  have F_text_b41 : Fld Z h41 b41 "com/example/shardwright/shardwright/cli/CsvReader$Row" "text" "[B" .null := D41 (Or.inr (own_W hw 81 rfl)) (ty := (.array .byte)) (by decide)
  have F_fields_b41 : Fld Z h41 b41 "com/example/shardwright/shardwright/cli/CsvReader$Row" "fields" "Ljava/util/List;" .null := D41 (Or.inr (own_W hw 83 rfl)) (ty := (.object "java/util/List")) (by decide)
  have z42 := Nat.le_trans z39 K38.1
  have g_b41 : n0 ≤ b41 := Nat.le_trans z42 (Nat.le_of_eq g41.symm)
  have z44 := Nat.le_trans z42 E41.1
  have o45 := o40.keep K38 (allS g_b8 (allS g_b27 all0))
  have o46 := o45.ext E41
  obtain ⟨_, _, ⟨T43, L43, k43, n43⟩, -, X43, ⟨Lc43, hQ43, l43, y43, z43⟩, st43⟩ := X41.specialBack hx (y := (⟨"com/example/shardwright/shardwright/cli/CsvReader$Row", "<init>", "(J[BLjava/util/List;)V"⟩ : MethodName)) rfl hown (mvT hZ (own_W hw 69 rfl)) (mvT hZ (own_W hw 70 rfl)) (mvT hZ (own_W hw 71 rfl)) (by decide) (backOf (W := 1) (rm11 l Z a0 hw [] b41 pl1 b1 b8 (.long (0 : Int64)) .null .null h41 n0 z44 o46 A41 F_line_b41 g_b41 F_text_b41 F_fields_b41) hZ (own_W hw 71 rfl) (own_W hw 68 rfl) (by decide) (by decide)) (g := (mkF m 137 #[.val (.long pl1), .second, .val (.int pi2), .val (.int pi3), .val (.int pi4), .val (.int pi5), .val (.int pi6), .val (.int (3 : Int32)), .val (.ref b1), .val (.int (2 : Int32)), .val (.ref b8), .unset] [(.ref b8), (.ref b1), (.long pl1), (.ref b41), (.ref b41)])) rfl (by rw [hml]; rfl) (Steps.refl _) (a := b41) (argsL := [(.long pl1), (.ref b1), (.ref b8)]) (rest := [(.ref b41)]) (lenOf pd_7 rfl) rfl (by show 2 * 0 + _ ≤ _; exact Nat.le_of_eq rfl) (hb hby at_137) (fun _ _ => ⟨rfl, e41, (by decide : 6 + 0 ≤ _), (by decide : 21 + 0 ≤ _)⟩)
  dsimp only [Pt.U, Pt.locs, Pt.cells, Pt.slots] at X43 l43 y43 z43 st43 hQ43
  subst l43 y43 z43
  obtain ⟨rfl, N43q, K43, qf43_0, qf43_1, qf43_2, qf43_3⟩ := hQ43
  have N43 := Fr.app N38 N43q
  have f47 := V7.ext E8
  have f48 := f47.keep K13 (ninS (Nat.ne_of_lt (Nat.lt_of_lt_of_le V7.lt (Nat.le_of_eq g8.symm))) nin0)
  have f49 := f48.keep K20 nin0
  have f50 := f49.keep K27 (ninS (Nat.ne_of_lt (Nat.lt_of_lt_of_le V7.lt (Nat.le_of_eq g8.symm))) nin0)
  have f51 := f50.keep K30 nin0
  have f52 := f51.keep K38 (ninS (Nat.ne_of_lt (Nat.lt_of_lt_of_le V7.lt (Nat.le_of_eq g8.symm))) (ninS (Nat.ne_of_lt (Nat.lt_of_lt_of_le f49.lt qf27_4)) nin0))
  have f53 := f52.ext E41
  have f54 := f53.keep K43 (ninS (Nat.ne_of_lt (Nat.lt_of_lt_of_le f52.lt (Nat.le_of_eq g41.symm))) nin0)
  have z56 := Nat.le_trans z44 K43.1
  have o57 := o46.keep K43 (allS g_b41 all0)
  obtain ⟨cq55, kq55, q55a, q55b, q55c⟩ := isOf hZ rfl qf43_0
  obtain ⟨_, _, ⟨T55, L55, k55, n55⟩, -, X55, ⟨Lc55, hQ55, l55, y55, z55⟩, st55⟩ := X43.virtualBack hx (y := (⟨"com/example/shardwright/shardwright/cli/CsvReader$Row", "isBlank", "()Z"⟩ : MethodName)) (z := (⟨"com/example/shardwright/shardwright/cli/CsvReader$Row", "isBlank", "()Z"⟩ : MethodName)) hown (mvT hZ (own_W hw 84 rfl)) (mvT hZ (own_W hw 85 rfl)) (notFace_of_selects (args := #[]) (mvT hZ (own_W hw 87 rfl))) (mvT hZ (own_W hw 87 rfl)) (mvT hZ (own_W hw 86 rfl)) (by decide) (backOf (W := 0) (rm13_3 l Z a0 hw [] b41 b1 k1 (nar .byte (pi4.toInt8.toInt32)) (nar .byte (pi5.toInt8.toInt32)) (nar .byte (pi6.toInt8.toInt32)) T43.heap n0 z56 o57 qf43_2 f54) hZ (own_W hw 88 rfl) (own_W hw 68 rfl) (by decide) (by decide)) q55a q55c (g := (mkF m 144 #[.val (.long pl1), .second, .val (.int pi2), .val (.int pi3), .val (.int pi4), .val (.int pi5), .val (.int pi6), .val (.int (3 : Int32)), .val (.ref b1), .val (.int (2 : Int32)), .val (.ref b8), .val (.ref b41)] [(.ref b41)])) rfl (by rw [hml]; rfl) (Steps.refl _) (argsL := []) (rest := []) (lenOf pd_8 rfl) rfl (by show 2 * 0 + _ ≤ _; exact Nat.le_of_eq rfl) (hb hby at_144) (fun _ _ => ⟨rfl, rfl, (by decide : 6 + 0 ≤ _), (by decide : 21 + 0 ≤ _)⟩)
  dsimp only [Pt.U, Pt.locs, Pt.cells, Pt.slots] at X55 l55 y55 z55 st55 hQ55
  subst l55 y55 z55
  obtain ⟨rfl, N55q, eq55⟩ := hQ55
  have N55 := Fr.app N43 N55q
  obtain ⟨fs, hr, hrun, hended, hW, hsame⟩ := X55.leave (v := some (.int (1 : Int32))) (fun h => by rw [Bd.returns] at h; cases h)
  refine ⟨_, _, pre0 _ ?_, hrun, hended, _, _, rfl, ?_, ⟨_, rfl⟩, hW, hsame.mono (by decide) (by decide)⟩
  · show Stp p e below s₁ m 0 #[.val (.long pl1), .second, .val (.int pi2), .val (.int pi3), .val (.int pi4), .val (.int pi5), .val (.int pi6), .unset, .unset, .unset, .unset, .unset] [] _
    refine XS.iloadN X0.here hx rfl (hb hby at_0) rfl ?_
    show Stp p e below s₁ m 1 #[.val (.long pl1), .second, .val (.int pi2), .val (.int pi3), .val (.int pi4), .val (.int pi5), .val (.int pi6), .unset, .unset, .unset, .unset, .unset] [(.int pi2)] _
    refine XS.iconst X0.here hx rfl (hb hby at_1) ?_
    show Stp p e below s₁ m 2 #[.val (.long pl1), .second, .val (.int pi2), .val (.int pi3), .val (.int pi4), .val (.int pi5), .val (.int pi6), .unset, .unset, .unset, .unset, .unset] [(.int (3 : Int32)), (.int pi2)] _
    refine XS.iand X0.here hx rfl (hb hby at_2) rfl ?_
    show Stp p e below s₁ m 3 #[.val (.long pl1), .second, .val (.int pi2), .val (.int pi3), .val (.int pi4), .val (.int pi5), .val (.int pi6), .unset, .unset, .unset, .unset, .unset] [(.int (pi2 &&& (3 : Int32)))] _
    refine XS.istore X0.here hx rfl (hb hby at_3) rfl (l' := #[.val (.long pl1), .second, .val (.int pi2), .val (.int pi3), .val (.int pi4), .val (.int pi5), .val (.int pi6), .val (.int (pi2 &&& (3 : Int32))), .unset, .unset, .unset, .unset]) rfl ?_
    show Stp p e below s₁ m 5 #[.val (.long pl1), .second, .val (.int pi2), .val (.int pi3), .val (.int pi4), .val (.int pi5), .val (.int pi6), .val (.int (pi2 &&& (3 : Int32))), .unset, .unset, .unset, .unset] [] _
    rw [show (pi2 &&& (3 : Int32)) = (3 : Int32) from own_n3 hc3_0 hc3_1 hc3_2]
    show Stp p e below s₁ m 5 #[.val (.long pl1), .second, .val (.int pi2), .val (.int pi3), .val (.int pi4), .val (.int pi5), .val (.int pi6), .val (.int (3 : Int32)), .unset, .unset, .unset, .unset] [] _
    refine XS.iload X0.here hx rfl (hb hby at_5) rfl ?_
    show Stp p e below s₁ m 7 #[.val (.long pl1), .second, .val (.int pi2), .val (.int pi3), .val (.int pi4), .val (.int pi5), .val (.int pi6), .val (.int (3 : Int32)), .unset, .unset, .unset, .unset] [(.int (3 : Int32))] _
    refine st1 _ ?_
    show Stp p e below T1 m 9 #[.val (.long pl1), .second, .val (.int pi2), .val (.int pi3), .val (.int pi4), .val (.int pi5), .val (.int pi6), .val (.int (3 : Int32)), .unset, .unset, .unset, .unset] [(.ref b1)] _
    refine XS.astore X1.here hx rfl (hb hby at_9) rfl rfl (l' := #[.val (.long pl1), .second, .val (.int pi2), .val (.int pi3), .val (.int pi4), .val (.int pi5), .val (.int pi6), .val (.int (3 : Int32)), .val (.ref b1), .unset, .unset, .unset]) rfl ?_
    show Stp p e below T1 m 11 #[.val (.long pl1), .second, .val (.int pi2), .val (.int pi3), .val (.int pi4), .val (.int pi5), .val (.int pi6), .val (.int (3 : Int32)), .val (.ref b1), .unset, .unset, .unset] [] _
    refine XS.iload X1.here hx rfl (hb hby at_11) rfl ?_
    show Stp p e below T1 m 13 #[.val (.long pl1), .second, .val (.int pi2), .val (.int pi3), .val (.int pi4), .val (.int pi5), .val (.int pi6), .val (.int (3 : Int32)), .val (.ref b1), .unset, .unset, .unset] [(.int (3 : Int32))] _
    refine XS.ifNo X1.here hx rfl (hb hby at_13) rfl ((if0 _ _).trans (tlt (by decide : (0 : Int32) < (3 : Int32))).2.2.2) ?_
    show Stp p e below T1 m 16 #[.val (.long pl1), .second, .val (.int pi2), .val (.int pi3), .val (.int pi4), .val (.int pi5), .val (.int pi6), .val (.int (3 : Int32)), .val (.ref b1), .unset, .unset, .unset] [] _
    refine XS.aload X1.here hx rfl (hb hby at_16) rfl rfl ?_
    show Stp p e below T1 m 18 #[.val (.long pl1), .second, .val (.int pi2), .val (.int pi3), .val (.int pi4), .val (.int pi5), .val (.int pi6), .val (.int (3 : Int32)), .val (.ref b1), .unset, .unset, .unset] [(.ref b1)] _
    refine XS.iconst X1.here hx rfl (hb hby at_18) ?_
    show Stp p e below T1 m 19 #[.val (.long pl1), .second, .val (.int pi2), .val (.int pi3), .val (.int pi4), .val (.int pi5), .val (.int pi6), .val (.int (3 : Int32)), .val (.ref b1), .unset, .unset, .unset] [(.int (0 : Int32)), (.ref b1)] _
    refine XS.iload X1.here hx rfl (hb hby at_19) rfl ?_
    show Stp p e below T1 m 21 #[.val (.long pl1), .second, .val (.int pi2), .val (.int pi3), .val (.int pi4), .val (.int pi5), .val (.int pi6), .val (.int (3 : Int32)), .val (.ref b1), .unset, .unset, .unset] [(.int pi4), (.int (0 : Int32)), (.ref b1)] _
    refine XS.i2b X1.here hx rfl (hb hby at_21) rfl ?_
    show Stp p e below T1 m 22 #[.val (.long pl1), .second, .val (.int pi2), .val (.int pi3), .val (.int pi4), .val (.int pi5), .val (.int pi6), .val (.int (3 : Int32)), .val (.ref b1), .unset, .unset, .unset] [(.int (pi4.toInt8.toInt32)), (.int (0 : Int32)), (.ref b1)] _
    refine st3 _ ?_
    show Stp p e below T3 m 23 #[.val (.long pl1), .second, .val (.int pi2), .val (.int pi3), .val (.int pi4), .val (.int pi5), .val (.int pi6), .val (.int (3 : Int32)), .val (.ref b1), .unset, .unset, .unset] [] _
    refine XS.iload X3.here hx rfl (hb hby at_23) rfl ?_
    show Stp p e below T3 m 25 #[.val (.long pl1), .second, .val (.int pi2), .val (.int pi3), .val (.int pi4), .val (.int pi5), .val (.int pi6), .val (.int (3 : Int32)), .val (.ref b1), .unset, .unset, .unset] [(.int (3 : Int32))] _
    refine XS.iconst X3.here hx rfl (hb hby at_25) ?_
    show Stp p e below T3 m 26 #[.val (.long pl1), .second, .val (.int pi2), .val (.int pi3), .val (.int pi4), .val (.int pi5), .val (.int pi6), .val (.int (3 : Int32)), .val (.ref b1), .unset, .unset, .unset] [(.int (1 : Int32)), (.int (3 : Int32))] _
    refine XS.icmpNo X3.here hx rfl (hb hby at_26) rfl (tlt (by decide : (1 : Int32) < (3 : Int32))).2.2.2 ?_
    show Stp p e below T3 m 29 #[.val (.long pl1), .second, .val (.int pi2), .val (.int pi3), .val (.int pi4), .val (.int pi5), .val (.int pi6), .val (.int (3 : Int32)), .val (.ref b1), .unset, .unset, .unset] [] _
    refine XS.aload X3.here hx rfl (hb hby at_29) rfl rfl ?_
    show Stp p e below T3 m 31 #[.val (.long pl1), .second, .val (.int pi2), .val (.int pi3), .val (.int pi4), .val (.int pi5), .val (.int pi6), .val (.int (3 : Int32)), .val (.ref b1), .unset, .unset, .unset] [(.ref b1)] _
    refine XS.iconst X3.here hx rfl (hb hby at_31) ?_
    show Stp p e below T3 m 32 #[.val (.long pl1), .second, .val (.int pi2), .val (.int pi3), .val (.int pi4), .val (.int pi5), .val (.int pi6), .val (.int (3 : Int32)), .val (.ref b1), .unset, .unset, .unset] [(.int (1 : Int32)), (.ref b1)] _
    refine XS.iload X3.here hx rfl (hb hby at_32) rfl ?_
    show Stp p e below T3 m 34 #[.val (.long pl1), .second, .val (.int pi2), .val (.int pi3), .val (.int pi4), .val (.int pi5), .val (.int pi6), .val (.int (3 : Int32)), .val (.ref b1), .unset, .unset, .unset] [(.int pi5), (.int (1 : Int32)), (.ref b1)] _
    refine XS.i2b X3.here hx rfl (hb hby at_34) rfl ?_
    show Stp p e below T3 m 35 #[.val (.long pl1), .second, .val (.int pi2), .val (.int pi3), .val (.int pi4), .val (.int pi5), .val (.int pi6), .val (.int (3 : Int32)), .val (.ref b1), .unset, .unset, .unset] [(.int (pi5.toInt8.toInt32)), (.int (1 : Int32)), (.ref b1)] _
    refine st5 _ ?_
    show Stp p e below T5 m 36 #[.val (.long pl1), .second, .val (.int pi2), .val (.int pi3), .val (.int pi4), .val (.int pi5), .val (.int pi6), .val (.int (3 : Int32)), .val (.ref b1), .unset, .unset, .unset] [] _
    refine XS.iload X5.here hx rfl (hb hby at_36) rfl ?_
    show Stp p e below T5 m 38 #[.val (.long pl1), .second, .val (.int pi2), .val (.int pi3), .val (.int pi4), .val (.int pi5), .val (.int pi6), .val (.int (3 : Int32)), .val (.ref b1), .unset, .unset, .unset] [(.int (3 : Int32))] _
    refine XS.iconst X5.here hx rfl (hb hby at_38) ?_
    show Stp p e below T5 m 39 #[.val (.long pl1), .second, .val (.int pi2), .val (.int pi3), .val (.int pi4), .val (.int pi5), .val (.int pi6), .val (.int (3 : Int32)), .val (.ref b1), .unset, .unset, .unset] [(.int (2 : Int32)), (.int (3 : Int32))] _
    refine XS.icmpNo X5.here hx rfl (hb hby at_39) rfl (tlt (by decide : (2 : Int32) < (3 : Int32))).2.2.2 ?_
    show Stp p e below T5 m 42 #[.val (.long pl1), .second, .val (.int pi2), .val (.int pi3), .val (.int pi4), .val (.int pi5), .val (.int pi6), .val (.int (3 : Int32)), .val (.ref b1), .unset, .unset, .unset] [] _
    refine XS.aload X5.here hx rfl (hb hby at_42) rfl rfl ?_
    show Stp p e below T5 m 44 #[.val (.long pl1), .second, .val (.int pi2), .val (.int pi3), .val (.int pi4), .val (.int pi5), .val (.int pi6), .val (.int (3 : Int32)), .val (.ref b1), .unset, .unset, .unset] [(.ref b1)] _
    refine XS.iconst X5.here hx rfl (hb hby at_44) ?_
    show Stp p e below T5 m 45 #[.val (.long pl1), .second, .val (.int pi2), .val (.int pi3), .val (.int pi4), .val (.int pi5), .val (.int pi6), .val (.int (3 : Int32)), .val (.ref b1), .unset, .unset, .unset] [(.int (2 : Int32)), (.ref b1)] _
    refine XS.iload X5.here hx rfl (hb hby at_45) rfl ?_
    show Stp p e below T5 m 47 #[.val (.long pl1), .second, .val (.int pi2), .val (.int pi3), .val (.int pi4), .val (.int pi5), .val (.int pi6), .val (.int (3 : Int32)), .val (.ref b1), .unset, .unset, .unset] [(.int pi6), (.int (2 : Int32)), (.ref b1)] _
    refine XS.i2b X5.here hx rfl (hb hby at_47) rfl ?_
    show Stp p e below T5 m 48 #[.val (.long pl1), .second, .val (.int pi2), .val (.int pi3), .val (.int pi4), .val (.int pi5), .val (.int pi6), .val (.int (3 : Int32)), .val (.ref b1), .unset, .unset, .unset] [(.int (pi6.toInt8.toInt32)), (.int (2 : Int32)), (.ref b1)] _
    refine st7 _ ?_
    show Stp p e below T7 m 49 #[.val (.long pl1), .second, .val (.int pi2), .val (.int pi3), .val (.int pi4), .val (.int pi5), .val (.int pi6), .val (.int (3 : Int32)), .val (.ref b1), .unset, .unset, .unset] [] _
    refine XS.iloadN X7.here hx rfl (hb hby at_49) rfl ?_
    show Stp p e below T7 m 50 #[.val (.long pl1), .second, .val (.int pi2), .val (.int pi3), .val (.int pi4), .val (.int pi5), .val (.int pi6), .val (.int (3 : Int32)), .val (.ref b1), .unset, .unset, .unset] [(.int pi3)] _
    refine XS.iconst X7.here hx rfl (hb hby at_50) ?_
    show Stp p e below T7 m 51 #[.val (.long pl1), .second, .val (.int pi2), .val (.int pi3), .val (.int pi4), .val (.int pi5), .val (.int pi6), .val (.int (3 : Int32)), .val (.ref b1), .unset, .unset, .unset] [(.int (3 : Int32)), (.int pi3)] _
    refine XS.iand X7.here hx rfl (hb hby at_51) rfl ?_
    show Stp p e below T7 m 52 #[.val (.long pl1), .second, .val (.int pi2), .val (.int pi3), .val (.int pi4), .val (.int pi5), .val (.int pi6), .val (.int (3 : Int32)), .val (.ref b1), .unset, .unset, .unset] [(.int (pi3 &&& (3 : Int32)))] _
    refine XS.istore X7.here hx rfl (hb hby at_52) rfl (l' := #[.val (.long pl1), .second, .val (.int pi2), .val (.int pi3), .val (.int pi4), .val (.int pi5), .val (.int pi6), .val (.int (3 : Int32)), .val (.ref b1), .val (.int (pi3 &&& (3 : Int32))), .unset, .unset]) rfl ?_
    show Stp p e below T7 m 54 #[.val (.long pl1), .second, .val (.int pi2), .val (.int pi3), .val (.int pi4), .val (.int pi5), .val (.int pi6), .val (.int (3 : Int32)), .val (.ref b1), .val (.int (pi3 &&& (3 : Int32))), .unset, .unset] [] _
    rw [show (pi3 &&& (3 : Int32)) = (2 : Int32) from hc52_5]
    show Stp p e below T7 m 54 #[.val (.long pl1), .second, .val (.int pi2), .val (.int pi3), .val (.int pi4), .val (.int pi5), .val (.int pi6), .val (.int (3 : Int32)), .val (.ref b1), .val (.int (2 : Int32)), .unset, .unset] [] _
    refine st8 _ ?_
    show Stp p e below T8 m 57 #[.val (.long pl1), .second, .val (.int pi2), .val (.int pi3), .val (.int pi4), .val (.int pi5), .val (.int pi6), .val (.int (3 : Int32)), .val (.ref b1), .val (.int (2 : Int32)), .unset, .unset] [(.ref b8)] _
    refine XS.dup X8.here hx rfl (hb hby at_57) rfl rfl ?_
    show Stp p e below T8 m 58 #[.val (.long pl1), .second, .val (.int pi2), .val (.int pi3), .val (.int pi4), .val (.int pi5), .val (.int pi6), .val (.int (3 : Int32)), .val (.ref b1), .val (.int (2 : Int32)), .unset, .unset] [(.ref b8), (.ref b8)] _
    refine st13.trans ?_
    show Stp p e below T13 m 61 #[.val (.long pl1), .second, .val (.int pi2), .val (.int pi3), .val (.int pi4), .val (.int pi5), .val (.int pi6), .val (.int (3 : Int32)), .val (.ref b1), .val (.int (2 : Int32)), .unset, .unset] [(.ref b8)] _
    refine XS.astore X13.here hx rfl (hb hby at_61) rfl rfl (l' := #[.val (.long pl1), .second, .val (.int pi2), .val (.int pi3), .val (.int pi4), .val (.int pi5), .val (.int pi6), .val (.int (3 : Int32)), .val (.ref b1), .val (.int (2 : Int32)), .val (.ref b8), .unset]) rfl ?_
    show Stp p e below T13 m 63 #[.val (.long pl1), .second, .val (.int pi2), .val (.int pi3), .val (.int pi4), .val (.int pi5), .val (.int pi6), .val (.int (3 : Int32)), .val (.ref b1), .val (.int (2 : Int32)), .val (.ref b8), .unset] [] _
    refine XS.iload X13.here hx rfl (hb hby at_63) rfl ?_
    show Stp p e below T13 m 65 #[.val (.long pl1), .second, .val (.int pi2), .val (.int pi3), .val (.int pi4), .val (.int pi5), .val (.int pi6), .val (.int (3 : Int32)), .val (.ref b1), .val (.int (2 : Int32)), .val (.ref b8), .unset] [(.int (2 : Int32))] _
    refine XS.ifNo X13.here hx rfl (hb hby at_65) rfl ((if0 _ _).trans (tlt (by decide : (0 : Int32) < (2 : Int32))).2.2.2) ?_
    show Stp p e below T13 m 68 #[.val (.long pl1), .second, .val (.int pi2), .val (.int pi3), .val (.int pi4), .val (.int pi5), .val (.int pi6), .val (.int (3 : Int32)), .val (.ref b1), .val (.int (2 : Int32)), .val (.ref b8), .unset] [] _
    refine XS.aload X13.here hx rfl (hb hby at_68) rfl rfl ?_
    show Stp p e below T13 m 70 #[.val (.long pl1), .second, .val (.int pi2), .val (.int pi3), .val (.int pi4), .val (.int pi5), .val (.int pi6), .val (.int (3 : Int32)), .val (.ref b1), .val (.int (2 : Int32)), .val (.ref b8), .unset] [(.ref b8)] _
    refine XS.iloadN X13.here hx rfl (hb hby at_70) rfl ?_
    show Stp p e below T13 m 71 #[.val (.long pl1), .second, .val (.int pi2), .val (.int pi3), .val (.int pi4), .val (.int pi5), .val (.int pi6), .val (.int (3 : Int32)), .val (.ref b1), .val (.int (2 : Int32)), .val (.ref b8), .unset] [(.int pi3), (.ref b8)] _
    refine XS.iconst X13.here hx rfl (hb hby at_71) ?_
    show Stp p e below T13 m 72 #[.val (.long pl1), .second, .val (.int pi2), .val (.int pi3), .val (.int pi4), .val (.int pi5), .val (.int pi6), .val (.int (3 : Int32)), .val (.ref b1), .val (.int (2 : Int32)), .val (.ref b8), .unset] [(.int (2 : Int32)), (.int pi3), (.ref b8)] _
    refine XS.iushr X13.here hx rfl (hb hby at_72) rfl ?_
    show Stp p e below T13 m 73 #[.val (.long pl1), .second, .val (.int pi2), .val (.int pi3), .val (.int pi4), .val (.int pi5), .val (.int pi6), .val (.int (3 : Int32)), .val (.ref b1), .val (.int (2 : Int32)), .val (.ref b8), .unset] [(.int ((pi3.toUInt32 >>> ((2 : Int32) &&& 31).toUInt32).toInt32)), (.ref b8)] _
    refine XS.iload X13.here hx rfl (hb hby at_73) rfl ?_
    show Stp p e below T13 m 75 #[.val (.long pl1), .second, .val (.int pi2), .val (.int pi3), .val (.int pi4), .val (.int pi5), .val (.int pi6), .val (.int (3 : Int32)), .val (.ref b1), .val (.int (2 : Int32)), .val (.ref b8), .unset] [(.int pi4), (.int ((pi3.toUInt32 >>> ((2 : Int32) &&& 31).toUInt32).toInt32)), (.ref b8)] _
    refine st20 _ ?_
    show Stp p e below T20 m 78 #[.val (.long pl1), .second, .val (.int pi2), .val (.int pi3), .val (.int pi4), .val (.int pi5), .val (.int pi6), .val (.int (3 : Int32)), .val (.ref b1), .val (.int (2 : Int32)), .val (.ref b8), .unset] [(.ref b20), (.ref b8)] _
    refine st27.trans ?_
    show Stp p e below T27 m 83 #[.val (.long pl1), .second, .val (.int pi2), .val (.int pi3), .val (.int pi4), .val (.int pi5), .val (.int pi6), .val (.int (3 : Int32)), .val (.ref b1), .val (.int (2 : Int32)), .val (.ref b8), .unset] [(.int (1 : Int32))] _
    refine XS.pop X27.here hx rfl (hb hby at_83) rfl rfl ?_
    show Stp p e below T27 m 84 #[.val (.long pl1), .second, .val (.int pi2), .val (.int pi3), .val (.int pi4), .val (.int pi5), .val (.int pi6), .val (.int (3 : Int32)), .val (.ref b1), .val (.int (2 : Int32)), .val (.ref b8), .unset] [] _
    refine XS.iload X27.here hx rfl (hb hby at_84) rfl ?_
    show Stp p e below T27 m 86 #[.val (.long pl1), .second, .val (.int pi2), .val (.int pi3), .val (.int pi4), .val (.int pi5), .val (.int pi6), .val (.int (3 : Int32)), .val (.ref b1), .val (.int (2 : Int32)), .val (.ref b8), .unset] [(.int (2 : Int32))] _
    refine XS.iconst X27.here hx rfl (hb hby at_86) ?_
    show Stp p e below T27 m 87 #[.val (.long pl1), .second, .val (.int pi2), .val (.int pi3), .val (.int pi4), .val (.int pi5), .val (.int pi6), .val (.int (3 : Int32)), .val (.ref b1), .val (.int (2 : Int32)), .val (.ref b8), .unset] [(.int (1 : Int32)), (.int (2 : Int32))] _
    refine XS.icmpNo X27.here hx rfl (hb hby at_87) rfl (tlt (by decide : (1 : Int32) < (2 : Int32))).2.2.2 ?_
    show Stp p e below T27 m 90 #[.val (.long pl1), .second, .val (.int pi2), .val (.int pi3), .val (.int pi4), .val (.int pi5), .val (.int pi6), .val (.int (3 : Int32)), .val (.ref b1), .val (.int (2 : Int32)), .val (.ref b8), .unset] [] _
    refine XS.aload X27.here hx rfl (hb hby at_90) rfl rfl ?_
    show Stp p e below T27 m 92 #[.val (.long pl1), .second, .val (.int pi2), .val (.int pi3), .val (.int pi4), .val (.int pi5), .val (.int pi6), .val (.int (3 : Int32)), .val (.ref b1), .val (.int (2 : Int32)), .val (.ref b8), .unset] [(.ref b8)] _
    refine XS.iloadN X27.here hx rfl (hb hby at_92) rfl ?_
    show Stp p e below T27 m 93 #[.val (.long pl1), .second, .val (.int pi2), .val (.int pi3), .val (.int pi4), .val (.int pi5), .val (.int pi6), .val (.int (3 : Int32)), .val (.ref b1), .val (.int (2 : Int32)), .val (.ref b8), .unset] [(.int pi3), (.ref b8)] _
    refine XS.iconst X27.here hx rfl (hb hby at_93) ?_
    show Stp p e below T27 m 94 #[.val (.long pl1), .second, .val (.int pi2), .val (.int pi3), .val (.int pi4), .val (.int pi5), .val (.int pi6), .val (.int (3 : Int32)), .val (.ref b1), .val (.int (2 : Int32)), .val (.ref b8), .unset] [(.int (3 : Int32)), (.int pi3), (.ref b8)] _
    refine XS.iushr X27.here hx rfl (hb hby at_94) rfl ?_
    show Stp p e below T27 m 95 #[.val (.long pl1), .second, .val (.int pi2), .val (.int pi3), .val (.int pi4), .val (.int pi5), .val (.int pi6), .val (.int (3 : Int32)), .val (.ref b1), .val (.int (2 : Int32)), .val (.ref b8), .unset] [(.int ((pi3.toUInt32 >>> ((3 : Int32) &&& 31).toUInt32).toInt32)), (.ref b8)] _
    refine XS.iload X27.here hx rfl (hb hby at_95) rfl ?_
    show Stp p e below T27 m 97 #[.val (.long pl1), .second, .val (.int pi2), .val (.int pi3), .val (.int pi4), .val (.int pi5), .val (.int pi6), .val (.int (3 : Int32)), .val (.ref b1), .val (.int (2 : Int32)), .val (.ref b8), .unset] [(.int pi5), (.int ((pi3.toUInt32 >>> ((3 : Int32) &&& 31).toUInt32).toInt32)), (.ref b8)] _
    refine st30 _ ?_
    show Stp p e below T30 m 100 #[.val (.long pl1), .second, .val (.int pi2), .val (.int pi3), .val (.int pi4), .val (.int pi5), .val (.int pi6), .val (.int (3 : Int32)), .val (.ref b1), .val (.int (2 : Int32)), .val (.ref b8), .unset] [(.ref b30), (.ref b8)] _
    refine st38.trans ?_
    show Stp p e below T38 m 105 #[.val (.long pl1), .second, .val (.int pi2), .val (.int pi3), .val (.int pi4), .val (.int pi5), .val (.int pi6), .val (.int (3 : Int32)), .val (.ref b1), .val (.int (2 : Int32)), .val (.ref b8), .unset] [(.int (1 : Int32))] _
    refine XS.pop X38.here hx rfl (hb hby at_105) rfl rfl ?_
    show Stp p e below T38 m 106 #[.val (.long pl1), .second, .val (.int pi2), .val (.int pi3), .val (.int pi4), .val (.int pi5), .val (.int pi6), .val (.int (3 : Int32)), .val (.ref b1), .val (.int (2 : Int32)), .val (.ref b8), .unset] [] _
    refine XS.iload X38.here hx rfl (hb hby at_106) rfl ?_
    show Stp p e below T38 m 108 #[.val (.long pl1), .second, .val (.int pi2), .val (.int pi3), .val (.int pi4), .val (.int pi5), .val (.int pi6), .val (.int (3 : Int32)), .val (.ref b1), .val (.int (2 : Int32)), .val (.ref b8), .unset] [(.int (2 : Int32))] _
    refine XS.iconst X38.here hx rfl (hb hby at_108) ?_
    show Stp p e below T38 m 109 #[.val (.long pl1), .second, .val (.int pi2), .val (.int pi3), .val (.int pi4), .val (.int pi5), .val (.int pi6), .val (.int (3 : Int32)), .val (.ref b1), .val (.int (2 : Int32)), .val (.ref b8), .unset] [(.int (2 : Int32)), (.int (2 : Int32))] _
    refine XS.icmpYes X38.here hx rfl (pc0 := 109) (pc' := 128) rfl (hb hby at_109) rfl (flt (by simp : ¬ ((2 : Int32) < (2 : Int32)))).2.2.2 (by decide) (by decide) ?_
    show Stp p e below T38 m 128 #[.val (.long pl1), .second, .val (.int pi2), .val (.int pi3), .val (.int pi4), .val (.int pi5), .val (.int pi6), .val (.int (3 : Int32)), .val (.ref b1), .val (.int (2 : Int32)), .val (.ref b8), .unset] [] _
    refine st41 _ ?_
    show Stp p e below T41 m 131 #[.val (.long pl1), .second, .val (.int pi2), .val (.int pi3), .val (.int pi4), .val (.int pi5), .val (.int pi6), .val (.int (3 : Int32)), .val (.ref b1), .val (.int (2 : Int32)), .val (.ref b8), .unset] [(.ref b41)] _
    refine XS.dup X41.here hx rfl (hb hby at_131) rfl rfl ?_
    show Stp p e below T41 m 132 #[.val (.long pl1), .second, .val (.int pi2), .val (.int pi3), .val (.int pi4), .val (.int pi5), .val (.int pi6), .val (.int (3 : Int32)), .val (.ref b1), .val (.int (2 : Int32)), .val (.ref b8), .unset] [(.ref b41), (.ref b41)] _
    refine XS.lloadN X41.here hx rfl (hb hby at_132) rfl ?_
    show Stp p e below T41 m 133 #[.val (.long pl1), .second, .val (.int pi2), .val (.int pi3), .val (.int pi4), .val (.int pi5), .val (.int pi6), .val (.int (3 : Int32)), .val (.ref b1), .val (.int (2 : Int32)), .val (.ref b8), .unset] [(.long pl1), (.ref b41), (.ref b41)] _
    refine XS.aload X41.here hx rfl (hb hby at_133) rfl rfl ?_
    show Stp p e below T41 m 135 #[.val (.long pl1), .second, .val (.int pi2), .val (.int pi3), .val (.int pi4), .val (.int pi5), .val (.int pi6), .val (.int (3 : Int32)), .val (.ref b1), .val (.int (2 : Int32)), .val (.ref b8), .unset] [(.ref b1), (.long pl1), (.ref b41), (.ref b41)] _
    refine XS.aload X41.here hx rfl (hb hby at_135) rfl rfl ?_
    show Stp p e below T41 m 137 #[.val (.long pl1), .second, .val (.int pi2), .val (.int pi3), .val (.int pi4), .val (.int pi5), .val (.int pi6), .val (.int (3 : Int32)), .val (.ref b1), .val (.int (2 : Int32)), .val (.ref b8), .unset] [(.ref b8), (.ref b1), (.long pl1), (.ref b41), (.ref b41)] _
    refine st43.trans ?_
    show Stp p e below T43 m 140 #[.val (.long pl1), .second, .val (.int pi2), .val (.int pi3), .val (.int pi4), .val (.int pi5), .val (.int pi6), .val (.int (3 : Int32)), .val (.ref b1), .val (.int (2 : Int32)), .val (.ref b8), .unset] [(.ref b41)] _
    refine XS.astore X43.here hx rfl (hb hby at_140) rfl rfl (l' := #[.val (.long pl1), .second, .val (.int pi2), .val (.int pi3), .val (.int pi4), .val (.int pi5), .val (.int pi6), .val (.int (3 : Int32)), .val (.ref b1), .val (.int (2 : Int32)), .val (.ref b8), .val (.ref b41)]) rfl ?_
    show Stp p e below T43 m 142 #[.val (.long pl1), .second, .val (.int pi2), .val (.int pi3), .val (.int pi4), .val (.int pi5), .val (.int pi6), .val (.int (3 : Int32)), .val (.ref b1), .val (.int (2 : Int32)), .val (.ref b8), .val (.ref b41)] [] _
    refine XS.aload X43.here hx rfl (hb hby at_142) rfl rfl ?_
    show Stp p e below T43 m 144 #[.val (.long pl1), .second, .val (.int pi2), .val (.int pi3), .val (.int pi4), .val (.int pi5), .val (.int pi6), .val (.int (3 : Int32)), .val (.ref b1), .val (.int (2 : Int32)), .val (.ref b8), .val (.ref b41)] [(.ref b41)] _
    refine st55.trans ?_
    show Stp p e below T55 m 147 #[.val (.long pl1), .second, .val (.int pi2), .val (.int pi3), .val (.int pi4), .val (.int pi5), .val (.int pi6), .val (.int (3 : Int32)), .val (.ref b1), .val (.int (2 : Int32)), .val (.ref b8), .val (.ref b41)] [(.int (0 : Int32))] _
    refine XS.iload X55.here hx rfl (hb hby at_147) rfl ?_
    show Stp p e below T55 m 149 #[.val (.long pl1), .second, .val (.int pi2), .val (.int pi3), .val (.int pi4), .val (.int pi5), .val (.int pi6), .val (.int (3 : Int32)), .val (.ref b1), .val (.int (2 : Int32)), .val (.ref b8), .val (.ref b41)] [(.int (3 : Int32)), (.int (0 : Int32))] _
    refine XS.ifYes X55.here hx rfl (pc0 := 149) (pc' := 156) rfl (hb hby at_149) rfl ((if0 _ _).trans (feq (by decide : ¬ ((3 : Int32) = (0 : Int32)))).2) (by decide) (by decide) ?_
    show Stp p e below T55 m 156 #[.val (.long pl1), .second, .val (.int pi2), .val (.int pi3), .val (.int pi4), .val (.int pi5), .val (.int pi6), .val (.int (3 : Int32)), .val (.ref b1), .val (.int (2 : Int32)), .val (.ref b8), .val (.ref b41)] [(.int (0 : Int32))] _
    refine XS.iconst X55.here hx rfl (hb hby at_156) ?_
    show Stp p e below T55 m 157 #[.val (.long pl1), .second, .val (.int pi2), .val (.int pi3), .val (.int pi4), .val (.int pi5), .val (.int pi6), .val (.int (3 : Int32)), .val (.ref b1), .val (.int (2 : Int32)), .val (.ref b8), .val (.ref b41)] [(.int (0 : Int32)), (.int (0 : Int32))] _
    refine XS.icmpNo X55.here hx rfl (hb hby at_157) rfl (teq (rfl : (0 : Int32) = (0 : Int32))).2 ?_
    show Stp p e below T55 m 160 #[.val (.long pl1), .second, .val (.int pi2), .val (.int pi3), .val (.int pi4), .val (.int pi5), .val (.int pi6), .val (.int (3 : Int32)), .val (.ref b1), .val (.int (2 : Int32)), .val (.ref b8), .val (.ref b41)] [] _
    refine XS.iconst X55.here hx rfl (hb hby at_160) ?_
    show Stp p e below T55 m 161 #[.val (.long pl1), .second, .val (.int pi2), .val (.int pi3), .val (.int pi4), .val (.int pi5), .val (.int pi6), .val (.int (3 : Int32)), .val (.ref b1), .val (.int (2 : Int32)), .val (.ref b8), .val (.ref b41)] [(.int (1 : Int32))] _
    refine XS.goto X55.here hx rfl (pc0 := 161) (pc' := 165) rfl (hb hby at_161) (by decide) (by decide) ?_
    show Stp p e below T55 m 165 #[.val (.long pl1), .second, .val (.int pi2), .val (.int pi3), .val (.int pi4), .val (.int pi5), .val (.int pi6), .val (.int (3 : Int32)), .val (.ref b1), .val (.int (2 : Int32)), .val (.ref b8), .val (.ref b41)] [(.int (1 : Int32))] _
    exact retN X55 hx (t := .boolean) Bd.returns (by simp) (hb hby at_165) hr
  · exact ⟨rfl, N55⟩
set_option maxRecDepth 65536 in
set_option maxHeartbeats 40000000 in
theorem rm0_ffffff (l : Launch) (Z : State) (a0 : Array Value) (hw : ∀ d ∈ tables_1, d.before a0 Z = true) (ws : List Jvm.Cond) (pl1 : Int64) (pi2 : Int32) (pi3 : Int32) (pi4 : Int32) (pi5 : Int32) (pi6 : Int32) (w_DEF : Addr) (kk_w_DEF : ClassId) (h0 : Heap) (n0 : Nat) (Z0 : n0 ≤ h0.size) (O0 : Old Z n0 h0) (S_DEFAULTCAPACITY_EMPTY_ELEMENTDATA : Sta Z Z.heap "java/util/ArrayList" "DEFAULTCAPACITY_EMPTY_ELEMENTDATA" "[Ljava/lang/Object;" (.ref w_DEF)) (V_w_DEF : Arv Z Z.heap w_DEF kk_w_DEF (.object "java/lang/Object") (0 : Int32) [] .null) (hc3_0 : ¬ ((pi2 &&& (3 : Int32)) = (0 : Int32))) (hc3_1 : ¬ ((pi2 &&& (3 : Int32)) = (1 : Int32))) (hc3_2 : ¬ ((pi2 &&& (3 : Int32)) = (2 : Int32))) (hc52_3 : ¬ ((pi3 &&& (3 : Int32)) = (0 : Int32))) (hc52_4 : ¬ ((pi3 &&& (3 : Int32)) = (1 : Int32))) (hc52_5 : ¬ ((pi3 &&& (3 : Int32)) = (2 : Int32))) :
    MetFree l x (head1 (Jvm.Cond.code x code maxLocals ret :: ws) room_1) (fun a U => a = #[(.long pl1), (.int pi2), (.int pi3), (.int pi4), (.int pi5), (.int pi6)] ∧ Z.Warmed39 U.vm ∧ U.heap = h0) (fun _ _ _ _ _ => True) (fun _ U o U' => ∃ v L, o = .returned v ∧ Q0 v L n0 ∧ FrameEnd U o U' L room_1.cells room_1.slots) := by
  refine MetFree.of_bodySF (plainFor_of_name pn_0) hisR ?_
  intro p e s m args below meth c s₁ Bd hml0 hP hK
  obtain ⟨rfl, hZ, hh⟩ := hP
  have hx := Bd.exec
  have hby := Bd.bytes
  have hml : c.maxLocals = 12 := hml0
  have hown : s.vm.findClass "com/example/shardwright/shardwright/cli/RowIsBlankPinLaw" = some m.cls := findClass_of_methodNamed Bd.named
  have hnm := (name_of_methodNamed Bd.named Bd.method).1
  have X0 : Stand p l e room_1 s m #[(.long pl1), (.int pi2), (.int pi3), (.int pi4), (.int pi5), (.int pi6)] below meth c s₁ [] 0 0 := Stand.of_body Bd
  have e0 : s₁.heap = h0 := by rw [← hh, Bd.state]; rfl
  have N0 := Fr.nil n0
  have pre0 : ∀ t, Steps p.tables e below (s₁.setTop (mkF m 0 #[.val (.long pl1), .second, .val (.int pi2), .val (.int pi3), .val (.int pi4), .val (.int pi5), .val (.int pi6), .unset, .unset, .unset, .unset, .unset] [])) t → Steps p.tables e below (s₁.setTop (entryFrame m #[(.long pl1), (.int pi2), (.int pi3), (.int pi4), (.int pi5), (.int pi6)] maxLocals)) t := fun t k => castTop (ef_0 m pl1 pi2 pi3 pi4 pi5 pi6) k
  obtain ⟨T1, h1, k1, X1, e1, E1, A1, st1⟩ := newP X0 hx hZ (own_W hw 0 rfl) e0 (g := (mkF m 7 #[.val (.long pl1), .second, .val (.int pi2), .val (.int pi3), .val (.int pi4), .val (.int pi5), .val (.int pi6), .val (.int (3 : Int32)), .unset, .unset, .unset, .unset] [(.int (3 : Int32))])) rfl (hb hby at_7) rfl (by decide) (cap := 3) (by decide) (by decide) (by decide) (by decide)
  obtain ⟨b1, g1⟩ : ∃ z, z = h0.size := ⟨_, rfl⟩
  rw [← g1] at A1 st1
  have V1 : Arv Z h1 b1 k1 .byte (3 : Int32) [(.int (0 : Int32)), (.int (0 : Int32)), (.int (0 : Int32))] (.int (0 : Int32)) := (Arv.new A1 (by decide)).pad (pad_rep [] (.int (0 : Int32)) 3)
  have g_b1 : n0 ≤ b1 := Nat.le_trans Z0 (Nat.le_of_eq g1.symm)
  have V_c2 := V1
  obtain ⟨c2, Arc2, qc2, Sc2, Nc2, Hc2, Gc2⟩ := V_c2
  have hin3 : ¬ ((0 : Int32) < 0 ∨ c2.slots.size ≤ ((0 : Int32)).toNatClampNeg) := inb_of Sc2 ⟨by decide, by decide⟩
  obtain ⟨T3, h3, X3, e3, W3, st3⟩ := stB X1 hx hZ e1 Arc2 (j := (0 : Int32)) hin3 (g := (mkF m 22 #[.val (.long pl1), .second, .val (.int pi2), .val (.int pi3), .val (.int pi4), .val (.int pi5), .val (.int pi6), .val (.int (3 : Int32)), .val (.ref b1), .unset, .unset, .unset] [(.int (pi4.toInt8.toInt32)), (.int (0 : Int32)), (.ref b1)])) rfl rfl (hb hby at_22)
  have V3 : Arv Z h3 b1 k1 .byte (3 : Int32) [(.int (nar .byte (pi4.toInt8.toInt32))), (.int (0 : Int32)), (.int (0 : Int32))] (.int (0 : Int32)) := Arv.set Arc2 qc2 Sc2 Nc2 Hc2 Gc2 (fits_nar_byte _) W3 0 rfl (Nat.le_of_ble_eq_true rfl)
  have N3 := Fr.snoc X3 N0 g_b1
  have V_c4 := V3
  obtain ⟨c4, Arc4, qc4, Sc4, Nc4, Hc4, Gc4⟩ := V_c4
  have hin5 : ¬ ((1 : Int32) < 0 ∨ c4.slots.size ≤ ((1 : Int32)).toNatClampNeg) := inb_of Sc4 ⟨by decide, by decide⟩
  obtain ⟨T5, h5, X5, e5, W5, st5⟩ := stB X3 hx hZ e3 Arc4 (j := (1 : Int32)) hin5 (g := (mkF m 35 #[.val (.long pl1), .second, .val (.int pi2), .val (.int pi3), .val (.int pi4), .val (.int pi5), .val (.int pi6), .val (.int (3 : Int32)), .val (.ref b1), .unset, .unset, .unset] [(.int (pi5.toInt8.toInt32)), (.int (1 : Int32)), (.ref b1)])) rfl rfl (hb hby at_35)
  have V5 : Arv Z h5 b1 k1 .byte (3 : Int32) [(.int (nar .byte (pi4.toInt8.toInt32))), (.int (nar .byte (pi5.toInt8.toInt32))), (.int (0 : Int32))] (.int (0 : Int32)) := Arv.set Arc4 qc4 Sc4 Nc4 Hc4 Gc4 (fits_nar_byte _) W5 1 rfl (Nat.le_of_ble_eq_true rfl)
  have N5 := Fr.snoc X5 N3 g_b1
  have V_c6 := V5
  obtain ⟨c6, Arc6, qc6, Sc6, Nc6, Hc6, Gc6⟩ := V_c6
  have hin7 : ¬ ((2 : Int32) < 0 ∨ c6.slots.size ≤ ((2 : Int32)).toNatClampNeg) := inb_of Sc6 ⟨by decide, by decide⟩
  obtain ⟨T7, h7, X7, e7, W7, st7⟩ := stB X5 hx hZ e5 Arc6 (j := (2 : Int32)) hin7 (g := (mkF m 48 #[.val (.long pl1), .second, .val (.int pi2), .val (.int pi3), .val (.int pi4), .val (.int pi5), .val (.int pi6), .val (.int (3 : Int32)), .val (.ref b1), .unset, .unset, .unset] [(.int (pi6.toInt8.toInt32)), (.int (2 : Int32)), (.ref b1)])) rfl rfl (hb hby at_48)
  have V7 : Arv Z h7 b1 k1 .byte (3 : Int32) [(.int (nar .byte (pi4.toInt8.toInt32))), (.int (nar .byte (pi5.toInt8.toInt32))), (.int (nar .byte (pi6.toInt8.toInt32)))] (.int (0 : Int32)) := Arv.set Arc6 qc6 Sc6 Nc6 Hc6 Gc6 (fits_nar_byte _) W7 2 rfl (Nat.le_of_ble_eq_true rfl)
  have N7 := Fr.snoc X7 N5 g_b1
  obtain ⟨T8, h8, X8, e8, E8, A8, D8, -, st8⟩ := newO X7 hx hZ hown (own_W hw 1 rfl) (own_W hw 2 rfl) (own_W hw 3 rfl) e7 (g := (mkF m 54 #[.val (.long pl1), .second, .val (.int pi2), .val (.int pi3), .val (.int pi4), .val (.int pi5), .val (.int pi6), .val (.int (3 : Int32)), .val (.ref b1), .val (.int (3 : Int32)), .unset, .unset] [])) rfl (hb hby at_54) (by decide) (by decide)
  obtain ⟨b8, g8⟩ : ∃ z, z = h7.size := ⟨_, rfl⟩
  rw [← g8] at A8 D8 st8
  have F_modCount_b8 : Fld Z h8 b8 "java/util/AbstractList" "modCount" "I" (.int (0 : Int32)) := D8 (Or.inl (own_W hw 23 rfl)) (ty := .int) (by decide)
  have F_elementData_b8 : Fld Z h8 b8 "java/util/ArrayList" "elementData" "[Ljava/lang/Object;" .null := D8 (Or.inl (own_W hw 26 rfl)) (ty := (.array (.object "java/lang/Object"))) (by decide)
  have F_size_b8 : Fld Z h8 b8 "java/util/ArrayList" "size" "I" (.int (0 : Int32)) := D8 (Or.inl (own_W hw 43 rfl)) (ty := .int) (by decide)
  have z9 := Nat.le_trans Z0 E1.1
  have z10 := Nat.le_trans z9 (Keep.of_wr W3).1
  have z11 := Nat.le_trans z10 (Keep.of_wr W5).1
  have z12 := Nat.le_trans z11 (Keep.of_wr W7).1
  have g_b8 : n0 ≤ b8 := Nat.le_trans z12 (Nat.le_of_eq g8.symm)
  have z14 := Nat.le_trans z12 E8.1
  have o15 := O0.ext E1
  have o16 := o15.wr W3 g_b1
  have o17 := o16.wr W5 g_b1
  have o18 := o17.wr W7 g_b1
  have o19 := o18.ext E8
  obtain ⟨_, _, ⟨T13, L13, k13, n13⟩, -, X13, ⟨Lc13, hQ13, l13, y13, z13⟩, st13⟩ := X8.specialBack hx (y := (⟨"java/util/ArrayList", "<init>", "()V"⟩ : MethodName)) rfl hown (mvT hZ (own_W hw 4 rfl)) (mvT hZ (own_W hw 5 rfl)) (mvT hZ (own_W hw 6 rfl)) (by decide) (backOf (W := 1) (rm1 l Z a0 hw [] b8 w_DEF (.int (0 : Int32)) .null (.int (0 : Int32)) h8 n0 z14 o19 A8 S_DEFAULTCAPACITY_EMPTY_ELEMENTDATA F_modCount_b8 F_elementData_b8 F_size_b8 g_b8) hZ (own_W hw 6 rfl) (own_W hw 3 rfl) (by decide) (by decide)) (g := (mkF m 58 #[.val (.long pl1), .second, .val (.int pi2), .val (.int pi3), .val (.int pi4), .val (.int pi5), .val (.int pi6), .val (.int (3 : Int32)), .val (.ref b1), .val (.int (3 : Int32)), .unset, .unset] [(.ref b8), (.ref b8)])) rfl (by rw [hml]; rfl) (Steps.refl _) (a := b8) (argsL := []) (rest := [(.ref b8)]) (lenOf pd_0 rfl) rfl (by show 2 * 0 + _ ≤ _; exact Nat.le_of_eq rfl) (hb hby at_58) (fun _ _ => ⟨rfl, e8, (by decide : 2 + 0 ≤ _), (by decide : 6 + 0 ≤ _)⟩)
  dsimp only [Pt.U, Pt.locs, Pt.cells, Pt.slots] at X13 l13 y13 z13 st13 hQ13
  subst l13 y13 z13
  obtain ⟨rfl, N13q, K13, qf13_0, qf13_1, qf13_2, qf13_3⟩ := hQ13
  have N13 := Fr.app N7 N13q
  have z21 := Nat.le_trans z14 K13.1
  have o22 := o19.keep K13 (allS g_b8 all0)
  obtain ⟨_, _, ⟨T20, L20, k20, n20⟩, -, X20, ⟨Lc20, hQ20, l20, y20, z20⟩, st20⟩ := Jvm.LawKit.callS X13 hx (y := (⟨"com/example/shardwright/shardwright/cli/RowIsBlankPinLaw", "field", "(II)[B"⟩ : MethodName)) hown (mvT hZ (own_W hw 27 rfl)) (mvT hZ (own_W hw 28 rfl)) (mvT hZ (own_W hw 29 rfl)) (mvT hZ (own_W hw 30 rfl)) (by decide) (backOf (W := 1) (rm5 l Z a0 hw [] ((pi3.toUInt32 >>> ((2 : Int32) &&& 31).toUInt32).toInt32) pi4 T13.heap n0 z21 o22 ) hZ (own_W hw 30 rfl) (own_W hw 29 rfl) (by decide) (by decide)) (g := (mkF m 75 #[.val (.long pl1), .second, .val (.int pi2), .val (.int pi3), .val (.int pi4), .val (.int pi5), .val (.int pi6), .val (.int (3 : Int32)), .val (.ref b1), .val (.int (3 : Int32)), .val (.ref b8), .unset] [(.int pi4), (.int ((pi3.toUInt32 >>> ((2 : Int32) &&& 31).toUInt32).toInt32)), (.ref b8)])) rfl (by rw [hml]; rfl) (argsL := [(.int ((pi3.toUInt32 >>> ((2 : Int32) &&& 31).toUInt32).toInt32)), (.int pi4)]) (rest := [(.ref b8)]) (lenOf pd_1 rfl) rfl (by show 2 * 0 + _ ≤ _; exact Nat.le_of_eq rfl) (hb hby at_75) (fun _ _ => ⟨rfl, rfl, (by decide : 2 + 1 ≤ _), (by decide : 6 + 1 ≤ _)⟩)
  dsimp only [Pt.U, Pt.locs, Pt.cells, Pt.slots] at X20 l20 y20 z20 st20 hQ20
  subst l20 y20 z20
  obtain ⟨b20, rfl, N20q, K20, qf20_0, qf20_1⟩ := hQ20
  have N20 := Fr.app N13 N20q
  have f23 := qf13_0.keep K20
  have f24 := qf13_1.keep K20 nin0
  have f25 := qf13_2.keep K20 nin0
  have f26 := qf13_3.keep K20 nin0
  have z28 := Nat.le_trans z21 K20.1
  have o29 := o22.keep K20 all0
  obtain ⟨cq27, kq27, q27a, q27b, q27c⟩ := isOf hZ rfl f23
  obtain ⟨_, _, ⟨T27, L27, k27, n27⟩, -, X27, ⟨Lc27, hQ27, l27, y27, z27⟩, st27⟩ := X20.interfaceBack hx (xi := (⟨"java/util/List", "add", "(Ljava/lang/Object;)Z"⟩ : MethodName)) (y := (⟨"java/util/ArrayList", "add", "(Ljava/lang/Object;)Z"⟩ : MethodName)) hown (mvT hZ (own_W hw 31 rfl)) (mvT hZ (own_W hw 32 rfl)) (mvT hZ (own_W hw 33 rfl)) (mvT hZ (own_W hw 34 rfl)) (mvT hZ (own_W hw 35 rfl)) (mvT hZ (own_W hw 36 rfl)) (mvT hZ (own_W hw 37 rfl)) (mvT hZ (own_W hw 38 rfl)) (by decide) (backOf (W := 0) (rm6_0 l Z a0 hw [] b8 b20 w_DEF kk_w_DEF (0 : Int32) T20.heap n0 z28 o29 f23 qf20_1 S_DEFAULTCAPACITY_EMPTY_ELEMENTDATA V_w_DEF f24 f25 f26 g_b8) hZ (own_W hw 39 rfl) (own_W hw 3 rfl) (by decide) (by decide)) q27a q27b q27c (g := (mkF m 78 #[.val (.long pl1), .second, .val (.int pi2), .val (.int pi3), .val (.int pi4), .val (.int pi5), .val (.int pi6), .val (.int (3 : Int32)), .val (.ref b1), .val (.int (3 : Int32)), .val (.ref b8), .unset] [(.ref b20), (.ref b8)])) rfl (by rw [hml]; rfl) (Steps.refl _) (argsL := [(.ref b20)]) (rest := []) (lenOf pd_2 rfl) rfl (by show 2 * 0 + _ ≤ _; exact Nat.le_of_eq rfl) (hb hby at_78) (fun _ _ => ⟨rfl, rfl, (by decide : 3 + 1 ≤ _), (by decide : 7 + 10 ≤ _)⟩)
  dsimp only [Pt.U, Pt.locs, Pt.cells, Pt.slots] at X27 l27 y27 z27 st27 hQ27
  subst l27 y27 z27
  obtain ⟨b27, b27_1, rfl, N27q, K27, qf27_0, qf27_1, qf27_2, qf27_3, qf27_4, qf27_5, qf27_6⟩ := hQ27
  have N27 := Fr.app N20 N27q
  have z31 := Nat.le_trans z28 K27.1
  have o32 := o29.keep K27 (allS g_b8 all0)
  obtain ⟨_, _, ⟨T30, L30, k30, n30⟩, -, X30, ⟨Lc30, hQ30, l30, y30, z30⟩, st30⟩ := Jvm.LawKit.callS X27 hx (y := (⟨"com/example/shardwright/shardwright/cli/RowIsBlankPinLaw", "field", "(II)[B"⟩ : MethodName)) hown (mvT hZ (own_W hw 27 rfl)) (mvT hZ (own_W hw 28 rfl)) (mvT hZ (own_W hw 29 rfl)) (mvT hZ (own_W hw 30 rfl)) (by decide) (backOf (W := 1) (rm5 l Z a0 hw [] ((pi3.toUInt32 >>> ((3 : Int32) &&& 31).toUInt32).toInt32) pi5 T27.heap n0 z31 o32 ) hZ (own_W hw 30 rfl) (own_W hw 29 rfl) (by decide) (by decide)) (g := (mkF m 97 #[.val (.long pl1), .second, .val (.int pi2), .val (.int pi3), .val (.int pi4), .val (.int pi5), .val (.int pi6), .val (.int (3 : Int32)), .val (.ref b1), .val (.int (3 : Int32)), .val (.ref b8), .unset] [(.int pi5), (.int ((pi3.toUInt32 >>> ((3 : Int32) &&& 31).toUInt32).toInt32)), (.ref b8)])) rfl (by rw [hml]; rfl) (argsL := [(.int ((pi3.toUInt32 >>> ((3 : Int32) &&& 31).toUInt32).toInt32)), (.int pi5)]) (rest := [(.ref b8)]) (lenOf pd_1 rfl) rfl (by show 2 * 0 + _ ≤ _; exact Nat.le_of_eq rfl) (hb hby at_97) (fun _ _ => ⟨rfl, rfl, (by decide : 4 + 1 ≤ _), (by decide : 17 + 1 ≤ _)⟩)
  dsimp only [Pt.U, Pt.locs, Pt.cells, Pt.slots] at X30 l30 y30 z30 st30 hQ30
  subst l30 y30 z30
  obtain ⟨b30, rfl, N30q, K30, qf30_0, qf30_1⟩ := hQ30
  have N30 := Fr.app N27 N30q
  have f33 := qf27_0.keep K30
  have f34 := qf27_1.keep K30 nin0
  have f35 := qf27_2.keep K30 nin0
  have f36 := qf27_5.keep K30 nin0
  have f37 := qf27_3.keep K30 nin0
  have g_b27 : n0 ≤ b27 := Nat.le_trans z28 qf27_4
  have z39 := Nat.le_trans z31 K30.1
  have o40 := o32.keep K30 all0
  obtain ⟨cq38, kq38, q38a, q38b, q38c⟩ := isOf hZ rfl f33
  obtain ⟨_, _, ⟨T38, L38, k38, n38⟩, -, X38, ⟨Lc38, hQ38, l38, y38, z38⟩, st38⟩ := X30.interfaceBack hx (xi := (⟨"java/util/List", "add", "(Ljava/lang/Object;)Z"⟩ : MethodName)) (y := (⟨"java/util/ArrayList", "add", "(Ljava/lang/Object;)Z"⟩ : MethodName)) hown (mvT hZ (own_W hw 31 rfl)) (mvT hZ (own_W hw 32 rfl)) (mvT hZ (own_W hw 33 rfl)) (mvT hZ (own_W hw 34 rfl)) (mvT hZ (own_W hw 35 rfl)) (mvT hZ (own_W hw 36 rfl)) (mvT hZ (own_W hw 37 rfl)) (mvT hZ (own_W hw 38 rfl)) (by decide) (backOf (W := 0) (rm6_1 l Z a0 hw [] b8 b30 ((0 : Int32) + (1 : Int32)) b27 b27_1 (.ref b20) .null .null .null .null .null .null .null .null .null T30.heap n0 z39 o40 f33 qf30_1 f34 f35 f36 qf27_6 f37 g_b8 (Ne.symm (Nat.ne_of_lt (Nat.lt_of_lt_of_le f23.lt qf27_4))) g_b27) hZ (own_W hw 39 rfl) (own_W hw 3 rfl) (by decide) (by decide)) q38a q38b q38c (g := (mkF m 100 #[.val (.long pl1), .second, .val (.int pi2), .val (.int pi3), .val (.int pi4), .val (.int pi5), .val (.int pi6), .val (.int (3 : Int32)), .val (.ref b1), .val (.int (3 : Int32)), .val (.ref b8), .unset] [(.ref b30), (.ref b8)])) rfl (by rw [hml]; rfl) (Steps.refl _) (argsL := [(.ref b30)]) (rest := []) (lenOf pd_2 rfl) rfl (by show 2 * 0 + _ ≤ _; exact Nat.le_of_eq rfl) (hb hby at_100) (fun _ _ => ⟨rfl, rfl, (by decide : 5 + 0 ≤ _), (by decide : 18 + 0 ≤ _)⟩)
  dsimp only [Pt.U, Pt.locs, Pt.cells, Pt.slots] at X38 l38 y38 z38 st38 hQ38
  subst l38 y38 z38
  obtain ⟨rfl, N38q, K38, qf38_0, qf38_1, qf38_2, qf38_3, qf38_4, qf38_5⟩ := hQ38
  have N38 := Fr.app N30 N38q
  have z42 := Nat.le_trans z39 K38.1
  have o43 := o40.keep K38 (allS g_b8 (allS g_b27 all0))
  obtain ⟨_, _, ⟨T41, L41, k41, n41⟩, -, X41, ⟨Lc41, hQ41, l41, y41, z41⟩, st41⟩ := Jvm.LawKit.callS X38 hx (y := (⟨"com/example/shardwright/shardwright/cli/RowIsBlankPinLaw", "field", "(II)[B"⟩ : MethodName)) hown (mvT hZ (own_W hw 27 rfl)) (mvT hZ (own_W hw 28 rfl)) (mvT hZ (own_W hw 29 rfl)) (mvT hZ (own_W hw 30 rfl)) (by decide) (backOf (W := 1) (rm5 l Z a0 hw [] ((pi3.toUInt32 >>> ((4 : Int32) &&& 31).toUInt32).toInt32) pi6 T38.heap n0 z42 o43 ) hZ (own_W hw 30 rfl) (own_W hw 29 rfl) (by decide) (by decide)) (g := (mkF m 119 #[.val (.long pl1), .second, .val (.int pi2), .val (.int pi3), .val (.int pi4), .val (.int pi5), .val (.int pi6), .val (.int (3 : Int32)), .val (.ref b1), .val (.int (3 : Int32)), .val (.ref b8), .unset] [(.int pi6), (.int ((pi3.toUInt32 >>> ((4 : Int32) &&& 31).toUInt32).toInt32)), (.ref b8)])) rfl (by rw [hml]; rfl) (argsL := [(.int ((pi3.toUInt32 >>> ((4 : Int32) &&& 31).toUInt32).toInt32)), (.int pi6)]) (rest := [(.ref b8)]) (lenOf pd_1 rfl) rfl (by show 2 * 0 + _ ≤ _; exact Nat.le_of_eq rfl) (hb hby at_119) (fun _ _ => ⟨rfl, rfl, (by decide : 5 + 1 ≤ _), (by decide : 18 + 1 ≤ _)⟩)
  dsimp only [Pt.U, Pt.locs, Pt.cells, Pt.slots] at X41 l41 y41 z41 st41 hQ41
  subst l41 y41 z41
  obtain ⟨b41, rfl, N41q, K41, qf41_0, qf41_1⟩ := hQ41
  have N41 := Fr.app N38 N41q
  have f44 := qf38_0.keep K41
  have f45 := qf38_1.keep K41 nin0
  have f46 := qf38_2.keep K41 nin0
  have f47 := qf38_4.keep K41 nin0
  have f48 := qf38_3.keep K41 nin0
  have z50 := Nat.le_trans z42 K41.1
  have o51 := o43.keep K41 all0
  obtain ⟨cq49, kq49, q49a, q49b, q49c⟩ := isOf hZ rfl f44
  obtain ⟨_, _, ⟨T49, L49, k49, n49⟩, -, X49, ⟨Lc49, hQ49, l49, y49, z49⟩, st49⟩ := X41.interfaceBack hx (xi := (⟨"java/util/List", "add", "(Ljava/lang/Object;)Z"⟩ : MethodName)) (y := (⟨"java/util/ArrayList", "add", "(Ljava/lang/Object;)Z"⟩ : MethodName)) hown (mvT hZ (own_W hw 31 rfl)) (mvT hZ (own_W hw 32 rfl)) (mvT hZ (own_W hw 33 rfl)) (mvT hZ (own_W hw 34 rfl)) (mvT hZ (own_W hw 35 rfl)) (mvT hZ (own_W hw 36 rfl)) (mvT hZ (own_W hw 37 rfl)) (mvT hZ (own_W hw 38 rfl)) (by decide) (backOf (W := 0) (rm6_2 l Z a0 hw [] b8 b41 (((0 : Int32) + (1 : Int32)) + (1 : Int32)) b27 b27_1 (.ref b20) (.ref b30) .null .null .null .null .null .null .null .null T41.heap n0 z50 o51 f44 qf41_1 f45 f46 f47 qf38_5 f48 g_b8 (Ne.symm (Nat.ne_of_lt (Nat.lt_of_lt_of_le f23.lt qf27_4))) g_b27) hZ (own_W hw 39 rfl) (own_W hw 3 rfl) (by decide) (by decide)) q49a q49b q49c (g := (mkF m 122 #[.val (.long pl1), .second, .val (.int pi2), .val (.int pi3), .val (.int pi4), .val (.int pi5), .val (.int pi6), .val (.int (3 : Int32)), .val (.ref b1), .val (.int (3 : Int32)), .val (.ref b8), .unset] [(.ref b41), (.ref b8)])) rfl (by rw [hml]; rfl) (Steps.refl _) (argsL := [(.ref b41)]) (rest := []) (lenOf pd_2 rfl) rfl (by show 2 * 0 + _ ≤ _; exact Nat.le_of_eq rfl) (hb hby at_122) (fun _ _ => ⟨rfl, rfl, (by decide : 6 + 0 ≤ _), (by decide : 19 + 0 ≤ _)⟩)
  dsimp only [Pt.U, Pt.locs, Pt.cells, Pt.slots] at X49 l49 y49 z49 st49 hQ49
  subst l49 y49 z49
  obtain ⟨rfl, N49q, K49, qf49_0, qf49_1, qf49_2, qf49_3, qf49_4, qf49_5⟩ := hQ49
  have N49 := Fr.app N41 N49q
  obtain ⟨T52, h52, X52, e52, E52, A52, D52, -, st52⟩ := newO X49 hx hZ hown (own_W hw 66 rfl) (own_W hw 67 rfl) (own_W hw 68 rfl) rfl (g := (mkF m 128 #[.val (.long pl1), .second, .val (.int pi2), .val (.int pi3), .val (.int pi4), .val (.int pi5), .val (.int pi6), .val (.int (3 : Int32)), .val (.ref b1), .val (.int (3 : Int32)), .val (.ref b8), .unset] [])) rfl (hb hby at_128) (by decide) (by decide)
  obtain ⟨b52, g52⟩ : ∃ z, z = T49.heap.size := ⟨_, rfl⟩
  rw [← g52] at A52 D52 st52
  have F_line_b52 : Fld Z h52 b52 "com/example/shardwright/shardwright/cli/CsvReader$Row" "line" "J" (.long (0 : Int64)) := D52 (Or.inr (own_W hw 79 rfl)) (ty := .long) (by decide)
  have F_text_b52 : Fld Z h52 b52 "com/example/shardwright/shardwright/cli/CsvReader$Row" "text" "[B" .null := D52 (Or.inr (own_W hw 81 rfl)) (ty := (.array .byte)) (by decide)
  have F_fields_b52 : Fld Z h52 b52 "com/example/shardwright/shardwright/cli/CsvReader$Row" "fields" "Ljava/util/List;" .null := D52 (Or.inr (own_W hw 83 rfl)) (ty := (.object "java/util/List")) (by decide)
  have z53 := Nat.le_trans z50 K49.1
  have g_b52 : n0 ≤ b52 := Nat.le_trans z53 (Nat.le_of_eq g52.symm)
  have z55 := Nat.le_trans z53 E52.1
  have o56 := o51.keep K49 (allS g_b8 (allS g_b27 all0))
  have o57 := o56.ext E52
  obtain ⟨_, _, ⟨T54, L54, k54, n54⟩, -, X54, ⟨Lc54, hQ54, l54, y54, z54⟩, st54⟩ := X52.specialBack hx (y := (⟨"com/example/shardwright/shardwright/cli/CsvReader$Row", "<init>", "(J[BLjava/util/List;)V"⟩ : MethodName)) rfl hown (mvT hZ (own_W hw 69 rfl)) (mvT hZ (own_W hw 70 rfl)) (mvT hZ (own_W hw 71 rfl)) (by decide) (backOf (W := 1) (rm11 l Z a0 hw [] b52 pl1 b1 b8 (.long (0 : Int64)) .null .null h52 n0 z55 o57 A52 F_line_b52 g_b52 F_text_b52 F_fields_b52) hZ (own_W hw 71 rfl) (own_W hw 68 rfl) (by decide) (by decide)) (g := (mkF m 137 #[.val (.long pl1), .second, .val (.int pi2), .val (.int pi3), .val (.int pi4), .val (.int pi5), .val (.int pi6), .val (.int (3 : Int32)), .val (.ref b1), .val (.int (3 : Int32)), .val (.ref b8), .unset] [(.ref b8), (.ref b1), (.long pl1), (.ref b52), (.ref b52)])) rfl (by rw [hml]; rfl) (Steps.refl _) (a := b52) (argsL := [(.long pl1), (.ref b1), (.ref b8)]) (rest := [(.ref b52)]) (lenOf pd_7 rfl) rfl (by show 2 * 0 + _ ≤ _; exact Nat.le_of_eq rfl) (hb hby at_137) (fun _ _ => ⟨rfl, e52, (by decide : 7 + 0 ≤ _), (by decide : 22 + 0 ≤ _)⟩)
  dsimp only [Pt.U, Pt.locs, Pt.cells, Pt.slots] at X54 l54 y54 z54 st54 hQ54
  subst l54 y54 z54
  obtain ⟨rfl, N54q, K54, qf54_0, qf54_1, qf54_2, qf54_3⟩ := hQ54
  have N54 := Fr.app N49 N54q
  have f58 := V7.ext E8
  have f59 := f58.keep K13 (ninS (Nat.ne_of_lt (Nat.lt_of_lt_of_le V7.lt (Nat.le_of_eq g8.symm))) nin0)
  have f60 := f59.keep K20 nin0
  have f61 := f60.keep K27 (ninS (Nat.ne_of_lt (Nat.lt_of_lt_of_le V7.lt (Nat.le_of_eq g8.symm))) nin0)
  have f62 := f61.keep K30 nin0
  have f63 := f62.keep K38 (ninS (Nat.ne_of_lt (Nat.lt_of_lt_of_le V7.lt (Nat.le_of_eq g8.symm))) (ninS (Nat.ne_of_lt (Nat.lt_of_lt_of_le f60.lt qf27_4)) nin0))
  have f64 := f63.keep K41 nin0
  have f65 := f64.keep K49 (ninS (Nat.ne_of_lt (Nat.lt_of_lt_of_le V7.lt (Nat.le_of_eq g8.symm))) (ninS (Nat.ne_of_lt (Nat.lt_of_lt_of_le f60.lt qf27_4)) nin0))
  have f66 := f65.ext E52
  have f67 := f66.keep K54 (ninS (Nat.ne_of_lt (Nat.lt_of_lt_of_le f65.lt (Nat.le_of_eq g52.symm))) nin0)
  have z69 := Nat.le_trans z55 K54.1
  have o70 := o57.keep K54 (allS g_b52 all0)
  obtain ⟨cq68, kq68, q68a, q68b, q68c⟩ := isOf hZ rfl qf54_0
  obtain ⟨_, _, ⟨T68, L68, k68, n68⟩, -, X68, ⟨Lc68, hQ68, l68, y68, z68⟩, st68⟩ := X54.virtualBack hx (y := (⟨"com/example/shardwright/shardwright/cli/CsvReader$Row", "isBlank", "()Z"⟩ : MethodName)) (z := (⟨"com/example/shardwright/shardwright/cli/CsvReader$Row", "isBlank", "()Z"⟩ : MethodName)) hown (mvT hZ (own_W hw 84 rfl)) (mvT hZ (own_W hw 85 rfl)) (notFace_of_selects (args := #[]) (mvT hZ (own_W hw 87 rfl))) (mvT hZ (own_W hw 87 rfl)) (mvT hZ (own_W hw 86 rfl)) (by decide) (backOf (W := 0) (rm13_3 l Z a0 hw [] b52 b1 k1 (nar .byte (pi4.toInt8.toInt32)) (nar .byte (pi5.toInt8.toInt32)) (nar .byte (pi6.toInt8.toInt32)) T54.heap n0 z69 o70 qf54_2 f67) hZ (own_W hw 88 rfl) (own_W hw 68 rfl) (by decide) (by decide)) q68a q68c (g := (mkF m 144 #[.val (.long pl1), .second, .val (.int pi2), .val (.int pi3), .val (.int pi4), .val (.int pi5), .val (.int pi6), .val (.int (3 : Int32)), .val (.ref b1), .val (.int (3 : Int32)), .val (.ref b8), .val (.ref b52)] [(.ref b52)])) rfl (by rw [hml]; rfl) (Steps.refl _) (argsL := []) (rest := []) (lenOf pd_8 rfl) rfl (by show 2 * 0 + _ ≤ _; exact Nat.le_of_eq rfl) (hb hby at_144) (fun _ _ => ⟨rfl, rfl, (by decide : 7 + 0 ≤ _), (by decide : 22 + 0 ≤ _)⟩)
  dsimp only [Pt.U, Pt.locs, Pt.cells, Pt.slots] at X68 l68 y68 z68 st68 hQ68
  subst l68 y68 z68
  obtain ⟨rfl, N68q, eq68⟩ := hQ68
  have N68 := Fr.app N54 N68q
  obtain ⟨fs, hr, hrun, hended, hW, hsame⟩ := X68.leave (v := some (.int (1 : Int32))) (fun h => by rw [Bd.returns] at h; cases h)
  refine ⟨_, _, pre0 _ ?_, hrun, hended, _, _, rfl, ?_, ⟨_, rfl⟩, hW, hsame.mono (by decide) (by decide)⟩
  · show Stp p e below s₁ m 0 #[.val (.long pl1), .second, .val (.int pi2), .val (.int pi3), .val (.int pi4), .val (.int pi5), .val (.int pi6), .unset, .unset, .unset, .unset, .unset] [] _
    refine XS.iloadN X0.here hx rfl (hb hby at_0) rfl ?_
    show Stp p e below s₁ m 1 #[.val (.long pl1), .second, .val (.int pi2), .val (.int pi3), .val (.int pi4), .val (.int pi5), .val (.int pi6), .unset, .unset, .unset, .unset, .unset] [(.int pi2)] _
    refine XS.iconst X0.here hx rfl (hb hby at_1) ?_
    show Stp p e below s₁ m 2 #[.val (.long pl1), .second, .val (.int pi2), .val (.int pi3), .val (.int pi4), .val (.int pi5), .val (.int pi6), .unset, .unset, .unset, .unset, .unset] [(.int (3 : Int32)), (.int pi2)] _
    refine XS.iand X0.here hx rfl (hb hby at_2) rfl ?_
    show Stp p e below s₁ m 3 #[.val (.long pl1), .second, .val (.int pi2), .val (.int pi3), .val (.int pi4), .val (.int pi5), .val (.int pi6), .unset, .unset, .unset, .unset, .unset] [(.int (pi2 &&& (3 : Int32)))] _
    refine XS.istore X0.here hx rfl (hb hby at_3) rfl (l' := #[.val (.long pl1), .second, .val (.int pi2), .val (.int pi3), .val (.int pi4), .val (.int pi5), .val (.int pi6), .val (.int (pi2 &&& (3 : Int32))), .unset, .unset, .unset, .unset]) rfl ?_
    show Stp p e below s₁ m 5 #[.val (.long pl1), .second, .val (.int pi2), .val (.int pi3), .val (.int pi4), .val (.int pi5), .val (.int pi6), .val (.int (pi2 &&& (3 : Int32))), .unset, .unset, .unset, .unset] [] _
    rw [show (pi2 &&& (3 : Int32)) = (3 : Int32) from own_n3 hc3_0 hc3_1 hc3_2]
    show Stp p e below s₁ m 5 #[.val (.long pl1), .second, .val (.int pi2), .val (.int pi3), .val (.int pi4), .val (.int pi5), .val (.int pi6), .val (.int (3 : Int32)), .unset, .unset, .unset, .unset] [] _
    refine XS.iload X0.here hx rfl (hb hby at_5) rfl ?_
    show Stp p e below s₁ m 7 #[.val (.long pl1), .second, .val (.int pi2), .val (.int pi3), .val (.int pi4), .val (.int pi5), .val (.int pi6), .val (.int (3 : Int32)), .unset, .unset, .unset, .unset] [(.int (3 : Int32))] _
    refine st1 _ ?_
    show Stp p e below T1 m 9 #[.val (.long pl1), .second, .val (.int pi2), .val (.int pi3), .val (.int pi4), .val (.int pi5), .val (.int pi6), .val (.int (3 : Int32)), .unset, .unset, .unset, .unset] [(.ref b1)] _
    refine XS.astore X1.here hx rfl (hb hby at_9) rfl rfl (l' := #[.val (.long pl1), .second, .val (.int pi2), .val (.int pi3), .val (.int pi4), .val (.int pi5), .val (.int pi6), .val (.int (3 : Int32)), .val (.ref b1), .unset, .unset, .unset]) rfl ?_
    show Stp p e below T1 m 11 #[.val (.long pl1), .second, .val (.int pi2), .val (.int pi3), .val (.int pi4), .val (.int pi5), .val (.int pi6), .val (.int (3 : Int32)), .val (.ref b1), .unset, .unset, .unset] [] _
    refine XS.iload X1.here hx rfl (hb hby at_11) rfl ?_
    show Stp p e below T1 m 13 #[.val (.long pl1), .second, .val (.int pi2), .val (.int pi3), .val (.int pi4), .val (.int pi5), .val (.int pi6), .val (.int (3 : Int32)), .val (.ref b1), .unset, .unset, .unset] [(.int (3 : Int32))] _
    refine XS.ifNo X1.here hx rfl (hb hby at_13) rfl ((if0 _ _).trans (tlt (by decide : (0 : Int32) < (3 : Int32))).2.2.2) ?_
    show Stp p e below T1 m 16 #[.val (.long pl1), .second, .val (.int pi2), .val (.int pi3), .val (.int pi4), .val (.int pi5), .val (.int pi6), .val (.int (3 : Int32)), .val (.ref b1), .unset, .unset, .unset] [] _
    refine XS.aload X1.here hx rfl (hb hby at_16) rfl rfl ?_
    show Stp p e below T1 m 18 #[.val (.long pl1), .second, .val (.int pi2), .val (.int pi3), .val (.int pi4), .val (.int pi5), .val (.int pi6), .val (.int (3 : Int32)), .val (.ref b1), .unset, .unset, .unset] [(.ref b1)] _
    refine XS.iconst X1.here hx rfl (hb hby at_18) ?_
    show Stp p e below T1 m 19 #[.val (.long pl1), .second, .val (.int pi2), .val (.int pi3), .val (.int pi4), .val (.int pi5), .val (.int pi6), .val (.int (3 : Int32)), .val (.ref b1), .unset, .unset, .unset] [(.int (0 : Int32)), (.ref b1)] _
    refine XS.iload X1.here hx rfl (hb hby at_19) rfl ?_
    show Stp p e below T1 m 21 #[.val (.long pl1), .second, .val (.int pi2), .val (.int pi3), .val (.int pi4), .val (.int pi5), .val (.int pi6), .val (.int (3 : Int32)), .val (.ref b1), .unset, .unset, .unset] [(.int pi4), (.int (0 : Int32)), (.ref b1)] _
    refine XS.i2b X1.here hx rfl (hb hby at_21) rfl ?_
    show Stp p e below T1 m 22 #[.val (.long pl1), .second, .val (.int pi2), .val (.int pi3), .val (.int pi4), .val (.int pi5), .val (.int pi6), .val (.int (3 : Int32)), .val (.ref b1), .unset, .unset, .unset] [(.int (pi4.toInt8.toInt32)), (.int (0 : Int32)), (.ref b1)] _
    refine st3 _ ?_
    show Stp p e below T3 m 23 #[.val (.long pl1), .second, .val (.int pi2), .val (.int pi3), .val (.int pi4), .val (.int pi5), .val (.int pi6), .val (.int (3 : Int32)), .val (.ref b1), .unset, .unset, .unset] [] _
    refine XS.iload X3.here hx rfl (hb hby at_23) rfl ?_
    show Stp p e below T3 m 25 #[.val (.long pl1), .second, .val (.int pi2), .val (.int pi3), .val (.int pi4), .val (.int pi5), .val (.int pi6), .val (.int (3 : Int32)), .val (.ref b1), .unset, .unset, .unset] [(.int (3 : Int32))] _
    refine XS.iconst X3.here hx rfl (hb hby at_25) ?_
    show Stp p e below T3 m 26 #[.val (.long pl1), .second, .val (.int pi2), .val (.int pi3), .val (.int pi4), .val (.int pi5), .val (.int pi6), .val (.int (3 : Int32)), .val (.ref b1), .unset, .unset, .unset] [(.int (1 : Int32)), (.int (3 : Int32))] _
    refine XS.icmpNo X3.here hx rfl (hb hby at_26) rfl (tlt (by decide : (1 : Int32) < (3 : Int32))).2.2.2 ?_
    show Stp p e below T3 m 29 #[.val (.long pl1), .second, .val (.int pi2), .val (.int pi3), .val (.int pi4), .val (.int pi5), .val (.int pi6), .val (.int (3 : Int32)), .val (.ref b1), .unset, .unset, .unset] [] _
    refine XS.aload X3.here hx rfl (hb hby at_29) rfl rfl ?_
    show Stp p e below T3 m 31 #[.val (.long pl1), .second, .val (.int pi2), .val (.int pi3), .val (.int pi4), .val (.int pi5), .val (.int pi6), .val (.int (3 : Int32)), .val (.ref b1), .unset, .unset, .unset] [(.ref b1)] _
    refine XS.iconst X3.here hx rfl (hb hby at_31) ?_
    show Stp p e below T3 m 32 #[.val (.long pl1), .second, .val (.int pi2), .val (.int pi3), .val (.int pi4), .val (.int pi5), .val (.int pi6), .val (.int (3 : Int32)), .val (.ref b1), .unset, .unset, .unset] [(.int (1 : Int32)), (.ref b1)] _
    refine XS.iload X3.here hx rfl (hb hby at_32) rfl ?_
    show Stp p e below T3 m 34 #[.val (.long pl1), .second, .val (.int pi2), .val (.int pi3), .val (.int pi4), .val (.int pi5), .val (.int pi6), .val (.int (3 : Int32)), .val (.ref b1), .unset, .unset, .unset] [(.int pi5), (.int (1 : Int32)), (.ref b1)] _
    refine XS.i2b X3.here hx rfl (hb hby at_34) rfl ?_
    show Stp p e below T3 m 35 #[.val (.long pl1), .second, .val (.int pi2), .val (.int pi3), .val (.int pi4), .val (.int pi5), .val (.int pi6), .val (.int (3 : Int32)), .val (.ref b1), .unset, .unset, .unset] [(.int (pi5.toInt8.toInt32)), (.int (1 : Int32)), (.ref b1)] _
    refine st5 _ ?_
    show Stp p e below T5 m 36 #[.val (.long pl1), .second, .val (.int pi2), .val (.int pi3), .val (.int pi4), .val (.int pi5), .val (.int pi6), .val (.int (3 : Int32)), .val (.ref b1), .unset, .unset, .unset] [] _
    refine XS.iload X5.here hx rfl (hb hby at_36) rfl ?_
    show Stp p e below T5 m 38 #[.val (.long pl1), .second, .val (.int pi2), .val (.int pi3), .val (.int pi4), .val (.int pi5), .val (.int pi6), .val (.int (3 : Int32)), .val (.ref b1), .unset, .unset, .unset] [(.int (3 : Int32))] _
    refine XS.iconst X5.here hx rfl (hb hby at_38) ?_
    show Stp p e below T5 m 39 #[.val (.long pl1), .second, .val (.int pi2), .val (.int pi3), .val (.int pi4), .val (.int pi5), .val (.int pi6), .val (.int (3 : Int32)), .val (.ref b1), .unset, .unset, .unset] [(.int (2 : Int32)), (.int (3 : Int32))] _
    refine XS.icmpNo X5.here hx rfl (hb hby at_39) rfl (tlt (by decide : (2 : Int32) < (3 : Int32))).2.2.2 ?_
    show Stp p e below T5 m 42 #[.val (.long pl1), .second, .val (.int pi2), .val (.int pi3), .val (.int pi4), .val (.int pi5), .val (.int pi6), .val (.int (3 : Int32)), .val (.ref b1), .unset, .unset, .unset] [] _
    refine XS.aload X5.here hx rfl (hb hby at_42) rfl rfl ?_
    show Stp p e below T5 m 44 #[.val (.long pl1), .second, .val (.int pi2), .val (.int pi3), .val (.int pi4), .val (.int pi5), .val (.int pi6), .val (.int (3 : Int32)), .val (.ref b1), .unset, .unset, .unset] [(.ref b1)] _
    refine XS.iconst X5.here hx rfl (hb hby at_44) ?_
    show Stp p e below T5 m 45 #[.val (.long pl1), .second, .val (.int pi2), .val (.int pi3), .val (.int pi4), .val (.int pi5), .val (.int pi6), .val (.int (3 : Int32)), .val (.ref b1), .unset, .unset, .unset] [(.int (2 : Int32)), (.ref b1)] _
    refine XS.iload X5.here hx rfl (hb hby at_45) rfl ?_
    show Stp p e below T5 m 47 #[.val (.long pl1), .second, .val (.int pi2), .val (.int pi3), .val (.int pi4), .val (.int pi5), .val (.int pi6), .val (.int (3 : Int32)), .val (.ref b1), .unset, .unset, .unset] [(.int pi6), (.int (2 : Int32)), (.ref b1)] _
    refine XS.i2b X5.here hx rfl (hb hby at_47) rfl ?_
    show Stp p e below T5 m 48 #[.val (.long pl1), .second, .val (.int pi2), .val (.int pi3), .val (.int pi4), .val (.int pi5), .val (.int pi6), .val (.int (3 : Int32)), .val (.ref b1), .unset, .unset, .unset] [(.int (pi6.toInt8.toInt32)), (.int (2 : Int32)), (.ref b1)] _
    refine st7 _ ?_
    show Stp p e below T7 m 49 #[.val (.long pl1), .second, .val (.int pi2), .val (.int pi3), .val (.int pi4), .val (.int pi5), .val (.int pi6), .val (.int (3 : Int32)), .val (.ref b1), .unset, .unset, .unset] [] _
    refine XS.iloadN X7.here hx rfl (hb hby at_49) rfl ?_
    show Stp p e below T7 m 50 #[.val (.long pl1), .second, .val (.int pi2), .val (.int pi3), .val (.int pi4), .val (.int pi5), .val (.int pi6), .val (.int (3 : Int32)), .val (.ref b1), .unset, .unset, .unset] [(.int pi3)] _
    refine XS.iconst X7.here hx rfl (hb hby at_50) ?_
    show Stp p e below T7 m 51 #[.val (.long pl1), .second, .val (.int pi2), .val (.int pi3), .val (.int pi4), .val (.int pi5), .val (.int pi6), .val (.int (3 : Int32)), .val (.ref b1), .unset, .unset, .unset] [(.int (3 : Int32)), (.int pi3)] _
    refine XS.iand X7.here hx rfl (hb hby at_51) rfl ?_
    show Stp p e below T7 m 52 #[.val (.long pl1), .second, .val (.int pi2), .val (.int pi3), .val (.int pi4), .val (.int pi5), .val (.int pi6), .val (.int (3 : Int32)), .val (.ref b1), .unset, .unset, .unset] [(.int (pi3 &&& (3 : Int32)))] _
    refine XS.istore X7.here hx rfl (hb hby at_52) rfl (l' := #[.val (.long pl1), .second, .val (.int pi2), .val (.int pi3), .val (.int pi4), .val (.int pi5), .val (.int pi6), .val (.int (3 : Int32)), .val (.ref b1), .val (.int (pi3 &&& (3 : Int32))), .unset, .unset]) rfl ?_
    show Stp p e below T7 m 54 #[.val (.long pl1), .second, .val (.int pi2), .val (.int pi3), .val (.int pi4), .val (.int pi5), .val (.int pi6), .val (.int (3 : Int32)), .val (.ref b1), .val (.int (pi3 &&& (3 : Int32))), .unset, .unset] [] _
    rw [show (pi3 &&& (3 : Int32)) = (3 : Int32) from own_n3 hc52_3 hc52_4 hc52_5]
    show Stp p e below T7 m 54 #[.val (.long pl1), .second, .val (.int pi2), .val (.int pi3), .val (.int pi4), .val (.int pi5), .val (.int pi6), .val (.int (3 : Int32)), .val (.ref b1), .val (.int (3 : Int32)), .unset, .unset] [] _
    refine st8 _ ?_
    show Stp p e below T8 m 57 #[.val (.long pl1), .second, .val (.int pi2), .val (.int pi3), .val (.int pi4), .val (.int pi5), .val (.int pi6), .val (.int (3 : Int32)), .val (.ref b1), .val (.int (3 : Int32)), .unset, .unset] [(.ref b8)] _
    refine XS.dup X8.here hx rfl (hb hby at_57) rfl rfl ?_
    show Stp p e below T8 m 58 #[.val (.long pl1), .second, .val (.int pi2), .val (.int pi3), .val (.int pi4), .val (.int pi5), .val (.int pi6), .val (.int (3 : Int32)), .val (.ref b1), .val (.int (3 : Int32)), .unset, .unset] [(.ref b8), (.ref b8)] _
    refine st13.trans ?_
    show Stp p e below T13 m 61 #[.val (.long pl1), .second, .val (.int pi2), .val (.int pi3), .val (.int pi4), .val (.int pi5), .val (.int pi6), .val (.int (3 : Int32)), .val (.ref b1), .val (.int (3 : Int32)), .unset, .unset] [(.ref b8)] _
    refine XS.astore X13.here hx rfl (hb hby at_61) rfl rfl (l' := #[.val (.long pl1), .second, .val (.int pi2), .val (.int pi3), .val (.int pi4), .val (.int pi5), .val (.int pi6), .val (.int (3 : Int32)), .val (.ref b1), .val (.int (3 : Int32)), .val (.ref b8), .unset]) rfl ?_
    show Stp p e below T13 m 63 #[.val (.long pl1), .second, .val (.int pi2), .val (.int pi3), .val (.int pi4), .val (.int pi5), .val (.int pi6), .val (.int (3 : Int32)), .val (.ref b1), .val (.int (3 : Int32)), .val (.ref b8), .unset] [] _
    refine XS.iload X13.here hx rfl (hb hby at_63) rfl ?_
    show Stp p e below T13 m 65 #[.val (.long pl1), .second, .val (.int pi2), .val (.int pi3), .val (.int pi4), .val (.int pi5), .val (.int pi6), .val (.int (3 : Int32)), .val (.ref b1), .val (.int (3 : Int32)), .val (.ref b8), .unset] [(.int (3 : Int32))] _
    refine XS.ifNo X13.here hx rfl (hb hby at_65) rfl ((if0 _ _).trans (tlt (by decide : (0 : Int32) < (3 : Int32))).2.2.2) ?_
    show Stp p e below T13 m 68 #[.val (.long pl1), .second, .val (.int pi2), .val (.int pi3), .val (.int pi4), .val (.int pi5), .val (.int pi6), .val (.int (3 : Int32)), .val (.ref b1), .val (.int (3 : Int32)), .val (.ref b8), .unset] [] _
    refine XS.aload X13.here hx rfl (hb hby at_68) rfl rfl ?_
    show Stp p e below T13 m 70 #[.val (.long pl1), .second, .val (.int pi2), .val (.int pi3), .val (.int pi4), .val (.int pi5), .val (.int pi6), .val (.int (3 : Int32)), .val (.ref b1), .val (.int (3 : Int32)), .val (.ref b8), .unset] [(.ref b8)] _
    refine XS.iloadN X13.here hx rfl (hb hby at_70) rfl ?_
    show Stp p e below T13 m 71 #[.val (.long pl1), .second, .val (.int pi2), .val (.int pi3), .val (.int pi4), .val (.int pi5), .val (.int pi6), .val (.int (3 : Int32)), .val (.ref b1), .val (.int (3 : Int32)), .val (.ref b8), .unset] [(.int pi3), (.ref b8)] _
    refine XS.iconst X13.here hx rfl (hb hby at_71) ?_
    show Stp p e below T13 m 72 #[.val (.long pl1), .second, .val (.int pi2), .val (.int pi3), .val (.int pi4), .val (.int pi5), .val (.int pi6), .val (.int (3 : Int32)), .val (.ref b1), .val (.int (3 : Int32)), .val (.ref b8), .unset] [(.int (2 : Int32)), (.int pi3), (.ref b8)] _
    refine XS.iushr X13.here hx rfl (hb hby at_72) rfl ?_
    show Stp p e below T13 m 73 #[.val (.long pl1), .second, .val (.int pi2), .val (.int pi3), .val (.int pi4), .val (.int pi5), .val (.int pi6), .val (.int (3 : Int32)), .val (.ref b1), .val (.int (3 : Int32)), .val (.ref b8), .unset] [(.int ((pi3.toUInt32 >>> ((2 : Int32) &&& 31).toUInt32).toInt32)), (.ref b8)] _
    refine XS.iload X13.here hx rfl (hb hby at_73) rfl ?_
    show Stp p e below T13 m 75 #[.val (.long pl1), .second, .val (.int pi2), .val (.int pi3), .val (.int pi4), .val (.int pi5), .val (.int pi6), .val (.int (3 : Int32)), .val (.ref b1), .val (.int (3 : Int32)), .val (.ref b8), .unset] [(.int pi4), (.int ((pi3.toUInt32 >>> ((2 : Int32) &&& 31).toUInt32).toInt32)), (.ref b8)] _
    refine st20 _ ?_
    show Stp p e below T20 m 78 #[.val (.long pl1), .second, .val (.int pi2), .val (.int pi3), .val (.int pi4), .val (.int pi5), .val (.int pi6), .val (.int (3 : Int32)), .val (.ref b1), .val (.int (3 : Int32)), .val (.ref b8), .unset] [(.ref b20), (.ref b8)] _
    refine st27.trans ?_
    show Stp p e below T27 m 83 #[.val (.long pl1), .second, .val (.int pi2), .val (.int pi3), .val (.int pi4), .val (.int pi5), .val (.int pi6), .val (.int (3 : Int32)), .val (.ref b1), .val (.int (3 : Int32)), .val (.ref b8), .unset] [(.int (1 : Int32))] _
    refine XS.pop X27.here hx rfl (hb hby at_83) rfl rfl ?_
    show Stp p e below T27 m 84 #[.val (.long pl1), .second, .val (.int pi2), .val (.int pi3), .val (.int pi4), .val (.int pi5), .val (.int pi6), .val (.int (3 : Int32)), .val (.ref b1), .val (.int (3 : Int32)), .val (.ref b8), .unset] [] _
    refine XS.iload X27.here hx rfl (hb hby at_84) rfl ?_
    show Stp p e below T27 m 86 #[.val (.long pl1), .second, .val (.int pi2), .val (.int pi3), .val (.int pi4), .val (.int pi5), .val (.int pi6), .val (.int (3 : Int32)), .val (.ref b1), .val (.int (3 : Int32)), .val (.ref b8), .unset] [(.int (3 : Int32))] _
    refine XS.iconst X27.here hx rfl (hb hby at_86) ?_
    show Stp p e below T27 m 87 #[.val (.long pl1), .second, .val (.int pi2), .val (.int pi3), .val (.int pi4), .val (.int pi5), .val (.int pi6), .val (.int (3 : Int32)), .val (.ref b1), .val (.int (3 : Int32)), .val (.ref b8), .unset] [(.int (1 : Int32)), (.int (3 : Int32))] _
    refine XS.icmpNo X27.here hx rfl (hb hby at_87) rfl (tlt (by decide : (1 : Int32) < (3 : Int32))).2.2.2 ?_
    show Stp p e below T27 m 90 #[.val (.long pl1), .second, .val (.int pi2), .val (.int pi3), .val (.int pi4), .val (.int pi5), .val (.int pi6), .val (.int (3 : Int32)), .val (.ref b1), .val (.int (3 : Int32)), .val (.ref b8), .unset] [] _
    refine XS.aload X27.here hx rfl (hb hby at_90) rfl rfl ?_
    show Stp p e below T27 m 92 #[.val (.long pl1), .second, .val (.int pi2), .val (.int pi3), .val (.int pi4), .val (.int pi5), .val (.int pi6), .val (.int (3 : Int32)), .val (.ref b1), .val (.int (3 : Int32)), .val (.ref b8), .unset] [(.ref b8)] _
    refine XS.iloadN X27.here hx rfl (hb hby at_92) rfl ?_
    show Stp p e below T27 m 93 #[.val (.long pl1), .second, .val (.int pi2), .val (.int pi3), .val (.int pi4), .val (.int pi5), .val (.int pi6), .val (.int (3 : Int32)), .val (.ref b1), .val (.int (3 : Int32)), .val (.ref b8), .unset] [(.int pi3), (.ref b8)] _
    refine XS.iconst X27.here hx rfl (hb hby at_93) ?_
    show Stp p e below T27 m 94 #[.val (.long pl1), .second, .val (.int pi2), .val (.int pi3), .val (.int pi4), .val (.int pi5), .val (.int pi6), .val (.int (3 : Int32)), .val (.ref b1), .val (.int (3 : Int32)), .val (.ref b8), .unset] [(.int (3 : Int32)), (.int pi3), (.ref b8)] _
    refine XS.iushr X27.here hx rfl (hb hby at_94) rfl ?_
    show Stp p e below T27 m 95 #[.val (.long pl1), .second, .val (.int pi2), .val (.int pi3), .val (.int pi4), .val (.int pi5), .val (.int pi6), .val (.int (3 : Int32)), .val (.ref b1), .val (.int (3 : Int32)), .val (.ref b8), .unset] [(.int ((pi3.toUInt32 >>> ((3 : Int32) &&& 31).toUInt32).toInt32)), (.ref b8)] _
    refine XS.iload X27.here hx rfl (hb hby at_95) rfl ?_
    show Stp p e below T27 m 97 #[.val (.long pl1), .second, .val (.int pi2), .val (.int pi3), .val (.int pi4), .val (.int pi5), .val (.int pi6), .val (.int (3 : Int32)), .val (.ref b1), .val (.int (3 : Int32)), .val (.ref b8), .unset] [(.int pi5), (.int ((pi3.toUInt32 >>> ((3 : Int32) &&& 31).toUInt32).toInt32)), (.ref b8)] _
    refine st30 _ ?_
    show Stp p e below T30 m 100 #[.val (.long pl1), .second, .val (.int pi2), .val (.int pi3), .val (.int pi4), .val (.int pi5), .val (.int pi6), .val (.int (3 : Int32)), .val (.ref b1), .val (.int (3 : Int32)), .val (.ref b8), .unset] [(.ref b30), (.ref b8)] _
    refine st38.trans ?_
    show Stp p e below T38 m 105 #[.val (.long pl1), .second, .val (.int pi2), .val (.int pi3), .val (.int pi4), .val (.int pi5), .val (.int pi6), .val (.int (3 : Int32)), .val (.ref b1), .val (.int (3 : Int32)), .val (.ref b8), .unset] [(.int (1 : Int32))] _
    refine XS.pop X38.here hx rfl (hb hby at_105) rfl rfl ?_
    show Stp p e below T38 m 106 #[.val (.long pl1), .second, .val (.int pi2), .val (.int pi3), .val (.int pi4), .val (.int pi5), .val (.int pi6), .val (.int (3 : Int32)), .val (.ref b1), .val (.int (3 : Int32)), .val (.ref b8), .unset] [] _
    refine XS.iload X38.here hx rfl (hb hby at_106) rfl ?_
    show Stp p e below T38 m 108 #[.val (.long pl1), .second, .val (.int pi2), .val (.int pi3), .val (.int pi4), .val (.int pi5), .val (.int pi6), .val (.int (3 : Int32)), .val (.ref b1), .val (.int (3 : Int32)), .val (.ref b8), .unset] [(.int (3 : Int32))] _
    refine XS.iconst X38.here hx rfl (hb hby at_108) ?_
    show Stp p e below T38 m 109 #[.val (.long pl1), .second, .val (.int pi2), .val (.int pi3), .val (.int pi4), .val (.int pi5), .val (.int pi6), .val (.int (3 : Int32)), .val (.ref b1), .val (.int (3 : Int32)), .val (.ref b8), .unset] [(.int (2 : Int32)), (.int (3 : Int32))] _
    refine XS.icmpNo X38.here hx rfl (hb hby at_109) rfl (tlt (by decide : (2 : Int32) < (3 : Int32))).2.2.2 ?_
    show Stp p e below T38 m 112 #[.val (.long pl1), .second, .val (.int pi2), .val (.int pi3), .val (.int pi4), .val (.int pi5), .val (.int pi6), .val (.int (3 : Int32)), .val (.ref b1), .val (.int (3 : Int32)), .val (.ref b8), .unset] [] _
    refine XS.aload X38.here hx rfl (hb hby at_112) rfl rfl ?_
    show Stp p e below T38 m 114 #[.val (.long pl1), .second, .val (.int pi2), .val (.int pi3), .val (.int pi4), .val (.int pi5), .val (.int pi6), .val (.int (3 : Int32)), .val (.ref b1), .val (.int (3 : Int32)), .val (.ref b8), .unset] [(.ref b8)] _
    refine XS.iloadN X38.here hx rfl (hb hby at_114) rfl ?_
    show Stp p e below T38 m 115 #[.val (.long pl1), .second, .val (.int pi2), .val (.int pi3), .val (.int pi4), .val (.int pi5), .val (.int pi6), .val (.int (3 : Int32)), .val (.ref b1), .val (.int (3 : Int32)), .val (.ref b8), .unset] [(.int pi3), (.ref b8)] _
    refine XS.iconst X38.here hx rfl (hb hby at_115) ?_
    show Stp p e below T38 m 116 #[.val (.long pl1), .second, .val (.int pi2), .val (.int pi3), .val (.int pi4), .val (.int pi5), .val (.int pi6), .val (.int (3 : Int32)), .val (.ref b1), .val (.int (3 : Int32)), .val (.ref b8), .unset] [(.int (4 : Int32)), (.int pi3), (.ref b8)] _
    refine XS.iushr X38.here hx rfl (hb hby at_116) rfl ?_
    show Stp p e below T38 m 117 #[.val (.long pl1), .second, .val (.int pi2), .val (.int pi3), .val (.int pi4), .val (.int pi5), .val (.int pi6), .val (.int (3 : Int32)), .val (.ref b1), .val (.int (3 : Int32)), .val (.ref b8), .unset] [(.int ((pi3.toUInt32 >>> ((4 : Int32) &&& 31).toUInt32).toInt32)), (.ref b8)] _
    refine XS.iload X38.here hx rfl (hb hby at_117) rfl ?_
    show Stp p e below T38 m 119 #[.val (.long pl1), .second, .val (.int pi2), .val (.int pi3), .val (.int pi4), .val (.int pi5), .val (.int pi6), .val (.int (3 : Int32)), .val (.ref b1), .val (.int (3 : Int32)), .val (.ref b8), .unset] [(.int pi6), (.int ((pi3.toUInt32 >>> ((4 : Int32) &&& 31).toUInt32).toInt32)), (.ref b8)] _
    refine st41 _ ?_
    show Stp p e below T41 m 122 #[.val (.long pl1), .second, .val (.int pi2), .val (.int pi3), .val (.int pi4), .val (.int pi5), .val (.int pi6), .val (.int (3 : Int32)), .val (.ref b1), .val (.int (3 : Int32)), .val (.ref b8), .unset] [(.ref b41), (.ref b8)] _
    refine st49.trans ?_
    show Stp p e below T49 m 127 #[.val (.long pl1), .second, .val (.int pi2), .val (.int pi3), .val (.int pi4), .val (.int pi5), .val (.int pi6), .val (.int (3 : Int32)), .val (.ref b1), .val (.int (3 : Int32)), .val (.ref b8), .unset] [(.int (1 : Int32))] _
    refine XS.pop X49.here hx rfl (hb hby at_127) rfl rfl ?_
    show Stp p e below T49 m 128 #[.val (.long pl1), .second, .val (.int pi2), .val (.int pi3), .val (.int pi4), .val (.int pi5), .val (.int pi6), .val (.int (3 : Int32)), .val (.ref b1), .val (.int (3 : Int32)), .val (.ref b8), .unset] [] _
    refine st52 _ ?_
    show Stp p e below T52 m 131 #[.val (.long pl1), .second, .val (.int pi2), .val (.int pi3), .val (.int pi4), .val (.int pi5), .val (.int pi6), .val (.int (3 : Int32)), .val (.ref b1), .val (.int (3 : Int32)), .val (.ref b8), .unset] [(.ref b52)] _
    refine XS.dup X52.here hx rfl (hb hby at_131) rfl rfl ?_
    show Stp p e below T52 m 132 #[.val (.long pl1), .second, .val (.int pi2), .val (.int pi3), .val (.int pi4), .val (.int pi5), .val (.int pi6), .val (.int (3 : Int32)), .val (.ref b1), .val (.int (3 : Int32)), .val (.ref b8), .unset] [(.ref b52), (.ref b52)] _
    refine XS.lloadN X52.here hx rfl (hb hby at_132) rfl ?_
    show Stp p e below T52 m 133 #[.val (.long pl1), .second, .val (.int pi2), .val (.int pi3), .val (.int pi4), .val (.int pi5), .val (.int pi6), .val (.int (3 : Int32)), .val (.ref b1), .val (.int (3 : Int32)), .val (.ref b8), .unset] [(.long pl1), (.ref b52), (.ref b52)] _
    refine XS.aload X52.here hx rfl (hb hby at_133) rfl rfl ?_
    show Stp p e below T52 m 135 #[.val (.long pl1), .second, .val (.int pi2), .val (.int pi3), .val (.int pi4), .val (.int pi5), .val (.int pi6), .val (.int (3 : Int32)), .val (.ref b1), .val (.int (3 : Int32)), .val (.ref b8), .unset] [(.ref b1), (.long pl1), (.ref b52), (.ref b52)] _
    refine XS.aload X52.here hx rfl (hb hby at_135) rfl rfl ?_
    show Stp p e below T52 m 137 #[.val (.long pl1), .second, .val (.int pi2), .val (.int pi3), .val (.int pi4), .val (.int pi5), .val (.int pi6), .val (.int (3 : Int32)), .val (.ref b1), .val (.int (3 : Int32)), .val (.ref b8), .unset] [(.ref b8), (.ref b1), (.long pl1), (.ref b52), (.ref b52)] _
    refine st54.trans ?_
    show Stp p e below T54 m 140 #[.val (.long pl1), .second, .val (.int pi2), .val (.int pi3), .val (.int pi4), .val (.int pi5), .val (.int pi6), .val (.int (3 : Int32)), .val (.ref b1), .val (.int (3 : Int32)), .val (.ref b8), .unset] [(.ref b52)] _
    refine XS.astore X54.here hx rfl (hb hby at_140) rfl rfl (l' := #[.val (.long pl1), .second, .val (.int pi2), .val (.int pi3), .val (.int pi4), .val (.int pi5), .val (.int pi6), .val (.int (3 : Int32)), .val (.ref b1), .val (.int (3 : Int32)), .val (.ref b8), .val (.ref b52)]) rfl ?_
    show Stp p e below T54 m 142 #[.val (.long pl1), .second, .val (.int pi2), .val (.int pi3), .val (.int pi4), .val (.int pi5), .val (.int pi6), .val (.int (3 : Int32)), .val (.ref b1), .val (.int (3 : Int32)), .val (.ref b8), .val (.ref b52)] [] _
    refine XS.aload X54.here hx rfl (hb hby at_142) rfl rfl ?_
    show Stp p e below T54 m 144 #[.val (.long pl1), .second, .val (.int pi2), .val (.int pi3), .val (.int pi4), .val (.int pi5), .val (.int pi6), .val (.int (3 : Int32)), .val (.ref b1), .val (.int (3 : Int32)), .val (.ref b8), .val (.ref b52)] [(.ref b52)] _
    refine st68.trans ?_
    show Stp p e below T68 m 147 #[.val (.long pl1), .second, .val (.int pi2), .val (.int pi3), .val (.int pi4), .val (.int pi5), .val (.int pi6), .val (.int (3 : Int32)), .val (.ref b1), .val (.int (3 : Int32)), .val (.ref b8), .val (.ref b52)] [(.int (0 : Int32))] _
    refine XS.iload X68.here hx rfl (hb hby at_147) rfl ?_
    show Stp p e below T68 m 149 #[.val (.long pl1), .second, .val (.int pi2), .val (.int pi3), .val (.int pi4), .val (.int pi5), .val (.int pi6), .val (.int (3 : Int32)), .val (.ref b1), .val (.int (3 : Int32)), .val (.ref b8), .val (.ref b52)] [(.int (3 : Int32)), (.int (0 : Int32))] _
    refine XS.ifYes X68.here hx rfl (pc0 := 149) (pc' := 156) rfl (hb hby at_149) rfl ((if0 _ _).trans (feq (by decide : ¬ ((3 : Int32) = (0 : Int32)))).2) (by decide) (by decide) ?_
    show Stp p e below T68 m 156 #[.val (.long pl1), .second, .val (.int pi2), .val (.int pi3), .val (.int pi4), .val (.int pi5), .val (.int pi6), .val (.int (3 : Int32)), .val (.ref b1), .val (.int (3 : Int32)), .val (.ref b8), .val (.ref b52)] [(.int (0 : Int32))] _
    refine XS.iconst X68.here hx rfl (hb hby at_156) ?_
    show Stp p e below T68 m 157 #[.val (.long pl1), .second, .val (.int pi2), .val (.int pi3), .val (.int pi4), .val (.int pi5), .val (.int pi6), .val (.int (3 : Int32)), .val (.ref b1), .val (.int (3 : Int32)), .val (.ref b8), .val (.ref b52)] [(.int (0 : Int32)), (.int (0 : Int32))] _
    refine XS.icmpNo X68.here hx rfl (hb hby at_157) rfl (teq (rfl : (0 : Int32) = (0 : Int32))).2 ?_
    show Stp p e below T68 m 160 #[.val (.long pl1), .second, .val (.int pi2), .val (.int pi3), .val (.int pi4), .val (.int pi5), .val (.int pi6), .val (.int (3 : Int32)), .val (.ref b1), .val (.int (3 : Int32)), .val (.ref b8), .val (.ref b52)] [] _
    refine XS.iconst X68.here hx rfl (hb hby at_160) ?_
    show Stp p e below T68 m 161 #[.val (.long pl1), .second, .val (.int pi2), .val (.int pi3), .val (.int pi4), .val (.int pi5), .val (.int pi6), .val (.int (3 : Int32)), .val (.ref b1), .val (.int (3 : Int32)), .val (.ref b8), .val (.ref b52)] [(.int (1 : Int32))] _
    refine XS.goto X68.here hx rfl (pc0 := 161) (pc' := 165) rfl (hb hby at_161) (by decide) (by decide) ?_
    show Stp p e below T68 m 165 #[.val (.long pl1), .second, .val (.int pi2), .val (.int pi3), .val (.int pi4), .val (.int pi5), .val (.int pi6), .val (.int (3 : Int32)), .val (.ref b1), .val (.int (3 : Int32)), .val (.ref b8), .val (.ref b52)] [(.int (1 : Int32))] _
    exact retN X68 hx (t := .boolean) Bd.returns (by simp) (hb hby at_165) hr
  · exact ⟨rfl, N68⟩
set_option maxRecDepth 65536 in
set_option maxHeartbeats 40000000 in
theorem rm0 (l : Launch) (Z : State) (a0 : Array Value) (hw : ∀ d ∈ tables_1, d.before a0 Z = true) (ws : List Jvm.Cond) (pl1 : Int64) (pi2 : Int32) (pi3 : Int32) (pi4 : Int32) (pi5 : Int32) (pi6 : Int32) (w_DEF : Addr) (kk_w_DEF : ClassId) (h0 : Heap) (n0 : Nat) (Z0 : n0 ≤ h0.size) (O0 : Old Z n0 h0) (S_DEFAULTCAPACITY_EMPTY_ELEMENTDATA : Sta Z Z.heap "java/util/ArrayList" "DEFAULTCAPACITY_EMPTY_ELEMENTDATA" "[Ljava/lang/Object;" (.ref w_DEF)) (V_w_DEF : Arv Z Z.heap w_DEF kk_w_DEF (.object "java/lang/Object") (0 : Int32) [] .null) :
    MetFree l x (head1 (Jvm.Cond.code x code maxLocals ret :: ws) room_1) (fun a U => a = #[(.long pl1), (.int pi2), (.int pi3), (.int pi4), (.int pi5), (.int pi6)] ∧ Z.Warmed39 U.vm ∧ U.heap = h0) (fun _ _ _ _ _ => True) (fun _ U o U' => ∃ v L, o = .returned v ∧ Q0 v L n0 ∧ FrameEnd U o U' L room_1.cells room_1.slots) := by
  by_cases H1 : (pi2 &&& (3 : Int32)) = (0 : Int32)
  · by_cases H2 : (pi3 &&& (3 : Int32)) = (0 : Int32)
    · exact rm0_tt l Z a0 hw ws pl1 pi2 pi3 pi4 pi5 pi6 w_DEF kk_w_DEF h0 n0 Z0 O0 S_DEFAULTCAPACITY_EMPTY_ELEMENTDATA V_w_DEF H1 H2
    · by_cases H3 : (pi3 &&& (3 : Int32)) = (1 : Int32)
      · exact rm0_tft l Z a0 hw ws pl1 pi2 pi3 pi4 pi5 pi6 w_DEF kk_w_DEF h0 n0 Z0 O0 S_DEFAULTCAPACITY_EMPTY_ELEMENTDATA V_w_DEF H1 H2 H3
      · by_cases H4 : (pi3 &&& (3 : Int32)) = (2 : Int32)
        · exact rm0_tfft l Z a0 hw ws pl1 pi2 pi3 pi4 pi5 pi6 w_DEF kk_w_DEF h0 n0 Z0 O0 S_DEFAULTCAPACITY_EMPTY_ELEMENTDATA V_w_DEF H1 H2 H3 H4
        · exact rm0_tfff l Z a0 hw ws pl1 pi2 pi3 pi4 pi5 pi6 w_DEF kk_w_DEF h0 n0 Z0 O0 S_DEFAULTCAPACITY_EMPTY_ELEMENTDATA V_w_DEF H1 H2 H3 H4
  · by_cases H5 : (pi2 &&& (3 : Int32)) = (1 : Int32)
    · by_cases H6 : (pi3 &&& (3 : Int32)) = (0 : Int32)
      · exact rm0_ftt l Z a0 hw ws pl1 pi2 pi3 pi4 pi5 pi6 w_DEF kk_w_DEF h0 n0 Z0 O0 S_DEFAULTCAPACITY_EMPTY_ELEMENTDATA V_w_DEF H1 H5 H6
      · by_cases H7 : (pi3 &&& (3 : Int32)) = (1 : Int32)
        · exact rm0_ftft l Z a0 hw ws pl1 pi2 pi3 pi4 pi5 pi6 w_DEF kk_w_DEF h0 n0 Z0 O0 S_DEFAULTCAPACITY_EMPTY_ELEMENTDATA V_w_DEF H1 H5 H6 H7
        · by_cases H8 : (pi3 &&& (3 : Int32)) = (2 : Int32)
          · exact rm0_ftfft l Z a0 hw ws pl1 pi2 pi3 pi4 pi5 pi6 w_DEF kk_w_DEF h0 n0 Z0 O0 S_DEFAULTCAPACITY_EMPTY_ELEMENTDATA V_w_DEF H1 H5 H6 H7 H8
          · exact rm0_ftfff l Z a0 hw ws pl1 pi2 pi3 pi4 pi5 pi6 w_DEF kk_w_DEF h0 n0 Z0 O0 S_DEFAULTCAPACITY_EMPTY_ELEMENTDATA V_w_DEF H1 H5 H6 H7 H8
    · by_cases H9 : (pi2 &&& (3 : Int32)) = (2 : Int32)
      · by_cases H10 : (pi3 &&& (3 : Int32)) = (0 : Int32)
        · exact rm0_fftt l Z a0 hw ws pl1 pi2 pi3 pi4 pi5 pi6 w_DEF kk_w_DEF h0 n0 Z0 O0 S_DEFAULTCAPACITY_EMPTY_ELEMENTDATA V_w_DEF H1 H5 H9 H10
        · by_cases H11 : (pi3 &&& (3 : Int32)) = (1 : Int32)
          · exact rm0_fftft l Z a0 hw ws pl1 pi2 pi3 pi4 pi5 pi6 w_DEF kk_w_DEF h0 n0 Z0 O0 S_DEFAULTCAPACITY_EMPTY_ELEMENTDATA V_w_DEF H1 H5 H9 H10 H11
          · by_cases H12 : (pi3 &&& (3 : Int32)) = (2 : Int32)
            · exact rm0_fftfft l Z a0 hw ws pl1 pi2 pi3 pi4 pi5 pi6 w_DEF kk_w_DEF h0 n0 Z0 O0 S_DEFAULTCAPACITY_EMPTY_ELEMENTDATA V_w_DEF H1 H5 H9 H10 H11 H12
            · exact rm0_fftfff l Z a0 hw ws pl1 pi2 pi3 pi4 pi5 pi6 w_DEF kk_w_DEF h0 n0 Z0 O0 S_DEFAULTCAPACITY_EMPTY_ELEMENTDATA V_w_DEF H1 H5 H9 H10 H11 H12
      · by_cases H13 : (pi3 &&& (3 : Int32)) = (0 : Int32)
        · exact rm0_ffft l Z a0 hw ws pl1 pi2 pi3 pi4 pi5 pi6 w_DEF kk_w_DEF h0 n0 Z0 O0 S_DEFAULTCAPACITY_EMPTY_ELEMENTDATA V_w_DEF H1 H5 H9 H13
        · by_cases H14 : (pi3 &&& (3 : Int32)) = (1 : Int32)
          · exact rm0_fffft l Z a0 hw ws pl1 pi2 pi3 pi4 pi5 pi6 w_DEF kk_w_DEF h0 n0 Z0 O0 S_DEFAULTCAPACITY_EMPTY_ELEMENTDATA V_w_DEF H1 H5 H9 H13 H14
          · by_cases H15 : (pi3 &&& (3 : Int32)) = (2 : Int32)
            · exact rm0_ffffft l Z a0 hw ws pl1 pi2 pi3 pi4 pi5 pi6 w_DEF kk_w_DEF h0 n0 Z0 O0 S_DEFAULTCAPACITY_EMPTY_ELEMENTDATA V_w_DEF H1 H5 H9 H13 H14 H15
            · exact rm0_ffffff l Z a0 hw ws pl1 pi2 pi3 pi4 pi5 pi6 w_DEF kk_w_DEF h0 n0 Z0 O0 S_DEFAULTCAPACITY_EMPTY_ELEMENTDATA V_w_DEF H1 H5 H9 H13 H14 H15
set_option maxRecDepth 65536 in
set_option maxHeartbeats 40000000 in
theorem comes_1 {Post : Tables → Env → Array Value → State → Outcome → State → Prop} (hpost : ∀ tb e args s v u, (limb_1_1.after args s (.returned v) u = true ∧ limb_1_2.after args s (.returned v) u = true ∧ True) → FrameEnd s (.returned v) u (Jvm.fieldLocs frame_1_writes args s ++ Jvm.arrayLocs frame_1_arrays args s ++ Jvm.staticLocs frame_1_statics s) 24 128 → Post tb e args s (.returned v) u) :
    ArmFor flags0 classFile x code maxLocals ret World_1 tables_1 room_1 Calls_1 rest_1 Pre_1 Post := by
  intro l hfl _ _ p e ha hc hk s m args below hf hA hF happ hP
  obtain ⟨hcalls, hrest, hpre⟩ := hP
  obtain ⟨-, -, -, hnamed, -, -, -, hat⟩ := (Spec.applies_iff hf).mp happ
  obtain ⟨hg, hn⟩ := and_e (Cond.before_iff.mp (show (Jvm.Cond.and given_1 narrow_1).before args s = true from hpre))
  obtain ⟨g1, g2⟩ := and_e hg
  obtain ⟨g3, g4⟩ := and_e g2
  obtain ⟨g5, g6⟩ := and_e g4
  obtain ⟨g7, g8⟩ := and_e g6
  obtain ⟨g9, g10⟩ := and_e g8
  obtain ⟨g11, g12⟩ := and_e g10
  obtain ⟨w0, w1, w2, w3, w4, w5, rfl⟩ : ∃ w0 w1 w2 w3 w4 w5 : Value, args = #[w0, w1, w2, w3, w4, w5] := by
    have hs : args.size = 6 := by simpa [Cond.value, given_1] using g1
    obtain ⟨L⟩ := args
    match L, hs with
    | [w0, w1, w2, w3, w4, w5], _ => exact ⟨w0, w1, w2, w3, w4, w5, rfl⟩
  have hw := fun d (hd : d ∈ tables_1) => atoms_spec (ws := Jvm.Cond.code x code maxLocals ret :: tables_1) hat d (List.mem_cons_of_mem _ hd)
  have hfit : Fit s := fun {y c} hc i hi => by
    obtain ⟨ha, rfl⟩ := Array.getElem?_eq_some_iff.mp hc
    have q := List.all_eq_true.mp ((Array.all_eq_true_iff_forall_mem.mp hF) _ (Array.getElem_mem ha)) i (List.mem_range.mpr hi)
    simpa [Array.getElem?_eq_getElem hi] using q
  obtain ⟨hsets, hown0⟩ := atoms_of _ (rest_1_c_eq ▸ (show rest_1_c.before _ s = true from hrest))
  have hr0 := Cond.before_iff.mp hown0
  obtain ⟨i0, ei0⟩ := isL_v g3
  obtain rfl : w0 = (.long i0) := Option.some.inj ei0
  obtain ⟨i1, ei1⟩ := is_v g5
  obtain rfl : w1 = (.int i1) := Option.some.inj ei1
  obtain ⟨i2, ei2⟩ := is_v g7
  obtain rfl : w2 = (.int i2) := Option.some.inj ei2
  obtain ⟨i3, ei3⟩ := is_v g9
  obtain rfl : w3 = (.int i3) := Option.some.inj ei3
  obtain ⟨i4, ei4⟩ := is_v g11
  obtain rfl : w4 = (.int i4) := Option.some.inj ei4
  obtain ⟨i5, ei5⟩ := is_v g12
  obtain rfl : w5 = (.int i5) := Option.some.inj ei5
  obtain ⟨w_DEF, ev_D⟩ := exa_v (Cond.before_iff.mp (hsets _ (List.mem_of_getElem? (i := 7) rfl)))
  have S_DEFAULTCAPACITY_EMPTY_ELEMENTDATA : Sta s s.heap "java/util/ArrayList" "DEFAULTCAPACITY_EMPTY_ELEMENTDATA" "[Ljava/lang/Object;" (.ref w_DEF) := Sta.start ev_D (Or.inr ⟨(own_W hw 3 rfl), (hsets _ (List.mem_of_getElem? (i := 2) rfl))⟩)
  obtain ⟨cl_D, Ar_D⟩ := Arr.start ev_D (Cond.before_iff.mp (hsets _ (List.mem_of_getElem? (i := 6) rfl)))
  have ln_D := own_len ev_D (Ar_D.fin (Vm.Alike.refl _)) (own_eqv (Cond.before_iff.mp (hsets _ (List.mem_of_getElem? (i := 8) rfl))) (Term.int_eval (0)))
  obtain ⟨kk_w_DEF, hkk_D⟩ : ∃ z, z = cl_D.cls := ⟨_, rfl⟩
  have V_w_DEF : Arv s s.heap w_DEF kk_w_DEF (.object "java/lang/Object") (0 : Int32) [] .null := hkk_D ▸ Arv.start hfit Ar_D ln_D.1 ln_D.2 (by decide) rfl trivial
  obtain ⟨n, o, h1, h2, h3, _, L, rfl, ⟨rfl, N⟩, hq⟩ := rm0 l s _ hw tables_1 i0 i1 i2 i3 i4 i5 w_DEF kk_w_DEF s.heap s.heap.size (Nat.le_refl _) (Old.start s) S_DEFAULTCAPACITY_EMPTY_ELEMENTDATA V_w_DEF p e ha hc hk s m _ below hf ((Spec.applies_iff_loose hf).mp happ).1 ⟨rfl, State.Warmed39.refl s, rfl⟩ trivial
  refine ⟨n, _, h1, h2, h3, hpost _ _ _ _ _ _ ⟨Cond.after_iff.mpr rfl, Cond.after_iff.mpr (eq_i res_at (Term.int_eval (1)) rfl), trivial⟩ ⟨hq.1, hq.2.1, (hq.2.2.sift fun y hy => Or.inr (N y hy)).mono (by decide) (by decide)⟩⟩
theorem main_1_1 : Claimed_1_1 := comes_1 fun _ _ _ _ _ _ h hF => ⟨h.1, hF⟩
theorem main_1_2 : Claimed_1_2 := comes_1 fun _ _ _ _ _ _ h hF => ⟨h.2.1, hF⟩
end Jvm.Pilot.@@N@@
namespace Jvm.Pilot.@@N@@
open Jvm Jvm.ClassFile Sem Op Lib Jvm.Free Jvm.Stand Jvm.Pilot.@@N@@.Jvm.D
/-! MADE BY PROGRAM (witnessworld.py) out of the Statement's table words and the real class files: 20 classes; the members and pool entries that the words name. The judged class is class 1, her method 2. -/
namespace start1
open Jvm.ClassFile
def u (s : String) : CpInfo := .utf8 (stringToUtf16 s)
/-- a pool by its gaps: so many unusable entries, then the entry; so many at the end -/
def gap : Nat → List CpInfo → List CpInfo
  | 0, r => r
  | n + 1, r => .unusable :: gap n r
def poolList (es : List (Nat × CpInfo)) (last : Nat) : List CpInfo := es.foldr (fun e r => gap e.1 (e.2 :: r)) (gap last [])
def pool (es : List (Nat × CpInfo)) (last : Nat) : Array CpInfo := ⟨poolList es last⟩
def fileOf (pool : Array CpInfo) (this : Nat) (attrs : Array Attribute := #[]) (ms : Array MethodInfo := #[]) (fl : Nat := 33) (sup : Nat := 0) (ifs : Array Nat := #[]) (fds : Array FieldInfo := #[]) : ClassFile where
  minorVersion := 0
  majorVersion := 65
  constantPool := pool
  accessFlags := fl
  thisClass := this
  superClass := sup
  interfaces := ifs
  fields := fds
  methods := ms
  attributes := attrs
def plain (name : String) (sup : Option ClassId) : Class where
  name := name
  kind := .ordinary
  loader := none
  accessFlags := 33
  super := sup
  interfaces := #[]
  cf := none
  fields := #[]
  methods := #[]
  instanceTypes := #[]
  staticTypes := #[]
  resolved := #[]
  callSites := []
  init := .initialized
  statics := none
  mirror := none

def pool0 : Array CpInfo := pool [(5, u "<init>"), (0, u "()V"), (1, .class_ 10), (1, u "java/lang/Object")] 113

def k0c0 : Code := { maxStack := 0, maxLocals := 1, code := object_method_1_code, exceptionTable := #[], attributes := #[] }
def k0m0 : Method := { name := "<init>", desc := "()V", sig := { parameters := [], returnType := none }, accessFlags := 1, code := some k0c0 }
/-- java/lang/Object -/
def k0 : Class := { plain "java/lang/Object" none with
  accessFlags := 33
  interfaces := #[]
  cf := some (fileOf pool0 8 #[] #[{ accessFlags := 1, nameIndex := 5, descriptorIndex := 6, attributes := #[] }] 33 0 #[] #[])
  fields := #[]
  methods := #[k0m0]
  instanceTypes := #[]
  staticTypes := #[]
  resolved := Array.replicate 124 none
  statics := none }

def pool1 : Array CpInfo := pool [(2, .class_ 4), (0, .nameAndType 5 6), (0, u "java/lang/Object"), (0, u "<init>"), (0, u "()V"), (0, .class_ 8), (0, u "java/util/ArrayList"), (0, .methodref 7 3), (0, .methodref 11 12), (0, .class_ 13), (0, .nameAndType 14 15), (0, u "com/example/shardwright/shardwright/cli/RowIsBlankPinLaw"), (0, u "field"), (0, u "(II)[B"), (0, .interfaceMethodref 17 18), (0, .class_ 19), (0, .nameAndType 20 21), (0, u "java/util/List"), (0, u "add"), (0, u "(Ljava/lang/Object;)Z"), (0, .class_ 23), (0, u "com/example/shardwright/shardwright/cli/CsvReader$Row"), (0, .methodref 22 25), (0, .nameAndType 5 26), (0, u "(J[BLjava/util/List;)V"), (0, .methodref 22 28), (0, .nameAndType 29 30), (0, u "isBlank"), (0, u "()Z"), (3, u "law"), (0, u "(JIIIII)Z")] 8

def k1m0 : Method := { name := "<init>", desc := "()V", sig := { parameters := [], returnType := none }, accessFlags := 1, code := none }
def k1c1 : Code := { maxStack := 3, maxLocals := 3, code := method_2_code, exceptionTable := #[], attributes := #[] }
def k1m1 : Method := { name := "field", desc := "(II)[B", sig := { parameters := [.int, .int], returnType := some (.array .byte) }, accessFlags := 10, code := some k1c1 }
def k1c2 : Code := { maxStack := 6, maxLocals := 12, code := code, exceptionTable := #[], attributes := #[] }
def k1m2 : Method := { name := "law", desc := "(JIIIII)Z", sig := { parameters := [.long, .int, .int, .int, .int, .int], returnType := some .boolean }, accessFlags := 9, code := some k1c2 }
/-- com/example/shardwright/shardwright/cli/RowIsBlankPinLaw -/
def k1 : Class := { plain "com/example/shardwright/shardwright/cli/RowIsBlankPinLaw" (some 0) with
  accessFlags := 49
  interfaces := #[]
  cf := some (fileOf pool1 11 #[] #[{ accessFlags := 1, nameIndex := 5, descriptorIndex := 6, attributes := #[] }, { accessFlags := 10, nameIndex := 14, descriptorIndex := 15, attributes := #[] }, { accessFlags := 9, nameIndex := 34, descriptorIndex := 35, attributes := #[] }] 49 2 #[] #[])
  fields := #[]
  methods := #[k1m0, k1m1, k1m2]
  instanceTypes := #[]
  staticTypes := #[]
  resolved := Array.replicate 44 none
  statics := none }

def pool2 : Array CpInfo := pool [(8, .class_ 10), (1, u "java/lang/Iterable"), (24, .class_ 36), (0, u "java/lang/Object")] 25

/-- java/lang/Iterable -/
def k2 : Class := { plain "java/lang/Iterable" (some 0) with
  accessFlags := 1537
  interfaces := #[]
  cf := some (fileOf pool2 8 #[] #[] 1537 35 #[] #[])
  fields := #[]
  methods := #[]
  instanceTypes := #[]
  staticTypes := #[]
  resolved := Array.replicate 62 none
  statics := none }

def pool3 : Array CpInfo := pool [(10, .class_ 12), (1, u "java/util/Collection"), (47, .class_ 61), (0, u "java/lang/Object"), (0, .class_ 63), (0, u "java/lang/Iterable")] 51

/-- java/util/Collection -/
def k3 : Class := { plain "java/util/Collection" (some 0) with
  accessFlags := 1537
  interfaces := #[2]
  cf := some (fileOf pool3 10 #[] #[] 1537 60 #[62] #[])
  fields := #[]
  methods := #[]
  instanceTypes := #[]
  staticTypes := #[]
  resolved := Array.replicate 115 none
  statics := none }

def pool4 : Array CpInfo := pool [(1, .methodref 2 3), (0, .class_ 4), (0, .nameAndType 5 6), (0, u "java/lang/Object"), (0, u "<init>"), (0, u "()V"), (1, .class_ 10), (1, u "java/util/AbstractCollection"), (66, .class_ 78), (0, u "java/util/Collection")] 81

def k4c0 : Code := { maxStack := 1, maxLocals := 1, code := jdk_22_method_1_code, exceptionTable := #[], attributes := #[] }
def k4m0 : Method := { name := "<init>", desc := "()V", sig := { parameters := [], returnType := none }, accessFlags := 4, code := some k4c0 }
/-- java/util/AbstractCollection -/
def k4 : Class := { plain "java/util/AbstractCollection" (some 0) with
  accessFlags := 1057
  interfaces := #[3]
  cf := some (fileOf pool4 8 #[] #[{ accessFlags := 4, nameIndex := 5, descriptorIndex := 6, attributes := #[] }] 1057 2 #[77] #[])
  fields := #[]
  methods := #[k4m0]
  instanceTypes := #[]
  staticTypes := #[]
  resolved := Array.replicate 160 none
  statics := none }

def pool5 : Array CpInfo := pool [(8, .class_ 10), (1, u "java/util/SequencedCollection"), (15, .class_ 27), (0, u "java/lang/Object"), (0, .class_ 29), (0, u "java/util/Collection")] 27

/-- java/util/SequencedCollection -/
def k5 : Class := { plain "java/util/SequencedCollection" (some 0) with
  accessFlags := 1537
  interfaces := #[3]
  cf := some (fileOf pool5 8 #[] #[] 1537 26 #[28] #[])
  fields := #[]
  methods := #[]
  instanceTypes := #[]
  staticTypes := #[]
  resolved := Array.replicate 57 none
  statics := none }

def pool6 : Array CpInfo := pool [(8, .class_ 10), (1, u "java/util/List"), (49, u "add"), (3, u "(Ljava/lang/Object;)Z"), (38, .class_ 104), (0, u "java/lang/Object"), (15, .class_ 121), (0, u "java/util/SequencedCollection")] 129

def k6m0 : Method := { name := "add", desc := "(Ljava/lang/Object;)Z", sig := { parameters := [(.object "java/lang/Object")], returnType := some .boolean }, accessFlags := 1025, code := none }
/-- java/util/List -/
def k6 : Class := { plain "java/util/List" (some 0) with
  accessFlags := 1537
  interfaces := #[5]
  cf := some (fileOf pool6 8 #[] #[{ accessFlags := 1025, nameIndex := 60, descriptorIndex := 64, attributes := #[] }] 1537 103 #[120] #[])
  fields := #[]
  methods := #[k6m0]
  instanceTypes := #[]
  staticTypes := #[]
  resolved := Array.replicate 251 none
  statics := none }

def pool7 : Array CpInfo := pool [(1, .methodref 2 3), (0, .class_ 4), (0, .nameAndType 5 6), (0, u "java/util/AbstractCollection"), (0, u "<init>"), (0, u "()V"), (0, .fieldref 8 9), (0, .class_ 10), (0, .nameAndType 11 12), (0, u "java/util/AbstractList"), (0, u "modCount"), (0, u "I"), (64, .class_ 78), (0, u "java/util/AbstractList$Itr"), (3, .class_ 83), (0, u "java/util/AbstractList$ListItr"), (9, .class_ 94), (0, u "java/util/AbstractList$RandomAccessSubList"), (3, .class_ 99), (0, u "java/util/AbstractList$SubList"), (33, .class_ 134), (0, u "java/util/List"), (73, .class_ 209), (0, u "java/util/AbstractList$SubList$1"), (0, .class_ 211), (0, u "java/util/AbstractList$RandomAccessSpliterator")] 6

def k7c0 : Code := { maxStack := 2, maxLocals := 1, code := jdk_39_method_1_code, exceptionTable := #[], attributes := #[] }
def k7m0 : Method := { name := "<init>", desc := "()V", sig := { parameters := [], returnType := none }, accessFlags := 4, code := some k7c0 }
/-- java/util/AbstractList -/
def k7 : Class := { plain "java/util/AbstractList" (some 4) with
  accessFlags := 1057
  interfaces := #[6]
  cf := some (fileOf pool7 8 #[.nestMembers #[93, 98, 208, 210, 82, 77]] #[{ accessFlags := 4, nameIndex := 5, descriptorIndex := 6, attributes := #[] }] 1057 2 #[133] #[{ accessFlags := 132, nameIndex := 11, descriptorIndex := 12, attributes := #[] }])
  fields := #[{ name := "modCount", type := .int, accessFlags := 132, slot := 0, constantValue := 0 }]
  methods := #[k7m0]
  instanceTypes := #[.int]
  staticTypes := #[]
  resolved := Array.replicate 218 none
  statics := none }

def pool8 : Array CpInfo := pool [(1, .class_ 2), (0, u "java/util/RandomAccess"), (0, .class_ 4), (0, u "java/lang/Object")] 2

/-- java/util/RandomAccess -/
def k8 : Class := { plain "java/util/RandomAccess" (some 0) with
  accessFlags := 1537
  interfaces := #[]
  cf := some (fileOf pool8 1 #[] #[] 1537 3 #[] #[])
  fields := #[]
  methods := #[]
  instanceTypes := #[]
  staticTypes := #[]
  resolved := Array.replicate 7 none
  statics := none }

def pool9 : Array CpInfo := pool [(1, .class_ 2), (0, u "java/lang/Cloneable"), (0, .class_ 4), (0, u "java/lang/Object")] 2

/-- java/lang/Cloneable -/
def k9 : Class := { plain "java/lang/Cloneable" (some 0) with
  accessFlags := 1537
  interfaces := #[]
  cf := some (fileOf pool9 1 #[] #[] 1537 3 #[] #[])
  fields := #[]
  methods := #[]
  instanceTypes := #[]
  staticTypes := #[]
  resolved := Array.replicate 7 none
  statics := none }

def pool10 : Array CpInfo := pool [(1, .class_ 2), (0, u "java/io/Serializable"), (0, .class_ 4), (0, u "java/lang/Object")] 2

/-- java/io/Serializable -/
def k10 : Class := { plain "java/io/Serializable" (some 0) with
  accessFlags := 1537
  interfaces := #[]
  cf := some (fileOf pool10 1 #[] #[] 1537 3 #[] #[])
  fields := #[]
  methods := #[]
  instanceTypes := #[]
  staticTypes := #[]
  resolved := Array.replicate 7 none
  statics := none }

def pool11 : Array CpInfo := pool [(1, .methodref 2 3), (0, .class_ 4), (0, .nameAndType 5 6), (0, u "java/util/AbstractList"), (0, u "<init>"), (0, u "()V"), (0, .class_ 8), (0, u "java/lang/Object"), (0, .fieldref 10 11), (0, .class_ 12), (0, .nameAndType 13 14), (0, u "java/util/ArrayList"), (0, u "elementData"), (0, u "[Ljava/lang/Object;"), (2, u "EMPTY_ELEMENTDATA"), (21, .fieldref 10 40), (0, .nameAndType 41 14), (0, u "DEFAULTCAPACITY_EMPTY_ELEMENTDATA"), (5, u "()[Ljava/lang/Object;"), (0, .fieldref 10 49), (0, .nameAndType 50 51), (0, u "size"), (0, u "I"), (11, .fieldref 10 64), (0, .nameAndType 65 51), (0, u "modCount"), (3, .methodref 10 70), (0, .nameAndType 71 72), (0, u "grow"), (0, u "(I)[Ljava/lang/Object;"), (6, .methodref 80 81), (0, .class_ 82), (0, .nameAndType 83 84), (0, u "java/lang/Math"), (0, u "max"), (0, u "(II)I"), (11, u "(Ljava/lang/Object;)Z"), (32, .methodref 10 130), (0, .nameAndType 71 47), (0, .methodref 10 132), (0, .nameAndType 133 134), (0, u "add"), (0, u "(Ljava/lang/Object;[Ljava/lang/Object;I)V"), (13, .class_ 149), (0, u "java/util/List"), (112, .class_ 263), (0, u "java/util/ArrayList$ListItr"), (3, .class_ 268), (0, u "java/util/ArrayList$Itr"), (7, .class_ 277), (0, u "java/util/ArrayList$SubList"), (12, .class_ 291), (0, u "java/util/ArrayList$ArrayListSpliterator"), (37, .class_ 330), (0, u "java/util/RandomAccess"), (0, .class_ 332), (0, u "java/lang/Cloneable"), (0, .class_ 334), (0, u "java/io/Serializable"), (0, u "serialVersionUID"), (0, u "J"), (3, u "DEFAULT_CAPACITY"), (159, .class_ 501), (0, u "java/util/ArrayList$SubList$2"), (0, .class_ 503), (0, u "java/util/ArrayList$SubList$1")] 5

def k11c0 : Code := { maxStack := 2, maxLocals := 1, code := jdk_38_method_2_code, exceptionTable := #[], attributes := #[] }
def k11m0 : Method := { name := "<init>", desc := "()V", sig := { parameters := [], returnType := none }, accessFlags := 1, code := some k11c0 }
def k11c1 : Code := { maxStack := 4, maxLocals := 4, code := jdk_38_method_6_code, exceptionTable := #[], attributes := #[] }
def k11m1 : Method := { name := "grow", desc := "(I)[Ljava/lang/Object;", sig := { parameters := [.int], returnType := some (.array (.object "java/lang/Object")) }, accessFlags := 2, code := some k11c1 }
def k11c2 : Code := { maxStack := 3, maxLocals := 1, code := jdk_38_method_7_code, exceptionTable := #[], attributes := #[] }
def k11m2 : Method := { name := "grow", desc := "()[Ljava/lang/Object;", sig := { parameters := [], returnType := some (.array (.object "java/lang/Object")) }, accessFlags := 2, code := some k11c2 }
def k11c3 : Code := { maxStack := 3, maxLocals := 4, code := jdk_38_method_24_code, exceptionTable := #[], attributes := #[] }
def k11m3 : Method := { name := "add", desc := "(Ljava/lang/Object;[Ljava/lang/Object;I)V", sig := { parameters := [(.object "java/lang/Object"), (.array (.object "java/lang/Object")), .int], returnType := none }, accessFlags := 2, code := some k11c3 }
def k11c4 : Code := { maxStack := 4, maxLocals := 2, code := jdk_38_method_25_code, exceptionTable := #[], attributes := #[] }
def k11m4 : Method := { name := "add", desc := "(Ljava/lang/Object;)Z", sig := { parameters := [(.object "java/lang/Object")], returnType := some .boolean }, accessFlags := 1, code := some k11c4 }
/-- java/util/ArrayList -/
def k11 : Class := { plain "java/util/ArrayList" (some 7) with
  accessFlags := 33
  interfaces := #[6, 8, 9, 10]
  cf := some (fileOf pool11 10 #[.nestMembers #[290, 276, 500, 502, 262, 267]] #[{ accessFlags := 1, nameIndex := 5, descriptorIndex := 6, attributes := #[] }, { accessFlags := 2, nameIndex := 71, descriptorIndex := 72, attributes := #[] }, { accessFlags := 2, nameIndex := 71, descriptorIndex := 47, attributes := #[] }, { accessFlags := 2, nameIndex := 133, descriptorIndex := 134, attributes := #[] }, { accessFlags := 1, nameIndex := 133, descriptorIndex := 96, attributes := #[] }] 33 2 #[148, 329, 331, 333] #[{ accessFlags := 26, nameIndex := 335, descriptorIndex := 336, attributes := #[] }, { accessFlags := 26, nameIndex := 340, descriptorIndex := 51, attributes := #[] }, { accessFlags := 26, nameIndex := 17, descriptorIndex := 14, attributes := #[] }, { accessFlags := 26, nameIndex := 41, descriptorIndex := 14, attributes := #[] }, { accessFlags := 128, nameIndex := 13, descriptorIndex := 14, attributes := #[] }, { accessFlags := 2, nameIndex := 50, descriptorIndex := 51, attributes := #[] }])
  fields := #[{ name := "serialVersionUID", type := .long, accessFlags := 26, slot := 0, constantValue := 0 }, { name := "DEFAULT_CAPACITY", type := .int, accessFlags := 26, slot := 1, constantValue := 0 }, { name := "EMPTY_ELEMENTDATA", type := (.array (.object "java/lang/Object")), accessFlags := 26, slot := 2, constantValue := 0 }, { name := "DEFAULTCAPACITY_EMPTY_ELEMENTDATA", type := (.array (.object "java/lang/Object")), accessFlags := 26, slot := 3, constantValue := 0 }, { name := "elementData", type := (.array (.object "java/lang/Object")), accessFlags := 128, slot := 1, constantValue := 0 }, { name := "size", type := .int, accessFlags := 2, slot := 2, constantValue := 0 }]
  methods := #[k11m0, k11m1, k11m2, k11m3, k11m4]
  instanceTypes := #[.int, (.array (.object "java/lang/Object")), .int]
  staticTypes := #[.long, .int, (.array (.object "java/lang/Object")), (.array (.object "java/lang/Object"))]
  resolved := Array.replicate 509 none
  statics := some 0 }

def pool12 : Array CpInfo := pool [(1, .class_ 2), (0, u "java/lang/Math"), (1, .class_ 6), (1, u "java/lang/Object"), (0, u "<init>"), (0, u "()V"), (89, .class_ 100), (1, u "java/lang/Math$RandomNumberGeneratorHolder"), (71, u "negativeZeroFloatBits"), (0, u "J"), (2, u "negativeZeroDoubleBits"), (21, u "max"), (46, u "$assertionsDisabled"), (0, u "Z"), (88, u "(II)I"), (2, u "twoToTheDoubleScaleDown"), (0, u "D"), (4, u "twoToTheDoubleScaleUp"), (9, u "E"), (3, u "PI"), (2, u "TAU"), (2, u "DEGREES_TO_RADIANS"), (0, u "RADIANS_TO_DEGREES")] 94

def k12m0 : Method := { name := "<init>", desc := "()V", sig := { parameters := [], returnType := none }, accessFlags := 2, code := none }
def k12c1 : Code := { maxStack := 2, maxLocals := 2, code := jdk_29_method_65_code, exceptionTable := #[], attributes := #[] }
def k12m1 : Method := { name := "max", desc := "(II)I", sig := { parameters := [.int, .int], returnType := some .int }, accessFlags := 9, code := some k12c1 }
/-- java/lang/Math -/
def k12 : Class := { plain "java/lang/Math" (some 0) with
  accessFlags := 49
  interfaces := #[]
  cf := some (fileOf pool12 1 #[.nestMembers #[98]] #[{ accessFlags := 2, nameIndex := 7, descriptorIndex := 8, attributes := #[] }, { accessFlags := 9, nameIndex := 198, descriptorIndex := 335, attributes := #[] }] 49 4 #[] #[{ accessFlags := 25, nameIndex := 354, descriptorIndex := 339, attributes := #[] }, { accessFlags := 25, nameIndex := 358, descriptorIndex := 339, attributes := #[] }, { accessFlags := 25, nameIndex := 361, descriptorIndex := 339, attributes := #[] }, { accessFlags := 26, nameIndex := 364, descriptorIndex := 339, attributes := #[] }, { accessFlags := 26, nameIndex := 365, descriptorIndex := 339, attributes := #[] }, { accessFlags := 26, nameIndex := 172, descriptorIndex := 173, attributes := #[] }, { accessFlags := 26, nameIndex := 176, descriptorIndex := 173, attributes := #[] }, { accessFlags := 8, nameIndex := 344, descriptorIndex := 339, attributes := #[] }, { accessFlags := 8, nameIndex := 338, descriptorIndex := 339, attributes := #[] }, { accessFlags := 4120, nameIndex := 245, descriptorIndex := 246, attributes := #[] }])
  fields := #[{ name := "E", type := .double, accessFlags := 25, slot := 0, constantValue := 0 }, { name := "PI", type := .double, accessFlags := 25, slot := 1, constantValue := 0 }, { name := "TAU", type := .double, accessFlags := 25, slot := 2, constantValue := 0 }, { name := "DEGREES_TO_RADIANS", type := .double, accessFlags := 26, slot := 3, constantValue := 0 }, { name := "RADIANS_TO_DEGREES", type := .double, accessFlags := 26, slot := 4, constantValue := 0 }, { name := "negativeZeroFloatBits", type := .long, accessFlags := 26, slot := 5, constantValue := 0 }, { name := "negativeZeroDoubleBits", type := .long, accessFlags := 26, slot := 6, constantValue := 0 }, { name := "twoToTheDoubleScaleUp", type := .double, accessFlags := 8, slot := 7, constantValue := 0 }, { name := "twoToTheDoubleScaleDown", type := .double, accessFlags := 8, slot := 8, constantValue := 0 }, { name := "$assertionsDisabled", type := .boolean, accessFlags := 4120, slot := 9, constantValue := 0 }]
  methods := #[k12m0, k12m1]
  instanceTypes := #[]
  staticTypes := #[.double, .double, .double, .double, .double, .long, .long, .double, .double, .boolean]
  resolved := Array.replicate 460 none
  statics := none }

def pool13 : Array CpInfo := pool [(1, .methodref 2 3), (0, .class_ 4), (0, .nameAndType 5 6), (0, u "java/lang/Object"), (0, u "<init>"), (0, u "()V"), (0, .class_ 8), (0, u "java/lang/Record")] 13

def k13c0 : Code := { maxStack := 1, maxLocals := 1, code := jdk_30_method_1_code, exceptionTable := #[], attributes := #[] }
def k13m0 : Method := { name := "<init>", desc := "()V", sig := { parameters := [], returnType := none }, accessFlags := 4, code := some k13c0 }
/-- java/lang/Record -/
def k13 : Class := { plain "java/lang/Record" (some 0) with
  accessFlags := 1057
  interfaces := #[]
  cf := some (fileOf pool13 7 #[] #[{ accessFlags := 4, nameIndex := 5, descriptorIndex := 6, attributes := #[] }] 1057 2 #[] #[])
  fields := #[]
  methods := #[k13m0]
  instanceTypes := #[]
  staticTypes := #[]
  resolved := Array.replicate 22 none
  statics := none }

def pool14 : Array CpInfo := pool [(1, .methodref 2 3), (0, .class_ 4), (0, .nameAndType 5 6), (0, u "java/lang/Record"), (0, u "<init>"), (0, u "()V"), (0, .fieldref 8 9), (0, .class_ 10), (0, .nameAndType 11 12), (0, u "com/example/shardwright/shardwright/cli/CsvReader$Row"), (0, u "line"), (0, u "J"), (0, .fieldref 8 14), (0, .nameAndType 15 16), (0, u "text"), (0, u "[B"), (0, .fieldref 8 18), (0, .nameAndType 19 20), (0, u "fields"), (0, u "Ljava/util/List;"), (14, u "(J[BLjava/util/List;)V"), (4, u "isBlank"), (0, u "()Z"), (11, .class_ 54), (0, u "com/example/shardwright/shardwright/cli/CsvReader")] 21

def k14c0 : Code := { maxStack := 3, maxLocals := 5, code := prog_9_method_1_code, exceptionTable := #[], attributes := #[] }
def k14m0 : Method := { name := "<init>", desc := "(J[BLjava/util/List;)V", sig := { parameters := [.long, (.array .byte), (.object "java/util/List")], returnType := none }, accessFlags := 0, code := some k14c0 }
def k14c1 : Code := { maxStack := 1, maxLocals := 1, code := prog_9_method_2_code, exceptionTable := #[], attributes := #[] }
def k14m1 : Method := { name := "isBlank", desc := "()Z", sig := { parameters := [], returnType := some .boolean }, accessFlags := 0, code := some k14c1 }
/-- com/example/shardwright/shardwright/cli/CsvReader$Row -/
def k14 : Class := { plain "com/example/shardwright/shardwright/cli/CsvReader$Row" (some 13) with
  accessFlags := 48
  interfaces := #[]
  cf := some (fileOf pool14 8 #[.nestHost 53] #[{ accessFlags := 0, nameIndex := 5, descriptorIndex := 35, attributes := #[] }, { accessFlags := 0, nameIndex := 40, descriptorIndex := 41, attributes := #[] }] 48 2 #[] #[{ accessFlags := 18, nameIndex := 11, descriptorIndex := 12, attributes := #[] }, { accessFlags := 18, nameIndex := 15, descriptorIndex := 16, attributes := #[] }, { accessFlags := 18, nameIndex := 19, descriptorIndex := 20, attributes := #[] }])
  fields := #[{ name := "line", type := .long, accessFlags := 18, slot := 0, constantValue := 0 }, { name := "text", type := (.array .byte), accessFlags := 18, slot := 1, constantValue := 0 }, { name := "fields", type := (.object "java/util/List"), accessFlags := 18, slot := 2, constantValue := 0 }]
  methods := #[k14m0, k14m1]
  instanceTypes := #[.long, (.array .byte), (.object "java/util/List")]
  staticTypes := #[]
  resolved := Array.replicate 76 none
  statics := none }

/-- the primitive byte -/
def k15 : Class := { plain "byte" none with kind := .primitive 'B', accessFlags := 0x411 }
/-- [B -/
def k16 : Class := { plain "[B" (some 0) with kind := .array 15 .byte, interfaces := #[9, 10], accessFlags := 1041 }

/-- the primitive int -/
def k17 : Class := { plain "int" none with kind := .primitive 'I', accessFlags := 0x411 }
/-- [I -/
def k18 : Class := { plain "[I" (some 0) with kind := .array 17 .int, interfaces := #[9, 10], accessFlags := 1041 }

/-- [Ljava/lang/Object; -/
def k19 : Class := { plain "[Ljava/lang/Object;" (some 0) with kind := .array 0 (.object "java/lang/Object"), interfaces := #[9, 10], accessFlags := 1041 }

def heap : Heap := #[{ cls := 11, slots := #[.long 0, .int 0, .ref 1, .ref 2], vm := .statics 11 },
  { cls := 19, slots := #[], vm := .none },
  { cls := 19, slots := #[], vm := .none }]
def classes : Array Class := #[k0, k1, k2, k3, k4, k5, k6, k7, k8, k9, k10, k11, k12, k13, k14, k15, k16, k17, k18, k19]
def interned : List (Array UInt16 × Addr) := []
def slotsUsed : Nat := 4
def theMethod : MethodId := ⟨1, 2⟩
def args0 : Array Value := #[.long 5, .int 1, .int 2, .int 3, .int 4, .int 5]
def aboutOver (below : List Frame) : State where
  vm := { classes := classes, interned := interned.toArray }
  heap := heap
  slotsUsed := slotsUsed
  threads := #[{ frames := .invoking theMethod args0 :: below }]
def below0 : List Frame := [.native { method := ⟨0, 0⟩, args := #[] }]
def about1 : State := aboutOver below0
def p0 : Program := .bare "" "" ""
def e0 : Env := launch0.env 0 0 0
theorem w_frames : about1.frames = Frame.invoking theMethod args0 :: below0 := rfl
set_option maxRecDepth 65536 in
theorem w_args : argsFit about1.vm theMethod args0 = true := by decide +kernel
set_option maxRecDepth 65536 in
theorem w_heap : heapFits about1 = true := by decide +kernel
set_option maxRecDepth 65536 in
theorem w_runnable : about1.curStatus? = some .runnable := by decide +kernel
set_option maxRecDepth 65536 in
theorem w_alone : about1.alone = true := by decide +kernel
set_option maxRecDepth 65536 in
theorem w_named : about1.methodNamed? x = some theMethod := by decide +kernel
set_option maxRecDepth 65536 in
theorem w_hears : about1.hears theMethod below0 = true := by decide +kernel
set_option maxRecDepth 65536 in
theorem w_ripe : about1.ripe theMethod args0 below0 = true := by decide +kernel
theorem w_running : about1.status = .running := rfl
set_option maxRecDepth 65536 in
theorem w_room : about1.hasRoom e0.platform room_1 = true :=
  launch0.hasRoom_least _ room_1 (by decide +kernel) (by decide +kernel) (by decide +kernel) (by decide +kernel) (by decide +kernel) (by decide +kernel)
theorem allAtoms_all (ts : List Jvm.Cond) (a : Array Jvm.Value) (st : Jvm.State) : (allAtoms ts).before a st = ts.all (fun c => c.before a st) := by
  induction ts with
  | nil => rfl
  | cons c t ih =>
    show (Jvm.Cond.and c (allAtoms t)).before a st = _
    rw [Jvm.Cond.before_and, ih, List.all_cons]
def words1 : List Jvm.Cond := Jvm.Cond.code x code maxLocals ret :: tables_1
/-- a 'code' word, met by the world's own term for the bytes: nothing is compared byte by byte -/
theorem code_word {y : MethodName} {bytes : ByteArray} {mx : Nat} {rt : Option FieldType} {a : Array Value} {s : State} {m : MethodId} {meth : Method} {c : Code} (h1 : s.methodNamed? y = some m) (h2 : s.vm.method? m = some meth) (h3 : meth.code = some c) (h4 : c.code = bytes)
    (h5 : (c.maxLocals == mx && c.exceptionTable.isEmpty && decide (c.maxStack ≤ mostOperands) && decide (meth.sig.returnType = rt) && !meth.locks && decide (parseMethodDescriptor y.desc = some meth.sig)) = true) : (Jvm.Cond.code y bytes mx rt).before a s = true := by
  simp only [Bool.and_eq_true, beq_iff_eq, Bool.not_eq_true', decide_eq_true_eq] at h5
  obtain ⟨⟨⟨⟨⟨g1, g2⟩, g3⟩, g4⟩, g5⟩, g6⟩ := h5
  simp [Cond.before, Cond.holds, Cond.value, h1, h2, h3, h4, g1, g2, g3, g4, g5, g6]
def isCode : Jvm.Cond → Bool
  | .code _ _ _ _ => true
  | _ => false
theorem all_split {L : List Jvm.Cond} {P : Jvm.Cond → Bool} (h1 : L.all (fun c => isCode c || P c) = true) (h2 : ∀ c ∈ L.filter isCode, P c = true) : L.all P = true := by
  refine List.all_eq_true.mpr fun c hc => ?_
  have h := List.all_eq_true.mp h1 c hc
  rcases Bool.eq_false_or_eq_true (isCode c) with hi | hi
  · exact h2 c (List.mem_filter.mpr ⟨hc, hi⟩)
  · simpa [hi] using h
set_option maxRecDepth 65536 in
theorem w_c0 : (Jvm.Cond.code x code maxLocals ret).before args0 about1 = true := code_word (m := ⟨1, 2⟩) (meth := k1m2) (c := k1c2) (by decide +kernel) rfl rfl rfl (by decide +kernel)
set_option maxRecDepth 65536 in
theorem w_c1 : (Jvm.Cond.code ({ cls := "java/util/ArrayList", name := "<init>", desc := "()V" } : Jvm.MethodName) jdk_38_method_2_code (1 : Nat) (Option.none : Option Jvm.ClassFile.FieldType)).before args0 about1 = true := code_word (m := ⟨11, 0⟩) (meth := k11m0) (c := k11c0) (by decide +kernel) rfl rfl rfl (by decide +kernel)
set_option maxRecDepth 65536 in
theorem w_c2 : (Jvm.Cond.code ({ cls := "java/util/AbstractList", name := "<init>", desc := "()V" } : Jvm.MethodName) jdk_39_method_1_code (1 : Nat) (Option.none : Option Jvm.ClassFile.FieldType)).before args0 about1 = true := code_word (m := ⟨7, 0⟩) (meth := k7m0) (c := k7c0) (by decide +kernel) rfl rfl rfl (by decide +kernel)
set_option maxRecDepth 65536 in
theorem w_c3 : (Jvm.Cond.code ({ cls := "java/util/AbstractCollection", name := "<init>", desc := "()V" } : Jvm.MethodName) jdk_22_method_1_code (1 : Nat) (Option.none : Option Jvm.ClassFile.FieldType)).before args0 about1 = true := code_word (m := ⟨4, 0⟩) (meth := k4m0) (c := k4c0) (by decide +kernel) rfl rfl rfl (by decide +kernel)
set_option maxRecDepth 65536 in
theorem w_c4 : (Jvm.Cond.code ({ cls := "java/lang/Object", name := "<init>", desc := "()V" } : Jvm.MethodName) object_method_1_code (1 : Nat) (Option.none : Option Jvm.ClassFile.FieldType)).before args0 about1 = true := code_word (m := ⟨0, 0⟩) (meth := k0m0) (c := k0c0) (by decide +kernel) rfl rfl rfl (by decide +kernel)
set_option maxRecDepth 65536 in
theorem w_c5 : (Jvm.Cond.code ({ cls := "com/example/shardwright/shardwright/cli/RowIsBlankPinLaw", name := "field", desc := "(II)[B" } : Jvm.MethodName) method_2_code (3 : Nat) (Option.some (Jvm.ClassFile.FieldType.array Jvm.ClassFile.FieldType.byte))).before args0 about1 = true := code_word (m := ⟨1, 1⟩) (meth := k1m1) (c := k1c1) (by decide +kernel) rfl rfl rfl (by decide +kernel)
set_option maxRecDepth 65536 in
theorem w_c6 : (Jvm.Cond.code ({ cls := "java/util/ArrayList", name := "add", desc := "(Ljava/lang/Object;)Z" } : Jvm.MethodName) jdk_38_method_25_code (2 : Nat) (Option.some Jvm.ClassFile.FieldType.boolean)).before args0 about1 = true := code_word (m := ⟨11, 4⟩) (meth := k11m4) (c := k11c4) (by decide +kernel) rfl rfl rfl (by decide +kernel)
set_option maxRecDepth 65536 in
theorem w_c7 : (Jvm.Cond.code ({ cls := "java/util/ArrayList", name := "add", desc := "(Ljava/lang/Object;[Ljava/lang/Object;I)V" } : Jvm.MethodName) jdk_38_method_24_code (4 : Nat) (Option.none : Option Jvm.ClassFile.FieldType)).before args0 about1 = true := code_word (m := ⟨11, 3⟩) (meth := k11m3) (c := k11c3) (by decide +kernel) rfl rfl rfl (by decide +kernel)
set_option maxRecDepth 65536 in
theorem w_c8 : (Jvm.Cond.code ({ cls := "java/util/ArrayList", name := "grow", desc := "()[Ljava/lang/Object;" } : Jvm.MethodName) jdk_38_method_7_code (1 : Nat) (Option.some (Jvm.ClassFile.FieldType.array (Jvm.ClassFile.FieldType.object "java/lang/Object")))).before args0 about1 = true := code_word (m := ⟨11, 2⟩) (meth := k11m2) (c := k11c2) (by decide +kernel) rfl rfl rfl (by decide +kernel)
set_option maxRecDepth 65536 in
theorem w_c9 : (Jvm.Cond.code ({ cls := "java/util/ArrayList", name := "grow", desc := "(I)[Ljava/lang/Object;" } : Jvm.MethodName) jdk_38_method_6_code (4 : Nat) (Option.some (Jvm.ClassFile.FieldType.array (Jvm.ClassFile.FieldType.object "java/lang/Object")))).before args0 about1 = true := code_word (m := ⟨11, 1⟩) (meth := k11m1) (c := k11c1) (by decide +kernel) rfl rfl rfl (by decide +kernel)
set_option maxRecDepth 65536 in
theorem w_c10 : (Jvm.Cond.code ({ cls := "java/lang/Math", name := "max", desc := "(II)I" } : Jvm.MethodName) jdk_29_method_65_code (2 : Nat) (Option.some Jvm.ClassFile.FieldType.int)).before args0 about1 = true := code_word (m := ⟨12, 1⟩) (meth := k12m1) (c := k12c1) (by decide +kernel) rfl rfl rfl (by decide +kernel)
set_option maxRecDepth 65536 in
theorem w_c11 : (Jvm.Cond.code ({ cls := "com/example/shardwright/shardwright/cli/CsvReader$Row", name := "<init>", desc := "(J[BLjava/util/List;)V" } : Jvm.MethodName) prog_9_method_1_code (5 : Nat) (Option.none : Option Jvm.ClassFile.FieldType)).before args0 about1 = true := code_word (m := ⟨14, 0⟩) (meth := k14m0) (c := k14c0) (by decide +kernel) rfl rfl rfl (by decide +kernel)
set_option maxRecDepth 65536 in
theorem w_c12 : (Jvm.Cond.code ({ cls := "java/lang/Record", name := "<init>", desc := "()V" } : Jvm.MethodName) jdk_30_method_1_code (1 : Nat) (Option.none : Option Jvm.ClassFile.FieldType)).before args0 about1 = true := code_word (m := ⟨13, 0⟩) (meth := k13m0) (c := k13c0) (by decide +kernel) rfl rfl rfl (by decide +kernel)
set_option maxRecDepth 65536 in
theorem w_c13 : (Jvm.Cond.code ({ cls := "com/example/shardwright/shardwright/cli/CsvReader$Row", name := "isBlank", desc := "()Z" } : Jvm.MethodName) prog_9_method_2_code (1 : Nat) (Option.some Jvm.ClassFile.FieldType.boolean)).before args0 about1 = true := code_word (m := ⟨14, 1⟩) (meth := k14m1) (c := k14c1) (by decide +kernel) rfl rfl rfl (by decide +kernel)
def codes1 : List Jvm.Cond := [Jvm.Cond.code x code maxLocals ret, Jvm.Cond.code ({ cls := "java/util/ArrayList", name := "<init>", desc := "()V" } : Jvm.MethodName) jdk_38_method_2_code (1 : Nat) (Option.none : Option Jvm.ClassFile.FieldType), Jvm.Cond.code ({ cls := "java/util/AbstractList", name := "<init>", desc := "()V" } : Jvm.MethodName) jdk_39_method_1_code (1 : Nat) (Option.none : Option Jvm.ClassFile.FieldType), Jvm.Cond.code ({ cls := "java/util/AbstractCollection", name := "<init>", desc := "()V" } : Jvm.MethodName) jdk_22_method_1_code (1 : Nat) (Option.none : Option Jvm.ClassFile.FieldType), Jvm.Cond.code ({ cls := "java/lang/Object", name := "<init>", desc := "()V" } : Jvm.MethodName) object_method_1_code (1 : Nat) (Option.none : Option Jvm.ClassFile.FieldType), Jvm.Cond.code ({ cls := "com/example/shardwright/shardwright/cli/RowIsBlankPinLaw", name := "field", desc := "(II)[B" } : Jvm.MethodName) method_2_code (3 : Nat) (Option.some (Jvm.ClassFile.FieldType.array Jvm.ClassFile.FieldType.byte)), Jvm.Cond.code ({ cls := "java/util/ArrayList", name := "add", desc := "(Ljava/lang/Object;)Z" } : Jvm.MethodName) jdk_38_method_25_code (2 : Nat) (Option.some Jvm.ClassFile.FieldType.boolean), Jvm.Cond.code ({ cls := "java/util/ArrayList", name := "add", desc := "(Ljava/lang/Object;[Ljava/lang/Object;I)V" } : Jvm.MethodName) jdk_38_method_24_code (4 : Nat) (Option.none : Option Jvm.ClassFile.FieldType), Jvm.Cond.code ({ cls := "java/util/ArrayList", name := "grow", desc := "()[Ljava/lang/Object;" } : Jvm.MethodName) jdk_38_method_7_code (1 : Nat) (Option.some (Jvm.ClassFile.FieldType.array (Jvm.ClassFile.FieldType.object "java/lang/Object"))), Jvm.Cond.code ({ cls := "java/util/ArrayList", name := "grow", desc := "(I)[Ljava/lang/Object;" } : Jvm.MethodName) jdk_38_method_6_code (4 : Nat) (Option.some (Jvm.ClassFile.FieldType.array (Jvm.ClassFile.FieldType.object "java/lang/Object"))), Jvm.Cond.code ({ cls := "java/lang/Math", name := "max", desc := "(II)I" } : Jvm.MethodName) jdk_29_method_65_code (2 : Nat) (Option.some Jvm.ClassFile.FieldType.int), Jvm.Cond.code ({ cls := "com/example/shardwright/shardwright/cli/CsvReader$Row", name := "<init>", desc := "(J[BLjava/util/List;)V" } : Jvm.MethodName) prog_9_method_1_code (5 : Nat) (Option.none : Option Jvm.ClassFile.FieldType), Jvm.Cond.code ({ cls := "java/lang/Record", name := "<init>", desc := "()V" } : Jvm.MethodName) jdk_30_method_1_code (1 : Nat) (Option.none : Option Jvm.ClassFile.FieldType), Jvm.Cond.code ({ cls := "com/example/shardwright/shardwright/cli/CsvReader$Row", name := "isBlank", desc := "()Z" } : Jvm.MethodName) prog_9_method_2_code (1 : Nat) (Option.some Jvm.ClassFile.FieldType.boolean)]
set_option maxRecDepth 65536 in
theorem codes_eq : words1.filter isCode = codes1 := rfl
theorem w_codes : ∀ c ∈ words1.filter isCode, c.before args0 about1 = true := by
  rw [codes_eq]
  intro c hc
  simp only [codes1, List.mem_cons, List.not_mem_nil, or_false] at hc
  rcases hc with rfl | rfl | rfl | rfl | rfl | rfl | rfl | rfl | rfl | rfl | rfl | rfl | rfl | rfl
  · exact w_c0
  · exact w_c1
  · exact w_c2
  · exact w_c3
  · exact w_c4
  · exact w_c5
  · exact w_c6
  · exact w_c7
  · exact w_c8
  · exact w_c9
  · exact w_c10
  · exact w_c11
  · exact w_c12
  · exact w_c13
set_option maxRecDepth 65536 in
theorem w_t1 : (words1.take 24).all (fun c => isCode c || c.before args0 about1) = true := by decide +kernel
set_option maxRecDepth 65536 in
theorem w_t2 : ((words1.drop 24).take 24).all (fun c => isCode c || c.before args0 about1) = true := by decide +kernel
set_option maxRecDepth 65536 in
theorem w_t3 : (((words1.drop 24).drop 24).take 24).all (fun c => isCode c || c.before args0 about1) = true := by decide +kernel
set_option maxRecDepth 65536 in
theorem w_t4 : (((words1.drop 24).drop 24).drop 24).all (fun c => isCode c || c.before args0 about1) = true := by decide +kernel
theorem w_tables : (allAtoms (Jvm.Cond.code x code maxLocals ret :: tables_1)).before args0 about1 = true := by
  rw [allAtoms_all]
  show words1.all (fun c => c.before args0 about1) = true
  refine all_split ?_ w_codes
  rw [← List.take_append_drop 24 words1, List.all_append, w_t1, ← List.take_append_drop 24 (words1.drop 24), List.all_append, w_t2, ← List.take_append_drop 24 ((words1.drop 24).drop 24), List.all_append, w_t3, w_t4]
  rfl
set_option maxRecDepth 65536 in
theorem w_rest : rest_1_c.before args0 about1 = true := by decide +kernel
set_option maxRecDepth 65536 in
theorem w_case : (Jvm.Cond.and given_1 narrow_1).before args0 about1 = true := by decide +kernel
theorem w_applies : (headSpec (Jvm.Cond.code x code maxLocals ret :: tables_1) room_1).applies x e0.platform about1 = true :=
  (Spec.applies_iff w_frames).mpr ⟨w_running, w_runnable, w_alone, w_named, w_hears, w_ripe, w_room, w_tables⟩
theorem atStart : AtStart classFile x code maxLocals ret World_1 tables_1 room_1 Calls_1 rest_1 Pre_1 launch0 p0 e0 about1 theMethod args0 below0 :=
  ⟨lists_1, trivial, launch0.admits_env _ _ _, launch0.least_env, fairChoices_fair.cas, fairChoices_fair.clock, w_frames, w_args, w_heap, w_applies, trivial, w_rest, w_case⟩
end start1
theorem witness_1 : WitnessClaimed_1 := ⟨start1.p0, start1.e0, start1.about1, start1.theMethod, start1.args0, start1.below0, start1.atStart⟩
end Jvm.Pilot.@@N@@
