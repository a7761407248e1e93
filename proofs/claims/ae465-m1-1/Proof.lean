import JvmDerived
import JvmDerived.Pilot.@@N@@Statement
import JvmDerived.Pilot.@@N@@Code
set_option linter.unusedVariables false
set_option linter.unusedSimpArgs false
namespace Jvm.RoadKit
open Sem ClassFile Op Lib Jvm.Stand Jvm.Free Jvm.LawKit
section New
variable {p : Program} {l : Launch} {e : Env} {R : Room} {s : State} {m : MethodId} {args : Array Value} {below : List Frame} {meth : Method} {c : Code} {T : State} {locs : List Loc} {cells slots : Nat}
theorem retI (X : Stand p l e R s m args below meth c T locs cells slots) (hx : p.tables.exec = Jvm.exec) {pc : Nat} {Ls : Array Slot} {z : Int32} {rest : List Value} (hret : meth.sig.returnType = some .int) (hd : decode c.code pc = .ok (.ireturn, 1)) {fs : List Frame}
    (hl : ∀ (f : JFrame) (acts : List Action), f.method = m → f.locked = none → f.entered = [] → (doReturn e (T.setTop f) acts (some (.int z))).1 = T.setFrames fs) : Steps p.tables e below (T.setTop (mkF m pc Ls (.int z :: rest))) (T.setFrames fs) := by
  have hm' : T.vm.method? m = some meth := X.method'
  have hn : narrow .int (.int z) = .int z := rfl
  show Steps p.tables e below (T.setTop { method := m, pc := pc, locals := Ls, stack := _ :: rest, locked := none }) _
  jvm_step X.here [X.here.top, hx, hd, hm', hret, hn]
  first | (intro acts; rw [hl _ acts rfl rfl rfl]) | rw [hl _ _ rfl rfl rfl]
  exact Steps.refl _
theorem own_dia {c : Prop} [Decidable c] {tb : Tables} {S tgt : State} {F : Int32 → State} {A B : Int32} (hy : c → ∀ t, Steps tb e below (F A) t → Steps tb e below S t) (hn : ¬ c → ∀ t, Steps tb e below (F B) t → Steps tb e below S t) (k : Steps tb e below (F (if c then A else B)) tgt) : Steps tb e below S tgt := by
  by_cases q : c
  · rw [if_pos q] at k; exact hy q _ k
  · rw [if_neg q] at k; exact hn q _ k
abbrev Stp (p : Program) (e : Env) (below : List Frame) (T : State) (m : MethodId) (pc : Nat) (Ls : Array Slot) (st : List Value) (t : State) : Prop := Steps p.tables e below (T.setTop (mkF m pc Ls st)) t
end New
end Jvm.RoadKit
namespace Jvm.Pilot.@@N@@
open Jvm Jvm.ClassFile Sem Op Lib Jvm.Free Jvm.Stand Jvm.LawKit Jvm.RoadKit Bundle Jvm.Pilot.@@N@@.Jvm.D
theorem own_W {a0 : Array Value} {Z : State} (hw : ∀ d ∈ tables_1, d.before a0 Z = true) (i : Nat) {d : Jvm.Cond} (h : tables_1[i]? = some d) : d.before a0 Z = true := hw _ (List.mem_of_getElem? h)
section FR
variable {p : Program} {l : Launch} {e : Env} {R : Room} {s : State} {m : MethodId} {args : Array Value} {below : List Frame} {meth : Method} {c : Code} {T : State} {locs : List Loc} {cells slots : Nat} {Z : State} {h : Heap}
theorem own_getFR (X : Stand p l e R s m args below meth c T locs cells slots) (hx : p.tables.exec = Jvm.exec) (hZ : Z.Warmed39 s.vm) {a0 : Array Value} {own R0 O n d : String} {index : Nat} (hown : s.vm.findClass own = some m.cls) (w : (Jvm.Cond.fieldRef own index R0 n d).before a0 Z = true) (via : Via Z R0 O n d)
    (eT : T.heap = h) {a : Addr} {v : Value} (F : Fld Z h a O n d v) {g : JFrame} (hg : g.method = m) {rest : List Value} (hs : g.stack = .ref a :: rest) (hd : decode c.code g.pc = .ok (.getfield index, 3)) :
    ∃ T', Stand p l e R s m args below meth c T' locs cells slots ∧ T'.heap = h ∧ ∀ target, Steps p.tables e below (T'.setTop { g with pc := g.pc + 3, stack := v :: rest }) target → Steps p.tables e below (T.setTop g) target := by
  obtain ⟨cell, cf, k, i, f, h1, h2, h3, h4, -, -, h7⟩ := F
  have hW : Z.Warmed39 T.vm := wtrans hZ X.warmed
  have w' := Cond.fieldRef_warmed39 hW w
  have hownT : (Z.setVm T.vm).vm.findClass own = some m.cls := by
    show T.vm.findClass own = _
    rw [X.warmed.alike.findClass]; exact hown
  obtain ⟨c', k', i', f', hi', hready⟩ := Cond.fieldRef_spec hownT w'
  obtain ⟨k'', hi'', -⟩ := State.fieldFound?_setVm (s := Z) hW.alike (via _ h2)
  cases hi'.symm.trans hi''
  refine ⟨T, X, eT, fun target hrest => ?_⟩
  subst hg
  jvm_step X.here [hx, hd, getfield.wp_ready (e := e) (s := T) (f := g) X.here.top hready h3 hs (by rw [eT]; exact h1) h4 h7]
  exact hrest
end FR
theorem own_eqv {args : Array Value} {first s : State} {o : Option Outcome} {idx : List Nat} {a b : Term} {y : Value} (h : (Jvm.Cond.eq a b).value args first o s idx = some true) (hb : b.eval args first o idx s = some y) : a.eval args first o idx s = some y := by
  obtain ⟨x, y', ha, hb', k1, k2⟩ := cmp_v (Or.inl h)
  cases hb.symm.trans hb'
  cases x <;> cases y <;> simp_all [Cond.value, Kin]
theorem own_mask (p : Int32) : 0 ≤ (p &&& (2147483647 : Int32)).toInt := by
  have h : (p &&& (2147483647 : Int32)).toBitVec.msb = false := by
    show (p.toBitVec &&& 2147483647#32).msb = false
    rw [BitVec.msb_and]; simp [show (2147483647#32).msb = false from rfl]
  show 0 ≤ (p &&& (2147483647 : Int32)).toBitVec.toInt
  rw [BitVec.toInt_eq_msb_cond, h]; simp
theorem own_rem (p k : Int32) (hk : 0 < k.toInt) : 0 ≤ ((p &&& (2147483647 : Int32)) % k).toInt ∧ ((p &&& (2147483647 : Int32)) % k).toInt < k.toInt := by
  rw [Int32.toInt_mod, Int.tmod_eq_emod_of_nonneg (own_mask p)]
  exact ⟨Int.emod_nonneg _ (by omega), Int.emod_lt_of_pos _ hk⟩
theorem own_k8 (p : Int32) (h0 : ¬ (p &&& (2147483647 : Int32)) % 9 = 0) (h1 : ¬ (p &&& (2147483647 : Int32)) % 9 = 1) (h2 : ¬ (p &&& (2147483647 : Int32)) % 9 = 2) (h3 : ¬ (p &&& (2147483647 : Int32)) % 9 = 3) (h4 : ¬ (p &&& (2147483647 : Int32)) % 9 = 4) (h5 : ¬ (p &&& (2147483647 : Int32)) % 9 = 5) (h6 : ¬ (p &&& (2147483647 : Int32)) % 9 = 6) (h7 : ¬ (p &&& (2147483647 : Int32)) % 9 = 7) : (p &&& (2147483647 : Int32)) % 9 = 8 := by
  have h := own_rem p 9 (by decide)
  generalize (p &&& (2147483647 : Int32)) % 9 = x at *
  rw [← Int32.toInt_inj] at *
  have e0 : (0 : Int32).toInt = 0 := rfl
  have e1 : (1 : Int32).toInt = 1 := rfl
  have e2 : (2 : Int32).toInt = 2 := rfl
  have e3 : (3 : Int32).toInt = 3 := rfl
  have e4 : (4 : Int32).toInt = 4 := rfl
  have e5 : (5 : Int32).toInt = 5 := rfl
  have e6 : (6 : Int32).toInt = 6 := rfl
  have e7 : (7 : Int32).toInt = 7 := rfl
  have e8 : (8 : Int32).toInt = 8 := rfl
  have e9 : (9 : Int32).toInt = 9 := rfl
  omega
theorem d1_0 : decode method_2_code 0 = .ok (.iload_n 0, 1) := by decide +kernel
theorem d1_1 : decode method_2_code 1 = .ok (.ifCond .ne 7, 3) := by decide +kernel
theorem d1_4 : decode method_2_code 4 = .ok (.getstatic 7, 3) := by decide +kernel
theorem d1_7 : decode method_2_code 7 = .ok (.areturn, 1) := by decide +kernel
theorem pn_1 : plainName "com/example/leafcount/leafcount/SqlSyntaxPutsNullLastPinLaw" = true := by first | (simp [plainName, overriddenIn]; done) | decide +kernel
theorem ef_1 (m : MethodId) (pi1 : Int32) : entryFrame m #[(.int pi1)] 1 = mkF m 0 #[.val (.int pi1)] [] := by first | (simp [entryFrame, mkF, argsToLocals, Value.category]; done) | rfl
def Q1_0 (Z : State) (pi1 : Int32) (w_POSTGRESQL : Addr) (h0 : Heap) (n0 : Nat) (v : Option Value) (h : Heap) (L : List Loc) : Prop := v = some (.ref w_POSTGRESQL) ∧ Fr n0 L ∧ h = h0
set_option maxRecDepth 65536 in
set_option maxHeartbeats 40000000 in
theorem rm1_0 (l : Launch) (Z : State) (a0 : Array Value) (hw : ∀ d ∈ tables_1, d.before a0 Z = true) (ws : List Jvm.Cond) (pi1 : Int32) (w_POSTGRESQL : Addr) (h0 : Heap) (n0 : Nat) (Z0 : n0 ≤ h0.size) (O0 : Old Z n0 h0) (S_POSTGRESQL : Sta Z Z.heap "com/example/leafcount/leafcount/SqlSyntax" "POSTGRESQL" "Lcom/example/leafcount/leafcount/SqlSyntax;" (.ref w_POSTGRESQL)) (hc1_0 : pi1 = (0 : Int32)) :
    MetFree l (⟨"com/example/leafcount/leafcount/SqlSyntaxPutsNullLastPinLaw", "pick", "(I)Lcom/example/leafcount/leafcount/SqlSyntax;"⟩ : MethodName) (head1 (Jvm.Cond.code (⟨"com/example/leafcount/leafcount/SqlSyntaxPutsNullLastPinLaw", "pick", "(I)Lcom/example/leafcount/leafcount/SqlSyntax;"⟩ : MethodName) method_2_code 1 (some (.object "com/example/leafcount/leafcount/SqlSyntax")) :: ws) ({ frames := 0, cells := 0, slots := 0, locals := 0 } : Room)) (fun a U => a = #[(.int pi1)] ∧ Z.Warmed39 U.vm ∧ U.heap = h0) (fun _ _ _ _ _ => True) (fun _ U o U' => ∃ v L, o = .returned v ∧ Q1_0 Z pi1 w_POSTGRESQL h0 n0 v U'.heap L ∧ FrameEnd U o U' L ({ frames := 0, cells := 0, slots := 0, locals := 0 } : Room).cells ({ frames := 0, cells := 0, slots := 0, locals := 0 } : Room).slots) := by
  refine MetFree.of_bodySF (plainFor_of_name pn_1) hisR ?_
  intro p e s m args below meth c s₁ Bd hml0 hP hK
  obtain ⟨rfl, hZ, hh⟩ := hP
  have hx := Bd.exec
  have hby := Bd.bytes
  have hml : c.maxLocals = 1 := hml0
  have hown : s.vm.findClass "com/example/leafcount/leafcount/SqlSyntaxPutsNullLastPinLaw" = some m.cls := findClass_of_methodNamed Bd.named
  have hnm := (name_of_methodNamed Bd.named Bd.method).1
  have X0 : Stand p l e ({ frames := 0, cells := 0, slots := 0, locals := 0 } : Room) s m #[(.int pi1)] below meth c s₁ [] 0 0 := Stand.of_body Bd
  have e0 : s₁.heap = h0 := by rw [← hh, Bd.state]; rfl
  have N0 := Fr.nil n0
  have pre0 : ∀ t, Steps p.tables e below (s₁.setTop (mkF m 0 #[.val (.int pi1)] [])) t → Steps p.tables e below (s₁.setTop (entryFrame m #[(.int pi1)] 1)) t := fun t k => castTop (ef_1 m pi1) k
  obtain ⟨T1, X1, e1, st1⟩ := getS2 X0 hx hZ hown (host := "") (Or.inl (own_W hw 8 rfl)) Via.refl e0 (S_POSTGRESQL.ext O0.2) (g := (mkF m 4 #[.val (.int pi1)] [])) rfl (hb hby d1_4)
  obtain ⟨fs, hr, hrun, hended, hW, hsame⟩ := X1.leave (v := some (.ref w_POSTGRESQL)) (fun h => by rw [Bd.returns] at h; cases h)
  refine ⟨_, _, pre0 _ ?_, hrun, hended, _, _, rfl, ?_, ⟨_, rfl⟩, hW, hsame.mono (by decide) (by decide)⟩
  · show Stp p e below s₁ m 0 #[.val (.int pi1)] [] _
    refine XS.iloadN X0.here hx rfl (hb hby d1_0) rfl ?_
    show Stp p e below s₁ m 1 #[.val (.int pi1)] [(.int pi1)] _
    refine XS.ifNo X0.here hx rfl (hb hby d1_1) rfl ((if0 _ _).trans (teq hc1_0).2) ?_
    show Stp p e below s₁ m 4 #[.val (.int pi1)] [] _
    refine st1 _ ?_
    show Stp p e below T1 m 7 #[.val (.int pi1)] [(.ref w_POSTGRESQL)] _
    jvm_step X1.here [X1.here.top, hx, (hb hby d1_7), X1.method', Bd.returns, Value.isRef, FieldType.isReference]
    first | (intro acts; rw [hr _ acts rfl rfl rfl]) | rw [hr _ _ rfl rfl rfl]
    exact Steps.refl _
  · show Q1_0 Z pi1 w_POSTGRESQL h0 n0 _ T1.heap _
    rw [e1]
    exact ⟨rfl, N0, rfl⟩
theorem d1_8 : decode method_2_code 8 = .ok (.iload_n 0, 1) := by decide +kernel
theorem d1_9 : decode method_2_code 9 = .ok (.iconst 1, 1) := by decide +kernel
theorem d1_10 : decode method_2_code 10 = .ok (.if_icmp .ne 7, 3) := by decide +kernel
theorem d1_13 : decode method_2_code 13 = .ok (.getstatic 13, 3) := by decide +kernel
theorem d1_16 : decode method_2_code 16 = .ok (.areturn, 1) := by decide +kernel
def Q1_1 (Z : State) (pi1 : Int32) (w_MARIADB : Addr) (h0 : Heap) (n0 : Nat) (v : Option Value) (h : Heap) (L : List Loc) : Prop := v = some (.ref w_MARIADB) ∧ Fr n0 L ∧ h = h0
set_option maxRecDepth 65536 in
set_option maxHeartbeats 40000000 in
theorem rm1_1 (l : Launch) (Z : State) (a0 : Array Value) (hw : ∀ d ∈ tables_1, d.before a0 Z = true) (ws : List Jvm.Cond) (pi1 : Int32) (w_MARIADB : Addr) (h0 : Heap) (n0 : Nat) (Z0 : n0 ≤ h0.size) (O0 : Old Z n0 h0) (S_MARIADB : Sta Z Z.heap "com/example/leafcount/leafcount/SqlSyntax" "MARIADB" "Lcom/example/leafcount/leafcount/SqlSyntax;" (.ref w_MARIADB)) (hc1_0 : ¬ (pi1 = (0 : Int32))) (hc10_1 : pi1 = (1 : Int32)) :
    MetFree l (⟨"com/example/leafcount/leafcount/SqlSyntaxPutsNullLastPinLaw", "pick", "(I)Lcom/example/leafcount/leafcount/SqlSyntax;"⟩ : MethodName) (head1 (Jvm.Cond.code (⟨"com/example/leafcount/leafcount/SqlSyntaxPutsNullLastPinLaw", "pick", "(I)Lcom/example/leafcount/leafcount/SqlSyntax;"⟩ : MethodName) method_2_code 1 (some (.object "com/example/leafcount/leafcount/SqlSyntax")) :: ws) ({ frames := 0, cells := 0, slots := 0, locals := 0 } : Room)) (fun a U => a = #[(.int pi1)] ∧ Z.Warmed39 U.vm ∧ U.heap = h0) (fun _ _ _ _ _ => True) (fun _ U o U' => ∃ v L, o = .returned v ∧ Q1_1 Z pi1 w_MARIADB h0 n0 v U'.heap L ∧ FrameEnd U o U' L ({ frames := 0, cells := 0, slots := 0, locals := 0 } : Room).cells ({ frames := 0, cells := 0, slots := 0, locals := 0 } : Room).slots) := by
  refine MetFree.of_bodySF (plainFor_of_name pn_1) hisR ?_
  intro p e s m args below meth c s₁ Bd hml0 hP hK
  obtain ⟨rfl, hZ, hh⟩ := hP
  have hx := Bd.exec
  have hby := Bd.bytes
  have hml : c.maxLocals = 1 := hml0
  have hown : s.vm.findClass "com/example/leafcount/leafcount/SqlSyntaxPutsNullLastPinLaw" = some m.cls := findClass_of_methodNamed Bd.named
  have hnm := (name_of_methodNamed Bd.named Bd.method).1
  have X0 : Stand p l e ({ frames := 0, cells := 0, slots := 0, locals := 0 } : Room) s m #[(.int pi1)] below meth c s₁ [] 0 0 := Stand.of_body Bd
  have e0 : s₁.heap = h0 := by rw [← hh, Bd.state]; rfl
  have N0 := Fr.nil n0
  have pre0 : ∀ t, Steps p.tables e below (s₁.setTop (mkF m 0 #[.val (.int pi1)] [])) t → Steps p.tables e below (s₁.setTop (entryFrame m #[(.int pi1)] 1)) t := fun t k => castTop (ef_1 m pi1) k
  obtain ⟨T1, X1, e1, st1⟩ := getS2 X0 hx hZ hown (host := "") (Or.inl (own_W hw 29 rfl)) Via.refl e0 (S_MARIADB.ext O0.2) (g := (mkF m 13 #[.val (.int pi1)] [])) rfl (hb hby d1_13)
  obtain ⟨fs, hr, hrun, hended, hW, hsame⟩ := X1.leave (v := some (.ref w_MARIADB)) (fun h => by rw [Bd.returns] at h; cases h)
  refine ⟨_, _, pre0 _ ?_, hrun, hended, _, _, rfl, ?_, ⟨_, rfl⟩, hW, hsame.mono (by decide) (by decide)⟩
  · show Stp p e below s₁ m 0 #[.val (.int pi1)] [] _
    refine XS.iloadN X0.here hx rfl (hb hby d1_0) rfl ?_
    show Stp p e below s₁ m 1 #[.val (.int pi1)] [(.int pi1)] _
    refine XS.ifYes X0.here hx rfl (pc0 := 1) (pc' := 8) rfl (hb hby d1_1) rfl ((if0 _ _).trans (feq hc1_0).2) (by decide) (by decide) ?_
    show Stp p e below s₁ m 8 #[.val (.int pi1)] [] _
    refine XS.iloadN X0.here hx rfl (hb hby d1_8) rfl ?_
    show Stp p e below s₁ m 9 #[.val (.int pi1)] [(.int pi1)] _
    refine XS.iconst X0.here hx rfl (hb hby d1_9) ?_
    show Stp p e below s₁ m 10 #[.val (.int pi1)] [(.int (1 : Int32)), (.int pi1)] _
    refine XS.icmpNo X0.here hx rfl (hb hby d1_10) rfl (teq hc10_1).2 ?_
    show Stp p e below s₁ m 13 #[.val (.int pi1)] [] _
    refine st1 _ ?_
    show Stp p e below T1 m 16 #[.val (.int pi1)] [(.ref w_MARIADB)] _
    jvm_step X1.here [X1.here.top, hx, (hb hby d1_16), X1.method', Bd.returns, Value.isRef, FieldType.isReference]
    first | (intro acts; rw [hr _ acts rfl rfl rfl]) | rw [hr _ _ rfl rfl rfl]
    exact Steps.refl _
  · show Q1_1 Z pi1 w_MARIADB h0 n0 _ T1.heap _
    rw [e1]
    exact ⟨rfl, N0, rfl⟩
theorem d1_17 : decode method_2_code 17 = .ok (.iload_n 0, 1) := by decide +kernel
theorem d1_18 : decode method_2_code 18 = .ok (.iconst 2, 1) := by decide +kernel
theorem d1_19 : decode method_2_code 19 = .ok (.if_icmp .ne 7, 3) := by decide +kernel
theorem d1_22 : decode method_2_code 22 = .ok (.getstatic 16, 3) := by decide +kernel
theorem d1_25 : decode method_2_code 25 = .ok (.areturn, 1) := by decide +kernel
def Q1_2 (Z : State) (pi1 : Int32) (w_SQLITE : Addr) (h0 : Heap) (n0 : Nat) (v : Option Value) (h : Heap) (L : List Loc) : Prop := v = some (.ref w_SQLITE) ∧ Fr n0 L ∧ h = h0
set_option maxRecDepth 65536 in
set_option maxHeartbeats 40000000 in
theorem rm1_2 (l : Launch) (Z : State) (a0 : Array Value) (hw : ∀ d ∈ tables_1, d.before a0 Z = true) (ws : List Jvm.Cond) (pi1 : Int32) (w_SQLITE : Addr) (h0 : Heap) (n0 : Nat) (Z0 : n0 ≤ h0.size) (O0 : Old Z n0 h0) (S_SQLITE : Sta Z Z.heap "com/example/leafcount/leafcount/SqlSyntax" "SQLITE" "Lcom/example/leafcount/leafcount/SqlSyntax;" (.ref w_SQLITE)) (hc1_0 : ¬ (pi1 = (0 : Int32))) (hc10_1 : ¬ (pi1 = (1 : Int32))) (hc19_2 : pi1 = (2 : Int32)) :
    MetFree l (⟨"com/example/leafcount/leafcount/SqlSyntaxPutsNullLastPinLaw", "pick", "(I)Lcom/example/leafcount/leafcount/SqlSyntax;"⟩ : MethodName) (head1 (Jvm.Cond.code (⟨"com/example/leafcount/leafcount/SqlSyntaxPutsNullLastPinLaw", "pick", "(I)Lcom/example/leafcount/leafcount/SqlSyntax;"⟩ : MethodName) method_2_code 1 (some (.object "com/example/leafcount/leafcount/SqlSyntax")) :: ws) ({ frames := 0, cells := 0, slots := 0, locals := 0 } : Room)) (fun a U => a = #[(.int pi1)] ∧ Z.Warmed39 U.vm ∧ U.heap = h0) (fun _ _ _ _ _ => True) (fun _ U o U' => ∃ v L, o = .returned v ∧ Q1_2 Z pi1 w_SQLITE h0 n0 v U'.heap L ∧ FrameEnd U o U' L ({ frames := 0, cells := 0, slots := 0, locals := 0 } : Room).cells ({ frames := 0, cells := 0, slots := 0, locals := 0 } : Room).slots) := by
  refine MetFree.of_bodySF (plainFor_of_name pn_1) hisR ?_
  intro p e s m args below meth c s₁ Bd hml0 hP hK
  obtain ⟨rfl, hZ, hh⟩ := hP
  have hx := Bd.exec
  have hby := Bd.bytes
  have hml : c.maxLocals = 1 := hml0
  have hown : s.vm.findClass "com/example/leafcount/leafcount/SqlSyntaxPutsNullLastPinLaw" = some m.cls := findClass_of_methodNamed Bd.named
  have hnm := (name_of_methodNamed Bd.named Bd.method).1
  have X0 : Stand p l e ({ frames := 0, cells := 0, slots := 0, locals := 0 } : Room) s m #[(.int pi1)] below meth c s₁ [] 0 0 := Stand.of_body Bd
  have e0 : s₁.heap = h0 := by rw [← hh, Bd.state]; rfl
  have N0 := Fr.nil n0
  have pre0 : ∀ t, Steps p.tables e below (s₁.setTop (mkF m 0 #[.val (.int pi1)] [])) t → Steps p.tables e below (s₁.setTop (entryFrame m #[(.int pi1)] 1)) t := fun t k => castTop (ef_1 m pi1) k
  obtain ⟨T1, X1, e1, st1⟩ := getS2 X0 hx hZ hown (host := "") (Or.inl (own_W hw 38 rfl)) Via.refl e0 (S_SQLITE.ext O0.2) (g := (mkF m 22 #[.val (.int pi1)] [])) rfl (hb hby d1_22)
  obtain ⟨fs, hr, hrun, hended, hW, hsame⟩ := X1.leave (v := some (.ref w_SQLITE)) (fun h => by rw [Bd.returns] at h; cases h)
  refine ⟨_, _, pre0 _ ?_, hrun, hended, _, _, rfl, ?_, ⟨_, rfl⟩, hW, hsame.mono (by decide) (by decide)⟩
  · show Stp p e below s₁ m 0 #[.val (.int pi1)] [] _
    refine XS.iloadN X0.here hx rfl (hb hby d1_0) rfl ?_
    show Stp p e below s₁ m 1 #[.val (.int pi1)] [(.int pi1)] _
    refine XS.ifYes X0.here hx rfl (pc0 := 1) (pc' := 8) rfl (hb hby d1_1) rfl ((if0 _ _).trans (feq hc1_0).2) (by decide) (by decide) ?_
    show Stp p e below s₁ m 8 #[.val (.int pi1)] [] _
    refine XS.iloadN X0.here hx rfl (hb hby d1_8) rfl ?_
    show Stp p e below s₁ m 9 #[.val (.int pi1)] [(.int pi1)] _
    refine XS.iconst X0.here hx rfl (hb hby d1_9) ?_
    show Stp p e below s₁ m 10 #[.val (.int pi1)] [(.int (1 : Int32)), (.int pi1)] _
    refine XS.icmpYes X0.here hx rfl (pc0 := 10) (pc' := 17) rfl (hb hby d1_10) rfl (feq hc10_1).2 (by decide) (by decide) ?_
    show Stp p e below s₁ m 17 #[.val (.int pi1)] [] _
    refine XS.iloadN X0.here hx rfl (hb hby d1_17) rfl ?_
    show Stp p e below s₁ m 18 #[.val (.int pi1)] [(.int pi1)] _
    refine XS.iconst X0.here hx rfl (hb hby d1_18) ?_
    show Stp p e below s₁ m 19 #[.val (.int pi1)] [(.int (2 : Int32)), (.int pi1)] _
    refine XS.icmpNo X0.here hx rfl (hb hby d1_19) rfl (teq hc19_2).2 ?_
    show Stp p e below s₁ m 22 #[.val (.int pi1)] [] _
    refine st1 _ ?_
    show Stp p e below T1 m 25 #[.val (.int pi1)] [(.ref w_SQLITE)] _
    jvm_step X1.here [X1.here.top, hx, (hb hby d1_25), X1.method', Bd.returns, Value.isRef, FieldType.isReference]
    first | (intro acts; rw [hr _ acts rfl rfl rfl]) | rw [hr _ _ rfl rfl rfl]
    exact Steps.refl _
  · show Q1_2 Z pi1 w_SQLITE h0 n0 _ T1.heap _
    rw [e1]
    exact ⟨rfl, N0, rfl⟩
theorem d1_26 : decode method_2_code 26 = .ok (.iload_n 0, 1) := by decide +kernel
theorem d1_27 : decode method_2_code 27 = .ok (.iconst 3, 1) := by decide +kernel
theorem d1_28 : decode method_2_code 28 = .ok (.if_icmp .ne 7, 3) := by decide +kernel
theorem d1_31 : decode method_2_code 31 = .ok (.getstatic 19, 3) := by decide +kernel
theorem d1_34 : decode method_2_code 34 = .ok (.areturn, 1) := by decide +kernel
def Q1_3 (Z : State) (pi1 : Int32) (w_H2 : Addr) (h0 : Heap) (n0 : Nat) (v : Option Value) (h : Heap) (L : List Loc) : Prop := v = some (.ref w_H2) ∧ Fr n0 L ∧ h = h0
set_option maxRecDepth 65536 in
set_option maxHeartbeats 40000000 in
theorem rm1_3 (l : Launch) (Z : State) (a0 : Array Value) (hw : ∀ d ∈ tables_1, d.before a0 Z = true) (ws : List Jvm.Cond) (pi1 : Int32) (w_H2 : Addr) (h0 : Heap) (n0 : Nat) (Z0 : n0 ≤ h0.size) (O0 : Old Z n0 h0) (S_H2 : Sta Z Z.heap "com/example/leafcount/leafcount/SqlSyntax" "H2" "Lcom/example/leafcount/leafcount/SqlSyntax;" (.ref w_H2)) (hc1_0 : ¬ (pi1 = (0 : Int32))) (hc10_1 : ¬ (pi1 = (1 : Int32))) (hc19_2 : ¬ (pi1 = (2 : Int32))) (hc28_3 : pi1 = (3 : Int32)) :
    MetFree l (⟨"com/example/leafcount/leafcount/SqlSyntaxPutsNullLastPinLaw", "pick", "(I)Lcom/example/leafcount/leafcount/SqlSyntax;"⟩ : MethodName) (head1 (Jvm.Cond.code (⟨"com/example/leafcount/leafcount/SqlSyntaxPutsNullLastPinLaw", "pick", "(I)Lcom/example/leafcount/leafcount/SqlSyntax;"⟩ : MethodName) method_2_code 1 (some (.object "com/example/leafcount/leafcount/SqlSyntax")) :: ws) ({ frames := 0, cells := 0, slots := 0, locals := 0 } : Room)) (fun a U => a = #[(.int pi1)] ∧ Z.Warmed39 U.vm ∧ U.heap = h0) (fun _ _ _ _ _ => True) (fun _ U o U' => ∃ v L, o = .returned v ∧ Q1_3 Z pi1 w_H2 h0 n0 v U'.heap L ∧ FrameEnd U o U' L ({ frames := 0, cells := 0, slots := 0, locals := 0 } : Room).cells ({ frames := 0, cells := 0, slots := 0, locals := 0 } : Room).slots) := by
  refine MetFree.of_bodySF (plainFor_of_name pn_1) hisR ?_
  intro p e s m args below meth c s₁ Bd hml0 hP hK
  obtain ⟨rfl, hZ, hh⟩ := hP
  have hx := Bd.exec
  have hby := Bd.bytes
  have hml : c.maxLocals = 1 := hml0
  have hown : s.vm.findClass "com/example/leafcount/leafcount/SqlSyntaxPutsNullLastPinLaw" = some m.cls := findClass_of_methodNamed Bd.named
  have hnm := (name_of_methodNamed Bd.named Bd.method).1
  have X0 : Stand p l e ({ frames := 0, cells := 0, slots := 0, locals := 0 } : Room) s m #[(.int pi1)] below meth c s₁ [] 0 0 := Stand.of_body Bd
  have e0 : s₁.heap = h0 := by rw [← hh, Bd.state]; rfl
  have N0 := Fr.nil n0
  have pre0 : ∀ t, Steps p.tables e below (s₁.setTop (mkF m 0 #[.val (.int pi1)] [])) t → Steps p.tables e below (s₁.setTop (entryFrame m #[(.int pi1)] 1)) t := fun t k => castTop (ef_1 m pi1) k
  obtain ⟨T1, X1, e1, st1⟩ := getS2 X0 hx hZ hown (host := "") (Or.inl (own_W hw 36 rfl)) Via.refl e0 (S_H2.ext O0.2) (g := (mkF m 31 #[.val (.int pi1)] [])) rfl (hb hby d1_31)
  obtain ⟨fs, hr, hrun, hended, hW, hsame⟩ := X1.leave (v := some (.ref w_H2)) (fun h => by rw [Bd.returns] at h; cases h)
  refine ⟨_, _, pre0 _ ?_, hrun, hended, _, _, rfl, ?_, ⟨_, rfl⟩, hW, hsame.mono (by decide) (by decide)⟩
  · show Stp p e below s₁ m 0 #[.val (.int pi1)] [] _
    refine XS.iloadN X0.here hx rfl (hb hby d1_0) rfl ?_
    show Stp p e below s₁ m 1 #[.val (.int pi1)] [(.int pi1)] _
    refine XS.ifYes X0.here hx rfl (pc0 := 1) (pc' := 8) rfl (hb hby d1_1) rfl ((if0 _ _).trans (feq hc1_0).2) (by decide) (by decide) ?_
    show Stp p e below s₁ m 8 #[.val (.int pi1)] [] _
    refine XS.iloadN X0.here hx rfl (hb hby d1_8) rfl ?_
    show Stp p e below s₁ m 9 #[.val (.int pi1)] [(.int pi1)] _
    refine XS.iconst X0.here hx rfl (hb hby d1_9) ?_
    show Stp p e below s₁ m 10 #[.val (.int pi1)] [(.int (1 : Int32)), (.int pi1)] _
    refine XS.icmpYes X0.here hx rfl (pc0 := 10) (pc' := 17) rfl (hb hby d1_10) rfl (feq hc10_1).2 (by decide) (by decide) ?_
    show Stp p e below s₁ m 17 #[.val (.int pi1)] [] _
    refine XS.iloadN X0.here hx rfl (hb hby d1_17) rfl ?_
    show Stp p e below s₁ m 18 #[.val (.int pi1)] [(.int pi1)] _
    refine XS.iconst X0.here hx rfl (hb hby d1_18) ?_
    show Stp p e below s₁ m 19 #[.val (.int pi1)] [(.int (2 : Int32)), (.int pi1)] _
    refine XS.icmpYes X0.here hx rfl (pc0 := 19) (pc' := 26) rfl (hb hby d1_19) rfl (feq hc19_2).2 (by decide) (by decide) ?_
    show Stp p e below s₁ m 26 #[.val (.int pi1)] [] _
    refine XS.iloadN X0.here hx rfl (hb hby d1_26) rfl ?_
    show Stp p e below s₁ m 27 #[.val (.int pi1)] [(.int pi1)] _
    refine XS.iconst X0.here hx rfl (hb hby d1_27) ?_
    show Stp p e below s₁ m 28 #[.val (.int pi1)] [(.int (3 : Int32)), (.int pi1)] _
    refine XS.icmpNo X0.here hx rfl (hb hby d1_28) rfl (teq hc28_3).2 ?_
    show Stp p e below s₁ m 31 #[.val (.int pi1)] [] _
    refine st1 _ ?_
    show Stp p e below T1 m 34 #[.val (.int pi1)] [(.ref w_H2)] _
    jvm_step X1.here [X1.here.top, hx, (hb hby d1_34), X1.method', Bd.returns, Value.isRef, FieldType.isReference]
    first | (intro acts; rw [hr _ acts rfl rfl rfl]) | rw [hr _ _ rfl rfl rfl]
    exact Steps.refl _
  · show Q1_3 Z pi1 w_H2 h0 n0 _ T1.heap _
    rw [e1]
    exact ⟨rfl, N0, rfl⟩
theorem d1_35 : decode method_2_code 35 = .ok (.iload_n 0, 1) := by decide +kernel
theorem d1_36 : decode method_2_code 36 = .ok (.iconst 4, 1) := by decide +kernel
theorem d1_37 : decode method_2_code 37 = .ok (.if_icmp .ne 7, 3) := by decide +kernel
theorem d1_40 : decode method_2_code 40 = .ok (.getstatic 22, 3) := by decide +kernel
theorem d1_43 : decode method_2_code 43 = .ok (.areturn, 1) := by decide +kernel
def Q1_4 (Z : State) (pi1 : Int32) (w_HSQLDB : Addr) (h0 : Heap) (n0 : Nat) (v : Option Value) (h : Heap) (L : List Loc) : Prop := v = some (.ref w_HSQLDB) ∧ Fr n0 L ∧ h = h0
set_option maxRecDepth 65536 in
set_option maxHeartbeats 40000000 in
theorem rm1_4 (l : Launch) (Z : State) (a0 : Array Value) (hw : ∀ d ∈ tables_1, d.before a0 Z = true) (ws : List Jvm.Cond) (pi1 : Int32) (w_HSQLDB : Addr) (h0 : Heap) (n0 : Nat) (Z0 : n0 ≤ h0.size) (O0 : Old Z n0 h0) (S_HSQLDB : Sta Z Z.heap "com/example/leafcount/leafcount/SqlSyntax" "HSQLDB" "Lcom/example/leafcount/leafcount/SqlSyntax;" (.ref w_HSQLDB)) (hc1_0 : ¬ (pi1 = (0 : Int32))) (hc10_1 : ¬ (pi1 = (1 : Int32))) (hc19_2 : ¬ (pi1 = (2 : Int32))) (hc28_3 : ¬ (pi1 = (3 : Int32))) (hc37_4 : pi1 = (4 : Int32)) :
    MetFree l (⟨"com/example/leafcount/leafcount/SqlSyntaxPutsNullLastPinLaw", "pick", "(I)Lcom/example/leafcount/leafcount/SqlSyntax;"⟩ : MethodName) (head1 (Jvm.Cond.code (⟨"com/example/leafcount/leafcount/SqlSyntaxPutsNullLastPinLaw", "pick", "(I)Lcom/example/leafcount/leafcount/SqlSyntax;"⟩ : MethodName) method_2_code 1 (some (.object "com/example/leafcount/leafcount/SqlSyntax")) :: ws) ({ frames := 0, cells := 0, slots := 0, locals := 0 } : Room)) (fun a U => a = #[(.int pi1)] ∧ Z.Warmed39 U.vm ∧ U.heap = h0) (fun _ _ _ _ _ => True) (fun _ U o U' => ∃ v L, o = .returned v ∧ Q1_4 Z pi1 w_HSQLDB h0 n0 v U'.heap L ∧ FrameEnd U o U' L ({ frames := 0, cells := 0, slots := 0, locals := 0 } : Room).cells ({ frames := 0, cells := 0, slots := 0, locals := 0 } : Room).slots) := by
  refine MetFree.of_bodySF (plainFor_of_name pn_1) hisR ?_
  intro p e s m args below meth c s₁ Bd hml0 hP hK
  obtain ⟨rfl, hZ, hh⟩ := hP
  have hx := Bd.exec
  have hby := Bd.bytes
  have hml : c.maxLocals = 1 := hml0
  have hown : s.vm.findClass "com/example/leafcount/leafcount/SqlSyntaxPutsNullLastPinLaw" = some m.cls := findClass_of_methodNamed Bd.named
  have hnm := (name_of_methodNamed Bd.named Bd.method).1
  have X0 : Stand p l e ({ frames := 0, cells := 0, slots := 0, locals := 0 } : Room) s m #[(.int pi1)] below meth c s₁ [] 0 0 := Stand.of_body Bd
  have e0 : s₁.heap = h0 := by rw [← hh, Bd.state]; rfl
  have N0 := Fr.nil n0
  have pre0 : ∀ t, Steps p.tables e below (s₁.setTop (mkF m 0 #[.val (.int pi1)] [])) t → Steps p.tables e below (s₁.setTop (entryFrame m #[(.int pi1)] 1)) t := fun t k => castTop (ef_1 m pi1) k
  obtain ⟨T1, X1, e1, st1⟩ := getS2 X0 hx hZ hown (host := "") (Or.inl (own_W hw 26 rfl)) Via.refl e0 (S_HSQLDB.ext O0.2) (g := (mkF m 40 #[.val (.int pi1)] [])) rfl (hb hby d1_40)
  obtain ⟨fs, hr, hrun, hended, hW, hsame⟩ := X1.leave (v := some (.ref w_HSQLDB)) (fun h => by rw [Bd.returns] at h; cases h)
  refine ⟨_, _, pre0 _ ?_, hrun, hended, _, _, rfl, ?_, ⟨_, rfl⟩, hW, hsame.mono (by decide) (by decide)⟩
  · show Stp p e below s₁ m 0 #[.val (.int pi1)] [] _
    refine XS.iloadN X0.here hx rfl (hb hby d1_0) rfl ?_
    show Stp p e below s₁ m 1 #[.val (.int pi1)] [(.int pi1)] _
    refine XS.ifYes X0.here hx rfl (pc0 := 1) (pc' := 8) rfl (hb hby d1_1) rfl ((if0 _ _).trans (feq hc1_0).2) (by decide) (by decide) ?_
    show Stp p e below s₁ m 8 #[.val (.int pi1)] [] _
    refine XS.iloadN X0.here hx rfl (hb hby d1_8) rfl ?_
    show Stp p e below s₁ m 9 #[.val (.int pi1)] [(.int pi1)] _
    refine XS.iconst X0.here hx rfl (hb hby d1_9) ?_
    show Stp p e below s₁ m 10 #[.val (.int pi1)] [(.int (1 : Int32)), (.int pi1)] _
    refine XS.icmpYes X0.here hx rfl (pc0 := 10) (pc' := 17) rfl (hb hby d1_10) rfl (feq hc10_1).2 (by decide) (by decide) ?_
    show Stp p e below s₁ m 17 #[.val (.int pi1)] [] _
    refine XS.iloadN X0.here hx rfl (hb hby d1_17) rfl ?_
    show Stp p e below s₁ m 18 #[.val (.int pi1)] [(.int pi1)] _
    refine XS.iconst X0.here hx rfl (hb hby d1_18) ?_
    show Stp p e below s₁ m 19 #[.val (.int pi1)] [(.int (2 : Int32)), (.int pi1)] _
    refine XS.icmpYes X0.here hx rfl (pc0 := 19) (pc' := 26) rfl (hb hby d1_19) rfl (feq hc19_2).2 (by decide) (by decide) ?_
    show Stp p e below s₁ m 26 #[.val (.int pi1)] [] _
    refine XS.iloadN X0.here hx rfl (hb hby d1_26) rfl ?_
    show Stp p e below s₁ m 27 #[.val (.int pi1)] [(.int pi1)] _
    refine XS.iconst X0.here hx rfl (hb hby d1_27) ?_
    show Stp p e below s₁ m 28 #[.val (.int pi1)] [(.int (3 : Int32)), (.int pi1)] _
    refine XS.icmpYes X0.here hx rfl (pc0 := 28) (pc' := 35) rfl (hb hby d1_28) rfl (feq hc28_3).2 (by decide) (by decide) ?_
    show Stp p e below s₁ m 35 #[.val (.int pi1)] [] _
    refine XS.iloadN X0.here hx rfl (hb hby d1_35) rfl ?_
    show Stp p e below s₁ m 36 #[.val (.int pi1)] [(.int pi1)] _
    refine XS.iconst X0.here hx rfl (hb hby d1_36) ?_
    show Stp p e below s₁ m 37 #[.val (.int pi1)] [(.int (4 : Int32)), (.int pi1)] _
    refine XS.icmpNo X0.here hx rfl (hb hby d1_37) rfl (teq hc37_4).2 ?_
    show Stp p e below s₁ m 40 #[.val (.int pi1)] [] _
    refine st1 _ ?_
    show Stp p e below T1 m 43 #[.val (.int pi1)] [(.ref w_HSQLDB)] _
    jvm_step X1.here [X1.here.top, hx, (hb hby d1_43), X1.method', Bd.returns, Value.isRef, FieldType.isReference]
    first | (intro acts; rw [hr _ acts rfl rfl rfl]) | rw [hr _ _ rfl rfl rfl]
    exact Steps.refl _
  · show Q1_4 Z pi1 w_HSQLDB h0 n0 _ T1.heap _
    rw [e1]
    exact ⟨rfl, N0, rfl⟩
theorem d1_44 : decode method_2_code 44 = .ok (.iload_n 0, 1) := by decide +kernel
theorem d1_45 : decode method_2_code 45 = .ok (.iconst 5, 1) := by decide +kernel
theorem d1_46 : decode method_2_code 46 = .ok (.if_icmp .ne 7, 3) := by decide +kernel
theorem d1_49 : decode method_2_code 49 = .ok (.getstatic 25, 3) := by decide +kernel
theorem d1_52 : decode method_2_code 52 = .ok (.areturn, 1) := by decide +kernel
def Q1_5 (Z : State) (pi1 : Int32) (w_DERBY : Addr) (h0 : Heap) (n0 : Nat) (v : Option Value) (h : Heap) (L : List Loc) : Prop := v = some (.ref w_DERBY) ∧ Fr n0 L ∧ h = h0
set_option maxRecDepth 65536 in
set_option maxHeartbeats 40000000 in
theorem rm1_5 (l : Launch) (Z : State) (a0 : Array Value) (hw : ∀ d ∈ tables_1, d.before a0 Z = true) (ws : List Jvm.Cond) (pi1 : Int32) (w_DERBY : Addr) (h0 : Heap) (n0 : Nat) (Z0 : n0 ≤ h0.size) (O0 : Old Z n0 h0) (S_DERBY : Sta Z Z.heap "com/example/leafcount/leafcount/SqlSyntax" "DERBY" "Lcom/example/leafcount/leafcount/SqlSyntax;" (.ref w_DERBY)) (hc1_0 : ¬ (pi1 = (0 : Int32))) (hc10_1 : ¬ (pi1 = (1 : Int32))) (hc19_2 : ¬ (pi1 = (2 : Int32))) (hc28_3 : ¬ (pi1 = (3 : Int32))) (hc37_4 : ¬ (pi1 = (4 : Int32))) (hc46_5 : pi1 = (5 : Int32)) :
    MetFree l (⟨"com/example/leafcount/leafcount/SqlSyntaxPutsNullLastPinLaw", "pick", "(I)Lcom/example/leafcount/leafcount/SqlSyntax;"⟩ : MethodName) (head1 (Jvm.Cond.code (⟨"com/example/leafcount/leafcount/SqlSyntaxPutsNullLastPinLaw", "pick", "(I)Lcom/example/leafcount/leafcount/SqlSyntax;"⟩ : MethodName) method_2_code 1 (some (.object "com/example/leafcount/leafcount/SqlSyntax")) :: ws) ({ frames := 0, cells := 0, slots := 0, locals := 0 } : Room)) (fun a U => a = #[(.int pi1)] ∧ Z.Warmed39 U.vm ∧ U.heap = h0) (fun _ _ _ _ _ => True) (fun _ U o U' => ∃ v L, o = .returned v ∧ Q1_5 Z pi1 w_DERBY h0 n0 v U'.heap L ∧ FrameEnd U o U' L ({ frames := 0, cells := 0, slots := 0, locals := 0 } : Room).cells ({ frames := 0, cells := 0, slots := 0, locals := 0 } : Room).slots) := by
  refine MetFree.of_bodySF (plainFor_of_name pn_1) hisR ?_
  intro p e s m args below meth c s₁ Bd hml0 hP hK
  obtain ⟨rfl, hZ, hh⟩ := hP
  have hx := Bd.exec
  have hby := Bd.bytes
  have hml : c.maxLocals = 1 := hml0
  have hown : s.vm.findClass "com/example/leafcount/leafcount/SqlSyntaxPutsNullLastPinLaw" = some m.cls := findClass_of_methodNamed Bd.named
  have hnm := (name_of_methodNamed Bd.named Bd.method).1
  have X0 : Stand p l e ({ frames := 0, cells := 0, slots := 0, locals := 0 } : Room) s m #[(.int pi1)] below meth c s₁ [] 0 0 := Stand.of_body Bd
  have e0 : s₁.heap = h0 := by rw [← hh, Bd.state]; rfl
  have N0 := Fr.nil n0
  have pre0 : ∀ t, Steps p.tables e below (s₁.setTop (mkF m 0 #[.val (.int pi1)] [])) t → Steps p.tables e below (s₁.setTop (entryFrame m #[(.int pi1)] 1)) t := fun t k => castTop (ef_1 m pi1) k
  obtain ⟨T1, X1, e1, st1⟩ := getS2 X0 hx hZ hown (host := "") (Or.inl (own_W hw 23 rfl)) Via.refl e0 (S_DERBY.ext O0.2) (g := (mkF m 49 #[.val (.int pi1)] [])) rfl (hb hby d1_49)
  obtain ⟨fs, hr, hrun, hended, hW, hsame⟩ := X1.leave (v := some (.ref w_DERBY)) (fun h => by rw [Bd.returns] at h; cases h)
  refine ⟨_, _, pre0 _ ?_, hrun, hended, _, _, rfl, ?_, ⟨_, rfl⟩, hW, hsame.mono (by decide) (by decide)⟩
  · show Stp p e below s₁ m 0 #[.val (.int pi1)] [] _
    refine XS.iloadN X0.here hx rfl (hb hby d1_0) rfl ?_
    show Stp p e below s₁ m 1 #[.val (.int pi1)] [(.int pi1)] _
    refine XS.ifYes X0.here hx rfl (pc0 := 1) (pc' := 8) rfl (hb hby d1_1) rfl ((if0 _ _).trans (feq hc1_0).2) (by decide) (by decide) ?_
    show Stp p e below s₁ m 8 #[.val (.int pi1)] [] _
    refine XS.iloadN X0.here hx rfl (hb hby d1_8) rfl ?_
    show Stp p e below s₁ m 9 #[.val (.int pi1)] [(.int pi1)] _
    refine XS.iconst X0.here hx rfl (hb hby d1_9) ?_
    show Stp p e below s₁ m 10 #[.val (.int pi1)] [(.int (1 : Int32)), (.int pi1)] _
    refine XS.icmpYes X0.here hx rfl (pc0 := 10) (pc' := 17) rfl (hb hby d1_10) rfl (feq hc10_1).2 (by decide) (by decide) ?_
    show Stp p e below s₁ m 17 #[.val (.int pi1)] [] _
    refine XS.iloadN X0.here hx rfl (hb hby d1_17) rfl ?_
    show Stp p e below s₁ m 18 #[.val (.int pi1)] [(.int pi1)] _
    refine XS.iconst X0.here hx rfl (hb hby d1_18) ?_
    show Stp p e below s₁ m 19 #[.val (.int pi1)] [(.int (2 : Int32)), (.int pi1)] _
    refine XS.icmpYes X0.here hx rfl (pc0 := 19) (pc' := 26) rfl (hb hby d1_19) rfl (feq hc19_2).2 (by decide) (by decide) ?_
    show Stp p e below s₁ m 26 #[.val (.int pi1)] [] _
    refine XS.iloadN X0.here hx rfl (hb hby d1_26) rfl ?_
    show Stp p e below s₁ m 27 #[.val (.int pi1)] [(.int pi1)] _
    refine XS.iconst X0.here hx rfl (hb hby d1_27) ?_
    show Stp p e below s₁ m 28 #[.val (.int pi1)] [(.int (3 : Int32)), (.int pi1)] _
    refine XS.icmpYes X0.here hx rfl (pc0 := 28) (pc' := 35) rfl (hb hby d1_28) rfl (feq hc28_3).2 (by decide) (by decide) ?_
    show Stp p e below s₁ m 35 #[.val (.int pi1)] [] _
    refine XS.iloadN X0.here hx rfl (hb hby d1_35) rfl ?_
    show Stp p e below s₁ m 36 #[.val (.int pi1)] [(.int pi1)] _
    refine XS.iconst X0.here hx rfl (hb hby d1_36) ?_
    show Stp p e below s₁ m 37 #[.val (.int pi1)] [(.int (4 : Int32)), (.int pi1)] _
    refine XS.icmpYes X0.here hx rfl (pc0 := 37) (pc' := 44) rfl (hb hby d1_37) rfl (feq hc37_4).2 (by decide) (by decide) ?_
    show Stp p e below s₁ m 44 #[.val (.int pi1)] [] _
    refine XS.iloadN X0.here hx rfl (hb hby d1_44) rfl ?_
    show Stp p e below s₁ m 45 #[.val (.int pi1)] [(.int pi1)] _
    refine XS.iconst X0.here hx rfl (hb hby d1_45) ?_
    show Stp p e below s₁ m 46 #[.val (.int pi1)] [(.int (5 : Int32)), (.int pi1)] _
    refine XS.icmpNo X0.here hx rfl (hb hby d1_46) rfl (teq hc46_5).2 ?_
    show Stp p e below s₁ m 49 #[.val (.int pi1)] [] _
    refine st1 _ ?_
    show Stp p e below T1 m 52 #[.val (.int pi1)] [(.ref w_DERBY)] _
    jvm_step X1.here [X1.here.top, hx, (hb hby d1_52), X1.method', Bd.returns, Value.isRef, FieldType.isReference]
    first | (intro acts; rw [hr _ acts rfl rfl rfl]) | rw [hr _ _ rfl rfl rfl]
    exact Steps.refl _
  · show Q1_5 Z pi1 w_DERBY h0 n0 _ T1.heap _
    rw [e1]
    exact ⟨rfl, N0, rfl⟩
theorem d1_53 : decode method_2_code 53 = .ok (.iload_n 0, 1) := by decide +kernel
theorem d1_54 : decode method_2_code 54 = .ok (.bipush 6, 2) := by decide +kernel
theorem d1_56 : decode method_2_code 56 = .ok (.if_icmp .ne 7, 3) := by decide +kernel
theorem d1_59 : decode method_2_code 59 = .ok (.getstatic 28, 3) := by decide +kernel
theorem d1_62 : decode method_2_code 62 = .ok (.areturn, 1) := by decide +kernel
def Q1_6 (Z : State) (pi1 : Int32) (w_ORACLE : Addr) (h0 : Heap) (n0 : Nat) (v : Option Value) (h : Heap) (L : List Loc) : Prop := v = some (.ref w_ORACLE) ∧ Fr n0 L ∧ h = h0
set_option maxRecDepth 65536 in
set_option maxHeartbeats 40000000 in
theorem rm1_6 (l : Launch) (Z : State) (a0 : Array Value) (hw : ∀ d ∈ tables_1, d.before a0 Z = true) (ws : List Jvm.Cond) (pi1 : Int32) (w_ORACLE : Addr) (h0 : Heap) (n0 : Nat) (Z0 : n0 ≤ h0.size) (O0 : Old Z n0 h0) (S_ORACLE : Sta Z Z.heap "com/example/leafcount/leafcount/SqlSyntax" "ORACLE" "Lcom/example/leafcount/leafcount/SqlSyntax;" (.ref w_ORACLE)) (hc1_0 : ¬ (pi1 = (0 : Int32))) (hc10_1 : ¬ (pi1 = (1 : Int32))) (hc19_2 : ¬ (pi1 = (2 : Int32))) (hc28_3 : ¬ (pi1 = (3 : Int32))) (hc37_4 : ¬ (pi1 = (4 : Int32))) (hc46_5 : ¬ (pi1 = (5 : Int32))) (hc56_6 : pi1 = (6 : Int32)) :
    MetFree l (⟨"com/example/leafcount/leafcount/SqlSyntaxPutsNullLastPinLaw", "pick", "(I)Lcom/example/leafcount/leafcount/SqlSyntax;"⟩ : MethodName) (head1 (Jvm.Cond.code (⟨"com/example/leafcount/leafcount/SqlSyntaxPutsNullLastPinLaw", "pick", "(I)Lcom/example/leafcount/leafcount/SqlSyntax;"⟩ : MethodName) method_2_code 1 (some (.object "com/example/leafcount/leafcount/SqlSyntax")) :: ws) ({ frames := 0, cells := 0, slots := 0, locals := 0 } : Room)) (fun a U => a = #[(.int pi1)] ∧ Z.Warmed39 U.vm ∧ U.heap = h0) (fun _ _ _ _ _ => True) (fun _ U o U' => ∃ v L, o = .returned v ∧ Q1_6 Z pi1 w_ORACLE h0 n0 v U'.heap L ∧ FrameEnd U o U' L ({ frames := 0, cells := 0, slots := 0, locals := 0 } : Room).cells ({ frames := 0, cells := 0, slots := 0, locals := 0 } : Room).slots) := by
  refine MetFree.of_bodySF (plainFor_of_name pn_1) hisR ?_
  intro p e s m args below meth c s₁ Bd hml0 hP hK
  obtain ⟨rfl, hZ, hh⟩ := hP
  have hx := Bd.exec
  have hby := Bd.bytes
  have hml : c.maxLocals = 1 := hml0
  have hown : s.vm.findClass "com/example/leafcount/leafcount/SqlSyntaxPutsNullLastPinLaw" = some m.cls := findClass_of_methodNamed Bd.named
  have hnm := (name_of_methodNamed Bd.named Bd.method).1
  have X0 : Stand p l e ({ frames := 0, cells := 0, slots := 0, locals := 0 } : Room) s m #[(.int pi1)] below meth c s₁ [] 0 0 := Stand.of_body Bd
  have e0 : s₁.heap = h0 := by rw [← hh, Bd.state]; rfl
  have N0 := Fr.nil n0
  have pre0 : ∀ t, Steps p.tables e below (s₁.setTop (mkF m 0 #[.val (.int pi1)] [])) t → Steps p.tables e below (s₁.setTop (entryFrame m #[(.int pi1)] 1)) t := fun t k => castTop (ef_1 m pi1) k
  obtain ⟨T1, X1, e1, st1⟩ := getS2 X0 hx hZ hown (host := "") (Or.inl (own_W hw 32 rfl)) Via.refl e0 (S_ORACLE.ext O0.2) (g := (mkF m 59 #[.val (.int pi1)] [])) rfl (hb hby d1_59)
  obtain ⟨fs, hr, hrun, hended, hW, hsame⟩ := X1.leave (v := some (.ref w_ORACLE)) (fun h => by rw [Bd.returns] at h; cases h)
  refine ⟨_, _, pre0 _ ?_, hrun, hended, _, _, rfl, ?_, ⟨_, rfl⟩, hW, hsame.mono (by decide) (by decide)⟩
  · show Stp p e below s₁ m 0 #[.val (.int pi1)] [] _
    refine XS.iloadN X0.here hx rfl (hb hby d1_0) rfl ?_
    show Stp p e below s₁ m 1 #[.val (.int pi1)] [(.int pi1)] _
    refine XS.ifYes X0.here hx rfl (pc0 := 1) (pc' := 8) rfl (hb hby d1_1) rfl ((if0 _ _).trans (feq hc1_0).2) (by decide) (by decide) ?_
    show Stp p e below s₁ m 8 #[.val (.int pi1)] [] _
    refine XS.iloadN X0.here hx rfl (hb hby d1_8) rfl ?_
    show Stp p e below s₁ m 9 #[.val (.int pi1)] [(.int pi1)] _
    refine XS.iconst X0.here hx rfl (hb hby d1_9) ?_
    show Stp p e below s₁ m 10 #[.val (.int pi1)] [(.int (1 : Int32)), (.int pi1)] _
    refine XS.icmpYes X0.here hx rfl (pc0 := 10) (pc' := 17) rfl (hb hby d1_10) rfl (feq hc10_1).2 (by decide) (by decide) ?_
    show Stp p e below s₁ m 17 #[.val (.int pi1)] [] _
    refine XS.iloadN X0.here hx rfl (hb hby d1_17) rfl ?_
    show Stp p e below s₁ m 18 #[.val (.int pi1)] [(.int pi1)] _
    refine XS.iconst X0.here hx rfl (hb hby d1_18) ?_
    show Stp p e below s₁ m 19 #[.val (.int pi1)] [(.int (2 : Int32)), (.int pi1)] _
    refine XS.icmpYes X0.here hx rfl (pc0 := 19) (pc' := 26) rfl (hb hby d1_19) rfl (feq hc19_2).2 (by decide) (by decide) ?_
    show Stp p e below s₁ m 26 #[.val (.int pi1)] [] _
    refine XS.iloadN X0.here hx rfl (hb hby d1_26) rfl ?_
    show Stp p e below s₁ m 27 #[.val (.int pi1)] [(.int pi1)] _
    refine XS.iconst X0.here hx rfl (hb hby d1_27) ?_
    show Stp p e below s₁ m 28 #[.val (.int pi1)] [(.int (3 : Int32)), (.int pi1)] _
    refine XS.icmpYes X0.here hx rfl (pc0 := 28) (pc' := 35) rfl (hb hby d1_28) rfl (feq hc28_3).2 (by decide) (by decide) ?_
    show Stp p e below s₁ m 35 #[.val (.int pi1)] [] _
    refine XS.iloadN X0.here hx rfl (hb hby d1_35) rfl ?_
    show Stp p e below s₁ m 36 #[.val (.int pi1)] [(.int pi1)] _
    refine XS.iconst X0.here hx rfl (hb hby d1_36) ?_
    show Stp p e below s₁ m 37 #[.val (.int pi1)] [(.int (4 : Int32)), (.int pi1)] _
    refine XS.icmpYes X0.here hx rfl (pc0 := 37) (pc' := 44) rfl (hb hby d1_37) rfl (feq hc37_4).2 (by decide) (by decide) ?_
    show Stp p e below s₁ m 44 #[.val (.int pi1)] [] _
    refine XS.iloadN X0.here hx rfl (hb hby d1_44) rfl ?_
    show Stp p e below s₁ m 45 #[.val (.int pi1)] [(.int pi1)] _
    refine XS.iconst X0.here hx rfl (hb hby d1_45) ?_
    show Stp p e below s₁ m 46 #[.val (.int pi1)] [(.int (5 : Int32)), (.int pi1)] _
    refine XS.icmpYes X0.here hx rfl (pc0 := 46) (pc' := 53) rfl (hb hby d1_46) rfl (feq hc46_5).2 (by decide) (by decide) ?_
    show Stp p e below s₁ m 53 #[.val (.int pi1)] [] _
    refine XS.iloadN X0.here hx rfl (hb hby d1_53) rfl ?_
    show Stp p e below s₁ m 54 #[.val (.int pi1)] [(.int pi1)] _
    refine XS.bipush X0.here hx rfl (hb hby d1_54) ?_
    show Stp p e below s₁ m 56 #[.val (.int pi1)] [(.int (6 : Int32)), (.int pi1)] _
    refine XS.icmpNo X0.here hx rfl (hb hby d1_56) rfl (teq hc56_6).2 ?_
    show Stp p e below s₁ m 59 #[.val (.int pi1)] [] _
    refine st1 _ ?_
    show Stp p e below T1 m 62 #[.val (.int pi1)] [(.ref w_ORACLE)] _
    jvm_step X1.here [X1.here.top, hx, (hb hby d1_62), X1.method', Bd.returns, Value.isRef, FieldType.isReference]
    first | (intro acts; rw [hr _ acts rfl rfl rfl]) | rw [hr _ _ rfl rfl rfl]
    exact Steps.refl _
  · show Q1_6 Z pi1 w_ORACLE h0 n0 _ T1.heap _
    rw [e1]
    exact ⟨rfl, N0, rfl⟩
theorem d1_63 : decode method_2_code 63 = .ok (.iload_n 0, 1) := by decide +kernel
theorem d1_64 : decode method_2_code 64 = .ok (.bipush 7, 2) := by decide +kernel
theorem d1_66 : decode method_2_code 66 = .ok (.if_icmp .ne 7, 3) := by decide +kernel
theorem d1_69 : decode method_2_code 69 = .ok (.getstatic 31, 3) := by decide +kernel
theorem d1_72 : decode method_2_code 72 = .ok (.areturn, 1) := by decide +kernel
def Q1_7 (Z : State) (pi1 : Int32) (w_SQLSERVER : Addr) (h0 : Heap) (n0 : Nat) (v : Option Value) (h : Heap) (L : List Loc) : Prop := v = some (.ref w_SQLSERVER) ∧ Fr n0 L ∧ h = h0
set_option maxRecDepth 65536 in
set_option maxHeartbeats 40000000 in
theorem rm1_7 (l : Launch) (Z : State) (a0 : Array Value) (hw : ∀ d ∈ tables_1, d.before a0 Z = true) (ws : List Jvm.Cond) (pi1 : Int32) (w_SQLSERVER : Addr) (h0 : Heap) (n0 : Nat) (Z0 : n0 ≤ h0.size) (O0 : Old Z n0 h0) (S_SQLSERVER : Sta Z Z.heap "com/example/leafcount/leafcount/SqlSyntax" "SQLSERVER" "Lcom/example/leafcount/leafcount/SqlSyntax;" (.ref w_SQLSERVER)) (hc1_0 : ¬ (pi1 = (0 : Int32))) (hc10_1 : ¬ (pi1 = (1 : Int32))) (hc19_2 : ¬ (pi1 = (2 : Int32))) (hc28_3 : ¬ (pi1 = (3 : Int32))) (hc37_4 : ¬ (pi1 = (4 : Int32))) (hc46_5 : ¬ (pi1 = (5 : Int32))) (hc56_6 : ¬ (pi1 = (6 : Int32))) (hc66_7 : pi1 = (7 : Int32)) :
    MetFree l (⟨"com/example/leafcount/leafcount/SqlSyntaxPutsNullLastPinLaw", "pick", "(I)Lcom/example/leafcount/leafcount/SqlSyntax;"⟩ : MethodName) (head1 (Jvm.Cond.code (⟨"com/example/leafcount/leafcount/SqlSyntaxPutsNullLastPinLaw", "pick", "(I)Lcom/example/leafcount/leafcount/SqlSyntax;"⟩ : MethodName) method_2_code 1 (some (.object "com/example/leafcount/leafcount/SqlSyntax")) :: ws) ({ frames := 0, cells := 0, slots := 0, locals := 0 } : Room)) (fun a U => a = #[(.int pi1)] ∧ Z.Warmed39 U.vm ∧ U.heap = h0) (fun _ _ _ _ _ => True) (fun _ U o U' => ∃ v L, o = .returned v ∧ Q1_7 Z pi1 w_SQLSERVER h0 n0 v U'.heap L ∧ FrameEnd U o U' L ({ frames := 0, cells := 0, slots := 0, locals := 0 } : Room).cells ({ frames := 0, cells := 0, slots := 0, locals := 0 } : Room).slots) := by
  refine MetFree.of_bodySF (plainFor_of_name pn_1) hisR ?_
  intro p e s m args below meth c s₁ Bd hml0 hP hK
  obtain ⟨rfl, hZ, hh⟩ := hP
  have hx := Bd.exec
  have hby := Bd.bytes
  have hml : c.maxLocals = 1 := hml0
  have hown : s.vm.findClass "com/example/leafcount/leafcount/SqlSyntaxPutsNullLastPinLaw" = some m.cls := findClass_of_methodNamed Bd.named
  have hnm := (name_of_methodNamed Bd.named Bd.method).1
  have X0 : Stand p l e ({ frames := 0, cells := 0, slots := 0, locals := 0 } : Room) s m #[(.int pi1)] below meth c s₁ [] 0 0 := Stand.of_body Bd
  have e0 : s₁.heap = h0 := by rw [← hh, Bd.state]; rfl
  have N0 := Fr.nil n0
  have pre0 : ∀ t, Steps p.tables e below (s₁.setTop (mkF m 0 #[.val (.int pi1)] [])) t → Steps p.tables e below (s₁.setTop (entryFrame m #[(.int pi1)] 1)) t := fun t k => castTop (ef_1 m pi1) k
  obtain ⟨T1, X1, e1, st1⟩ := getS2 X0 hx hZ hown (host := "") (Or.inl (own_W hw 40 rfl)) Via.refl e0 (S_SQLSERVER.ext O0.2) (g := (mkF m 69 #[.val (.int pi1)] [])) rfl (hb hby d1_69)
  obtain ⟨fs, hr, hrun, hended, hW, hsame⟩ := X1.leave (v := some (.ref w_SQLSERVER)) (fun h => by rw [Bd.returns] at h; cases h)
  refine ⟨_, _, pre0 _ ?_, hrun, hended, _, _, rfl, ?_, ⟨_, rfl⟩, hW, hsame.mono (by decide) (by decide)⟩
  · show Stp p e below s₁ m 0 #[.val (.int pi1)] [] _
    refine XS.iloadN X0.here hx rfl (hb hby d1_0) rfl ?_
    show Stp p e below s₁ m 1 #[.val (.int pi1)] [(.int pi1)] _
    refine XS.ifYes X0.here hx rfl (pc0 := 1) (pc' := 8) rfl (hb hby d1_1) rfl ((if0 _ _).trans (feq hc1_0).2) (by decide) (by decide) ?_
    show Stp p e below s₁ m 8 #[.val (.int pi1)] [] _
    refine XS.iloadN X0.here hx rfl (hb hby d1_8) rfl ?_
    show Stp p e below s₁ m 9 #[.val (.int pi1)] [(.int pi1)] _
    refine XS.iconst X0.here hx rfl (hb hby d1_9) ?_
    show Stp p e below s₁ m 10 #[.val (.int pi1)] [(.int (1 : Int32)), (.int pi1)] _
    refine XS.icmpYes X0.here hx rfl (pc0 := 10) (pc' := 17) rfl (hb hby d1_10) rfl (feq hc10_1).2 (by decide) (by decide) ?_
    show Stp p e below s₁ m 17 #[.val (.int pi1)] [] _
    refine XS.iloadN X0.here hx rfl (hb hby d1_17) rfl ?_
    show Stp p e below s₁ m 18 #[.val (.int pi1)] [(.int pi1)] _
    refine XS.iconst X0.here hx rfl (hb hby d1_18) ?_
    show Stp p e below s₁ m 19 #[.val (.int pi1)] [(.int (2 : Int32)), (.int pi1)] _
    refine XS.icmpYes X0.here hx rfl (pc0 := 19) (pc' := 26) rfl (hb hby d1_19) rfl (feq hc19_2).2 (by decide) (by decide) ?_
    show Stp p e below s₁ m 26 #[.val (.int pi1)] [] _
    refine XS.iloadN X0.here hx rfl (hb hby d1_26) rfl ?_
    show Stp p e below s₁ m 27 #[.val (.int pi1)] [(.int pi1)] _
    refine XS.iconst X0.here hx rfl (hb hby d1_27) ?_
    show Stp p e below s₁ m 28 #[.val (.int pi1)] [(.int (3 : Int32)), (.int pi1)] _
    refine XS.icmpYes X0.here hx rfl (pc0 := 28) (pc' := 35) rfl (hb hby d1_28) rfl (feq hc28_3).2 (by decide) (by decide) ?_
    show Stp p e below s₁ m 35 #[.val (.int pi1)] [] _
    refine XS.iloadN X0.here hx rfl (hb hby d1_35) rfl ?_
    show Stp p e below s₁ m 36 #[.val (.int pi1)] [(.int pi1)] _
    refine XS.iconst X0.here hx rfl (hb hby d1_36) ?_
    show Stp p e below s₁ m 37 #[.val (.int pi1)] [(.int (4 : Int32)), (.int pi1)] _
    refine XS.icmpYes X0.here hx rfl (pc0 := 37) (pc' := 44) rfl (hb hby d1_37) rfl (feq hc37_4).2 (by decide) (by decide) ?_
    show Stp p e below s₁ m 44 #[.val (.int pi1)] [] _
    refine XS.iloadN X0.here hx rfl (hb hby d1_44) rfl ?_
    show Stp p e below s₁ m 45 #[.val (.int pi1)] [(.int pi1)] _
    refine XS.iconst X0.here hx rfl (hb hby d1_45) ?_
    show Stp p e below s₁ m 46 #[.val (.int pi1)] [(.int (5 : Int32)), (.int pi1)] _
    refine XS.icmpYes X0.here hx rfl (pc0 := 46) (pc' := 53) rfl (hb hby d1_46) rfl (feq hc46_5).2 (by decide) (by decide) ?_
    show Stp p e below s₁ m 53 #[.val (.int pi1)] [] _
    refine XS.iloadN X0.here hx rfl (hb hby d1_53) rfl ?_
    show Stp p e below s₁ m 54 #[.val (.int pi1)] [(.int pi1)] _
    refine XS.bipush X0.here hx rfl (hb hby d1_54) ?_
    show Stp p e below s₁ m 56 #[.val (.int pi1)] [(.int (6 : Int32)), (.int pi1)] _
    refine XS.icmpYes X0.here hx rfl (pc0 := 56) (pc' := 63) rfl (hb hby d1_56) rfl (feq hc56_6).2 (by decide) (by decide) ?_
    show Stp p e below s₁ m 63 #[.val (.int pi1)] [] _
    refine XS.iloadN X0.here hx rfl (hb hby d1_63) rfl ?_
    show Stp p e below s₁ m 64 #[.val (.int pi1)] [(.int pi1)] _
    refine XS.bipush X0.here hx rfl (hb hby d1_64) ?_
    show Stp p e below s₁ m 66 #[.val (.int pi1)] [(.int (7 : Int32)), (.int pi1)] _
    refine XS.icmpNo X0.here hx rfl (hb hby d1_66) rfl (teq hc66_7).2 ?_
    show Stp p e below s₁ m 69 #[.val (.int pi1)] [] _
    refine st1 _ ?_
    show Stp p e below T1 m 72 #[.val (.int pi1)] [(.ref w_SQLSERVER)] _
    jvm_step X1.here [X1.here.top, hx, (hb hby d1_72), X1.method', Bd.returns, Value.isRef, FieldType.isReference]
    first | (intro acts; rw [hr _ acts rfl rfl rfl]) | rw [hr _ _ rfl rfl rfl]
    exact Steps.refl _
  · show Q1_7 Z pi1 w_SQLSERVER h0 n0 _ T1.heap _
    rw [e1]
    exact ⟨rfl, N0, rfl⟩
theorem d1_73 : decode method_2_code 73 = .ok (.getstatic 34, 3) := by decide +kernel
theorem d1_76 : decode method_2_code 76 = .ok (.areturn, 1) := by decide +kernel
def Q1_8 (Z : State) (pi1 : Int32) (w_DB2 : Addr) (h0 : Heap) (n0 : Nat) (v : Option Value) (h : Heap) (L : List Loc) : Prop := v = some (.ref w_DB2) ∧ Fr n0 L ∧ h = h0
set_option maxRecDepth 65536 in
set_option maxHeartbeats 40000000 in
theorem rm1_8 (l : Launch) (Z : State) (a0 : Array Value) (hw : ∀ d ∈ tables_1, d.before a0 Z = true) (ws : List Jvm.Cond) (pi1 : Int32) (w_DB2 : Addr) (h0 : Heap) (n0 : Nat) (Z0 : n0 ≤ h0.size) (O0 : Old Z n0 h0) (S_DB2 : Sta Z Z.heap "com/example/leafcount/leafcount/SqlSyntax" "DB2" "Lcom/example/leafcount/leafcount/SqlSyntax;" (.ref w_DB2)) (hc1_0 : ¬ (pi1 = (0 : Int32))) (hc10_1 : ¬ (pi1 = (1 : Int32))) (hc19_2 : ¬ (pi1 = (2 : Int32))) (hc28_3 : ¬ (pi1 = (3 : Int32))) (hc37_4 : ¬ (pi1 = (4 : Int32))) (hc46_5 : ¬ (pi1 = (5 : Int32))) (hc56_6 : ¬ (pi1 = (6 : Int32))) (hc66_7 : ¬ (pi1 = (7 : Int32))) :
    MetFree l (⟨"com/example/leafcount/leafcount/SqlSyntaxPutsNullLastPinLaw", "pick", "(I)Lcom/example/leafcount/leafcount/SqlSyntax;"⟩ : MethodName) (head1 (Jvm.Cond.code (⟨"com/example/leafcount/leafcount/SqlSyntaxPutsNullLastPinLaw", "pick", "(I)Lcom/example/leafcount/leafcount/SqlSyntax;"⟩ : MethodName) method_2_code 1 (some (.object "com/example/leafcount/leafcount/SqlSyntax")) :: ws) ({ frames := 0, cells := 0, slots := 0, locals := 0 } : Room)) (fun a U => a = #[(.int pi1)] ∧ Z.Warmed39 U.vm ∧ U.heap = h0) (fun _ _ _ _ _ => True) (fun _ U o U' => ∃ v L, o = .returned v ∧ Q1_8 Z pi1 w_DB2 h0 n0 v U'.heap L ∧ FrameEnd U o U' L ({ frames := 0, cells := 0, slots := 0, locals := 0 } : Room).cells ({ frames := 0, cells := 0, slots := 0, locals := 0 } : Room).slots) := by
  refine MetFree.of_bodySF (plainFor_of_name pn_1) hisR ?_
  intro p e s m args below meth c s₁ Bd hml0 hP hK
  obtain ⟨rfl, hZ, hh⟩ := hP
  have hx := Bd.exec
  have hby := Bd.bytes
  have hml : c.maxLocals = 1 := hml0
  have hown : s.vm.findClass "com/example/leafcount/leafcount/SqlSyntaxPutsNullLastPinLaw" = some m.cls := findClass_of_methodNamed Bd.named
  have hnm := (name_of_methodNamed Bd.named Bd.method).1
  have X0 : Stand p l e ({ frames := 0, cells := 0, slots := 0, locals := 0 } : Room) s m #[(.int pi1)] below meth c s₁ [] 0 0 := Stand.of_body Bd
  have e0 : s₁.heap = h0 := by rw [← hh, Bd.state]; rfl
  have N0 := Fr.nil n0
  have pre0 : ∀ t, Steps p.tables e below (s₁.setTop (mkF m 0 #[.val (.int pi1)] [])) t → Steps p.tables e below (s₁.setTop (entryFrame m #[(.int pi1)] 1)) t := fun t k => castTop (ef_1 m pi1) k
  obtain ⟨T1, X1, e1, st1⟩ := getS2 X0 hx hZ hown (host := "") (Or.inl (own_W hw 34 rfl)) Via.refl e0 (S_DB2.ext O0.2) (g := (mkF m 73 #[.val (.int pi1)] [])) rfl (hb hby d1_73)
  obtain ⟨fs, hr, hrun, hended, hW, hsame⟩ := X1.leave (v := some (.ref w_DB2)) (fun h => by rw [Bd.returns] at h; cases h)
  refine ⟨_, _, pre0 _ ?_, hrun, hended, _, _, rfl, ?_, ⟨_, rfl⟩, hW, hsame.mono (by decide) (by decide)⟩
  · show Stp p e below s₁ m 0 #[.val (.int pi1)] [] _
    refine XS.iloadN X0.here hx rfl (hb hby d1_0) rfl ?_
    show Stp p e below s₁ m 1 #[.val (.int pi1)] [(.int pi1)] _
    refine XS.ifYes X0.here hx rfl (pc0 := 1) (pc' := 8) rfl (hb hby d1_1) rfl ((if0 _ _).trans (feq hc1_0).2) (by decide) (by decide) ?_
    show Stp p e below s₁ m 8 #[.val (.int pi1)] [] _
    refine XS.iloadN X0.here hx rfl (hb hby d1_8) rfl ?_
    show Stp p e below s₁ m 9 #[.val (.int pi1)] [(.int pi1)] _
    refine XS.iconst X0.here hx rfl (hb hby d1_9) ?_
    show Stp p e below s₁ m 10 #[.val (.int pi1)] [(.int (1 : Int32)), (.int pi1)] _
    refine XS.icmpYes X0.here hx rfl (pc0 := 10) (pc' := 17) rfl (hb hby d1_10) rfl (feq hc10_1).2 (by decide) (by decide) ?_
    show Stp p e below s₁ m 17 #[.val (.int pi1)] [] _
    refine XS.iloadN X0.here hx rfl (hb hby d1_17) rfl ?_
    show Stp p e below s₁ m 18 #[.val (.int pi1)] [(.int pi1)] _
    refine XS.iconst X0.here hx rfl (hb hby d1_18) ?_
    show Stp p e below s₁ m 19 #[.val (.int pi1)] [(.int (2 : Int32)), (.int pi1)] _
    refine XS.icmpYes X0.here hx rfl (pc0 := 19) (pc' := 26) rfl (hb hby d1_19) rfl (feq hc19_2).2 (by decide) (by decide) ?_
    show Stp p e below s₁ m 26 #[.val (.int pi1)] [] _
    refine XS.iloadN X0.here hx rfl (hb hby d1_26) rfl ?_
    show Stp p e below s₁ m 27 #[.val (.int pi1)] [(.int pi1)] _
    refine XS.iconst X0.here hx rfl (hb hby d1_27) ?_
    show Stp p e below s₁ m 28 #[.val (.int pi1)] [(.int (3 : Int32)), (.int pi1)] _
    refine XS.icmpYes X0.here hx rfl (pc0 := 28) (pc' := 35) rfl (hb hby d1_28) rfl (feq hc28_3).2 (by decide) (by decide) ?_
    show Stp p e below s₁ m 35 #[.val (.int pi1)] [] _
    refine XS.iloadN X0.here hx rfl (hb hby d1_35) rfl ?_
    show Stp p e below s₁ m 36 #[.val (.int pi1)] [(.int pi1)] _
    refine XS.iconst X0.here hx rfl (hb hby d1_36) ?_
    show Stp p e below s₁ m 37 #[.val (.int pi1)] [(.int (4 : Int32)), (.int pi1)] _
    refine XS.icmpYes X0.here hx rfl (pc0 := 37) (pc' := 44) rfl (hb hby d1_37) rfl (feq hc37_4).2 (by decide) (by decide) ?_
    show Stp p e below s₁ m 44 #[.val (.int pi1)] [] _
    refine XS.iloadN X0.here hx rfl (hb hby d1_44) rfl ?_
    show Stp p e below s₁ m 45 #[.val (.int pi1)] [(.int pi1)] _
    refine XS.iconst X0.here hx rfl (hb hby d1_45) ?_
    show Stp p e below s₁ m 46 #[.val (.int pi1)] [(.int (5 : Int32)), (.int pi1)] _
    refine XS.icmpYes X0.here hx rfl (pc0 := 46) (pc' := 53) rfl (hb hby d1_46) rfl (feq hc46_5).2 (by decide) (by decide) ?_
    show Stp p e below s₁ m 53 #[.val (.int pi1)] [] _
    refine XS.iloadN X0.here hx rfl (hb hby d1_53) rfl ?_
    show Stp p e below s₁ m 54 #[.val (.int pi1)] [(.int pi1)] _
    refine XS.bipush X0.here hx rfl (hb hby d1_54) ?_
    show Stp p e below s₁ m 56 #[.val (.int pi1)] [(.int (6 : Int32)), (.int pi1)] _
    refine XS.icmpYes X0.here hx rfl (pc0 := 56) (pc' := 63) rfl (hb hby d1_56) rfl (feq hc56_6).2 (by decide) (by decide) ?_
    show Stp p e below s₁ m 63 #[.val (.int pi1)] [] _
    refine XS.iloadN X0.here hx rfl (hb hby d1_63) rfl ?_
    show Stp p e below s₁ m 64 #[.val (.int pi1)] [(.int pi1)] _
    refine XS.bipush X0.here hx rfl (hb hby d1_64) ?_
    show Stp p e below s₁ m 66 #[.val (.int pi1)] [(.int (7 : Int32)), (.int pi1)] _
    refine XS.icmpYes X0.here hx rfl (pc0 := 66) (pc' := 73) rfl (hb hby d1_66) rfl (feq hc66_7).2 (by decide) (by decide) ?_
    show Stp p e below s₁ m 73 #[.val (.int pi1)] [] _
    refine st1 _ ?_
    show Stp p e below T1 m 76 #[.val (.int pi1)] [(.ref w_DB2)] _
    jvm_step X1.here [X1.here.top, hx, (hb hby d1_76), X1.method', Bd.returns, Value.isRef, FieldType.isReference]
    first | (intro acts; rw [hr _ acts rfl rfl rfl]) | rw [hr _ _ rfl rfl rfl]
    exact Steps.refl _
  · show Q1_8 Z pi1 w_DB2 h0 n0 _ T1.heap _
    rw [e1]
    exact ⟨rfl, N0, rfl⟩
theorem d2_0 : decode prog_41_method_5_code 0 = .ok (.aload_n 0, 1) := by decide +kernel
theorem d2_1 : decode prog_41_method_5_code 1 = .ok (.getfield 50, 3) := by decide +kernel
theorem d2_4 : decode prog_41_method_5_code 4 = .ok (.getfield 82, 3) := by decide +kernel
theorem d2_7 : decode prog_41_method_5_code 7 = .ok (.aload_n 1, 1) := by decide +kernel
theorem d2_8 : decode prog_41_method_5_code 8 = .ok (.if_acmp .ne 7, 3) := by decide +kernel
theorem d2_11 : decode prog_41_method_5_code 11 = .ok (.iconst 1, 1) := by decide +kernel
theorem d2_12 : decode prog_41_method_5_code 12 = .ok (.goto 4, 3) := by decide +kernel
theorem d2_16 : decode prog_41_method_5_code 16 = .ok (.ireturn, 1) := by decide +kernel
theorem pn_2 : plainName "com/example/leafcount/leafcount/SqlSyntax" = true := by first | (simp [plainName, overriddenIn]; done) | decide +kernel
theorem ef_2 (m : MethodId) (pr0 : Addr) (pr1 : Addr) : entryFrame m #[(.ref pr0), (.ref pr1)] 2 = mkF m 0 #[.val (.ref pr0), .val (.ref pr1)] [] := by first | (simp [entryFrame, mkF, argsToLocals, Value.category]; done) | rfl
def Q2_t (Z : State) (pr0 : Addr) (pr1 : Addr) (w_nullOrder_pr0 : Addr) (w_last_w_nullOrder_pr0 : Addr) (h0 : Heap) (n0 : Nat) (v : Option Value) (h : Heap) (L : List Loc) : Prop := v = some (.int (1 : Int32)) ∧ Fr n0 L ∧ h = h0
set_option maxRecDepth 65536 in
set_option maxHeartbeats 40000000 in
theorem rm2_t (l : Launch) (Z : State) (a0 : Array Value) (hw : ∀ d ∈ tables_1, d.before a0 Z = true) (ws : List Jvm.Cond) (pr0 : Addr) (pr1 : Addr) (w_nullOrder_pr0 : Addr) (w_last_w_nullOrder_pr0 : Addr) (h0 : Heap) (n0 : Nat) (Z0 : n0 ≤ h0.size) (O0 : Old Z n0 h0) (F_nullOrder_pr0 : Fld Z h0 pr0 "com/example/leafcount/leafcount/SqlSyntax" "nullOrder" "Lcom/example/leafcount/leafcount/SqlSyntax$NullOrder;" (.ref w_nullOrder_pr0)) (F_last_w_nullOrder_pr0 : Fld Z h0 w_nullOrder_pr0 "com/example/leafcount/leafcount/SqlSyntax$NullOrder" "last" "Lcom/example/leafcount/leafcount/Sort$Direction;" (.ref w_last_w_nullOrder_pr0)) (hc8_0 : w_last_w_nullOrder_pr0 = pr1) :
    MetFree l (⟨"com/example/leafcount/leafcount/SqlSyntax", "putsNullLast", "(Lcom/example/leafcount/leafcount/Sort$Direction;)Z"⟩ : MethodName) (head1 (Jvm.Cond.code (⟨"com/example/leafcount/leafcount/SqlSyntax", "putsNullLast", "(Lcom/example/leafcount/leafcount/Sort$Direction;)Z"⟩ : MethodName) prog_41_method_5_code 2 (some .boolean) :: ws) ({ frames := 0, cells := 0, slots := 0, locals := 0 } : Room)) (fun a U => a = #[(.ref pr0), (.ref pr1)] ∧ Z.Warmed39 U.vm ∧ U.heap = h0) (fun _ _ _ _ _ => True) (fun _ U o U' => ∃ v L, o = .returned v ∧ Q2_t Z pr0 pr1 w_nullOrder_pr0 w_last_w_nullOrder_pr0 h0 n0 v U'.heap L ∧ FrameEnd U o U' L ({ frames := 0, cells := 0, slots := 0, locals := 0 } : Room).cells ({ frames := 0, cells := 0, slots := 0, locals := 0 } : Room).slots) := by
  refine MetFree.of_bodySF (plainFor_of_name pn_2) hisR ?_
  intro p e s m args below meth c s₁ Bd hml0 hP hK
  obtain ⟨rfl, hZ, hh⟩ := hP
  have hx := Bd.exec
  have hby := Bd.bytes
  have hml : c.maxLocals = 2 := hml0
  have hown : s.vm.findClass "com/example/leafcount/leafcount/SqlSyntax" = some m.cls := findClass_of_methodNamed Bd.named
  have hnm := (name_of_methodNamed Bd.named Bd.method).1
  have X0 : Stand p l e ({ frames := 0, cells := 0, slots := 0, locals := 0 } : Room) s m #[(.ref pr0), (.ref pr1)] below meth c s₁ [] 0 0 := Stand.of_body Bd
  have e0 : s₁.heap = h0 := by rw [← hh, Bd.state]; rfl
  have N0 := Fr.nil n0
  have pre0 : ∀ t, Steps p.tables e below (s₁.setTop (mkF m 0 #[.val (.ref pr0), .val (.ref pr1)] [])) t → Steps p.tables e below (s₁.setTop (entryFrame m #[(.ref pr0), (.ref pr1)] 2)) t := fun t k => castTop (ef_2 m pr0 pr1) k
  obtain ⟨T1, X1, e1, st1⟩ := getF X0 hx hZ hown (host := "") (Or.inl (own_W hw 16 rfl)) Via.refl e0 F_nullOrder_pr0 (g := (mkF m 1 #[.val (.ref pr0), .val (.ref pr1)] [(.ref pr0)])) rfl rfl (hb hby d2_1)
  obtain ⟨T2, X2, e2, st2⟩ := own_getFR X1 hx hZ hown (own_W hw 20 rfl) Via.refl e1 F_last_w_nullOrder_pr0 (g := (mkF m 4 #[.val (.ref pr0), .val (.ref pr1)] [(.ref w_nullOrder_pr0)])) rfl rfl (hb hby d2_4)
  obtain ⟨fs, hr, hrun, hended, hW, hsame⟩ := X2.leave (v := some (.int (1 : Int32))) (fun h => by rw [Bd.returns] at h; cases h)
  refine ⟨_, _, pre0 _ ?_, hrun, hended, _, _, rfl, ?_, ⟨_, rfl⟩, hW, hsame.mono (by decide) (by decide)⟩
  · show Stp p e below s₁ m 0 #[.val (.ref pr0), .val (.ref pr1)] [] _
    refine XS.aloadN X0.here hx rfl (hb hby d2_0) rfl rfl ?_
    show Stp p e below s₁ m 1 #[.val (.ref pr0), .val (.ref pr1)] [(.ref pr0)] _
    refine st1 _ ?_
    show Stp p e below T1 m 4 #[.val (.ref pr0), .val (.ref pr1)] [(.ref w_nullOrder_pr0)] _
    refine st2 _ ?_
    show Stp p e below T2 m 7 #[.val (.ref pr0), .val (.ref pr1)] [(.ref w_last_w_nullOrder_pr0)] _
    refine XS.aloadN X2.here hx rfl (hb hby d2_7) rfl rfl ?_
    show Stp p e below T2 m 8 #[.val (.ref pr0), .val (.ref pr1)] [(.ref pr1), (.ref w_last_w_nullOrder_pr0)] _
    refine Jvm.RoadKit.acmp (g := (mkF m 8 #[.val (.ref pr0), .val (.ref pr1)] [(.ref pr1), (.ref w_last_w_nullOrder_pr0)])) X2 hx rfl rfl rfl (pc0 := 8) (pc' := 11) (same := true) rfl (hb hby d2_8) rfl (decide_eq_true (congrArg Value.ref hc8_0)) (by decide) (by decide) ?_
    show Stp p e below T2 m 11 #[.val (.ref pr0), .val (.ref pr1)] [] _
    refine XS.iconst X2.here hx rfl (hb hby d2_11) ?_
    show Stp p e below T2 m 12 #[.val (.ref pr0), .val (.ref pr1)] [(.int (1 : Int32))] _
    refine XS.goto X2.here hx rfl (pc0 := 12) (pc' := 16) rfl (hb hby d2_12) (by decide) (by decide) ?_
    show Stp p e below T2 m 16 #[.val (.ref pr0), .val (.ref pr1)] [(.int (1 : Int32))] _
    exact retN X2 hx (t := .boolean) Bd.returns (by simp) (hb hby d2_16) hr
  · show Q2_t Z pr0 pr1 w_nullOrder_pr0 w_last_w_nullOrder_pr0 h0 n0 _ T2.heap _
    rw [e2]
    exact ⟨rfl, N0, rfl⟩
theorem d2_15 : decode prog_41_method_5_code 15 = .ok (.iconst 0, 1) := by decide +kernel
def Q2_f (Z : State) (pr0 : Addr) (pr1 : Addr) (w_nullOrder_pr0 : Addr) (w_last_w_nullOrder_pr0 : Addr) (h0 : Heap) (n0 : Nat) (v : Option Value) (h : Heap) (L : List Loc) : Prop := v = some (.int (0 : Int32)) ∧ Fr n0 L ∧ h = h0
set_option maxRecDepth 65536 in
set_option maxHeartbeats 40000000 in
theorem rm2_f (l : Launch) (Z : State) (a0 : Array Value) (hw : ∀ d ∈ tables_1, d.before a0 Z = true) (ws : List Jvm.Cond) (pr0 : Addr) (pr1 : Addr) (w_nullOrder_pr0 : Addr) (w_last_w_nullOrder_pr0 : Addr) (h0 : Heap) (n0 : Nat) (Z0 : n0 ≤ h0.size) (O0 : Old Z n0 h0) (F_nullOrder_pr0 : Fld Z h0 pr0 "com/example/leafcount/leafcount/SqlSyntax" "nullOrder" "Lcom/example/leafcount/leafcount/SqlSyntax$NullOrder;" (.ref w_nullOrder_pr0)) (F_last_w_nullOrder_pr0 : Fld Z h0 w_nullOrder_pr0 "com/example/leafcount/leafcount/SqlSyntax$NullOrder" "last" "Lcom/example/leafcount/leafcount/Sort$Direction;" (.ref w_last_w_nullOrder_pr0)) (hc8_0 : ¬ (w_last_w_nullOrder_pr0 = pr1)) :
    MetFree l (⟨"com/example/leafcount/leafcount/SqlSyntax", "putsNullLast", "(Lcom/example/leafcount/leafcount/Sort$Direction;)Z"⟩ : MethodName) (head1 (Jvm.Cond.code (⟨"com/example/leafcount/leafcount/SqlSyntax", "putsNullLast", "(Lcom/example/leafcount/leafcount/Sort$Direction;)Z"⟩ : MethodName) prog_41_method_5_code 2 (some .boolean) :: ws) ({ frames := 0, cells := 0, slots := 0, locals := 0 } : Room)) (fun a U => a = #[(.ref pr0), (.ref pr1)] ∧ Z.Warmed39 U.vm ∧ U.heap = h0) (fun _ _ _ _ _ => True) (fun _ U o U' => ∃ v L, o = .returned v ∧ Q2_f Z pr0 pr1 w_nullOrder_pr0 w_last_w_nullOrder_pr0 h0 n0 v U'.heap L ∧ FrameEnd U o U' L ({ frames := 0, cells := 0, slots := 0, locals := 0 } : Room).cells ({ frames := 0, cells := 0, slots := 0, locals := 0 } : Room).slots) := by
  refine MetFree.of_bodySF (plainFor_of_name pn_2) hisR ?_
  intro p e s m args below meth c s₁ Bd hml0 hP hK
  obtain ⟨rfl, hZ, hh⟩ := hP
  have hx := Bd.exec
  have hby := Bd.bytes
  have hml : c.maxLocals = 2 := hml0
  have hown : s.vm.findClass "com/example/leafcount/leafcount/SqlSyntax" = some m.cls := findClass_of_methodNamed Bd.named
  have hnm := (name_of_methodNamed Bd.named Bd.method).1
  have X0 : Stand p l e ({ frames := 0, cells := 0, slots := 0, locals := 0 } : Room) s m #[(.ref pr0), (.ref pr1)] below meth c s₁ [] 0 0 := Stand.of_body Bd
  have e0 : s₁.heap = h0 := by rw [← hh, Bd.state]; rfl
  have N0 := Fr.nil n0
  have pre0 : ∀ t, Steps p.tables e below (s₁.setTop (mkF m 0 #[.val (.ref pr0), .val (.ref pr1)] [])) t → Steps p.tables e below (s₁.setTop (entryFrame m #[(.ref pr0), (.ref pr1)] 2)) t := fun t k => castTop (ef_2 m pr0 pr1) k
  obtain ⟨T1, X1, e1, st1⟩ := getF X0 hx hZ hown (host := "") (Or.inl (own_W hw 16 rfl)) Via.refl e0 F_nullOrder_pr0 (g := (mkF m 1 #[.val (.ref pr0), .val (.ref pr1)] [(.ref pr0)])) rfl rfl (hb hby d2_1)
  obtain ⟨T2, X2, e2, st2⟩ := own_getFR X1 hx hZ hown (own_W hw 20 rfl) Via.refl e1 F_last_w_nullOrder_pr0 (g := (mkF m 4 #[.val (.ref pr0), .val (.ref pr1)] [(.ref w_nullOrder_pr0)])) rfl rfl (hb hby d2_4)
  obtain ⟨fs, hr, hrun, hended, hW, hsame⟩ := X2.leave (v := some (.int (0 : Int32))) (fun h => by rw [Bd.returns] at h; cases h)
  refine ⟨_, _, pre0 _ ?_, hrun, hended, _, _, rfl, ?_, ⟨_, rfl⟩, hW, hsame.mono (by decide) (by decide)⟩
  · show Stp p e below s₁ m 0 #[.val (.ref pr0), .val (.ref pr1)] [] _
    refine XS.aloadN X0.here hx rfl (hb hby d2_0) rfl rfl ?_
    show Stp p e below s₁ m 1 #[.val (.ref pr0), .val (.ref pr1)] [(.ref pr0)] _
    refine st1 _ ?_
    show Stp p e below T1 m 4 #[.val (.ref pr0), .val (.ref pr1)] [(.ref w_nullOrder_pr0)] _
    refine st2 _ ?_
    show Stp p e below T2 m 7 #[.val (.ref pr0), .val (.ref pr1)] [(.ref w_last_w_nullOrder_pr0)] _
    refine XS.aloadN X2.here hx rfl (hb hby d2_7) rfl rfl ?_
    show Stp p e below T2 m 8 #[.val (.ref pr0), .val (.ref pr1)] [(.ref pr1), (.ref w_last_w_nullOrder_pr0)] _
    refine Jvm.RoadKit.acmp (g := (mkF m 8 #[.val (.ref pr0), .val (.ref pr1)] [(.ref pr1), (.ref w_last_w_nullOrder_pr0)])) X2 hx rfl rfl rfl (pc0 := 8) (pc' := 15) (same := false) rfl (hb hby d2_8) rfl (decide_eq_false fun q => hc8_0 (Value.ref.inj q)) (by decide) (by decide) ?_
    show Stp p e below T2 m 15 #[.val (.ref pr0), .val (.ref pr1)] [] _
    refine XS.iconst X2.here hx rfl (hb hby d2_15) ?_
    show Stp p e below T2 m 16 #[.val (.ref pr0), .val (.ref pr1)] [(.int (0 : Int32))] _
    exact retN X2 hx (t := .boolean) Bd.returns (by simp) (hb hby d2_16) hr
  · show Q2_f Z pr0 pr1 w_nullOrder_pr0 w_last_w_nullOrder_pr0 h0 n0 _ T2.heap _
    rw [e2]
    exact ⟨rfl, N0, rfl⟩
def Q2_n (Z : State) (pr0 : Addr) (pr1 : Addr) (w_nullOrder_pr0 : Addr) (h0 : Heap) (n0 : Nat) (v : Option Value) (h : Heap) (L : List Loc) : Prop := v = some (.int (0 : Int32)) ∧ Fr n0 L ∧ h = h0
set_option maxRecDepth 65536 in
set_option maxHeartbeats 40000000 in
theorem rm2_n (l : Launch) (Z : State) (a0 : Array Value) (hw : ∀ d ∈ tables_1, d.before a0 Z = true) (ws : List Jvm.Cond) (pr0 : Addr) (pr1 : Addr) (w_nullOrder_pr0 : Addr) (h0 : Heap) (n0 : Nat) (Z0 : n0 ≤ h0.size) (O0 : Old Z n0 h0) (F_nullOrder_pr0 : Fld Z h0 pr0 "com/example/leafcount/leafcount/SqlSyntax" "nullOrder" "Lcom/example/leafcount/leafcount/SqlSyntax$NullOrder;" (.ref w_nullOrder_pr0)) (F_last_no : Fld Z h0 w_nullOrder_pr0 "com/example/leafcount/leafcount/SqlSyntax$NullOrder" "last" "Lcom/example/leafcount/leafcount/Sort$Direction;" .null) :
    MetFree l (⟨"com/example/leafcount/leafcount/SqlSyntax", "putsNullLast", "(Lcom/example/leafcount/leafcount/Sort$Direction;)Z"⟩ : MethodName) (head1 (Jvm.Cond.code (⟨"com/example/leafcount/leafcount/SqlSyntax", "putsNullLast", "(Lcom/example/leafcount/leafcount/Sort$Direction;)Z"⟩ : MethodName) prog_41_method_5_code 2 (some .boolean) :: ws) ({ frames := 0, cells := 0, slots := 0, locals := 0 } : Room)) (fun a U => a = #[(.ref pr0), (.ref pr1)] ∧ Z.Warmed39 U.vm ∧ U.heap = h0) (fun _ _ _ _ _ => True) (fun _ U o U' => ∃ v L, o = .returned v ∧ Q2_n Z pr0 pr1 w_nullOrder_pr0 h0 n0 v U'.heap L ∧ FrameEnd U o U' L ({ frames := 0, cells := 0, slots := 0, locals := 0 } : Room).cells ({ frames := 0, cells := 0, slots := 0, locals := 0 } : Room).slots) := by
  refine MetFree.of_bodySF (plainFor_of_name pn_2) hisR ?_
  intro p e s m args below meth c s₁ Bd hml0 hP hK
  obtain ⟨rfl, hZ, hh⟩ := hP
  have hx := Bd.exec
  have hby := Bd.bytes
  have hml : c.maxLocals = 2 := hml0
  have hown : s.vm.findClass "com/example/leafcount/leafcount/SqlSyntax" = some m.cls := findClass_of_methodNamed Bd.named
  have hnm := (name_of_methodNamed Bd.named Bd.method).1
  have X0 : Stand p l e ({ frames := 0, cells := 0, slots := 0, locals := 0 } : Room) s m #[(.ref pr0), (.ref pr1)] below meth c s₁ [] 0 0 := Stand.of_body Bd
  have e0 : s₁.heap = h0 := by rw [← hh, Bd.state]; rfl
  have N0 := Fr.nil n0
  have pre0 : ∀ t, Steps p.tables e below (s₁.setTop (mkF m 0 #[.val (.ref pr0), .val (.ref pr1)] [])) t → Steps p.tables e below (s₁.setTop (entryFrame m #[(.ref pr0), (.ref pr1)] 2)) t := fun t k => castTop (ef_2 m pr0 pr1) k
  obtain ⟨T1, X1, e1, st1⟩ := getF X0 hx hZ hown (host := "") (Or.inl (own_W hw 16 rfl)) Via.refl e0 F_nullOrder_pr0 (g := (mkF m 1 #[.val (.ref pr0), .val (.ref pr1)] [(.ref pr0)])) rfl rfl (hb hby d2_1)
  obtain ⟨T2, X2, e2, st2⟩ := own_getFR X1 hx hZ hown (own_W hw 20 rfl) Via.refl e1 F_last_no (g := (mkF m 4 #[.val (.ref pr0), .val (.ref pr1)] [(.ref w_nullOrder_pr0)])) rfl rfl (hb hby d2_4)
  obtain ⟨fs, hr, hrun, hended, hW, hsame⟩ := X2.leave (v := some (.int (0 : Int32))) (fun h => by rw [Bd.returns] at h; cases h)
  refine ⟨_, _, pre0 _ ?_, hrun, hended, _, _, rfl, ?_, ⟨_, rfl⟩, hW, hsame.mono (by decide) (by decide)⟩
  · show Stp p e below s₁ m 0 #[.val (.ref pr0), .val (.ref pr1)] [] _
    refine XS.aloadN X0.here hx rfl (hb hby d2_0) rfl rfl ?_
    show Stp p e below s₁ m 1 #[.val (.ref pr0), .val (.ref pr1)] [(.ref pr0)] _
    refine st1 _ ?_
    show Stp p e below T1 m 4 #[.val (.ref pr0), .val (.ref pr1)] [(.ref w_nullOrder_pr0)] _
    refine st2 _ ?_
    show Stp p e below T2 m 7 #[.val (.ref pr0), .val (.ref pr1)] [.null] _
    refine XS.aloadN X2.here hx rfl (hb hby d2_7) rfl rfl ?_
    show Stp p e below T2 m 8 #[.val (.ref pr0), .val (.ref pr1)] [(.ref pr1), .null] _
    refine Jvm.RoadKit.acmp (g := (mkF m 8 #[.val (.ref pr0), .val (.ref pr1)] [(.ref pr1), .null])) X2 hx rfl rfl rfl (pc0 := 8) (pc' := 15) (same := false) rfl (hb hby d2_8) rfl (decide_eq_false nofun) (by decide) (by decide) ?_
    show Stp p e below T2 m 15 #[.val (.ref pr0), .val (.ref pr1)] [] _
    refine XS.iconst X2.here hx rfl (hb hby d2_15) ?_
    show Stp p e below T2 m 16 #[.val (.ref pr0), .val (.ref pr1)] [(.int (0 : Int32))] _
    exact retN X2 hx (t := .boolean) Bd.returns (by simp) (hb hby d2_16) hr
  · show Q2_n Z pr0 pr1 w_nullOrder_pr0 h0 n0 _ T2.heap _
    rw [e2]
    exact ⟨rfl, N0, rfl⟩
theorem pd_0 : parseMethodDescriptor "(I)Lcom/example/leafcount/leafcount/SqlSyntax;" = some ⟨[.int], some (.object "com/example/leafcount/leafcount/SqlSyntax")⟩ := by decide +kernel
theorem pd_1 : parseMethodDescriptor "(Lcom/example/leafcount/leafcount/Sort$Direction;)Z" = some ⟨[(.object "com/example/leafcount/leafcount/Sort$Direction")], some .boolean⟩ := by decide +kernel
theorem pn_0 : plainName "com/example/leafcount/leafcount/SqlSyntaxPutsNullLastPinLaw" = true := by first | (simp [plainName, overriddenIn]; done) | decide +kernel
theorem ef_0 (m : MethodId) (pi1 : Int32) (pi2 : Int32) : entryFrame m #[(.int pi1), (.int pi2)] maxLocals = mkF m 0 #[.val (.int pi1), .val (.int pi2), .unset, .unset, .unset, .unset, .unset, .unset, .unset] [] := by first | (simp [entryFrame, mkF, argsToLocals, Value.category, maxLocals]; done) | rfl
def Q0 (v : Option Value) (L : List Loc) (n0 : Nat) : Prop := v = some (.int (1 : Int32)) ∧ Fr n0 L
set_option maxRecDepth 65536 in
set_option maxHeartbeats 40000000 in
theorem rm0_tt (l : Launch) (Z : State) (a0 : Array Value) (hw : ∀ d ∈ tables_1, d.before a0 Z = true) (ws : List Jvm.Cond) (pi1 : Int32) (pi2 : Int32) (w_HIGH : Addr) (w_LOW : Addr) (w_FIRST : Addr) (w_ASC : Addr) (w_DESC : Addr) (w_POSTGRESQL : Addr) (w_MARIADB : Addr) (w_SQLITE : Addr) (w_H2 : Addr) (w_HSQLDB : Addr) (w_DERBY : Addr) (w_ORACLE : Addr) (w_SQLSERVER : Addr) (w_DB2 : Addr) (h0 : Heap) (n0 : Nat) (Z0 : n0 ≤ h0.size) (O0 : Old Z n0 h0) (S_ASC : Sta Z Z.heap "com/example/leafcount/leafcount/Sort$Direction" "ASC" "Lcom/example/leafcount/leafcount/Sort$Direction;" (.ref w_ASC)) (S_DESC : Sta Z Z.heap "com/example/leafcount/leafcount/Sort$Direction" "DESC" "Lcom/example/leafcount/leafcount/Sort$Direction;" (.ref w_DESC)) (S_POSTGRESQL : Sta Z Z.heap "com/example/leafcount/leafcount/SqlSyntax" "POSTGRESQL" "Lcom/example/leafcount/leafcount/SqlSyntax;" (.ref w_POSTGRESQL)) (S_MARIADB : Sta Z Z.heap "com/example/leafcount/leafcount/SqlSyntax" "MARIADB" "Lcom/example/leafcount/leafcount/SqlSyntax;" (.ref w_MARIADB)) (S_SQLITE : Sta Z Z.heap "com/example/leafcount/leafcount/SqlSyntax" "SQLITE" "Lcom/example/leafcount/leafcount/SqlSyntax;" (.ref w_SQLITE)) (S_H2 : Sta Z Z.heap "com/example/leafcount/leafcount/SqlSyntax" "H2" "Lcom/example/leafcount/leafcount/SqlSyntax;" (.ref w_H2)) (S_HSQLDB : Sta Z Z.heap "com/example/leafcount/leafcount/SqlSyntax" "HSQLDB" "Lcom/example/leafcount/leafcount/SqlSyntax;" (.ref w_HSQLDB)) (S_DERBY : Sta Z Z.heap "com/example/leafcount/leafcount/SqlSyntax" "DERBY" "Lcom/example/leafcount/leafcount/SqlSyntax;" (.ref w_DERBY)) (S_ORACLE : Sta Z Z.heap "com/example/leafcount/leafcount/SqlSyntax" "ORACLE" "Lcom/example/leafcount/leafcount/SqlSyntax;" (.ref w_ORACLE)) (S_SQLSERVER : Sta Z Z.heap "com/example/leafcount/leafcount/SqlSyntax" "SQLSERVER" "Lcom/example/leafcount/leafcount/SqlSyntax;" (.ref w_SQLSERVER)) (S_DB2 : Sta Z Z.heap "com/example/leafcount/leafcount/SqlSyntax" "DB2" "Lcom/example/leafcount/leafcount/SqlSyntax;" (.ref w_DB2)) (E_w_POSTGRESQL : Exa Z Z.heap w_POSTGRESQL "com/example/leafcount/leafcount/SqlSyntax") (E_w_MARIADB : Exa Z Z.heap w_MARIADB "com/example/leafcount/leafcount/SqlSyntax") (E_w_SQLITE : Exa Z Z.heap w_SQLITE "com/example/leafcount/leafcount/SqlSyntax") (E_w_H2 : Exa Z Z.heap w_H2 "com/example/leafcount/leafcount/SqlSyntax") (E_w_HSQLDB : Exa Z Z.heap w_HSQLDB "com/example/leafcount/leafcount/SqlSyntax") (E_w_DERBY : Exa Z Z.heap w_DERBY "com/example/leafcount/leafcount/SqlSyntax") (E_w_ORACLE : Exa Z Z.heap w_ORACLE "com/example/leafcount/leafcount/SqlSyntax") (E_w_SQLSERVER : Exa Z Z.heap w_SQLSERVER "com/example/leafcount/leafcount/SqlSyntax") (E_w_DB2 : Exa Z Z.heap w_DB2 "com/example/leafcount/leafcount/SqlSyntax") (F_nullOrder_w_POSTGRESQL : Fld Z Z.heap w_POSTGRESQL "com/example/leafcount/leafcount/SqlSyntax" "nullOrder" "Lcom/example/leafcount/leafcount/SqlSyntax$NullOrder;" (.ref w_HIGH)) (F_nullOrder_w_MARIADB : Fld Z Z.heap w_MARIADB "com/example/leafcount/leafcount/SqlSyntax" "nullOrder" "Lcom/example/leafcount/leafcount/SqlSyntax$NullOrder;" (.ref w_LOW)) (F_nullOrder_w_SQLITE : Fld Z Z.heap w_SQLITE "com/example/leafcount/leafcount/SqlSyntax" "nullOrder" "Lcom/example/leafcount/leafcount/SqlSyntax$NullOrder;" (.ref w_LOW)) (F_nullOrder_w_H2 : Fld Z Z.heap w_H2 "com/example/leafcount/leafcount/SqlSyntax" "nullOrder" "Lcom/example/leafcount/leafcount/SqlSyntax$NullOrder;" (.ref w_LOW)) (F_nullOrder_w_HSQLDB : Fld Z Z.heap w_HSQLDB "com/example/leafcount/leafcount/SqlSyntax" "nullOrder" "Lcom/example/leafcount/leafcount/SqlSyntax$NullOrder;" (.ref w_FIRST)) (F_nullOrder_w_DERBY : Fld Z Z.heap w_DERBY "com/example/leafcount/leafcount/SqlSyntax" "nullOrder" "Lcom/example/leafcount/leafcount/SqlSyntax$NullOrder;" (.ref w_HIGH)) (F_nullOrder_w_ORACLE : Fld Z Z.heap w_ORACLE "com/example/leafcount/leafcount/SqlSyntax" "nullOrder" "Lcom/example/leafcount/leafcount/SqlSyntax$NullOrder;" (.ref w_HIGH)) (F_nullOrder_w_SQLSERVER : Fld Z Z.heap w_SQLSERVER "com/example/leafcount/leafcount/SqlSyntax" "nullOrder" "Lcom/example/leafcount/leafcount/SqlSyntax$NullOrder;" (.ref w_LOW)) (F_nullOrder_w_DB2 : Fld Z Z.heap w_DB2 "com/example/leafcount/leafcount/SqlSyntax" "nullOrder" "Lcom/example/leafcount/leafcount/SqlSyntax$NullOrder;" (.ref w_HIGH)) (F_last_w_HIGH : Fld Z Z.heap w_HIGH "com/example/leafcount/leafcount/SqlSyntax$NullOrder" "last" "Lcom/example/leafcount/leafcount/Sort$Direction;" (.ref w_ASC)) (F_last_w_LOW : Fld Z Z.heap w_LOW "com/example/leafcount/leafcount/SqlSyntax$NullOrder" "last" "Lcom/example/leafcount/leafcount/Sort$Direction;" (.ref w_DESC)) (F_last_w_FIRST : Fld Z Z.heap w_FIRST "com/example/leafcount/leafcount/SqlSyntax$NullOrder" "last" "Lcom/example/leafcount/leafcount/Sort$Direction;" .null) (hne : w_ASC ≠ w_DESC) (hc11_0 : (pi2 &&& (1 : Int32)) = (0 : Int32)) (hc36_1 : ((pi1 &&& (2147483647 : Int32)) % (9 : Int32)) = (0 : Int32)) :
    MetFree l x (head1 (Jvm.Cond.code x code maxLocals ret :: ws) room_1) (fun a U => a = #[(.int pi1), (.int pi2)] ∧ Z.Warmed39 U.vm ∧ U.heap = h0) (fun _ _ _ _ _ => True) (fun _ U o U' => ∃ v L, o = .returned v ∧ Q0 v L n0 ∧ FrameEnd U o U' L room_1.cells room_1.slots) := by
  refine MetFree.of_bodySF (plainFor_of_name pn_0) hisR ?_
  intro p e s m args below meth c s₁ Bd hml0 hP hK
  obtain ⟨rfl, hZ, hh⟩ := hP
  have hx := Bd.exec
  have hby := Bd.bytes
  have hml : c.maxLocals = 9 := hml0
  have hown : s.vm.findClass "com/example/leafcount/leafcount/SqlSyntaxPutsNullLastPinLaw" = some m.cls := findClass_of_methodNamed Bd.named
  have hnm := (name_of_methodNamed Bd.named Bd.method).1
  have X0 : Stand p l e room_1 s m #[(.int pi1), (.int pi2)] below meth c s₁ [] 0 0 := Stand.of_body Bd
  have e0 : s₁.heap = h0 := by rw [← hh, Bd.state]; rfl
  have N0 := Fr.nil n0
  have pre0 : ∀ t, Steps p.tables e below (s₁.setTop (mkF m 0 #[.val (.int pi1), .val (.int pi2), .unset, .unset, .unset, .unset, .unset, .unset, .unset] [])) t → Steps p.tables e below (s₁.setTop (entryFrame m #[(.int pi1), (.int pi2)] maxLocals)) t := fun t k => castTop (ef_0 m pi1 pi2) k
  obtain ⟨T1, X1, e1, st1⟩ := getS2 X0 hx hZ hown (host := "") (Or.inl (own_W hw 25 rfl)) Via.refl e0 (S_ASC.ext O0.2) (g := (mkF m 24 #[.val (.int pi1), .val (.int pi2), .val (.int ((pi1 &&& (2147483647 : Int32)) % (9 : Int32))), .val (.int (1 : Int32)), .unset, .unset, .unset, .unset, .unset] [])) rfl (hb hby at_24)
  obtain ⟨_, _, ⟨T2, L2, k2, n2⟩, -, X2, ⟨Lc2, hQ2, l2, y2, z2⟩, st2⟩ := Jvm.LawKit.callS X1 hx (y := (⟨"com/example/leafcount/leafcount/SqlSyntaxPutsNullLastPinLaw", "pick", "(I)Lcom/example/leafcount/leafcount/SqlSyntax;"⟩ : MethodName)) hown (mvT hZ (own_W hw 4 rfl)) (mvT hZ (own_W hw 5 rfl)) (mvT hZ (own_W hw 6 rfl)) (mvT hZ (own_W hw 7 rfl)) (by decide) (backOf (W := 0) (rm1_0 l Z a0 hw [] ((pi1 &&& (2147483647 : Int32)) % (9 : Int32)) w_POSTGRESQL h0 n0 Z0 O0 S_POSTGRESQL hc36_1) hZ (own_W hw 7 rfl) (own_W hw 6 rfl) (by decide) (by decide)) (g := (mkF m 36 #[.val (.int pi1), .val (.int pi2), .val (.int ((pi1 &&& (2147483647 : Int32)) % (9 : Int32))), .val (.int (1 : Int32)), .val (.ref w_ASC), .unset, .unset, .unset, .unset] [(.int ((pi1 &&& (2147483647 : Int32)) % (9 : Int32)))])) rfl (by rw [hml]; rfl) (argsL := [(.int ((pi1 &&& (2147483647 : Int32)) % (9 : Int32)))]) (rest := []) (lenOf pd_0 rfl) rfl (by show 2 * 0 + _ ≤ _; exact Nat.le_of_eq rfl) (hb hby at_36) (fun _ _ => ⟨rfl, e1, (by decide : 0 + 0 ≤ _), (by decide : 0 + 0 ≤ _)⟩)
  dsimp only [Pt.U, Pt.locs, Pt.cells, Pt.slots] at X2 l2 y2 z2 st2 hQ2
  subst l2 y2 z2
  obtain ⟨rfl, N2q, eq2⟩ := hQ2
  have N2 := Fr.app N0 N2q
  obtain ⟨cq3, kq3, q3a, q3b, q3c⟩ := isOf hZ eq2 (E_w_POSTGRESQL.ext O0.2)
  obtain ⟨_, _, ⟨T3, L3, k3, n3⟩, -, X3, ⟨Lc3, hQ3, l3, y3, z3⟩, st3⟩ := X2.virtualBack hx (y := (⟨"com/example/leafcount/leafcount/SqlSyntax", "putsNullLast", "(Lcom/example/leafcount/leafcount/Sort$Direction;)Z"⟩ : MethodName)) (z := (⟨"com/example/leafcount/leafcount/SqlSyntax", "putsNullLast", "(Lcom/example/leafcount/leafcount/Sort$Direction;)Z"⟩ : MethodName)) hown (mvT hZ (own_W hw 11 rfl)) (mvT hZ (own_W hw 12 rfl)) (notFace_of_selects (args := #[]) (mvT hZ (own_W hw 14 rfl))) (mvT hZ (own_W hw 14 rfl)) (mvT hZ (own_W hw 13 rfl)) (by decide) (backOf (W := 0) (rm2_t l Z a0 hw [] w_POSTGRESQL w_ASC w_HIGH w_ASC h0 n0 Z0 O0 (F_nullOrder_w_POSTGRESQL.ext O0.2) (F_last_w_HIGH.ext O0.2) rfl) hZ (own_W hw 15 rfl) (own_W hw 9 rfl) (by decide) (by decide)) q3a q3c (g := (mkF m 134 #[.val (.int pi1), .val (.int pi2), .val (.int ((pi1 &&& (2147483647 : Int32)) % (9 : Int32))), .val (.int (1 : Int32)), .val (.ref w_ASC), .val (.ref w_POSTGRESQL), .val (.int (1 : Int32)), .val (.int (0 : Int32)), .val (.int (1 : Int32))] [(.ref w_ASC), (.ref w_POSTGRESQL)])) rfl (by rw [hml]; rfl) (Steps.refl _) (argsL := [(.ref w_ASC)]) (rest := []) (lenOf pd_1 rfl) rfl (by show 2 * 0 + _ ≤ _; exact Nat.le_of_eq rfl) (hb hby at_134) (fun _ _ => ⟨rfl, eq2, (by decide : 0 + 0 ≤ _), (by decide : 0 + 0 ≤ _)⟩)
  dsimp only [Pt.U, Pt.locs, Pt.cells, Pt.slots] at X3 l3 y3 z3 st3 hQ3
  subst l3 y3 z3
  obtain ⟨rfl, N3q, eq3⟩ := hQ3
  have N3 := Fr.app N2 N3q
  obtain ⟨fs, hr, hrun, hended, hW, hsame⟩ := X3.leave (v := some (.int (1 : Int32))) (fun h => by rw [Bd.returns] at h; cases h)
  refine ⟨_, _, pre0 _ ?_, hrun, hended, _, _, rfl, ?_, ⟨_, rfl⟩, hW, hsame.mono (by decide) (by decide)⟩
  · show Stp p e below s₁ m 0 #[.val (.int pi1), .val (.int pi2), .unset, .unset, .unset, .unset, .unset, .unset, .unset] [] _
    refine XS.iloadN X0.here hx rfl (hb hby at_0) rfl ?_
    show Stp p e below s₁ m 1 #[.val (.int pi1), .val (.int pi2), .unset, .unset, .unset, .unset, .unset, .unset, .unset] [(.int pi1)] _
    refine X0.ldcInt hx hown (mvT hZ (own_W hw 0 rfl)) (g := (mkF m 1 #[.val (.int pi1), .val (.int pi2), .unset, .unset, .unset, .unset, .unset, .unset, .unset] [(.int pi1)])) rfl (hb hby at_1) _ ?_
    show Stp p e below s₁ m 3 #[.val (.int pi1), .val (.int pi2), .unset, .unset, .unset, .unset, .unset, .unset, .unset] [(.int (2147483647 : Int32)), (.int pi1)] _
    refine XS.iand X0.here hx rfl (hb hby at_3) rfl ?_
    show Stp p e below s₁ m 4 #[.val (.int pi1), .val (.int pi2), .unset, .unset, .unset, .unset, .unset, .unset, .unset] [(.int (pi1 &&& (2147483647 : Int32)))] _
    refine XS.bipush X0.here hx rfl (hb hby at_4) ?_
    show Stp p e below s₁ m 6 #[.val (.int pi1), .val (.int pi2), .unset, .unset, .unset, .unset, .unset, .unset, .unset] [(.int (9 : Int32)), (.int (pi1 &&& (2147483647 : Int32)))] _
    refine iremM X0 hx rfl (hb hby at_6) rfl (by decide) ?_
    show Stp p e below s₁ m 7 #[.val (.int pi1), .val (.int pi2), .unset, .unset, .unset, .unset, .unset, .unset, .unset] [(.int ((pi1 &&& (2147483647 : Int32)) % (9 : Int32)))] _
    refine XS.istoreN X0.here hx rfl (hb hby at_7) rfl (l' := #[.val (.int pi1), .val (.int pi2), .val (.int ((pi1 &&& (2147483647 : Int32)) % (9 : Int32))), .unset, .unset, .unset, .unset, .unset, .unset]) rfl ?_
    show Stp p e below s₁ m 8 #[.val (.int pi1), .val (.int pi2), .val (.int ((pi1 &&& (2147483647 : Int32)) % (9 : Int32))), .unset, .unset, .unset, .unset, .unset, .unset] [] _
    refine XS.iloadN X0.here hx rfl (hb hby at_8) rfl ?_
    show Stp p e below s₁ m 9 #[.val (.int pi1), .val (.int pi2), .val (.int ((pi1 &&& (2147483647 : Int32)) % (9 : Int32))), .unset, .unset, .unset, .unset, .unset, .unset] [(.int pi2)] _
    refine XS.iconst X0.here hx rfl (hb hby at_9) ?_
    show Stp p e below s₁ m 10 #[.val (.int pi1), .val (.int pi2), .val (.int ((pi1 &&& (2147483647 : Int32)) % (9 : Int32))), .unset, .unset, .unset, .unset, .unset, .unset] [(.int (1 : Int32)), (.int pi2)] _
    refine XS.iand X0.here hx rfl (hb hby at_10) rfl ?_
    show Stp p e below s₁ m 11 #[.val (.int pi1), .val (.int pi2), .val (.int ((pi1 &&& (2147483647 : Int32)) % (9 : Int32))), .unset, .unset, .unset, .unset, .unset, .unset] [(.int (pi2 &&& (1 : Int32)))] _
    refine XS.ifNo X0.here hx rfl (hb hby at_11) rfl ((if0 _ _).trans (teq hc11_0).2) ?_
    show Stp p e below s₁ m 14 #[.val (.int pi1), .val (.int pi2), .val (.int ((pi1 &&& (2147483647 : Int32)) % (9 : Int32))), .unset, .unset, .unset, .unset, .unset, .unset] [] _
    refine XS.iconst X0.here hx rfl (hb hby at_14) ?_
    show Stp p e below s₁ m 15 #[.val (.int pi1), .val (.int pi2), .val (.int ((pi1 &&& (2147483647 : Int32)) % (9 : Int32))), .unset, .unset, .unset, .unset, .unset, .unset] [(.int (1 : Int32))] _
    refine XS.goto X0.here hx rfl (pc0 := 15) (pc' := 19) rfl (hb hby at_15) (by decide) (by decide) ?_
    show Stp p e below s₁ m 19 #[.val (.int pi1), .val (.int pi2), .val (.int ((pi1 &&& (2147483647 : Int32)) % (9 : Int32))), .unset, .unset, .unset, .unset, .unset, .unset] [(.int (1 : Int32))] _
    refine XS.istoreN X0.here hx rfl (hb hby at_19) rfl (l' := #[.val (.int pi1), .val (.int pi2), .val (.int ((pi1 &&& (2147483647 : Int32)) % (9 : Int32))), .val (.int (1 : Int32)), .unset, .unset, .unset, .unset, .unset]) rfl ?_
    show Stp p e below s₁ m 20 #[.val (.int pi1), .val (.int pi2), .val (.int ((pi1 &&& (2147483647 : Int32)) % (9 : Int32))), .val (.int (1 : Int32)), .unset, .unset, .unset, .unset, .unset] [] _
    refine XS.iloadN X0.here hx rfl (hb hby at_20) rfl ?_
    show Stp p e below s₁ m 21 #[.val (.int pi1), .val (.int pi2), .val (.int ((pi1 &&& (2147483647 : Int32)) % (9 : Int32))), .val (.int (1 : Int32)), .unset, .unset, .unset, .unset, .unset] [(.int (1 : Int32))] _
    refine XS.ifNo X0.here hx rfl (hb hby at_21) rfl ((if0 _ _).trans (feq (by decide : ¬ ((1 : Int32) = (0 : Int32)))).1) ?_
    show Stp p e below s₁ m 24 #[.val (.int pi1), .val (.int pi2), .val (.int ((pi1 &&& (2147483647 : Int32)) % (9 : Int32))), .val (.int (1 : Int32)), .unset, .unset, .unset, .unset, .unset] [] _
    refine st1 _ ?_
    show Stp p e below T1 m 27 #[.val (.int pi1), .val (.int pi2), .val (.int ((pi1 &&& (2147483647 : Int32)) % (9 : Int32))), .val (.int (1 : Int32)), .unset, .unset, .unset, .unset, .unset] [(.ref w_ASC)] _
    refine XS.goto X1.here hx rfl (pc0 := 27) (pc' := 33) rfl (hb hby at_27) (by decide) (by decide) ?_
    show Stp p e below T1 m 33 #[.val (.int pi1), .val (.int pi2), .val (.int ((pi1 &&& (2147483647 : Int32)) % (9 : Int32))), .val (.int (1 : Int32)), .unset, .unset, .unset, .unset, .unset] [(.ref w_ASC)] _
    refine XS.astore X1.here hx rfl (hb hby at_33) rfl rfl (l' := #[.val (.int pi1), .val (.int pi2), .val (.int ((pi1 &&& (2147483647 : Int32)) % (9 : Int32))), .val (.int (1 : Int32)), .val (.ref w_ASC), .unset, .unset, .unset, .unset]) rfl ?_
    show Stp p e below T1 m 35 #[.val (.int pi1), .val (.int pi2), .val (.int ((pi1 &&& (2147483647 : Int32)) % (9 : Int32))), .val (.int (1 : Int32)), .val (.ref w_ASC), .unset, .unset, .unset, .unset] [] _
    refine XS.iloadN X1.here hx rfl (hb hby at_35) rfl ?_
    show Stp p e below T1 m 36 #[.val (.int pi1), .val (.int pi2), .val (.int ((pi1 &&& (2147483647 : Int32)) % (9 : Int32))), .val (.int (1 : Int32)), .val (.ref w_ASC), .unset, .unset, .unset, .unset] [(.int ((pi1 &&& (2147483647 : Int32)) % (9 : Int32)))] _
    refine st2 _ ?_
    show Stp p e below T2 m 39 #[.val (.int pi1), .val (.int pi2), .val (.int ((pi1 &&& (2147483647 : Int32)) % (9 : Int32))), .val (.int (1 : Int32)), .val (.ref w_ASC), .unset, .unset, .unset, .unset] [(.ref w_POSTGRESQL)] _
    refine XS.astore X2.here hx rfl (hb hby at_39) rfl rfl (l' := #[.val (.int pi1), .val (.int pi2), .val (.int ((pi1 &&& (2147483647 : Int32)) % (9 : Int32))), .val (.int (1 : Int32)), .val (.ref w_ASC), .val (.ref w_POSTGRESQL), .unset, .unset, .unset]) rfl ?_
    show Stp p e below T2 m 41 #[.val (.int pi1), .val (.int pi2), .val (.int ((pi1 &&& (2147483647 : Int32)) % (9 : Int32))), .val (.int (1 : Int32)), .val (.ref w_ASC), .val (.ref w_POSTGRESQL), .unset, .unset, .unset] [] _
    refine XS.iloadN X2.here hx rfl (hb hby at_41) rfl ?_
    show Stp p e below T2 m 42 #[.val (.int pi1), .val (.int pi2), .val (.int ((pi1 &&& (2147483647 : Int32)) % (9 : Int32))), .val (.int (1 : Int32)), .val (.ref w_ASC), .val (.ref w_POSTGRESQL), .unset, .unset, .unset] [(.int ((pi1 &&& (2147483647 : Int32)) % (9 : Int32)))] _
    refine XS.ifYes X2.here hx rfl (pc0 := 42) (pc' := 62) rfl (hb hby at_42) rfl ((if0 _ _).trans (teq hc36_1).1) (by decide) (by decide) ?_
    show Stp p e below T2 m 62 #[.val (.int pi1), .val (.int pi2), .val (.int ((pi1 &&& (2147483647 : Int32)) % (9 : Int32))), .val (.int (1 : Int32)), .val (.ref w_ASC), .val (.ref w_POSTGRESQL), .unset, .unset, .unset] [] _
    refine XS.iconst X2.here hx rfl (hb hby at_62) ?_
    show Stp p e below T2 m 63 #[.val (.int pi1), .val (.int pi2), .val (.int ((pi1 &&& (2147483647 : Int32)) % (9 : Int32))), .val (.int (1 : Int32)), .val (.ref w_ASC), .val (.ref w_POSTGRESQL), .unset, .unset, .unset] [(.int (1 : Int32))] _
    refine XS.goto X2.here hx rfl (pc0 := 63) (pc' := 67) rfl (hb hby at_63) (by decide) (by decide) ?_
    show Stp p e below T2 m 67 #[.val (.int pi1), .val (.int pi2), .val (.int ((pi1 &&& (2147483647 : Int32)) % (9 : Int32))), .val (.int (1 : Int32)), .val (.ref w_ASC), .val (.ref w_POSTGRESQL), .unset, .unset, .unset] [(.int (1 : Int32))] _
    refine XS.istore X2.here hx rfl (hb hby at_67) rfl (l' := #[.val (.int pi1), .val (.int pi2), .val (.int ((pi1 &&& (2147483647 : Int32)) % (9 : Int32))), .val (.int (1 : Int32)), .val (.ref w_ASC), .val (.ref w_POSTGRESQL), .val (.int (1 : Int32)), .unset, .unset]) rfl ?_
    show Stp p e below T2 m 69 #[.val (.int pi1), .val (.int pi2), .val (.int ((pi1 &&& (2147483647 : Int32)) % (9 : Int32))), .val (.int (1 : Int32)), .val (.ref w_ASC), .val (.ref w_POSTGRESQL), .val (.int (1 : Int32)), .unset, .unset] [] _
    refine XS.iloadN X2.here hx rfl (hb hby at_69) rfl ?_
    show Stp p e below T2 m 70 #[.val (.int pi1), .val (.int pi2), .val (.int ((pi1 &&& (2147483647 : Int32)) % (9 : Int32))), .val (.int (1 : Int32)), .val (.ref w_ASC), .val (.ref w_POSTGRESQL), .val (.int (1 : Int32)), .unset, .unset] [(.int ((pi1 &&& (2147483647 : Int32)) % (9 : Int32)))] _
    refine XS.iconst X2.here hx rfl (hb hby at_70) ?_
    show Stp p e below T2 m 71 #[.val (.int pi1), .val (.int pi2), .val (.int ((pi1 &&& (2147483647 : Int32)) % (9 : Int32))), .val (.int (1 : Int32)), .val (.ref w_ASC), .val (.ref w_POSTGRESQL), .val (.int (1 : Int32)), .unset, .unset] [(.int (1 : Int32)), (.int ((pi1 &&& (2147483647 : Int32)) % (9 : Int32)))] _
    refine XS.icmpNo X2.here hx rfl (hb hby at_71) rfl (feq (fun q => absurd (hc36_1.symm.trans q) (by decide))).1 ?_
    show Stp p e below T2 m 74 #[.val (.int pi1), .val (.int pi2), .val (.int ((pi1 &&& (2147483647 : Int32)) % (9 : Int32))), .val (.int (1 : Int32)), .val (.ref w_ASC), .val (.ref w_POSTGRESQL), .val (.int (1 : Int32)), .unset, .unset] [] _
    refine XS.iloadN X2.here hx rfl (hb hby at_74) rfl ?_
    show Stp p e below T2 m 75 #[.val (.int pi1), .val (.int pi2), .val (.int ((pi1 &&& (2147483647 : Int32)) % (9 : Int32))), .val (.int (1 : Int32)), .val (.ref w_ASC), .val (.ref w_POSTGRESQL), .val (.int (1 : Int32)), .unset, .unset] [(.int ((pi1 &&& (2147483647 : Int32)) % (9 : Int32)))] _
    refine XS.iconst X2.here hx rfl (hb hby at_75) ?_
    show Stp p e below T2 m 76 #[.val (.int pi1), .val (.int pi2), .val (.int ((pi1 &&& (2147483647 : Int32)) % (9 : Int32))), .val (.int (1 : Int32)), .val (.ref w_ASC), .val (.ref w_POSTGRESQL), .val (.int (1 : Int32)), .unset, .unset] [(.int (2 : Int32)), (.int ((pi1 &&& (2147483647 : Int32)) % (9 : Int32)))] _
    refine XS.icmpNo X2.here hx rfl (hb hby at_76) rfl (feq (fun q => absurd (hc36_1.symm.trans q) (by decide))).1 ?_
    show Stp p e below T2 m 79 #[.val (.int pi1), .val (.int pi2), .val (.int ((pi1 &&& (2147483647 : Int32)) % (9 : Int32))), .val (.int (1 : Int32)), .val (.ref w_ASC), .val (.ref w_POSTGRESQL), .val (.int (1 : Int32)), .unset, .unset] [] _
    refine XS.iloadN X2.here hx rfl (hb hby at_79) rfl ?_
    show Stp p e below T2 m 80 #[.val (.int pi1), .val (.int pi2), .val (.int ((pi1 &&& (2147483647 : Int32)) % (9 : Int32))), .val (.int (1 : Int32)), .val (.ref w_ASC), .val (.ref w_POSTGRESQL), .val (.int (1 : Int32)), .unset, .unset] [(.int ((pi1 &&& (2147483647 : Int32)) % (9 : Int32)))] _
    refine XS.iconst X2.here hx rfl (hb hby at_80) ?_
    show Stp p e below T2 m 81 #[.val (.int pi1), .val (.int pi2), .val (.int ((pi1 &&& (2147483647 : Int32)) % (9 : Int32))), .val (.int (1 : Int32)), .val (.ref w_ASC), .val (.ref w_POSTGRESQL), .val (.int (1 : Int32)), .unset, .unset] [(.int (3 : Int32)), (.int ((pi1 &&& (2147483647 : Int32)) % (9 : Int32)))] _
    refine XS.icmpNo X2.here hx rfl (hb hby at_81) rfl (feq (fun q => absurd (hc36_1.symm.trans q) (by decide))).1 ?_
    show Stp p e below T2 m 84 #[.val (.int pi1), .val (.int pi2), .val (.int ((pi1 &&& (2147483647 : Int32)) % (9 : Int32))), .val (.int (1 : Int32)), .val (.ref w_ASC), .val (.ref w_POSTGRESQL), .val (.int (1 : Int32)), .unset, .unset] [] _
    refine XS.iloadN X2.here hx rfl (hb hby at_84) rfl ?_
    show Stp p e below T2 m 85 #[.val (.int pi1), .val (.int pi2), .val (.int ((pi1 &&& (2147483647 : Int32)) % (9 : Int32))), .val (.int (1 : Int32)), .val (.ref w_ASC), .val (.ref w_POSTGRESQL), .val (.int (1 : Int32)), .unset, .unset] [(.int ((pi1 &&& (2147483647 : Int32)) % (9 : Int32)))] _
    refine XS.bipush X2.here hx rfl (hb hby at_85) ?_
    show Stp p e below T2 m 87 #[.val (.int pi1), .val (.int pi2), .val (.int ((pi1 &&& (2147483647 : Int32)) % (9 : Int32))), .val (.int (1 : Int32)), .val (.ref w_ASC), .val (.ref w_POSTGRESQL), .val (.int (1 : Int32)), .unset, .unset] [(.int (7 : Int32)), (.int ((pi1 &&& (2147483647 : Int32)) % (9 : Int32)))] _
    refine XS.icmpYes X2.here hx rfl (pc0 := 87) (pc' := 94) rfl (hb hby at_87) rfl (feq (fun q => absurd (hc36_1.symm.trans q) (by decide))).2 (by decide) (by decide) ?_
    show Stp p e below T2 m 94 #[.val (.int pi1), .val (.int pi2), .val (.int ((pi1 &&& (2147483647 : Int32)) % (9 : Int32))), .val (.int (1 : Int32)), .val (.ref w_ASC), .val (.ref w_POSTGRESQL), .val (.int (1 : Int32)), .unset, .unset] [] _
    refine XS.iconst X2.here hx rfl (hb hby at_94) ?_
    show Stp p e below T2 m 95 #[.val (.int pi1), .val (.int pi2), .val (.int ((pi1 &&& (2147483647 : Int32)) % (9 : Int32))), .val (.int (1 : Int32)), .val (.ref w_ASC), .val (.ref w_POSTGRESQL), .val (.int (1 : Int32)), .unset, .unset] [(.int (0 : Int32))] _
    refine XS.istore X2.here hx rfl (hb hby at_95) rfl (l' := #[.val (.int pi1), .val (.int pi2), .val (.int ((pi1 &&& (2147483647 : Int32)) % (9 : Int32))), .val (.int (1 : Int32)), .val (.ref w_ASC), .val (.ref w_POSTGRESQL), .val (.int (1 : Int32)), .val (.int (0 : Int32)), .unset]) rfl ?_
    show Stp p e below T2 m 97 #[.val (.int pi1), .val (.int pi2), .val (.int ((pi1 &&& (2147483647 : Int32)) % (9 : Int32))), .val (.int (1 : Int32)), .val (.ref w_ASC), .val (.ref w_POSTGRESQL), .val (.int (1 : Int32)), .val (.int (0 : Int32)), .unset] [] _
    refine XS.iload X2.here hx rfl (hb hby at_97) rfl ?_
    show Stp p e below T2 m 99 #[.val (.int pi1), .val (.int pi2), .val (.int ((pi1 &&& (2147483647 : Int32)) % (9 : Int32))), .val (.int (1 : Int32)), .val (.ref w_ASC), .val (.ref w_POSTGRESQL), .val (.int (1 : Int32)), .val (.int (0 : Int32)), .unset] [(.int (1 : Int32))] _
    refine XS.ifNo X2.here hx rfl (hb hby at_99) rfl ((if0 _ _).trans (feq (by decide : ¬ ((1 : Int32) = (0 : Int32)))).1) ?_
    show Stp p e below T2 m 102 #[.val (.int pi1), .val (.int pi2), .val (.int ((pi1 &&& (2147483647 : Int32)) % (9 : Int32))), .val (.int (1 : Int32)), .val (.ref w_ASC), .val (.ref w_POSTGRESQL), .val (.int (1 : Int32)), .val (.int (0 : Int32)), .unset] [] _
    refine XS.iloadN X2.here hx rfl (hb hby at_102) rfl ?_
    show Stp p e below T2 m 103 #[.val (.int pi1), .val (.int pi2), .val (.int ((pi1 &&& (2147483647 : Int32)) % (9 : Int32))), .val (.int (1 : Int32)), .val (.ref w_ASC), .val (.ref w_POSTGRESQL), .val (.int (1 : Int32)), .val (.int (0 : Int32)), .unset] [(.int (1 : Int32))] _
    refine XS.istore X2.here hx rfl (hb hby at_103) rfl (l' := #[.val (.int pi1), .val (.int pi2), .val (.int ((pi1 &&& (2147483647 : Int32)) % (9 : Int32))), .val (.int (1 : Int32)), .val (.ref w_ASC), .val (.ref w_POSTGRESQL), .val (.int (1 : Int32)), .val (.int (0 : Int32)), .val (.int (1 : Int32))]) rfl ?_
    show Stp p e below T2 m 105 #[.val (.int pi1), .val (.int pi2), .val (.int ((pi1 &&& (2147483647 : Int32)) % (9 : Int32))), .val (.int (1 : Int32)), .val (.ref w_ASC), .val (.ref w_POSTGRESQL), .val (.int (1 : Int32)), .val (.int (0 : Int32)), .val (.int (1 : Int32))] [] _
    refine XS.goto X2.here hx rfl (pc0 := 105) (pc' := 130) rfl (hb hby at_105) (by decide) (by decide) ?_
    show Stp p e below T2 m 130 #[.val (.int pi1), .val (.int pi2), .val (.int ((pi1 &&& (2147483647 : Int32)) % (9 : Int32))), .val (.int (1 : Int32)), .val (.ref w_ASC), .val (.ref w_POSTGRESQL), .val (.int (1 : Int32)), .val (.int (0 : Int32)), .val (.int (1 : Int32))] [] _
    refine XS.aload X2.here hx rfl (hb hby at_130) rfl rfl ?_
    show Stp p e below T2 m 132 #[.val (.int pi1), .val (.int pi2), .val (.int ((pi1 &&& (2147483647 : Int32)) % (9 : Int32))), .val (.int (1 : Int32)), .val (.ref w_ASC), .val (.ref w_POSTGRESQL), .val (.int (1 : Int32)), .val (.int (0 : Int32)), .val (.int (1 : Int32))] [(.ref w_POSTGRESQL)] _
    refine XS.aload X2.here hx rfl (hb hby at_132) rfl rfl ?_
    show Stp p e below T2 m 134 #[.val (.int pi1), .val (.int pi2), .val (.int ((pi1 &&& (2147483647 : Int32)) % (9 : Int32))), .val (.int (1 : Int32)), .val (.ref w_ASC), .val (.ref w_POSTGRESQL), .val (.int (1 : Int32)), .val (.int (0 : Int32)), .val (.int (1 : Int32))] [(.ref w_ASC), (.ref w_POSTGRESQL)] _
    refine st3.trans ?_
    show Stp p e below T3 m 137 #[.val (.int pi1), .val (.int pi2), .val (.int ((pi1 &&& (2147483647 : Int32)) % (9 : Int32))), .val (.int (1 : Int32)), .val (.ref w_ASC), .val (.ref w_POSTGRESQL), .val (.int (1 : Int32)), .val (.int (0 : Int32)), .val (.int (1 : Int32))] [(.int (1 : Int32))] _
    refine XS.iload X3.here hx rfl (hb hby at_137) rfl ?_
    show Stp p e below T3 m 139 #[.val (.int pi1), .val (.int pi2), .val (.int ((pi1 &&& (2147483647 : Int32)) % (9 : Int32))), .val (.int (1 : Int32)), .val (.ref w_ASC), .val (.ref w_POSTGRESQL), .val (.int (1 : Int32)), .val (.int (0 : Int32)), .val (.int (1 : Int32))] [(.int (1 : Int32)), (.int (1 : Int32))] _
    refine XS.icmpNo X3.here hx rfl (hb hby at_139) rfl (teq (rfl : (1 : Int32) = (1 : Int32))).2 ?_
    show Stp p e below T3 m 142 #[.val (.int pi1), .val (.int pi2), .val (.int ((pi1 &&& (2147483647 : Int32)) % (9 : Int32))), .val (.int (1 : Int32)), .val (.ref w_ASC), .val (.ref w_POSTGRESQL), .val (.int (1 : Int32)), .val (.int (0 : Int32)), .val (.int (1 : Int32))] [] _
    refine XS.iconst X3.here hx rfl (hb hby at_142) ?_
    show Stp p e below T3 m 143 #[.val (.int pi1), .val (.int pi2), .val (.int ((pi1 &&& (2147483647 : Int32)) % (9 : Int32))), .val (.int (1 : Int32)), .val (.ref w_ASC), .val (.ref w_POSTGRESQL), .val (.int (1 : Int32)), .val (.int (0 : Int32)), .val (.int (1 : Int32))] [(.int (1 : Int32))] _
    refine XS.goto X3.here hx rfl (pc0 := 143) (pc' := 147) rfl (hb hby at_143) (by decide) (by decide) ?_
    show Stp p e below T3 m 147 #[.val (.int pi1), .val (.int pi2), .val (.int ((pi1 &&& (2147483647 : Int32)) % (9 : Int32))), .val (.int (1 : Int32)), .val (.ref w_ASC), .val (.ref w_POSTGRESQL), .val (.int (1 : Int32)), .val (.int (0 : Int32)), .val (.int (1 : Int32))] [(.int (1 : Int32))] _
    exact retN X3 hx (t := .boolean) Bd.returns (by simp) (hb hby at_147) hr
  · exact ⟨rfl, N3⟩
set_option maxRecDepth 65536 in
set_option maxHeartbeats 40000000 in
theorem rm0_tft (l : Launch) (Z : State) (a0 : Array Value) (hw : ∀ d ∈ tables_1, d.before a0 Z = true) (ws : List Jvm.Cond) (pi1 : Int32) (pi2 : Int32) (w_HIGH : Addr) (w_LOW : Addr) (w_FIRST : Addr) (w_ASC : Addr) (w_DESC : Addr) (w_POSTGRESQL : Addr) (w_MARIADB : Addr) (w_SQLITE : Addr) (w_H2 : Addr) (w_HSQLDB : Addr) (w_DERBY : Addr) (w_ORACLE : Addr) (w_SQLSERVER : Addr) (w_DB2 : Addr) (h0 : Heap) (n0 : Nat) (Z0 : n0 ≤ h0.size) (O0 : Old Z n0 h0) (S_ASC : Sta Z Z.heap "com/example/leafcount/leafcount/Sort$Direction" "ASC" "Lcom/example/leafcount/leafcount/Sort$Direction;" (.ref w_ASC)) (S_DESC : Sta Z Z.heap "com/example/leafcount/leafcount/Sort$Direction" "DESC" "Lcom/example/leafcount/leafcount/Sort$Direction;" (.ref w_DESC)) (S_POSTGRESQL : Sta Z Z.heap "com/example/leafcount/leafcount/SqlSyntax" "POSTGRESQL" "Lcom/example/leafcount/leafcount/SqlSyntax;" (.ref w_POSTGRESQL)) (S_MARIADB : Sta Z Z.heap "com/example/leafcount/leafcount/SqlSyntax" "MARIADB" "Lcom/example/leafcount/leafcount/SqlSyntax;" (.ref w_MARIADB)) (S_SQLITE : Sta Z Z.heap "com/example/leafcount/leafcount/SqlSyntax" "SQLITE" "Lcom/example/leafcount/leafcount/SqlSyntax;" (.ref w_SQLITE)) (S_H2 : Sta Z Z.heap "com/example/leafcount/leafcount/SqlSyntax" "H2" "Lcom/example/leafcount/leafcount/SqlSyntax;" (.ref w_H2)) (S_HSQLDB : Sta Z Z.heap "com/example/leafcount/leafcount/SqlSyntax" "HSQLDB" "Lcom/example/leafcount/leafcount/SqlSyntax;" (.ref w_HSQLDB)) (S_DERBY : Sta Z Z.heap "com/example/leafcount/leafcount/SqlSyntax" "DERBY" "Lcom/example/leafcount/leafcount/SqlSyntax;" (.ref w_DERBY)) (S_ORACLE : Sta Z Z.heap "com/example/leafcount/leafcount/SqlSyntax" "ORACLE" "Lcom/example/leafcount/leafcount/SqlSyntax;" (.ref w_ORACLE)) (S_SQLSERVER : Sta Z Z.heap "com/example/leafcount/leafcount/SqlSyntax" "SQLSERVER" "Lcom/example/leafcount/leafcount/SqlSyntax;" (.ref w_SQLSERVER)) (S_DB2 : Sta Z Z.heap "com/example/leafcount/leafcount/SqlSyntax" "DB2" "Lcom/example/leafcount/leafcount/SqlSyntax;" (.ref w_DB2)) (E_w_POSTGRESQL : Exa Z Z.heap w_POSTGRESQL "com/example/leafcount/leafcount/SqlSyntax") (E_w_MARIADB : Exa Z Z.heap w_MARIADB "com/example/leafcount/leafcount/SqlSyntax") (E_w_SQLITE : Exa Z Z.heap w_SQLITE "com/example/leafcount/leafcount/SqlSyntax") (E_w_H2 : Exa Z Z.heap w_H2 "com/example/leafcount/leafcount/SqlSyntax") (E_w_HSQLDB : Exa Z Z.heap w_HSQLDB "com/example/leafcount/leafcount/SqlSyntax") (E_w_DERBY : Exa Z Z.heap w_DERBY "com/example/leafcount/leafcount/SqlSyntax") (E_w_ORACLE : Exa Z Z.heap w_ORACLE "com/example/leafcount/leafcount/SqlSyntax") (E_w_SQLSERVER : Exa Z Z.heap w_SQLSERVER "com/example/leafcount/leafcount/SqlSyntax") (E_w_DB2 : Exa Z Z.heap w_DB2 "com/example/leafcount/leafcount/SqlSyntax") (F_nullOrder_w_POSTGRESQL : Fld Z Z.heap w_POSTGRESQL "com/example/leafcount/leafcount/SqlSyntax" "nullOrder" "Lcom/example/leafcount/leafcount/SqlSyntax$NullOrder;" (.ref w_HIGH)) (F_nullOrder_w_MARIADB : Fld Z Z.heap w_MARIADB "com/example/leafcount/leafcount/SqlSyntax" "nullOrder" "Lcom/example/leafcount/leafcount/SqlSyntax$NullOrder;" (.ref w_LOW)) (F_nullOrder_w_SQLITE : Fld Z Z.heap w_SQLITE "com/example/leafcount/leafcount/SqlSyntax" "nullOrder" "Lcom/example/leafcount/leafcount/SqlSyntax$NullOrder;" (.ref w_LOW)) (F_nullOrder_w_H2 : Fld Z Z.heap w_H2 "com/example/leafcount/leafcount/SqlSyntax" "nullOrder" "Lcom/example/leafcount/leafcount/SqlSyntax$NullOrder;" (.ref w_LOW)) (F_nullOrder_w_HSQLDB : Fld Z Z.heap w_HSQLDB "com/example/leafcount/leafcount/SqlSyntax" "nullOrder" "Lcom/example/leafcount/leafcount/SqlSyntax$NullOrder;" (.ref w_FIRST)) (F_nullOrder_w_DERBY : Fld Z Z.heap w_DERBY "com/example/leafcount/leafcount/SqlSyntax" "nullOrder" "Lcom/example/leafcount/leafcount/SqlSyntax$NullOrder;" (.ref w_HIGH)) (F_nullOrder_w_ORACLE : Fld Z Z.heap w_ORACLE "com/example/leafcount/leafcount/SqlSyntax" "nullOrder" "Lcom/example/leafcount/leafcount/SqlSyntax$NullOrder;" (.ref w_HIGH)) (F_nullOrder_w_SQLSERVER : Fld Z Z.heap w_SQLSERVER "com/example/leafcount/leafcount/SqlSyntax" "nullOrder" "Lcom/example/leafcount/leafcount/SqlSyntax$NullOrder;" (.ref w_LOW)) (F_nullOrder_w_DB2 : Fld Z Z.heap w_DB2 "com/example/leafcount/leafcount/SqlSyntax" "nullOrder" "Lcom/example/leafcount/leafcount/SqlSyntax$NullOrder;" (.ref w_HIGH)) (F_last_w_HIGH : Fld Z Z.heap w_HIGH "com/example/leafcount/leafcount/SqlSyntax$NullOrder" "last" "Lcom/example/leafcount/leafcount/Sort$Direction;" (.ref w_ASC)) (F_last_w_LOW : Fld Z Z.heap w_LOW "com/example/leafcount/leafcount/SqlSyntax$NullOrder" "last" "Lcom/example/leafcount/leafcount/Sort$Direction;" (.ref w_DESC)) (F_last_w_FIRST : Fld Z Z.heap w_FIRST "com/example/leafcount/leafcount/SqlSyntax$NullOrder" "last" "Lcom/example/leafcount/leafcount/Sort$Direction;" .null) (hne : w_ASC ≠ w_DESC) (hc11_0 : (pi2 &&& (1 : Int32)) = (0 : Int32)) (hc36_1 : ¬ (((pi1 &&& (2147483647 : Int32)) % (9 : Int32)) = (0 : Int32))) (hc36_2 : ((pi1 &&& (2147483647 : Int32)) % (9 : Int32)) = (1 : Int32)) :
    MetFree l x (head1 (Jvm.Cond.code x code maxLocals ret :: ws) room_1) (fun a U => a = #[(.int pi1), (.int pi2)] ∧ Z.Warmed39 U.vm ∧ U.heap = h0) (fun _ _ _ _ _ => True) (fun _ U o U' => ∃ v L, o = .returned v ∧ Q0 v L n0 ∧ FrameEnd U o U' L room_1.cells room_1.slots) := by
  refine MetFree.of_bodySF (plainFor_of_name pn_0) hisR ?_
  intro p e s m args below meth c s₁ Bd hml0 hP hK
  obtain ⟨rfl, hZ, hh⟩ := hP
  have hx := Bd.exec
  have hby := Bd.bytes
  have hml : c.maxLocals = 9 := hml0
  have hown : s.vm.findClass "com/example/leafcount/leafcount/SqlSyntaxPutsNullLastPinLaw" = some m.cls := findClass_of_methodNamed Bd.named
  have hnm := (name_of_methodNamed Bd.named Bd.method).1
  have X0 : Stand p l e room_1 s m #[(.int pi1), (.int pi2)] below meth c s₁ [] 0 0 := Stand.of_body Bd
  have e0 : s₁.heap = h0 := by rw [← hh, Bd.state]; rfl
  have N0 := Fr.nil n0
  have pre0 : ∀ t, Steps p.tables e below (s₁.setTop (mkF m 0 #[.val (.int pi1), .val (.int pi2), .unset, .unset, .unset, .unset, .unset, .unset, .unset] [])) t → Steps p.tables e below (s₁.setTop (entryFrame m #[(.int pi1), (.int pi2)] maxLocals)) t := fun t k => castTop (ef_0 m pi1 pi2) k
  obtain ⟨T1, X1, e1, st1⟩ := getS2 X0 hx hZ hown (host := "") (Or.inl (own_W hw 25 rfl)) Via.refl e0 (S_ASC.ext O0.2) (g := (mkF m 24 #[.val (.int pi1), .val (.int pi2), .val (.int ((pi1 &&& (2147483647 : Int32)) % (9 : Int32))), .val (.int (1 : Int32)), .unset, .unset, .unset, .unset, .unset] [])) rfl (hb hby at_24)
  obtain ⟨_, _, ⟨T2, L2, k2, n2⟩, -, X2, ⟨Lc2, hQ2, l2, y2, z2⟩, st2⟩ := Jvm.LawKit.callS X1 hx (y := (⟨"com/example/leafcount/leafcount/SqlSyntaxPutsNullLastPinLaw", "pick", "(I)Lcom/example/leafcount/leafcount/SqlSyntax;"⟩ : MethodName)) hown (mvT hZ (own_W hw 4 rfl)) (mvT hZ (own_W hw 5 rfl)) (mvT hZ (own_W hw 6 rfl)) (mvT hZ (own_W hw 7 rfl)) (by decide) (backOf (W := 0) (rm1_1 l Z a0 hw [] ((pi1 &&& (2147483647 : Int32)) % (9 : Int32)) w_MARIADB h0 n0 Z0 O0 S_MARIADB hc36_1 hc36_2) hZ (own_W hw 7 rfl) (own_W hw 6 rfl) (by decide) (by decide)) (g := (mkF m 36 #[.val (.int pi1), .val (.int pi2), .val (.int ((pi1 &&& (2147483647 : Int32)) % (9 : Int32))), .val (.int (1 : Int32)), .val (.ref w_ASC), .unset, .unset, .unset, .unset] [(.int ((pi1 &&& (2147483647 : Int32)) % (9 : Int32)))])) rfl (by rw [hml]; rfl) (argsL := [(.int ((pi1 &&& (2147483647 : Int32)) % (9 : Int32)))]) (rest := []) (lenOf pd_0 rfl) rfl (by show 2 * 0 + _ ≤ _; exact Nat.le_of_eq rfl) (hb hby at_36) (fun _ _ => ⟨rfl, e1, (by decide : 0 + 0 ≤ _), (by decide : 0 + 0 ≤ _)⟩)
  dsimp only [Pt.U, Pt.locs, Pt.cells, Pt.slots] at X2 l2 y2 z2 st2 hQ2
  subst l2 y2 z2
  obtain ⟨rfl, N2q, eq2⟩ := hQ2
  have N2 := Fr.app N0 N2q
  obtain ⟨cq3, kq3, q3a, q3b, q3c⟩ := isOf hZ eq2 (E_w_MARIADB.ext O0.2)
  obtain ⟨_, _, ⟨T3, L3, k3, n3⟩, -, X3, ⟨Lc3, hQ3, l3, y3, z3⟩, st3⟩ := X2.virtualBack hx (y := (⟨"com/example/leafcount/leafcount/SqlSyntax", "putsNullLast", "(Lcom/example/leafcount/leafcount/Sort$Direction;)Z"⟩ : MethodName)) (z := (⟨"com/example/leafcount/leafcount/SqlSyntax", "putsNullLast", "(Lcom/example/leafcount/leafcount/Sort$Direction;)Z"⟩ : MethodName)) hown (mvT hZ (own_W hw 11 rfl)) (mvT hZ (own_W hw 12 rfl)) (notFace_of_selects (args := #[]) (mvT hZ (own_W hw 14 rfl))) (mvT hZ (own_W hw 14 rfl)) (mvT hZ (own_W hw 13 rfl)) (by decide) (backOf (W := 0) (rm2_f l Z a0 hw [] w_MARIADB w_ASC w_LOW w_DESC h0 n0 Z0 O0 (F_nullOrder_w_MARIADB.ext O0.2) (F_last_w_LOW.ext O0.2) (Ne.symm hne)) hZ (own_W hw 15 rfl) (own_W hw 9 rfl) (by decide) (by decide)) q3a q3c (g := (mkF m 134 #[.val (.int pi1), .val (.int pi2), .val (.int ((pi1 &&& (2147483647 : Int32)) % (9 : Int32))), .val (.int (1 : Int32)), .val (.ref w_ASC), .val (.ref w_MARIADB), .val (.int (0 : Int32)), .val (.int (1 : Int32)), .val (.int (0 : Int32))] [(.ref w_ASC), (.ref w_MARIADB)])) rfl (by rw [hml]; rfl) (Steps.refl _) (argsL := [(.ref w_ASC)]) (rest := []) (lenOf pd_1 rfl) rfl (by show 2 * 0 + _ ≤ _; exact Nat.le_of_eq rfl) (hb hby at_134) (fun _ _ => ⟨rfl, eq2, (by decide : 0 + 0 ≤ _), (by decide : 0 + 0 ≤ _)⟩)
  dsimp only [Pt.U, Pt.locs, Pt.cells, Pt.slots] at X3 l3 y3 z3 st3 hQ3
  subst l3 y3 z3
  obtain ⟨rfl, N3q, eq3⟩ := hQ3
  have N3 := Fr.app N2 N3q
  obtain ⟨fs, hr, hrun, hended, hW, hsame⟩ := X3.leave (v := some (.int (1 : Int32))) (fun h => by rw [Bd.returns] at h; cases h)
  refine ⟨_, _, pre0 _ ?_, hrun, hended, _, _, rfl, ?_, ⟨_, rfl⟩, hW, hsame.mono (by decide) (by decide)⟩
  · show Stp p e below s₁ m 0 #[.val (.int pi1), .val (.int pi2), .unset, .unset, .unset, .unset, .unset, .unset, .unset] [] _
    refine XS.iloadN X0.here hx rfl (hb hby at_0) rfl ?_
    show Stp p e below s₁ m 1 #[.val (.int pi1), .val (.int pi2), .unset, .unset, .unset, .unset, .unset, .unset, .unset] [(.int pi1)] _
    refine X0.ldcInt hx hown (mvT hZ (own_W hw 0 rfl)) (g := (mkF m 1 #[.val (.int pi1), .val (.int pi2), .unset, .unset, .unset, .unset, .unset, .unset, .unset] [(.int pi1)])) rfl (hb hby at_1) _ ?_
    show Stp p e below s₁ m 3 #[.val (.int pi1), .val (.int pi2), .unset, .unset, .unset, .unset, .unset, .unset, .unset] [(.int (2147483647 : Int32)), (.int pi1)] _
    refine XS.iand X0.here hx rfl (hb hby at_3) rfl ?_
    show Stp p e below s₁ m 4 #[.val (.int pi1), .val (.int pi2), .unset, .unset, .unset, .unset, .unset, .unset, .unset] [(.int (pi1 &&& (2147483647 : Int32)))] _
    refine XS.bipush X0.here hx rfl (hb hby at_4) ?_
    show Stp p e below s₁ m 6 #[.val (.int pi1), .val (.int pi2), .unset, .unset, .unset, .unset, .unset, .unset, .unset] [(.int (9 : Int32)), (.int (pi1 &&& (2147483647 : Int32)))] _
    refine iremM X0 hx rfl (hb hby at_6) rfl (by decide) ?_
    show Stp p e below s₁ m 7 #[.val (.int pi1), .val (.int pi2), .unset, .unset, .unset, .unset, .unset, .unset, .unset] [(.int ((pi1 &&& (2147483647 : Int32)) % (9 : Int32)))] _
    refine XS.istoreN X0.here hx rfl (hb hby at_7) rfl (l' := #[.val (.int pi1), .val (.int pi2), .val (.int ((pi1 &&& (2147483647 : Int32)) % (9 : Int32))), .unset, .unset, .unset, .unset, .unset, .unset]) rfl ?_
    show Stp p e below s₁ m 8 #[.val (.int pi1), .val (.int pi2), .val (.int ((pi1 &&& (2147483647 : Int32)) % (9 : Int32))), .unset, .unset, .unset, .unset, .unset, .unset] [] _
    refine XS.iloadN X0.here hx rfl (hb hby at_8) rfl ?_
    show Stp p e below s₁ m 9 #[.val (.int pi1), .val (.int pi2), .val (.int ((pi1 &&& (2147483647 : Int32)) % (9 : Int32))), .unset, .unset, .unset, .unset, .unset, .unset] [(.int pi2)] _
    refine XS.iconst X0.here hx rfl (hb hby at_9) ?_
    show Stp p e below s₁ m 10 #[.val (.int pi1), .val (.int pi2), .val (.int ((pi1 &&& (2147483647 : Int32)) % (9 : Int32))), .unset, .unset, .unset, .unset, .unset, .unset] [(.int (1 : Int32)), (.int pi2)] _
    refine XS.iand X0.here hx rfl (hb hby at_10) rfl ?_
    show Stp p e below s₁ m 11 #[.val (.int pi1), .val (.int pi2), .val (.int ((pi1 &&& (2147483647 : Int32)) % (9 : Int32))), .unset, .unset, .unset, .unset, .unset, .unset] [(.int (pi2 &&& (1 : Int32)))] _
    refine XS.ifNo X0.here hx rfl (hb hby at_11) rfl ((if0 _ _).trans (teq hc11_0).2) ?_
    show Stp p e below s₁ m 14 #[.val (.int pi1), .val (.int pi2), .val (.int ((pi1 &&& (2147483647 : Int32)) % (9 : Int32))), .unset, .unset, .unset, .unset, .unset, .unset] [] _
    refine XS.iconst X0.here hx rfl (hb hby at_14) ?_
    show Stp p e below s₁ m 15 #[.val (.int pi1), .val (.int pi2), .val (.int ((pi1 &&& (2147483647 : Int32)) % (9 : Int32))), .unset, .unset, .unset, .unset, .unset, .unset] [(.int (1 : Int32))] _
    refine XS.goto X0.here hx rfl (pc0 := 15) (pc' := 19) rfl (hb hby at_15) (by decide) (by decide) ?_
    show Stp p e below s₁ m 19 #[.val (.int pi1), .val (.int pi2), .val (.int ((pi1 &&& (2147483647 : Int32)) % (9 : Int32))), .unset, .unset, .unset, .unset, .unset, .unset] [(.int (1 : Int32))] _
    refine XS.istoreN X0.here hx rfl (hb hby at_19) rfl (l' := #[.val (.int pi1), .val (.int pi2), .val (.int ((pi1 &&& (2147483647 : Int32)) % (9 : Int32))), .val (.int (1 : Int32)), .unset, .unset, .unset, .unset, .unset]) rfl ?_
    show Stp p e below s₁ m 20 #[.val (.int pi1), .val (.int pi2), .val (.int ((pi1 &&& (2147483647 : Int32)) % (9 : Int32))), .val (.int (1 : Int32)), .unset, .unset, .unset, .unset, .unset] [] _
    refine XS.iloadN X0.here hx rfl (hb hby at_20) rfl ?_
    show Stp p e below s₁ m 21 #[.val (.int pi1), .val (.int pi2), .val (.int ((pi1 &&& (2147483647 : Int32)) % (9 : Int32))), .val (.int (1 : Int32)), .unset, .unset, .unset, .unset, .unset] [(.int (1 : Int32))] _
    refine XS.ifNo X0.here hx rfl (hb hby at_21) rfl ((if0 _ _).trans (feq (by decide : ¬ ((1 : Int32) = (0 : Int32)))).1) ?_
    show Stp p e below s₁ m 24 #[.val (.int pi1), .val (.int pi2), .val (.int ((pi1 &&& (2147483647 : Int32)) % (9 : Int32))), .val (.int (1 : Int32)), .unset, .unset, .unset, .unset, .unset] [] _
    refine st1 _ ?_
    show Stp p e below T1 m 27 #[.val (.int pi1), .val (.int pi2), .val (.int ((pi1 &&& (2147483647 : Int32)) % (9 : Int32))), .val (.int (1 : Int32)), .unset, .unset, .unset, .unset, .unset] [(.ref w_ASC)] _
    refine XS.goto X1.here hx rfl (pc0 := 27) (pc' := 33) rfl (hb hby at_27) (by decide) (by decide) ?_
    show Stp p e below T1 m 33 #[.val (.int pi1), .val (.int pi2), .val (.int ((pi1 &&& (2147483647 : Int32)) % (9 : Int32))), .val (.int (1 : Int32)), .unset, .unset, .unset, .unset, .unset] [(.ref w_ASC)] _
    refine XS.astore X1.here hx rfl (hb hby at_33) rfl rfl (l' := #[.val (.int pi1), .val (.int pi2), .val (.int ((pi1 &&& (2147483647 : Int32)) % (9 : Int32))), .val (.int (1 : Int32)), .val (.ref w_ASC), .unset, .unset, .unset, .unset]) rfl ?_
    show Stp p e below T1 m 35 #[.val (.int pi1), .val (.int pi2), .val (.int ((pi1 &&& (2147483647 : Int32)) % (9 : Int32))), .val (.int (1 : Int32)), .val (.ref w_ASC), .unset, .unset, .unset, .unset] [] _
    refine XS.iloadN X1.here hx rfl (hb hby at_35) rfl ?_
    show Stp p e below T1 m 36 #[.val (.int pi1), .val (.int pi2), .val (.int ((pi1 &&& (2147483647 : Int32)) % (9 : Int32))), .val (.int (1 : Int32)), .val (.ref w_ASC), .unset, .unset, .unset, .unset] [(.int ((pi1 &&& (2147483647 : Int32)) % (9 : Int32)))] _
    refine st2 _ ?_
    show Stp p e below T2 m 39 #[.val (.int pi1), .val (.int pi2), .val (.int ((pi1 &&& (2147483647 : Int32)) % (9 : Int32))), .val (.int (1 : Int32)), .val (.ref w_ASC), .unset, .unset, .unset, .unset] [(.ref w_MARIADB)] _
    refine XS.astore X2.here hx rfl (hb hby at_39) rfl rfl (l' := #[.val (.int pi1), .val (.int pi2), .val (.int ((pi1 &&& (2147483647 : Int32)) % (9 : Int32))), .val (.int (1 : Int32)), .val (.ref w_ASC), .val (.ref w_MARIADB), .unset, .unset, .unset]) rfl ?_
    show Stp p e below T2 m 41 #[.val (.int pi1), .val (.int pi2), .val (.int ((pi1 &&& (2147483647 : Int32)) % (9 : Int32))), .val (.int (1 : Int32)), .val (.ref w_ASC), .val (.ref w_MARIADB), .unset, .unset, .unset] [] _
    refine XS.iloadN X2.here hx rfl (hb hby at_41) rfl ?_
    show Stp p e below T2 m 42 #[.val (.int pi1), .val (.int pi2), .val (.int ((pi1 &&& (2147483647 : Int32)) % (9 : Int32))), .val (.int (1 : Int32)), .val (.ref w_ASC), .val (.ref w_MARIADB), .unset, .unset, .unset] [(.int ((pi1 &&& (2147483647 : Int32)) % (9 : Int32)))] _
    refine XS.ifNo X2.here hx rfl (hb hby at_42) rfl ((if0 _ _).trans (feq hc36_1).1) ?_
    show Stp p e below T2 m 45 #[.val (.int pi1), .val (.int pi2), .val (.int ((pi1 &&& (2147483647 : Int32)) % (9 : Int32))), .val (.int (1 : Int32)), .val (.ref w_ASC), .val (.ref w_MARIADB), .unset, .unset, .unset] [] _
    refine XS.iloadN X2.here hx rfl (hb hby at_45) rfl ?_
    show Stp p e below T2 m 46 #[.val (.int pi1), .val (.int pi2), .val (.int ((pi1 &&& (2147483647 : Int32)) % (9 : Int32))), .val (.int (1 : Int32)), .val (.ref w_ASC), .val (.ref w_MARIADB), .unset, .unset, .unset] [(.int ((pi1 &&& (2147483647 : Int32)) % (9 : Int32)))] _
    refine XS.iconst X2.here hx rfl (hb hby at_46) ?_
    show Stp p e below T2 m 47 #[.val (.int pi1), .val (.int pi2), .val (.int ((pi1 &&& (2147483647 : Int32)) % (9 : Int32))), .val (.int (1 : Int32)), .val (.ref w_ASC), .val (.ref w_MARIADB), .unset, .unset, .unset] [(.int (5 : Int32)), (.int ((pi1 &&& (2147483647 : Int32)) % (9 : Int32)))] _
    refine XS.icmpNo X2.here hx rfl (hb hby at_47) rfl (feq (fun q => absurd (hc36_2.symm.trans q) (by decide))).1 ?_
    show Stp p e below T2 m 50 #[.val (.int pi1), .val (.int pi2), .val (.int ((pi1 &&& (2147483647 : Int32)) % (9 : Int32))), .val (.int (1 : Int32)), .val (.ref w_ASC), .val (.ref w_MARIADB), .unset, .unset, .unset] [] _
    refine XS.iloadN X2.here hx rfl (hb hby at_50) rfl ?_
    show Stp p e below T2 m 51 #[.val (.int pi1), .val (.int pi2), .val (.int ((pi1 &&& (2147483647 : Int32)) % (9 : Int32))), .val (.int (1 : Int32)), .val (.ref w_ASC), .val (.ref w_MARIADB), .unset, .unset, .unset] [(.int ((pi1 &&& (2147483647 : Int32)) % (9 : Int32)))] _
    refine XS.bipush X2.here hx rfl (hb hby at_51) ?_
    show Stp p e below T2 m 53 #[.val (.int pi1), .val (.int pi2), .val (.int ((pi1 &&& (2147483647 : Int32)) % (9 : Int32))), .val (.int (1 : Int32)), .val (.ref w_ASC), .val (.ref w_MARIADB), .unset, .unset, .unset] [(.int (6 : Int32)), (.int ((pi1 &&& (2147483647 : Int32)) % (9 : Int32)))] _
    refine XS.icmpNo X2.here hx rfl (hb hby at_53) rfl (feq (fun q => absurd (hc36_2.symm.trans q) (by decide))).1 ?_
    show Stp p e below T2 m 56 #[.val (.int pi1), .val (.int pi2), .val (.int ((pi1 &&& (2147483647 : Int32)) % (9 : Int32))), .val (.int (1 : Int32)), .val (.ref w_ASC), .val (.ref w_MARIADB), .unset, .unset, .unset] [] _
    refine XS.iloadN X2.here hx rfl (hb hby at_56) rfl ?_
    show Stp p e below T2 m 57 #[.val (.int pi1), .val (.int pi2), .val (.int ((pi1 &&& (2147483647 : Int32)) % (9 : Int32))), .val (.int (1 : Int32)), .val (.ref w_ASC), .val (.ref w_MARIADB), .unset, .unset, .unset] [(.int ((pi1 &&& (2147483647 : Int32)) % (9 : Int32)))] _
    refine XS.bipush X2.here hx rfl (hb hby at_57) ?_
    show Stp p e below T2 m 59 #[.val (.int pi1), .val (.int pi2), .val (.int ((pi1 &&& (2147483647 : Int32)) % (9 : Int32))), .val (.int (1 : Int32)), .val (.ref w_ASC), .val (.ref w_MARIADB), .unset, .unset, .unset] [(.int (8 : Int32)), (.int ((pi1 &&& (2147483647 : Int32)) % (9 : Int32)))] _
    refine XS.icmpYes X2.here hx rfl (pc0 := 59) (pc' := 66) rfl (hb hby at_59) rfl (feq (fun q => absurd (hc36_2.symm.trans q) (by decide))).2 (by decide) (by decide) ?_
    show Stp p e below T2 m 66 #[.val (.int pi1), .val (.int pi2), .val (.int ((pi1 &&& (2147483647 : Int32)) % (9 : Int32))), .val (.int (1 : Int32)), .val (.ref w_ASC), .val (.ref w_MARIADB), .unset, .unset, .unset] [] _
    refine XS.iconst X2.here hx rfl (hb hby at_66) ?_
    show Stp p e below T2 m 67 #[.val (.int pi1), .val (.int pi2), .val (.int ((pi1 &&& (2147483647 : Int32)) % (9 : Int32))), .val (.int (1 : Int32)), .val (.ref w_ASC), .val (.ref w_MARIADB), .unset, .unset, .unset] [(.int (0 : Int32))] _
    refine XS.istore X2.here hx rfl (hb hby at_67) rfl (l' := #[.val (.int pi1), .val (.int pi2), .val (.int ((pi1 &&& (2147483647 : Int32)) % (9 : Int32))), .val (.int (1 : Int32)), .val (.ref w_ASC), .val (.ref w_MARIADB), .val (.int (0 : Int32)), .unset, .unset]) rfl ?_
    show Stp p e below T2 m 69 #[.val (.int pi1), .val (.int pi2), .val (.int ((pi1 &&& (2147483647 : Int32)) % (9 : Int32))), .val (.int (1 : Int32)), .val (.ref w_ASC), .val (.ref w_MARIADB), .val (.int (0 : Int32)), .unset, .unset] [] _
    refine XS.iloadN X2.here hx rfl (hb hby at_69) rfl ?_
    show Stp p e below T2 m 70 #[.val (.int pi1), .val (.int pi2), .val (.int ((pi1 &&& (2147483647 : Int32)) % (9 : Int32))), .val (.int (1 : Int32)), .val (.ref w_ASC), .val (.ref w_MARIADB), .val (.int (0 : Int32)), .unset, .unset] [(.int ((pi1 &&& (2147483647 : Int32)) % (9 : Int32)))] _
    refine XS.iconst X2.here hx rfl (hb hby at_70) ?_
    show Stp p e below T2 m 71 #[.val (.int pi1), .val (.int pi2), .val (.int ((pi1 &&& (2147483647 : Int32)) % (9 : Int32))), .val (.int (1 : Int32)), .val (.ref w_ASC), .val (.ref w_MARIADB), .val (.int (0 : Int32)), .unset, .unset] [(.int (1 : Int32)), (.int ((pi1 &&& (2147483647 : Int32)) % (9 : Int32)))] _
    refine XS.icmpYes X2.here hx rfl (pc0 := 71) (pc' := 90) rfl (hb hby at_71) rfl (teq hc36_2).1 (by decide) (by decide) ?_
    show Stp p e below T2 m 90 #[.val (.int pi1), .val (.int pi2), .val (.int ((pi1 &&& (2147483647 : Int32)) % (9 : Int32))), .val (.int (1 : Int32)), .val (.ref w_ASC), .val (.ref w_MARIADB), .val (.int (0 : Int32)), .unset, .unset] [] _
    refine XS.iconst X2.here hx rfl (hb hby at_90) ?_
    show Stp p e below T2 m 91 #[.val (.int pi1), .val (.int pi2), .val (.int ((pi1 &&& (2147483647 : Int32)) % (9 : Int32))), .val (.int (1 : Int32)), .val (.ref w_ASC), .val (.ref w_MARIADB), .val (.int (0 : Int32)), .unset, .unset] [(.int (1 : Int32))] _
    refine XS.goto X2.here hx rfl (pc0 := 91) (pc' := 95) rfl (hb hby at_91) (by decide) (by decide) ?_
    show Stp p e below T2 m 95 #[.val (.int pi1), .val (.int pi2), .val (.int ((pi1 &&& (2147483647 : Int32)) % (9 : Int32))), .val (.int (1 : Int32)), .val (.ref w_ASC), .val (.ref w_MARIADB), .val (.int (0 : Int32)), .unset, .unset] [(.int (1 : Int32))] _
    refine XS.istore X2.here hx rfl (hb hby at_95) rfl (l' := #[.val (.int pi1), .val (.int pi2), .val (.int ((pi1 &&& (2147483647 : Int32)) % (9 : Int32))), .val (.int (1 : Int32)), .val (.ref w_ASC), .val (.ref w_MARIADB), .val (.int (0 : Int32)), .val (.int (1 : Int32)), .unset]) rfl ?_
    show Stp p e below T2 m 97 #[.val (.int pi1), .val (.int pi2), .val (.int ((pi1 &&& (2147483647 : Int32)) % (9 : Int32))), .val (.int (1 : Int32)), .val (.ref w_ASC), .val (.ref w_MARIADB), .val (.int (0 : Int32)), .val (.int (1 : Int32)), .unset] [] _
    refine XS.iload X2.here hx rfl (hb hby at_97) rfl ?_
    show Stp p e below T2 m 99 #[.val (.int pi1), .val (.int pi2), .val (.int ((pi1 &&& (2147483647 : Int32)) % (9 : Int32))), .val (.int (1 : Int32)), .val (.ref w_ASC), .val (.ref w_MARIADB), .val (.int (0 : Int32)), .val (.int (1 : Int32)), .unset] [(.int (0 : Int32))] _
    refine XS.ifYes X2.here hx rfl (pc0 := 99) (pc' := 108) rfl (hb hby at_99) rfl ((if0 _ _).trans (teq (rfl : (0 : Int32) = (0 : Int32))).1) (by decide) (by decide) ?_
    show Stp p e below T2 m 108 #[.val (.int pi1), .val (.int pi2), .val (.int ((pi1 &&& (2147483647 : Int32)) % (9 : Int32))), .val (.int (1 : Int32)), .val (.ref w_ASC), .val (.ref w_MARIADB), .val (.int (0 : Int32)), .val (.int (1 : Int32)), .unset] [] _
    refine XS.iload X2.here hx rfl (hb hby at_108) rfl ?_
    show Stp p e below T2 m 110 #[.val (.int pi1), .val (.int pi2), .val (.int ((pi1 &&& (2147483647 : Int32)) % (9 : Int32))), .val (.int (1 : Int32)), .val (.ref w_ASC), .val (.ref w_MARIADB), .val (.int (0 : Int32)), .val (.int (1 : Int32)), .unset] [(.int (1 : Int32))] _
    refine XS.ifNo X2.here hx rfl (hb hby at_110) rfl ((if0 _ _).trans (feq (by decide : ¬ ((1 : Int32) = (0 : Int32)))).1) ?_
    show Stp p e below T2 m 113 #[.val (.int pi1), .val (.int pi2), .val (.int ((pi1 &&& (2147483647 : Int32)) % (9 : Int32))), .val (.int (1 : Int32)), .val (.ref w_ASC), .val (.ref w_MARIADB), .val (.int (0 : Int32)), .val (.int (1 : Int32)), .unset] [] _
    refine XS.iloadN X2.here hx rfl (hb hby at_113) rfl ?_
    show Stp p e below T2 m 114 #[.val (.int pi1), .val (.int pi2), .val (.int ((pi1 &&& (2147483647 : Int32)) % (9 : Int32))), .val (.int (1 : Int32)), .val (.ref w_ASC), .val (.ref w_MARIADB), .val (.int (0 : Int32)), .val (.int (1 : Int32)), .unset] [(.int (1 : Int32))] _
    refine XS.ifYes X2.here hx rfl (pc0 := 114) (pc' := 121) rfl (hb hby at_114) rfl ((if0 _ _).trans (feq (by decide : ¬ ((1 : Int32) = (0 : Int32)))).2) (by decide) (by decide) ?_
    show Stp p e below T2 m 121 #[.val (.int pi1), .val (.int pi2), .val (.int ((pi1 &&& (2147483647 : Int32)) % (9 : Int32))), .val (.int (1 : Int32)), .val (.ref w_ASC), .val (.ref w_MARIADB), .val (.int (0 : Int32)), .val (.int (1 : Int32)), .unset] [] _
    refine XS.iconst X2.here hx rfl (hb hby at_121) ?_
    show Stp p e below T2 m 122 #[.val (.int pi1), .val (.int pi2), .val (.int ((pi1 &&& (2147483647 : Int32)) % (9 : Int32))), .val (.int (1 : Int32)), .val (.ref w_ASC), .val (.ref w_MARIADB), .val (.int (0 : Int32)), .val (.int (1 : Int32)), .unset] [(.int (0 : Int32))] _
    refine XS.istore X2.here hx rfl (hb hby at_122) rfl (l' := #[.val (.int pi1), .val (.int pi2), .val (.int ((pi1 &&& (2147483647 : Int32)) % (9 : Int32))), .val (.int (1 : Int32)), .val (.ref w_ASC), .val (.ref w_MARIADB), .val (.int (0 : Int32)), .val (.int (1 : Int32)), .val (.int (0 : Int32))]) rfl ?_
    show Stp p e below T2 m 124 #[.val (.int pi1), .val (.int pi2), .val (.int ((pi1 &&& (2147483647 : Int32)) % (9 : Int32))), .val (.int (1 : Int32)), .val (.ref w_ASC), .val (.ref w_MARIADB), .val (.int (0 : Int32)), .val (.int (1 : Int32)), .val (.int (0 : Int32))] [] _
    refine XS.goto X2.here hx rfl (pc0 := 124) (pc' := 130) rfl (hb hby at_124) (by decide) (by decide) ?_
    show Stp p e below T2 m 130 #[.val (.int pi1), .val (.int pi2), .val (.int ((pi1 &&& (2147483647 : Int32)) % (9 : Int32))), .val (.int (1 : Int32)), .val (.ref w_ASC), .val (.ref w_MARIADB), .val (.int (0 : Int32)), .val (.int (1 : Int32)), .val (.int (0 : Int32))] [] _
    refine XS.aload X2.here hx rfl (hb hby at_130) rfl rfl ?_
    show Stp p e below T2 m 132 #[.val (.int pi1), .val (.int pi2), .val (.int ((pi1 &&& (2147483647 : Int32)) % (9 : Int32))), .val (.int (1 : Int32)), .val (.ref w_ASC), .val (.ref w_MARIADB), .val (.int (0 : Int32)), .val (.int (1 : Int32)), .val (.int (0 : Int32))] [(.ref w_MARIADB)] _
    refine XS.aload X2.here hx rfl (hb hby at_132) rfl rfl ?_
    show Stp p e below T2 m 134 #[.val (.int pi1), .val (.int pi2), .val (.int ((pi1 &&& (2147483647 : Int32)) % (9 : Int32))), .val (.int (1 : Int32)), .val (.ref w_ASC), .val (.ref w_MARIADB), .val (.int (0 : Int32)), .val (.int (1 : Int32)), .val (.int (0 : Int32))] [(.ref w_ASC), (.ref w_MARIADB)] _
    refine st3.trans ?_
    show Stp p e below T3 m 137 #[.val (.int pi1), .val (.int pi2), .val (.int ((pi1 &&& (2147483647 : Int32)) % (9 : Int32))), .val (.int (1 : Int32)), .val (.ref w_ASC), .val (.ref w_MARIADB), .val (.int (0 : Int32)), .val (.int (1 : Int32)), .val (.int (0 : Int32))] [(.int (0 : Int32))] _
    refine XS.iload X3.here hx rfl (hb hby at_137) rfl ?_
    show Stp p e below T3 m 139 #[.val (.int pi1), .val (.int pi2), .val (.int ((pi1 &&& (2147483647 : Int32)) % (9 : Int32))), .val (.int (1 : Int32)), .val (.ref w_ASC), .val (.ref w_MARIADB), .val (.int (0 : Int32)), .val (.int (1 : Int32)), .val (.int (0 : Int32))] [(.int (0 : Int32)), (.int (0 : Int32))] _
    refine XS.icmpNo X3.here hx rfl (hb hby at_139) rfl (teq (rfl : (0 : Int32) = (0 : Int32))).2 ?_
    show Stp p e below T3 m 142 #[.val (.int pi1), .val (.int pi2), .val (.int ((pi1 &&& (2147483647 : Int32)) % (9 : Int32))), .val (.int (1 : Int32)), .val (.ref w_ASC), .val (.ref w_MARIADB), .val (.int (0 : Int32)), .val (.int (1 : Int32)), .val (.int (0 : Int32))] [] _
    refine XS.iconst X3.here hx rfl (hb hby at_142) ?_
    show Stp p e below T3 m 143 #[.val (.int pi1), .val (.int pi2), .val (.int ((pi1 &&& (2147483647 : Int32)) % (9 : Int32))), .val (.int (1 : Int32)), .val (.ref w_ASC), .val (.ref w_MARIADB), .val (.int (0 : Int32)), .val (.int (1 : Int32)), .val (.int (0 : Int32))] [(.int (1 : Int32))] _
    refine XS.goto X3.here hx rfl (pc0 := 143) (pc' := 147) rfl (hb hby at_143) (by decide) (by decide) ?_
    show Stp p e below T3 m 147 #[.val (.int pi1), .val (.int pi2), .val (.int ((pi1 &&& (2147483647 : Int32)) % (9 : Int32))), .val (.int (1 : Int32)), .val (.ref w_ASC), .val (.ref w_MARIADB), .val (.int (0 : Int32)), .val (.int (1 : Int32)), .val (.int (0 : Int32))] [(.int (1 : Int32))] _
    exact retN X3 hx (t := .boolean) Bd.returns (by simp) (hb hby at_147) hr
  · exact ⟨rfl, N3⟩
set_option maxRecDepth 65536 in
set_option maxHeartbeats 40000000 in
theorem rm0_tfft (l : Launch) (Z : State) (a0 : Array Value) (hw : ∀ d ∈ tables_1, d.before a0 Z = true) (ws : List Jvm.Cond) (pi1 : Int32) (pi2 : Int32) (w_HIGH : Addr) (w_LOW : Addr) (w_FIRST : Addr) (w_ASC : Addr) (w_DESC : Addr) (w_POSTGRESQL : Addr) (w_MARIADB : Addr) (w_SQLITE : Addr) (w_H2 : Addr) (w_HSQLDB : Addr) (w_DERBY : Addr) (w_ORACLE : Addr) (w_SQLSERVER : Addr) (w_DB2 : Addr) (h0 : Heap) (n0 : Nat) (Z0 : n0 ≤ h0.size) (O0 : Old Z n0 h0) (S_ASC : Sta Z Z.heap "com/example/leafcount/leafcount/Sort$Direction" "ASC" "Lcom/example/leafcount/leafcount/Sort$Direction;" (.ref w_ASC)) (S_DESC : Sta Z Z.heap "com/example/leafcount/leafcount/Sort$Direction" "DESC" "Lcom/example/leafcount/leafcount/Sort$Direction;" (.ref w_DESC)) (S_POSTGRESQL : Sta Z Z.heap "com/example/leafcount/leafcount/SqlSyntax" "POSTGRESQL" "Lcom/example/leafcount/leafcount/SqlSyntax;" (.ref w_POSTGRESQL)) (S_MARIADB : Sta Z Z.heap "com/example/leafcount/leafcount/SqlSyntax" "MARIADB" "Lcom/example/leafcount/leafcount/SqlSyntax;" (.ref w_MARIADB)) (S_SQLITE : Sta Z Z.heap "com/example/leafcount/leafcount/SqlSyntax" "SQLITE" "Lcom/example/leafcount/leafcount/SqlSyntax;" (.ref w_SQLITE)) (S_H2 : Sta Z Z.heap "com/example/leafcount/leafcount/SqlSyntax" "H2" "Lcom/example/leafcount/leafcount/SqlSyntax;" (.ref w_H2)) (S_HSQLDB : Sta Z Z.heap "com/example/leafcount/leafcount/SqlSyntax" "HSQLDB" "Lcom/example/leafcount/leafcount/SqlSyntax;" (.ref w_HSQLDB)) (S_DERBY : Sta Z Z.heap "com/example/leafcount/leafcount/SqlSyntax" "DERBY" "Lcom/example/leafcount/leafcount/SqlSyntax;" (.ref w_DERBY)) (S_ORACLE : Sta Z Z.heap "com/example/leafcount/leafcount/SqlSyntax" "ORACLE" "Lcom/example/leafcount/leafcount/SqlSyntax;" (.ref w_ORACLE)) (S_SQLSERVER : Sta Z Z.heap "com/example/leafcount/leafcount/SqlSyntax" "SQLSERVER" "Lcom/example/leafcount/leafcount/SqlSyntax;" (.ref w_SQLSERVER)) (S_DB2 : Sta Z Z.heap "com/example/leafcount/leafcount/SqlSyntax" "DB2" "Lcom/example/leafcount/leafcount/SqlSyntax;" (.ref w_DB2)) (E_w_POSTGRESQL : Exa Z Z.heap w_POSTGRESQL "com/example/leafcount/leafcount/SqlSyntax") (E_w_MARIADB : Exa Z Z.heap w_MARIADB "com/example/leafcount/leafcount/SqlSyntax") (E_w_SQLITE : Exa Z Z.heap w_SQLITE "com/example/leafcount/leafcount/SqlSyntax") (E_w_H2 : Exa Z Z.heap w_H2 "com/example/leafcount/leafcount/SqlSyntax") (E_w_HSQLDB : Exa Z Z.heap w_HSQLDB "com/example/leafcount/leafcount/SqlSyntax") (E_w_DERBY : Exa Z Z.heap w_DERBY "com/example/leafcount/leafcount/SqlSyntax") (E_w_ORACLE : Exa Z Z.heap w_ORACLE "com/example/leafcount/leafcount/SqlSyntax") (E_w_SQLSERVER : Exa Z Z.heap w_SQLSERVER "com/example/leafcount/leafcount/SqlSyntax") (E_w_DB2 : Exa Z Z.heap w_DB2 "com/example/leafcount/leafcount/SqlSyntax") (F_nullOrder_w_POSTGRESQL : Fld Z Z.heap w_POSTGRESQL "com/example/leafcount/leafcount/SqlSyntax" "nullOrder" "Lcom/example/leafcount/leafcount/SqlSyntax$NullOrder;" (.ref w_HIGH)) (F_nullOrder_w_MARIADB : Fld Z Z.heap w_MARIADB "com/example/leafcount/leafcount/SqlSyntax" "nullOrder" "Lcom/example/leafcount/leafcount/SqlSyntax$NullOrder;" (.ref w_LOW)) (F_nullOrder_w_SQLITE : Fld Z Z.heap w_SQLITE "com/example/leafcount/leafcount/SqlSyntax" "nullOrder" "Lcom/example/leafcount/leafcount/SqlSyntax$NullOrder;" (.ref w_LOW)) (F_nullOrder_w_H2 : Fld Z Z.heap w_H2 "com/example/leafcount/leafcount/SqlSyntax" "nullOrder" "Lcom/example/leafcount/leafcount/SqlSyntax$NullOrder;" (.ref w_LOW)) (F_nullOrder_w_HSQLDB : Fld Z Z.heap w_HSQLDB "com/example/leafcount/leafcount/SqlSyntax" "nullOrder" "Lcom/example/leafcount/leafcount/SqlSyntax$NullOrder;" (.ref w_FIRST)) (F_nullOrder_w_DERBY : Fld Z Z.heap w_DERBY "com/example/leafcount/leafcount/SqlSyntax" "nullOrder" "Lcom/example/leafcount/leafcount/SqlSyntax$NullOrder;" (.ref w_HIGH)) (F_nullOrder_w_ORACLE : Fld Z Z.heap w_ORACLE "com/example/leafcount/leafcount/SqlSyntax" "nullOrder" "Lcom/example/leafcount/leafcount/SqlSyntax$NullOrder;" (.ref w_HIGH)) (F_nullOrder_w_SQLSERVER : Fld Z Z.heap w_SQLSERVER "com/example/leafcount/leafcount/SqlSyntax" "nullOrder" "Lcom/example/leafcount/leafcount/SqlSyntax$NullOrder;" (.ref w_LOW)) (F_nullOrder_w_DB2 : Fld Z Z.heap w_DB2 "com/example/leafcount/leafcount/SqlSyntax" "nullOrder" "Lcom/example/leafcount/leafcount/SqlSyntax$NullOrder;" (.ref w_HIGH)) (F_last_w_HIGH : Fld Z Z.heap w_HIGH "com/example/leafcount/leafcount/SqlSyntax$NullOrder" "last" "Lcom/example/leafcount/leafcount/Sort$Direction;" (.ref w_ASC)) (F_last_w_LOW : Fld Z Z.heap w_LOW "com/example/leafcount/leafcount/SqlSyntax$NullOrder" "last" "Lcom/example/leafcount/leafcount/Sort$Direction;" (.ref w_DESC)) (F_last_w_FIRST : Fld Z Z.heap w_FIRST "com/example/leafcount/leafcount/SqlSyntax$NullOrder" "last" "Lcom/example/leafcount/leafcount/Sort$Direction;" .null) (hne : w_ASC ≠ w_DESC) (hc11_0 : (pi2 &&& (1 : Int32)) = (0 : Int32)) (hc36_1 : ¬ (((pi1 &&& (2147483647 : Int32)) % (9 : Int32)) = (0 : Int32))) (hc36_2 : ¬ (((pi1 &&& (2147483647 : Int32)) % (9 : Int32)) = (1 : Int32))) (hc36_3 : ((pi1 &&& (2147483647 : Int32)) % (9 : Int32)) = (2 : Int32)) :
    MetFree l x (head1 (Jvm.Cond.code x code maxLocals ret :: ws) room_1) (fun a U => a = #[(.int pi1), (.int pi2)] ∧ Z.Warmed39 U.vm ∧ U.heap = h0) (fun _ _ _ _ _ => True) (fun _ U o U' => ∃ v L, o = .returned v ∧ Q0 v L n0 ∧ FrameEnd U o U' L room_1.cells room_1.slots) := by
  refine MetFree.of_bodySF (plainFor_of_name pn_0) hisR ?_
  intro p e s m args below meth c s₁ Bd hml0 hP hK
  obtain ⟨rfl, hZ, hh⟩ := hP
  have hx := Bd.exec
  have hby := Bd.bytes
  have hml : c.maxLocals = 9 := hml0
  have hown : s.vm.findClass "com/example/leafcount/leafcount/SqlSyntaxPutsNullLastPinLaw" = some m.cls := findClass_of_methodNamed Bd.named
  have hnm := (name_of_methodNamed Bd.named Bd.method).1
  have X0 : Stand p l e room_1 s m #[(.int pi1), (.int pi2)] below meth c s₁ [] 0 0 := Stand.of_body Bd
  have e0 : s₁.heap = h0 := by rw [← hh, Bd.state]; rfl
  have N0 := Fr.nil n0
  have pre0 : ∀ t, Steps p.tables e below (s₁.setTop (mkF m 0 #[.val (.int pi1), .val (.int pi2), .unset, .unset, .unset, .unset, .unset, .unset, .unset] [])) t → Steps p.tables e below (s₁.setTop (entryFrame m #[(.int pi1), (.int pi2)] maxLocals)) t := fun t k => castTop (ef_0 m pi1 pi2) k
  obtain ⟨T1, X1, e1, st1⟩ := getS2 X0 hx hZ hown (host := "") (Or.inl (own_W hw 25 rfl)) Via.refl e0 (S_ASC.ext O0.2) (g := (mkF m 24 #[.val (.int pi1), .val (.int pi2), .val (.int ((pi1 &&& (2147483647 : Int32)) % (9 : Int32))), .val (.int (1 : Int32)), .unset, .unset, .unset, .unset, .unset] [])) rfl (hb hby at_24)
  obtain ⟨_, _, ⟨T2, L2, k2, n2⟩, -, X2, ⟨Lc2, hQ2, l2, y2, z2⟩, st2⟩ := Jvm.LawKit.callS X1 hx (y := (⟨"com/example/leafcount/leafcount/SqlSyntaxPutsNullLastPinLaw", "pick", "(I)Lcom/example/leafcount/leafcount/SqlSyntax;"⟩ : MethodName)) hown (mvT hZ (own_W hw 4 rfl)) (mvT hZ (own_W hw 5 rfl)) (mvT hZ (own_W hw 6 rfl)) (mvT hZ (own_W hw 7 rfl)) (by decide) (backOf (W := 0) (rm1_2 l Z a0 hw [] ((pi1 &&& (2147483647 : Int32)) % (9 : Int32)) w_SQLITE h0 n0 Z0 O0 S_SQLITE hc36_1 hc36_2 hc36_3) hZ (own_W hw 7 rfl) (own_W hw 6 rfl) (by decide) (by decide)) (g := (mkF m 36 #[.val (.int pi1), .val (.int pi2), .val (.int ((pi1 &&& (2147483647 : Int32)) % (9 : Int32))), .val (.int (1 : Int32)), .val (.ref w_ASC), .unset, .unset, .unset, .unset] [(.int ((pi1 &&& (2147483647 : Int32)) % (9 : Int32)))])) rfl (by rw [hml]; rfl) (argsL := [(.int ((pi1 &&& (2147483647 : Int32)) % (9 : Int32)))]) (rest := []) (lenOf pd_0 rfl) rfl (by show 2 * 0 + _ ≤ _; exact Nat.le_of_eq rfl) (hb hby at_36) (fun _ _ => ⟨rfl, e1, (by decide : 0 + 0 ≤ _), (by decide : 0 + 0 ≤ _)⟩)
  dsimp only [Pt.U, Pt.locs, Pt.cells, Pt.slots] at X2 l2 y2 z2 st2 hQ2
  subst l2 y2 z2
  obtain ⟨rfl, N2q, eq2⟩ := hQ2
  have N2 := Fr.app N0 N2q
  obtain ⟨cq3, kq3, q3a, q3b, q3c⟩ := isOf hZ eq2 (E_w_SQLITE.ext O0.2)
  obtain ⟨_, _, ⟨T3, L3, k3, n3⟩, -, X3, ⟨Lc3, hQ3, l3, y3, z3⟩, st3⟩ := X2.virtualBack hx (y := (⟨"com/example/leafcount/leafcount/SqlSyntax", "putsNullLast", "(Lcom/example/leafcount/leafcount/Sort$Direction;)Z"⟩ : MethodName)) (z := (⟨"com/example/leafcount/leafcount/SqlSyntax", "putsNullLast", "(Lcom/example/leafcount/leafcount/Sort$Direction;)Z"⟩ : MethodName)) hown (mvT hZ (own_W hw 11 rfl)) (mvT hZ (own_W hw 12 rfl)) (notFace_of_selects (args := #[]) (mvT hZ (own_W hw 14 rfl))) (mvT hZ (own_W hw 14 rfl)) (mvT hZ (own_W hw 13 rfl)) (by decide) (backOf (W := 0) (rm2_f l Z a0 hw [] w_SQLITE w_ASC w_LOW w_DESC h0 n0 Z0 O0 (F_nullOrder_w_SQLITE.ext O0.2) (F_last_w_LOW.ext O0.2) (Ne.symm hne)) hZ (own_W hw 15 rfl) (own_W hw 9 rfl) (by decide) (by decide)) q3a q3c (g := (mkF m 134 #[.val (.int pi1), .val (.int pi2), .val (.int ((pi1 &&& (2147483647 : Int32)) % (9 : Int32))), .val (.int (1 : Int32)), .val (.ref w_ASC), .val (.ref w_SQLITE), .val (.int (0 : Int32)), .val (.int (1 : Int32)), .val (.int (0 : Int32))] [(.ref w_ASC), (.ref w_SQLITE)])) rfl (by rw [hml]; rfl) (Steps.refl _) (argsL := [(.ref w_ASC)]) (rest := []) (lenOf pd_1 rfl) rfl (by show 2 * 0 + _ ≤ _; exact Nat.le_of_eq rfl) (hb hby at_134) (fun _ _ => ⟨rfl, eq2, (by decide : 0 + 0 ≤ _), (by decide : 0 + 0 ≤ _)⟩)
  dsimp only [Pt.U, Pt.locs, Pt.cells, Pt.slots] at X3 l3 y3 z3 st3 hQ3
  subst l3 y3 z3
  obtain ⟨rfl, N3q, eq3⟩ := hQ3
  have N3 := Fr.app N2 N3q
  obtain ⟨fs, hr, hrun, hended, hW, hsame⟩ := X3.leave (v := some (.int (1 : Int32))) (fun h => by rw [Bd.returns] at h; cases h)
  refine ⟨_, _, pre0 _ ?_, hrun, hended, _, _, rfl, ?_, ⟨_, rfl⟩, hW, hsame.mono (by decide) (by decide)⟩
  · show Stp p e below s₁ m 0 #[.val (.int pi1), .val (.int pi2), .unset, .unset, .unset, .unset, .unset, .unset, .unset] [] _
    refine XS.iloadN X0.here hx rfl (hb hby at_0) rfl ?_
    show Stp p e below s₁ m 1 #[.val (.int pi1), .val (.int pi2), .unset, .unset, .unset, .unset, .unset, .unset, .unset] [(.int pi1)] _
    refine X0.ldcInt hx hown (mvT hZ (own_W hw 0 rfl)) (g := (mkF m 1 #[.val (.int pi1), .val (.int pi2), .unset, .unset, .unset, .unset, .unset, .unset, .unset] [(.int pi1)])) rfl (hb hby at_1) _ ?_
    show Stp p e below s₁ m 3 #[.val (.int pi1), .val (.int pi2), .unset, .unset, .unset, .unset, .unset, .unset, .unset] [(.int (2147483647 : Int32)), (.int pi1)] _
    refine XS.iand X0.here hx rfl (hb hby at_3) rfl ?_
    show Stp p e below s₁ m 4 #[.val (.int pi1), .val (.int pi2), .unset, .unset, .unset, .unset, .unset, .unset, .unset] [(.int (pi1 &&& (2147483647 : Int32)))] _
    refine XS.bipush X0.here hx rfl (hb hby at_4) ?_
    show Stp p e below s₁ m 6 #[.val (.int pi1), .val (.int pi2), .unset, .unset, .unset, .unset, .unset, .unset, .unset] [(.int (9 : Int32)), (.int (pi1 &&& (2147483647 : Int32)))] _
    refine iremM X0 hx rfl (hb hby at_6) rfl (by decide) ?_
    show Stp p e below s₁ m 7 #[.val (.int pi1), .val (.int pi2), .unset, .unset, .unset, .unset, .unset, .unset, .unset] [(.int ((pi1 &&& (2147483647 : Int32)) % (9 : Int32)))] _
    refine XS.istoreN X0.here hx rfl (hb hby at_7) rfl (l' := #[.val (.int pi1), .val (.int pi2), .val (.int ((pi1 &&& (2147483647 : Int32)) % (9 : Int32))), .unset, .unset, .unset, .unset, .unset, .unset]) rfl ?_
    show Stp p e below s₁ m 8 #[.val (.int pi1), .val (.int pi2), .val (.int ((pi1 &&& (2147483647 : Int32)) % (9 : Int32))), .unset, .unset, .unset, .unset, .unset, .unset] [] _
    refine XS.iloadN X0.here hx rfl (hb hby at_8) rfl ?_
    show Stp p e below s₁ m 9 #[.val (.int pi1), .val (.int pi2), .val (.int ((pi1 &&& (2147483647 : Int32)) % (9 : Int32))), .unset, .unset, .unset, .unset, .unset, .unset] [(.int pi2)] _
    refine XS.iconst X0.here hx rfl (hb hby at_9) ?_
    show Stp p e below s₁ m 10 #[.val (.int pi1), .val (.int pi2), .val (.int ((pi1 &&& (2147483647 : Int32)) % (9 : Int32))), .unset, .unset, .unset, .unset, .unset, .unset] [(.int (1 : Int32)), (.int pi2)] _
    refine XS.iand X0.here hx rfl (hb hby at_10) rfl ?_
    show Stp p e below s₁ m 11 #[.val (.int pi1), .val (.int pi2), .val (.int ((pi1 &&& (2147483647 : Int32)) % (9 : Int32))), .unset, .unset, .unset, .unset, .unset, .unset] [(.int (pi2 &&& (1 : Int32)))] _
    refine XS.ifNo X0.here hx rfl (hb hby at_11) rfl ((if0 _ _).trans (teq hc11_0).2) ?_
    show Stp p e below s₁ m 14 #[.val (.int pi1), .val (.int pi2), .val (.int ((pi1 &&& (2147483647 : Int32)) % (9 : Int32))), .unset, .unset, .unset, .unset, .unset, .unset] [] _
    refine XS.iconst X0.here hx rfl (hb hby at_14) ?_
    show Stp p e below s₁ m 15 #[.val (.int pi1), .val (.int pi2), .val (.int ((pi1 &&& (2147483647 : Int32)) % (9 : Int32))), .unset, .unset, .unset, .unset, .unset, .unset] [(.int (1 : Int32))] _
    refine XS.goto X0.here hx rfl (pc0 := 15) (pc' := 19) rfl (hb hby at_15) (by decide) (by decide) ?_
    show Stp p e below s₁ m 19 #[.val (.int pi1), .val (.int pi2), .val (.int ((pi1 &&& (2147483647 : Int32)) % (9 : Int32))), .unset, .unset, .unset, .unset, .unset, .unset] [(.int (1 : Int32))] _
    refine XS.istoreN X0.here hx rfl (hb hby at_19) rfl (l' := #[.val (.int pi1), .val (.int pi2), .val (.int ((pi1 &&& (2147483647 : Int32)) % (9 : Int32))), .val (.int (1 : Int32)), .unset, .unset, .unset, .unset, .unset]) rfl ?_
    show Stp p e below s₁ m 20 #[.val (.int pi1), .val (.int pi2), .val (.int ((pi1 &&& (2147483647 : Int32)) % (9 : Int32))), .val (.int (1 : Int32)), .unset, .unset, .unset, .unset, .unset] [] _
    refine XS.iloadN X0.here hx rfl (hb hby at_20) rfl ?_
    show Stp p e below s₁ m 21 #[.val (.int pi1), .val (.int pi2), .val (.int ((pi1 &&& (2147483647 : Int32)) % (9 : Int32))), .val (.int (1 : Int32)), .unset, .unset, .unset, .unset, .unset] [(.int (1 : Int32))] _
    refine XS.ifNo X0.here hx rfl (hb hby at_21) rfl ((if0 _ _).trans (feq (by decide : ¬ ((1 : Int32) = (0 : Int32)))).1) ?_
    show Stp p e below s₁ m 24 #[.val (.int pi1), .val (.int pi2), .val (.int ((pi1 &&& (2147483647 : Int32)) % (9 : Int32))), .val (.int (1 : Int32)), .unset, .unset, .unset, .unset, .unset] [] _
    refine st1 _ ?_
    show Stp p e below T1 m 27 #[.val (.int pi1), .val (.int pi2), .val (.int ((pi1 &&& (2147483647 : Int32)) % (9 : Int32))), .val (.int (1 : Int32)), .unset, .unset, .unset, .unset, .unset] [(.ref w_ASC)] _
    refine XS.goto X1.here hx rfl (pc0 := 27) (pc' := 33) rfl (hb hby at_27) (by decide) (by decide) ?_
    show Stp p e below T1 m 33 #[.val (.int pi1), .val (.int pi2), .val (.int ((pi1 &&& (2147483647 : Int32)) % (9 : Int32))), .val (.int (1 : Int32)), .unset, .unset, .unset, .unset, .unset] [(.ref w_ASC)] _
    refine XS.astore X1.here hx rfl (hb hby at_33) rfl rfl (l' := #[.val (.int pi1), .val (.int pi2), .val (.int ((pi1 &&& (2147483647 : Int32)) % (9 : Int32))), .val (.int (1 : Int32)), .val (.ref w_ASC), .unset, .unset, .unset, .unset]) rfl ?_
    show Stp p e below T1 m 35 #[.val (.int pi1), .val (.int pi2), .val (.int ((pi1 &&& (2147483647 : Int32)) % (9 : Int32))), .val (.int (1 : Int32)), .val (.ref w_ASC), .unset, .unset, .unset, .unset] [] _
    refine XS.iloadN X1.here hx rfl (hb hby at_35) rfl ?_
    show Stp p e below T1 m 36 #[.val (.int pi1), .val (.int pi2), .val (.int ((pi1 &&& (2147483647 : Int32)) % (9 : Int32))), .val (.int (1 : Int32)), .val (.ref w_ASC), .unset, .unset, .unset, .unset] [(.int ((pi1 &&& (2147483647 : Int32)) % (9 : Int32)))] _
    refine st2 _ ?_
    show Stp p e below T2 m 39 #[.val (.int pi1), .val (.int pi2), .val (.int ((pi1 &&& (2147483647 : Int32)) % (9 : Int32))), .val (.int (1 : Int32)), .val (.ref w_ASC), .unset, .unset, .unset, .unset] [(.ref w_SQLITE)] _
    refine XS.astore X2.here hx rfl (hb hby at_39) rfl rfl (l' := #[.val (.int pi1), .val (.int pi2), .val (.int ((pi1 &&& (2147483647 : Int32)) % (9 : Int32))), .val (.int (1 : Int32)), .val (.ref w_ASC), .val (.ref w_SQLITE), .unset, .unset, .unset]) rfl ?_
    show Stp p e below T2 m 41 #[.val (.int pi1), .val (.int pi2), .val (.int ((pi1 &&& (2147483647 : Int32)) % (9 : Int32))), .val (.int (1 : Int32)), .val (.ref w_ASC), .val (.ref w_SQLITE), .unset, .unset, .unset] [] _
    refine XS.iloadN X2.here hx rfl (hb hby at_41) rfl ?_
    show Stp p e below T2 m 42 #[.val (.int pi1), .val (.int pi2), .val (.int ((pi1 &&& (2147483647 : Int32)) % (9 : Int32))), .val (.int (1 : Int32)), .val (.ref w_ASC), .val (.ref w_SQLITE), .unset, .unset, .unset] [(.int ((pi1 &&& (2147483647 : Int32)) % (9 : Int32)))] _
    refine XS.ifNo X2.here hx rfl (hb hby at_42) rfl ((if0 _ _).trans (feq hc36_1).1) ?_
    show Stp p e below T2 m 45 #[.val (.int pi1), .val (.int pi2), .val (.int ((pi1 &&& (2147483647 : Int32)) % (9 : Int32))), .val (.int (1 : Int32)), .val (.ref w_ASC), .val (.ref w_SQLITE), .unset, .unset, .unset] [] _
    refine XS.iloadN X2.here hx rfl (hb hby at_45) rfl ?_
    show Stp p e below T2 m 46 #[.val (.int pi1), .val (.int pi2), .val (.int ((pi1 &&& (2147483647 : Int32)) % (9 : Int32))), .val (.int (1 : Int32)), .val (.ref w_ASC), .val (.ref w_SQLITE), .unset, .unset, .unset] [(.int ((pi1 &&& (2147483647 : Int32)) % (9 : Int32)))] _
    refine XS.iconst X2.here hx rfl (hb hby at_46) ?_
    show Stp p e below T2 m 47 #[.val (.int pi1), .val (.int pi2), .val (.int ((pi1 &&& (2147483647 : Int32)) % (9 : Int32))), .val (.int (1 : Int32)), .val (.ref w_ASC), .val (.ref w_SQLITE), .unset, .unset, .unset] [(.int (5 : Int32)), (.int ((pi1 &&& (2147483647 : Int32)) % (9 : Int32)))] _
    refine XS.icmpNo X2.here hx rfl (hb hby at_47) rfl (feq (fun q => absurd (hc36_3.symm.trans q) (by decide))).1 ?_
    show Stp p e below T2 m 50 #[.val (.int pi1), .val (.int pi2), .val (.int ((pi1 &&& (2147483647 : Int32)) % (9 : Int32))), .val (.int (1 : Int32)), .val (.ref w_ASC), .val (.ref w_SQLITE), .unset, .unset, .unset] [] _
    refine XS.iloadN X2.here hx rfl (hb hby at_50) rfl ?_
    show Stp p e below T2 m 51 #[.val (.int pi1), .val (.int pi2), .val (.int ((pi1 &&& (2147483647 : Int32)) % (9 : Int32))), .val (.int (1 : Int32)), .val (.ref w_ASC), .val (.ref w_SQLITE), .unset, .unset, .unset] [(.int ((pi1 &&& (2147483647 : Int32)) % (9 : Int32)))] _
    refine XS.bipush X2.here hx rfl (hb hby at_51) ?_
    show Stp p e below T2 m 53 #[.val (.int pi1), .val (.int pi2), .val (.int ((pi1 &&& (2147483647 : Int32)) % (9 : Int32))), .val (.int (1 : Int32)), .val (.ref w_ASC), .val (.ref w_SQLITE), .unset, .unset, .unset] [(.int (6 : Int32)), (.int ((pi1 &&& (2147483647 : Int32)) % (9 : Int32)))] _
    refine XS.icmpNo X2.here hx rfl (hb hby at_53) rfl (feq (fun q => absurd (hc36_3.symm.trans q) (by decide))).1 ?_
    show Stp p e below T2 m 56 #[.val (.int pi1), .val (.int pi2), .val (.int ((pi1 &&& (2147483647 : Int32)) % (9 : Int32))), .val (.int (1 : Int32)), .val (.ref w_ASC), .val (.ref w_SQLITE), .unset, .unset, .unset] [] _
    refine XS.iloadN X2.here hx rfl (hb hby at_56) rfl ?_
    show Stp p e below T2 m 57 #[.val (.int pi1), .val (.int pi2), .val (.int ((pi1 &&& (2147483647 : Int32)) % (9 : Int32))), .val (.int (1 : Int32)), .val (.ref w_ASC), .val (.ref w_SQLITE), .unset, .unset, .unset] [(.int ((pi1 &&& (2147483647 : Int32)) % (9 : Int32)))] _
    refine XS.bipush X2.here hx rfl (hb hby at_57) ?_
    show Stp p e below T2 m 59 #[.val (.int pi1), .val (.int pi2), .val (.int ((pi1 &&& (2147483647 : Int32)) % (9 : Int32))), .val (.int (1 : Int32)), .val (.ref w_ASC), .val (.ref w_SQLITE), .unset, .unset, .unset] [(.int (8 : Int32)), (.int ((pi1 &&& (2147483647 : Int32)) % (9 : Int32)))] _
    refine XS.icmpYes X2.here hx rfl (pc0 := 59) (pc' := 66) rfl (hb hby at_59) rfl (feq (fun q => absurd (hc36_3.symm.trans q) (by decide))).2 (by decide) (by decide) ?_
    show Stp p e below T2 m 66 #[.val (.int pi1), .val (.int pi2), .val (.int ((pi1 &&& (2147483647 : Int32)) % (9 : Int32))), .val (.int (1 : Int32)), .val (.ref w_ASC), .val (.ref w_SQLITE), .unset, .unset, .unset] [] _
    refine XS.iconst X2.here hx rfl (hb hby at_66) ?_
    show Stp p e below T2 m 67 #[.val (.int pi1), .val (.int pi2), .val (.int ((pi1 &&& (2147483647 : Int32)) % (9 : Int32))), .val (.int (1 : Int32)), .val (.ref w_ASC), .val (.ref w_SQLITE), .unset, .unset, .unset] [(.int (0 : Int32))] _
    refine XS.istore X2.here hx rfl (hb hby at_67) rfl (l' := #[.val (.int pi1), .val (.int pi2), .val (.int ((pi1 &&& (2147483647 : Int32)) % (9 : Int32))), .val (.int (1 : Int32)), .val (.ref w_ASC), .val (.ref w_SQLITE), .val (.int (0 : Int32)), .unset, .unset]) rfl ?_
    show Stp p e below T2 m 69 #[.val (.int pi1), .val (.int pi2), .val (.int ((pi1 &&& (2147483647 : Int32)) % (9 : Int32))), .val (.int (1 : Int32)), .val (.ref w_ASC), .val (.ref w_SQLITE), .val (.int (0 : Int32)), .unset, .unset] [] _
    refine XS.iloadN X2.here hx rfl (hb hby at_69) rfl ?_
    show Stp p e below T2 m 70 #[.val (.int pi1), .val (.int pi2), .val (.int ((pi1 &&& (2147483647 : Int32)) % (9 : Int32))), .val (.int (1 : Int32)), .val (.ref w_ASC), .val (.ref w_SQLITE), .val (.int (0 : Int32)), .unset, .unset] [(.int ((pi1 &&& (2147483647 : Int32)) % (9 : Int32)))] _
    refine XS.iconst X2.here hx rfl (hb hby at_70) ?_
    show Stp p e below T2 m 71 #[.val (.int pi1), .val (.int pi2), .val (.int ((pi1 &&& (2147483647 : Int32)) % (9 : Int32))), .val (.int (1 : Int32)), .val (.ref w_ASC), .val (.ref w_SQLITE), .val (.int (0 : Int32)), .unset, .unset] [(.int (1 : Int32)), (.int ((pi1 &&& (2147483647 : Int32)) % (9 : Int32)))] _
    refine XS.icmpNo X2.here hx rfl (hb hby at_71) rfl (feq hc36_2).1 ?_
    show Stp p e below T2 m 74 #[.val (.int pi1), .val (.int pi2), .val (.int ((pi1 &&& (2147483647 : Int32)) % (9 : Int32))), .val (.int (1 : Int32)), .val (.ref w_ASC), .val (.ref w_SQLITE), .val (.int (0 : Int32)), .unset, .unset] [] _
    refine XS.iloadN X2.here hx rfl (hb hby at_74) rfl ?_
    show Stp p e below T2 m 75 #[.val (.int pi1), .val (.int pi2), .val (.int ((pi1 &&& (2147483647 : Int32)) % (9 : Int32))), .val (.int (1 : Int32)), .val (.ref w_ASC), .val (.ref w_SQLITE), .val (.int (0 : Int32)), .unset, .unset] [(.int ((pi1 &&& (2147483647 : Int32)) % (9 : Int32)))] _
    refine XS.iconst X2.here hx rfl (hb hby at_75) ?_
    show Stp p e below T2 m 76 #[.val (.int pi1), .val (.int pi2), .val (.int ((pi1 &&& (2147483647 : Int32)) % (9 : Int32))), .val (.int (1 : Int32)), .val (.ref w_ASC), .val (.ref w_SQLITE), .val (.int (0 : Int32)), .unset, .unset] [(.int (2 : Int32)), (.int ((pi1 &&& (2147483647 : Int32)) % (9 : Int32)))] _
    refine XS.icmpYes X2.here hx rfl (pc0 := 76) (pc' := 90) rfl (hb hby at_76) rfl (teq hc36_3).1 (by decide) (by decide) ?_
    show Stp p e below T2 m 90 #[.val (.int pi1), .val (.int pi2), .val (.int ((pi1 &&& (2147483647 : Int32)) % (9 : Int32))), .val (.int (1 : Int32)), .val (.ref w_ASC), .val (.ref w_SQLITE), .val (.int (0 : Int32)), .unset, .unset] [] _
    refine XS.iconst X2.here hx rfl (hb hby at_90) ?_
    show Stp p e below T2 m 91 #[.val (.int pi1), .val (.int pi2), .val (.int ((pi1 &&& (2147483647 : Int32)) % (9 : Int32))), .val (.int (1 : Int32)), .val (.ref w_ASC), .val (.ref w_SQLITE), .val (.int (0 : Int32)), .unset, .unset] [(.int (1 : Int32))] _
    refine XS.goto X2.here hx rfl (pc0 := 91) (pc' := 95) rfl (hb hby at_91) (by decide) (by decide) ?_
    show Stp p e below T2 m 95 #[.val (.int pi1), .val (.int pi2), .val (.int ((pi1 &&& (2147483647 : Int32)) % (9 : Int32))), .val (.int (1 : Int32)), .val (.ref w_ASC), .val (.ref w_SQLITE), .val (.int (0 : Int32)), .unset, .unset] [(.int (1 : Int32))] _
    refine XS.istore X2.here hx rfl (hb hby at_95) rfl (l' := #[.val (.int pi1), .val (.int pi2), .val (.int ((pi1 &&& (2147483647 : Int32)) % (9 : Int32))), .val (.int (1 : Int32)), .val (.ref w_ASC), .val (.ref w_SQLITE), .val (.int (0 : Int32)), .val (.int (1 : Int32)), .unset]) rfl ?_
    show Stp p e below T2 m 97 #[.val (.int pi1), .val (.int pi2), .val (.int ((pi1 &&& (2147483647 : Int32)) % (9 : Int32))), .val (.int (1 : Int32)), .val (.ref w_ASC), .val (.ref w_SQLITE), .val (.int (0 : Int32)), .val (.int (1 : Int32)), .unset] [] _
    refine XS.iload X2.here hx rfl (hb hby at_97) rfl ?_
    show Stp p e below T2 m 99 #[.val (.int pi1), .val (.int pi2), .val (.int ((pi1 &&& (2147483647 : Int32)) % (9 : Int32))), .val (.int (1 : Int32)), .val (.ref w_ASC), .val (.ref w_SQLITE), .val (.int (0 : Int32)), .val (.int (1 : Int32)), .unset] [(.int (0 : Int32))] _
    refine XS.ifYes X2.here hx rfl (pc0 := 99) (pc' := 108) rfl (hb hby at_99) rfl ((if0 _ _).trans (teq (rfl : (0 : Int32) = (0 : Int32))).1) (by decide) (by decide) ?_
    show Stp p e below T2 m 108 #[.val (.int pi1), .val (.int pi2), .val (.int ((pi1 &&& (2147483647 : Int32)) % (9 : Int32))), .val (.int (1 : Int32)), .val (.ref w_ASC), .val (.ref w_SQLITE), .val (.int (0 : Int32)), .val (.int (1 : Int32)), .unset] [] _
    refine XS.iload X2.here hx rfl (hb hby at_108) rfl ?_
    show Stp p e below T2 m 110 #[.val (.int pi1), .val (.int pi2), .val (.int ((pi1 &&& (2147483647 : Int32)) % (9 : Int32))), .val (.int (1 : Int32)), .val (.ref w_ASC), .val (.ref w_SQLITE), .val (.int (0 : Int32)), .val (.int (1 : Int32)), .unset] [(.int (1 : Int32))] _
    refine XS.ifNo X2.here hx rfl (hb hby at_110) rfl ((if0 _ _).trans (feq (by decide : ¬ ((1 : Int32) = (0 : Int32)))).1) ?_
    show Stp p e below T2 m 113 #[.val (.int pi1), .val (.int pi2), .val (.int ((pi1 &&& (2147483647 : Int32)) % (9 : Int32))), .val (.int (1 : Int32)), .val (.ref w_ASC), .val (.ref w_SQLITE), .val (.int (0 : Int32)), .val (.int (1 : Int32)), .unset] [] _
    refine XS.iloadN X2.here hx rfl (hb hby at_113) rfl ?_
    show Stp p e below T2 m 114 #[.val (.int pi1), .val (.int pi2), .val (.int ((pi1 &&& (2147483647 : Int32)) % (9 : Int32))), .val (.int (1 : Int32)), .val (.ref w_ASC), .val (.ref w_SQLITE), .val (.int (0 : Int32)), .val (.int (1 : Int32)), .unset] [(.int (1 : Int32))] _
    refine XS.ifYes X2.here hx rfl (pc0 := 114) (pc' := 121) rfl (hb hby at_114) rfl ((if0 _ _).trans (feq (by decide : ¬ ((1 : Int32) = (0 : Int32)))).2) (by decide) (by decide) ?_
    show Stp p e below T2 m 121 #[.val (.int pi1), .val (.int pi2), .val (.int ((pi1 &&& (2147483647 : Int32)) % (9 : Int32))), .val (.int (1 : Int32)), .val (.ref w_ASC), .val (.ref w_SQLITE), .val (.int (0 : Int32)), .val (.int (1 : Int32)), .unset] [] _
    refine XS.iconst X2.here hx rfl (hb hby at_121) ?_
    show Stp p e below T2 m 122 #[.val (.int pi1), .val (.int pi2), .val (.int ((pi1 &&& (2147483647 : Int32)) % (9 : Int32))), .val (.int (1 : Int32)), .val (.ref w_ASC), .val (.ref w_SQLITE), .val (.int (0 : Int32)), .val (.int (1 : Int32)), .unset] [(.int (0 : Int32))] _
    refine XS.istore X2.here hx rfl (hb hby at_122) rfl (l' := #[.val (.int pi1), .val (.int pi2), .val (.int ((pi1 &&& (2147483647 : Int32)) % (9 : Int32))), .val (.int (1 : Int32)), .val (.ref w_ASC), .val (.ref w_SQLITE), .val (.int (0 : Int32)), .val (.int (1 : Int32)), .val (.int (0 : Int32))]) rfl ?_
    show Stp p e below T2 m 124 #[.val (.int pi1), .val (.int pi2), .val (.int ((pi1 &&& (2147483647 : Int32)) % (9 : Int32))), .val (.int (1 : Int32)), .val (.ref w_ASC), .val (.ref w_SQLITE), .val (.int (0 : Int32)), .val (.int (1 : Int32)), .val (.int (0 : Int32))] [] _
    refine XS.goto X2.here hx rfl (pc0 := 124) (pc' := 130) rfl (hb hby at_124) (by decide) (by decide) ?_
    show Stp p e below T2 m 130 #[.val (.int pi1), .val (.int pi2), .val (.int ((pi1 &&& (2147483647 : Int32)) % (9 : Int32))), .val (.int (1 : Int32)), .val (.ref w_ASC), .val (.ref w_SQLITE), .val (.int (0 : Int32)), .val (.int (1 : Int32)), .val (.int (0 : Int32))] [] _
    refine XS.aload X2.here hx rfl (hb hby at_130) rfl rfl ?_
    show Stp p e below T2 m 132 #[.val (.int pi1), .val (.int pi2), .val (.int ((pi1 &&& (2147483647 : Int32)) % (9 : Int32))), .val (.int (1 : Int32)), .val (.ref w_ASC), .val (.ref w_SQLITE), .val (.int (0 : Int32)), .val (.int (1 : Int32)), .val (.int (0 : Int32))] [(.ref w_SQLITE)] _
    refine XS.aload X2.here hx rfl (hb hby at_132) rfl rfl ?_
    show Stp p e below T2 m 134 #[.val (.int pi1), .val (.int pi2), .val (.int ((pi1 &&& (2147483647 : Int32)) % (9 : Int32))), .val (.int (1 : Int32)), .val (.ref w_ASC), .val (.ref w_SQLITE), .val (.int (0 : Int32)), .val (.int (1 : Int32)), .val (.int (0 : Int32))] [(.ref w_ASC), (.ref w_SQLITE)] _
    refine st3.trans ?_
    show Stp p e below T3 m 137 #[.val (.int pi1), .val (.int pi2), .val (.int ((pi1 &&& (2147483647 : Int32)) % (9 : Int32))), .val (.int (1 : Int32)), .val (.ref w_ASC), .val (.ref w_SQLITE), .val (.int (0 : Int32)), .val (.int (1 : Int32)), .val (.int (0 : Int32))] [(.int (0 : Int32))] _
    refine XS.iload X3.here hx rfl (hb hby at_137) rfl ?_
    show Stp p e below T3 m 139 #[.val (.int pi1), .val (.int pi2), .val (.int ((pi1 &&& (2147483647 : Int32)) % (9 : Int32))), .val (.int (1 : Int32)), .val (.ref w_ASC), .val (.ref w_SQLITE), .val (.int (0 : Int32)), .val (.int (1 : Int32)), .val (.int (0 : Int32))] [(.int (0 : Int32)), (.int (0 : Int32))] _
    refine XS.icmpNo X3.here hx rfl (hb hby at_139) rfl (teq (rfl : (0 : Int32) = (0 : Int32))).2 ?_
    show Stp p e below T3 m 142 #[.val (.int pi1), .val (.int pi2), .val (.int ((pi1 &&& (2147483647 : Int32)) % (9 : Int32))), .val (.int (1 : Int32)), .val (.ref w_ASC), .val (.ref w_SQLITE), .val (.int (0 : Int32)), .val (.int (1 : Int32)), .val (.int (0 : Int32))] [] _
    refine XS.iconst X3.here hx rfl (hb hby at_142) ?_
    show Stp p e below T3 m 143 #[.val (.int pi1), .val (.int pi2), .val (.int ((pi1 &&& (2147483647 : Int32)) % (9 : Int32))), .val (.int (1 : Int32)), .val (.ref w_ASC), .val (.ref w_SQLITE), .val (.int (0 : Int32)), .val (.int (1 : Int32)), .val (.int (0 : Int32))] [(.int (1 : Int32))] _
    refine XS.goto X3.here hx rfl (pc0 := 143) (pc' := 147) rfl (hb hby at_143) (by decide) (by decide) ?_
    show Stp p e below T3 m 147 #[.val (.int pi1), .val (.int pi2), .val (.int ((pi1 &&& (2147483647 : Int32)) % (9 : Int32))), .val (.int (1 : Int32)), .val (.ref w_ASC), .val (.ref w_SQLITE), .val (.int (0 : Int32)), .val (.int (1 : Int32)), .val (.int (0 : Int32))] [(.int (1 : Int32))] _
    exact retN X3 hx (t := .boolean) Bd.returns (by simp) (hb hby at_147) hr
  · exact ⟨rfl, N3⟩
set_option maxRecDepth 65536 in
set_option maxHeartbeats 40000000 in
theorem rm0_tffft (l : Launch) (Z : State) (a0 : Array Value) (hw : ∀ d ∈ tables_1, d.before a0 Z = true) (ws : List Jvm.Cond) (pi1 : Int32) (pi2 : Int32) (w_HIGH : Addr) (w_LOW : Addr) (w_FIRST : Addr) (w_ASC : Addr) (w_DESC : Addr) (w_POSTGRESQL : Addr) (w_MARIADB : Addr) (w_SQLITE : Addr) (w_H2 : Addr) (w_HSQLDB : Addr) (w_DERBY : Addr) (w_ORACLE : Addr) (w_SQLSERVER : Addr) (w_DB2 : Addr) (h0 : Heap) (n0 : Nat) (Z0 : n0 ≤ h0.size) (O0 : Old Z n0 h0) (S_ASC : Sta Z Z.heap "com/example/leafcount/leafcount/Sort$Direction" "ASC" "Lcom/example/leafcount/leafcount/Sort$Direction;" (.ref w_ASC)) (S_DESC : Sta Z Z.heap "com/example/leafcount/leafcount/Sort$Direction" "DESC" "Lcom/example/leafcount/leafcount/Sort$Direction;" (.ref w_DESC)) (S_POSTGRESQL : Sta Z Z.heap "com/example/leafcount/leafcount/SqlSyntax" "POSTGRESQL" "Lcom/example/leafcount/leafcount/SqlSyntax;" (.ref w_POSTGRESQL)) (S_MARIADB : Sta Z Z.heap "com/example/leafcount/leafcount/SqlSyntax" "MARIADB" "Lcom/example/leafcount/leafcount/SqlSyntax;" (.ref w_MARIADB)) (S_SQLITE : Sta Z Z.heap "com/example/leafcount/leafcount/SqlSyntax" "SQLITE" "Lcom/example/leafcount/leafcount/SqlSyntax;" (.ref w_SQLITE)) (S_H2 : Sta Z Z.heap "com/example/leafcount/leafcount/SqlSyntax" "H2" "Lcom/example/leafcount/leafcount/SqlSyntax;" (.ref w_H2)) (S_HSQLDB : Sta Z Z.heap "com/example/leafcount/leafcount/SqlSyntax" "HSQLDB" "Lcom/example/leafcount/leafcount/SqlSyntax;" (.ref w_HSQLDB)) (S_DERBY : Sta Z Z.heap "com/example/leafcount/leafcount/SqlSyntax" "DERBY" "Lcom/example/leafcount/leafcount/SqlSyntax;" (.ref w_DERBY)) (S_ORACLE : Sta Z Z.heap "com/example/leafcount/leafcount/SqlSyntax" "ORACLE" "Lcom/example/leafcount/leafcount/SqlSyntax;" (.ref w_ORACLE)) (S_SQLSERVER : Sta Z Z.heap "com/example/leafcount/leafcount/SqlSyntax" "SQLSERVER" "Lcom/example/leafcount/leafcount/SqlSyntax;" (.ref w_SQLSERVER)) (S_DB2 : Sta Z Z.heap "com/example/leafcount/leafcount/SqlSyntax" "DB2" "Lcom/example/leafcount/leafcount/SqlSyntax;" (.ref w_DB2)) (E_w_POSTGRESQL : Exa Z Z.heap w_POSTGRESQL "com/example/leafcount/leafcount/SqlSyntax") (E_w_MARIADB : Exa Z Z.heap w_MARIADB "com/example/leafcount/leafcount/SqlSyntax") (E_w_SQLITE : Exa Z Z.heap w_SQLITE "com/example/leafcount/leafcount/SqlSyntax") (E_w_H2 : Exa Z Z.heap w_H2 "com/example/leafcount/leafcount/SqlSyntax") (E_w_HSQLDB : Exa Z Z.heap w_HSQLDB "com/example/leafcount/leafcount/SqlSyntax") (E_w_DERBY : Exa Z Z.heap w_DERBY "com/example/leafcount/leafcount/SqlSyntax") (E_w_ORACLE : Exa Z Z.heap w_ORACLE "com/example/leafcount/leafcount/SqlSyntax") (E_w_SQLSERVER : Exa Z Z.heap w_SQLSERVER "com/example/leafcount/leafcount/SqlSyntax") (E_w_DB2 : Exa Z Z.heap w_DB2 "com/example/leafcount/leafcount/SqlSyntax") (F_nullOrder_w_POSTGRESQL : Fld Z Z.heap w_POSTGRESQL "com/example/leafcount/leafcount/SqlSyntax" "nullOrder" "Lcom/example/leafcount/leafcount/SqlSyntax$NullOrder;" (.ref w_HIGH)) (F_nullOrder_w_MARIADB : Fld Z Z.heap w_MARIADB "com/example/leafcount/leafcount/SqlSyntax" "nullOrder" "Lcom/example/leafcount/leafcount/SqlSyntax$NullOrder;" (.ref w_LOW)) (F_nullOrder_w_SQLITE : Fld Z Z.heap w_SQLITE "com/example/leafcount/leafcount/SqlSyntax" "nullOrder" "Lcom/example/leafcount/leafcount/SqlSyntax$NullOrder;" (.ref w_LOW)) (F_nullOrder_w_H2 : Fld Z Z.heap w_H2 "com/example/leafcount/leafcount/SqlSyntax" "nullOrder" "Lcom/example/leafcount/leafcount/SqlSyntax$NullOrder;" (.ref w_LOW)) (F_nullOrder_w_HSQLDB : Fld Z Z.heap w_HSQLDB "com/example/leafcount/leafcount/SqlSyntax" "nullOrder" "Lcom/example/leafcount/leafcount/SqlSyntax$NullOrder;" (.ref w_FIRST)) (F_nullOrder_w_DERBY : Fld Z Z.heap w_DERBY "com/example/leafcount/leafcount/SqlSyntax" "nullOrder" "Lcom/example/leafcount/leafcount/SqlSyntax$NullOrder;" (.ref w_HIGH)) (F_nullOrder_w_ORACLE : Fld Z Z.heap w_ORACLE "com/example/leafcount/leafcount/SqlSyntax" "nullOrder" "Lcom/example/leafcount/leafcount/SqlSyntax$NullOrder;" (.ref w_HIGH)) (F_nullOrder_w_SQLSERVER : Fld Z Z.heap w_SQLSERVER "com/example/leafcount/leafcount/SqlSyntax" "nullOrder" "Lcom/example/leafcount/leafcount/SqlSyntax$NullOrder;" (.ref w_LOW)) (F_nullOrder_w_DB2 : Fld Z Z.heap w_DB2 "com/example/leafcount/leafcount/SqlSyntax" "nullOrder" "Lcom/example/leafcount/leafcount/SqlSyntax$NullOrder;" (.ref w_HIGH)) (F_last_w_HIGH : Fld Z Z.heap w_HIGH "com/example/leafcount/leafcount/SqlSyntax$NullOrder" "last" "Lcom/example/leafcount/leafcount/Sort$Direction;" (.ref w_ASC)) (F_last_w_LOW : Fld Z Z.heap w_LOW "com/example/leafcount/leafcount/SqlSyntax$NullOrder" "last" "Lcom/example/leafcount/leafcount/Sort$Direction;" (.ref w_DESC)) (F_last_w_FIRST : Fld Z Z.heap w_FIRST "com/example/leafcount/leafcount/SqlSyntax$NullOrder" "last" "Lcom/example/leafcount/leafcount/Sort$Direction;" .null) (hne : w_ASC ≠ w_DESC) (hc11_0 : (pi2 &&& (1 : Int32)) = (0 : Int32)) (hc36_1 : ¬ (((pi1 &&& (2147483647 : Int32)) % (9 : Int32)) = (0 : Int32))) (hc36_2 : ¬ (((pi1 &&& (2147483647 : Int32)) % (9 : Int32)) = (1 : Int32))) (hc36_3 : ¬ (((pi1 &&& (2147483647 : Int32)) % (9 : Int32)) = (2 : Int32))) (hc36_4 : ((pi1 &&& (2147483647 : Int32)) % (9 : Int32)) = (3 : Int32)) :
    MetFree l x (head1 (Jvm.Cond.code x code maxLocals ret :: ws) room_1) (fun a U => a = #[(.int pi1), (.int pi2)] ∧ Z.Warmed39 U.vm ∧ U.heap = h0) (fun _ _ _ _ _ => True) (fun _ U o U' => ∃ v L, o = .returned v ∧ Q0 v L n0 ∧ FrameEnd U o U' L room_1.cells room_1.slots) := by
  refine MetFree.of_bodySF (plainFor_of_name pn_0) hisR ?_
  intro p e s m args below meth c s₁ Bd hml0 hP hK
  obtain ⟨rfl, hZ, hh⟩ := hP
  have hx := Bd.exec
  have hby := Bd.bytes
  have hml : c.maxLocals = 9 := hml0
  have hown : s.vm.findClass "com/example/leafcount/leafcount/SqlSyntaxPutsNullLastPinLaw" = some m.cls := findClass_of_methodNamed Bd.named
  have hnm := (name_of_methodNamed Bd.named Bd.method).1
  have X0 : Stand p l e room_1 s m #[(.int pi1), (.int pi2)] below meth c s₁ [] 0 0 := Stand.of_body Bd
  have e0 : s₁.heap = h0 := by rw [← hh, Bd.state]; rfl
  have N0 := Fr.nil n0
  have pre0 : ∀ t, Steps p.tables e below (s₁.setTop (mkF m 0 #[.val (.int pi1), .val (.int pi2), .unset, .unset, .unset, .unset, .unset, .unset, .unset] [])) t → Steps p.tables e below (s₁.setTop (entryFrame m #[(.int pi1), (.int pi2)] maxLocals)) t := fun t k => castTop (ef_0 m pi1 pi2) k
  obtain ⟨T1, X1, e1, st1⟩ := getS2 X0 hx hZ hown (host := "") (Or.inl (own_W hw 25 rfl)) Via.refl e0 (S_ASC.ext O0.2) (g := (mkF m 24 #[.val (.int pi1), .val (.int pi2), .val (.int ((pi1 &&& (2147483647 : Int32)) % (9 : Int32))), .val (.int (1 : Int32)), .unset, .unset, .unset, .unset, .unset] [])) rfl (hb hby at_24)
  obtain ⟨_, _, ⟨T2, L2, k2, n2⟩, -, X2, ⟨Lc2, hQ2, l2, y2, z2⟩, st2⟩ := Jvm.LawKit.callS X1 hx (y := (⟨"com/example/leafcount/leafcount/SqlSyntaxPutsNullLastPinLaw", "pick", "(I)Lcom/example/leafcount/leafcount/SqlSyntax;"⟩ : MethodName)) hown (mvT hZ (own_W hw 4 rfl)) (mvT hZ (own_W hw 5 rfl)) (mvT hZ (own_W hw 6 rfl)) (mvT hZ (own_W hw 7 rfl)) (by decide) (backOf (W := 0) (rm1_3 l Z a0 hw [] ((pi1 &&& (2147483647 : Int32)) % (9 : Int32)) w_H2 h0 n0 Z0 O0 S_H2 hc36_1 hc36_2 hc36_3 hc36_4) hZ (own_W hw 7 rfl) (own_W hw 6 rfl) (by decide) (by decide)) (g := (mkF m 36 #[.val (.int pi1), .val (.int pi2), .val (.int ((pi1 &&& (2147483647 : Int32)) % (9 : Int32))), .val (.int (1 : Int32)), .val (.ref w_ASC), .unset, .unset, .unset, .unset] [(.int ((pi1 &&& (2147483647 : Int32)) % (9 : Int32)))])) rfl (by rw [hml]; rfl) (argsL := [(.int ((pi1 &&& (2147483647 : Int32)) % (9 : Int32)))]) (rest := []) (lenOf pd_0 rfl) rfl (by show 2 * 0 + _ ≤ _; exact Nat.le_of_eq rfl) (hb hby at_36) (fun _ _ => ⟨rfl, e1, (by decide : 0 + 0 ≤ _), (by decide : 0 + 0 ≤ _)⟩)
  dsimp only [Pt.U, Pt.locs, Pt.cells, Pt.slots] at X2 l2 y2 z2 st2 hQ2
  subst l2 y2 z2
  obtain ⟨rfl, N2q, eq2⟩ := hQ2
  have N2 := Fr.app N0 N2q
  obtain ⟨cq3, kq3, q3a, q3b, q3c⟩ := isOf hZ eq2 (E_w_H2.ext O0.2)
  obtain ⟨_, _, ⟨T3, L3, k3, n3⟩, -, X3, ⟨Lc3, hQ3, l3, y3, z3⟩, st3⟩ := X2.virtualBack hx (y := (⟨"com/example/leafcount/leafcount/SqlSyntax", "putsNullLast", "(Lcom/example/leafcount/leafcount/Sort$Direction;)Z"⟩ : MethodName)) (z := (⟨"com/example/leafcount/leafcount/SqlSyntax", "putsNullLast", "(Lcom/example/leafcount/leafcount/Sort$Direction;)Z"⟩ : MethodName)) hown (mvT hZ (own_W hw 11 rfl)) (mvT hZ (own_W hw 12 rfl)) (notFace_of_selects (args := #[]) (mvT hZ (own_W hw 14 rfl))) (mvT hZ (own_W hw 14 rfl)) (mvT hZ (own_W hw 13 rfl)) (by decide) (backOf (W := 0) (rm2_f l Z a0 hw [] w_H2 w_ASC w_LOW w_DESC h0 n0 Z0 O0 (F_nullOrder_w_H2.ext O0.2) (F_last_w_LOW.ext O0.2) (Ne.symm hne)) hZ (own_W hw 15 rfl) (own_W hw 9 rfl) (by decide) (by decide)) q3a q3c (g := (mkF m 134 #[.val (.int pi1), .val (.int pi2), .val (.int ((pi1 &&& (2147483647 : Int32)) % (9 : Int32))), .val (.int (1 : Int32)), .val (.ref w_ASC), .val (.ref w_H2), .val (.int (0 : Int32)), .val (.int (1 : Int32)), .val (.int (0 : Int32))] [(.ref w_ASC), (.ref w_H2)])) rfl (by rw [hml]; rfl) (Steps.refl _) (argsL := [(.ref w_ASC)]) (rest := []) (lenOf pd_1 rfl) rfl (by show 2 * 0 + _ ≤ _; exact Nat.le_of_eq rfl) (hb hby at_134) (fun _ _ => ⟨rfl, eq2, (by decide : 0 + 0 ≤ _), (by decide : 0 + 0 ≤ _)⟩)
  dsimp only [Pt.U, Pt.locs, Pt.cells, Pt.slots] at X3 l3 y3 z3 st3 hQ3
  subst l3 y3 z3
  obtain ⟨rfl, N3q, eq3⟩ := hQ3
  have N3 := Fr.app N2 N3q
  obtain ⟨fs, hr, hrun, hended, hW, hsame⟩ := X3.leave (v := some (.int (1 : Int32))) (fun h => by rw [Bd.returns] at h; cases h)
  refine ⟨_, _, pre0 _ ?_, hrun, hended, _, _, rfl, ?_, ⟨_, rfl⟩, hW, hsame.mono (by decide) (by decide)⟩
  · show Stp p e below s₁ m 0 #[.val (.int pi1), .val (.int pi2), .unset, .unset, .unset, .unset, .unset, .unset, .unset] [] _
    refine XS.iloadN X0.here hx rfl (hb hby at_0) rfl ?_
    show Stp p e below s₁ m 1 #[.val (.int pi1), .val (.int pi2), .unset, .unset, .unset, .unset, .unset, .unset, .unset] [(.int pi1)] _
    refine X0.ldcInt hx hown (mvT hZ (own_W hw 0 rfl)) (g := (mkF m 1 #[.val (.int pi1), .val (.int pi2), .unset, .unset, .unset, .unset, .unset, .unset, .unset] [(.int pi1)])) rfl (hb hby at_1) _ ?_
    show Stp p e below s₁ m 3 #[.val (.int pi1), .val (.int pi2), .unset, .unset, .unset, .unset, .unset, .unset, .unset] [(.int (2147483647 : Int32)), (.int pi1)] _
    refine XS.iand X0.here hx rfl (hb hby at_3) rfl ?_
    show Stp p e below s₁ m 4 #[.val (.int pi1), .val (.int pi2), .unset, .unset, .unset, .unset, .unset, .unset, .unset] [(.int (pi1 &&& (2147483647 : Int32)))] _
    refine XS.bipush X0.here hx rfl (hb hby at_4) ?_
    show Stp p e below s₁ m 6 #[.val (.int pi1), .val (.int pi2), .unset, .unset, .unset, .unset, .unset, .unset, .unset] [(.int (9 : Int32)), (.int (pi1 &&& (2147483647 : Int32)))] _
    refine iremM X0 hx rfl (hb hby at_6) rfl (by decide) ?_
    show Stp p e below s₁ m 7 #[.val (.int pi1), .val (.int pi2), .unset, .unset, .unset, .unset, .unset, .unset, .unset] [(.int ((pi1 &&& (2147483647 : Int32)) % (9 : Int32)))] _
    refine XS.istoreN X0.here hx rfl (hb hby at_7) rfl (l' := #[.val (.int pi1), .val (.int pi2), .val (.int ((pi1 &&& (2147483647 : Int32)) % (9 : Int32))), .unset, .unset, .unset, .unset, .unset, .unset]) rfl ?_
    show Stp p e below s₁ m 8 #[.val (.int pi1), .val (.int pi2), .val (.int ((pi1 &&& (2147483647 : Int32)) % (9 : Int32))), .unset, .unset, .unset, .unset, .unset, .unset] [] _
    refine XS.iloadN X0.here hx rfl (hb hby at_8) rfl ?_
    show Stp p e below s₁ m 9 #[.val (.int pi1), .val (.int pi2), .val (.int ((pi1 &&& (2147483647 : Int32)) % (9 : Int32))), .unset, .unset, .unset, .unset, .unset, .unset] [(.int pi2)] _
    refine XS.iconst X0.here hx rfl (hb hby at_9) ?_
    show Stp p e below s₁ m 10 #[.val (.int pi1), .val (.int pi2), .val (.int ((pi1 &&& (2147483647 : Int32)) % (9 : Int32))), .unset, .unset, .unset, .unset, .unset, .unset] [(.int (1 : Int32)), (.int pi2)] _
    refine XS.iand X0.here hx rfl (hb hby at_10) rfl ?_
    show Stp p e below s₁ m 11 #[.val (.int pi1), .val (.int pi2), .val (.int ((pi1 &&& (2147483647 : Int32)) % (9 : Int32))), .unset, .unset, .unset, .unset, .unset, .unset] [(.int (pi2 &&& (1 : Int32)))] _
    refine XS.ifNo X0.here hx rfl (hb hby at_11) rfl ((if0 _ _).trans (teq hc11_0).2) ?_
    show Stp p e below s₁ m 14 #[.val (.int pi1), .val (.int pi2), .val (.int ((pi1 &&& (2147483647 : Int32)) % (9 : Int32))), .unset, .unset, .unset, .unset, .unset, .unset] [] _
    refine XS.iconst X0.here hx rfl (hb hby at_14) ?_
    show Stp p e below s₁ m 15 #[.val (.int pi1), .val (.int pi2), .val (.int ((pi1 &&& (2147483647 : Int32)) % (9 : Int32))), .unset, .unset, .unset, .unset, .unset, .unset] [(.int (1 : Int32))] _
    refine XS.goto X0.here hx rfl (pc0 := 15) (pc' := 19) rfl (hb hby at_15) (by decide) (by decide) ?_
    show Stp p e below s₁ m 19 #[.val (.int pi1), .val (.int pi2), .val (.int ((pi1 &&& (2147483647 : Int32)) % (9 : Int32))), .unset, .unset, .unset, .unset, .unset, .unset] [(.int (1 : Int32))] _
    refine XS.istoreN X0.here hx rfl (hb hby at_19) rfl (l' := #[.val (.int pi1), .val (.int pi2), .val (.int ((pi1 &&& (2147483647 : Int32)) % (9 : Int32))), .val (.int (1 : Int32)), .unset, .unset, .unset, .unset, .unset]) rfl ?_
    show Stp p e below s₁ m 20 #[.val (.int pi1), .val (.int pi2), .val (.int ((pi1 &&& (2147483647 : Int32)) % (9 : Int32))), .val (.int (1 : Int32)), .unset, .unset, .unset, .unset, .unset] [] _
    refine XS.iloadN X0.here hx rfl (hb hby at_20) rfl ?_
    show Stp p e below s₁ m 21 #[.val (.int pi1), .val (.int pi2), .val (.int ((pi1 &&& (2147483647 : Int32)) % (9 : Int32))), .val (.int (1 : Int32)), .unset, .unset, .unset, .unset, .unset] [(.int (1 : Int32))] _
    refine XS.ifNo X0.here hx rfl (hb hby at_21) rfl ((if0 _ _).trans (feq (by decide : ¬ ((1 : Int32) = (0 : Int32)))).1) ?_
    show Stp p e below s₁ m 24 #[.val (.int pi1), .val (.int pi2), .val (.int ((pi1 &&& (2147483647 : Int32)) % (9 : Int32))), .val (.int (1 : Int32)), .unset, .unset, .unset, .unset, .unset] [] _
    refine st1 _ ?_
    show Stp p e below T1 m 27 #[.val (.int pi1), .val (.int pi2), .val (.int ((pi1 &&& (2147483647 : Int32)) % (9 : Int32))), .val (.int (1 : Int32)), .unset, .unset, .unset, .unset, .unset] [(.ref w_ASC)] _
    refine XS.goto X1.here hx rfl (pc0 := 27) (pc' := 33) rfl (hb hby at_27) (by decide) (by decide) ?_
    show Stp p e below T1 m 33 #[.val (.int pi1), .val (.int pi2), .val (.int ((pi1 &&& (2147483647 : Int32)) % (9 : Int32))), .val (.int (1 : Int32)), .unset, .unset, .unset, .unset, .unset] [(.ref w_ASC)] _
    refine XS.astore X1.here hx rfl (hb hby at_33) rfl rfl (l' := #[.val (.int pi1), .val (.int pi2), .val (.int ((pi1 &&& (2147483647 : Int32)) % (9 : Int32))), .val (.int (1 : Int32)), .val (.ref w_ASC), .unset, .unset, .unset, .unset]) rfl ?_
    show Stp p e below T1 m 35 #[.val (.int pi1), .val (.int pi2), .val (.int ((pi1 &&& (2147483647 : Int32)) % (9 : Int32))), .val (.int (1 : Int32)), .val (.ref w_ASC), .unset, .unset, .unset, .unset] [] _
    refine XS.iloadN X1.here hx rfl (hb hby at_35) rfl ?_
    show Stp p e below T1 m 36 #[.val (.int pi1), .val (.int pi2), .val (.int ((pi1 &&& (2147483647 : Int32)) % (9 : Int32))), .val (.int (1 : Int32)), .val (.ref w_ASC), .unset, .unset, .unset, .unset] [(.int ((pi1 &&& (2147483647 : Int32)) % (9 : Int32)))] _
    refine st2 _ ?_
    show Stp p e below T2 m 39 #[.val (.int pi1), .val (.int pi2), .val (.int ((pi1 &&& (2147483647 : Int32)) % (9 : Int32))), .val (.int (1 : Int32)), .val (.ref w_ASC), .unset, .unset, .unset, .unset] [(.ref w_H2)] _
    refine XS.astore X2.here hx rfl (hb hby at_39) rfl rfl (l' := #[.val (.int pi1), .val (.int pi2), .val (.int ((pi1 &&& (2147483647 : Int32)) % (9 : Int32))), .val (.int (1 : Int32)), .val (.ref w_ASC), .val (.ref w_H2), .unset, .unset, .unset]) rfl ?_
    show Stp p e below T2 m 41 #[.val (.int pi1), .val (.int pi2), .val (.int ((pi1 &&& (2147483647 : Int32)) % (9 : Int32))), .val (.int (1 : Int32)), .val (.ref w_ASC), .val (.ref w_H2), .unset, .unset, .unset] [] _
    refine XS.iloadN X2.here hx rfl (hb hby at_41) rfl ?_
    show Stp p e below T2 m 42 #[.val (.int pi1), .val (.int pi2), .val (.int ((pi1 &&& (2147483647 : Int32)) % (9 : Int32))), .val (.int (1 : Int32)), .val (.ref w_ASC), .val (.ref w_H2), .unset, .unset, .unset] [(.int ((pi1 &&& (2147483647 : Int32)) % (9 : Int32)))] _
    refine XS.ifNo X2.here hx rfl (hb hby at_42) rfl ((if0 _ _).trans (feq hc36_1).1) ?_
    show Stp p e below T2 m 45 #[.val (.int pi1), .val (.int pi2), .val (.int ((pi1 &&& (2147483647 : Int32)) % (9 : Int32))), .val (.int (1 : Int32)), .val (.ref w_ASC), .val (.ref w_H2), .unset, .unset, .unset] [] _
    refine XS.iloadN X2.here hx rfl (hb hby at_45) rfl ?_
    show Stp p e below T2 m 46 #[.val (.int pi1), .val (.int pi2), .val (.int ((pi1 &&& (2147483647 : Int32)) % (9 : Int32))), .val (.int (1 : Int32)), .val (.ref w_ASC), .val (.ref w_H2), .unset, .unset, .unset] [(.int ((pi1 &&& (2147483647 : Int32)) % (9 : Int32)))] _
    refine XS.iconst X2.here hx rfl (hb hby at_46) ?_
    show Stp p e below T2 m 47 #[.val (.int pi1), .val (.int pi2), .val (.int ((pi1 &&& (2147483647 : Int32)) % (9 : Int32))), .val (.int (1 : Int32)), .val (.ref w_ASC), .val (.ref w_H2), .unset, .unset, .unset] [(.int (5 : Int32)), (.int ((pi1 &&& (2147483647 : Int32)) % (9 : Int32)))] _
    refine XS.icmpNo X2.here hx rfl (hb hby at_47) rfl (feq (fun q => absurd (hc36_4.symm.trans q) (by decide))).1 ?_
    show Stp p e below T2 m 50 #[.val (.int pi1), .val (.int pi2), .val (.int ((pi1 &&& (2147483647 : Int32)) % (9 : Int32))), .val (.int (1 : Int32)), .val (.ref w_ASC), .val (.ref w_H2), .unset, .unset, .unset] [] _
    refine XS.iloadN X2.here hx rfl (hb hby at_50) rfl ?_
    show Stp p e below T2 m 51 #[.val (.int pi1), .val (.int pi2), .val (.int ((pi1 &&& (2147483647 : Int32)) % (9 : Int32))), .val (.int (1 : Int32)), .val (.ref w_ASC), .val (.ref w_H2), .unset, .unset, .unset] [(.int ((pi1 &&& (2147483647 : Int32)) % (9 : Int32)))] _
    refine XS.bipush X2.here hx rfl (hb hby at_51) ?_
    show Stp p e below T2 m 53 #[.val (.int pi1), .val (.int pi2), .val (.int ((pi1 &&& (2147483647 : Int32)) % (9 : Int32))), .val (.int (1 : Int32)), .val (.ref w_ASC), .val (.ref w_H2), .unset, .unset, .unset] [(.int (6 : Int32)), (.int ((pi1 &&& (2147483647 : Int32)) % (9 : Int32)))] _
    refine XS.icmpNo X2.here hx rfl (hb hby at_53) rfl (feq (fun q => absurd (hc36_4.symm.trans q) (by decide))).1 ?_
    show Stp p e below T2 m 56 #[.val (.int pi1), .val (.int pi2), .val (.int ((pi1 &&& (2147483647 : Int32)) % (9 : Int32))), .val (.int (1 : Int32)), .val (.ref w_ASC), .val (.ref w_H2), .unset, .unset, .unset] [] _
    refine XS.iloadN X2.here hx rfl (hb hby at_56) rfl ?_
    show Stp p e below T2 m 57 #[.val (.int pi1), .val (.int pi2), .val (.int ((pi1 &&& (2147483647 : Int32)) % (9 : Int32))), .val (.int (1 : Int32)), .val (.ref w_ASC), .val (.ref w_H2), .unset, .unset, .unset] [(.int ((pi1 &&& (2147483647 : Int32)) % (9 : Int32)))] _
    refine XS.bipush X2.here hx rfl (hb hby at_57) ?_
    show Stp p e below T2 m 59 #[.val (.int pi1), .val (.int pi2), .val (.int ((pi1 &&& (2147483647 : Int32)) % (9 : Int32))), .val (.int (1 : Int32)), .val (.ref w_ASC), .val (.ref w_H2), .unset, .unset, .unset] [(.int (8 : Int32)), (.int ((pi1 &&& (2147483647 : Int32)) % (9 : Int32)))] _
    refine XS.icmpYes X2.here hx rfl (pc0 := 59) (pc' := 66) rfl (hb hby at_59) rfl (feq (fun q => absurd (hc36_4.symm.trans q) (by decide))).2 (by decide) (by decide) ?_
    show Stp p e below T2 m 66 #[.val (.int pi1), .val (.int pi2), .val (.int ((pi1 &&& (2147483647 : Int32)) % (9 : Int32))), .val (.int (1 : Int32)), .val (.ref w_ASC), .val (.ref w_H2), .unset, .unset, .unset] [] _
    refine XS.iconst X2.here hx rfl (hb hby at_66) ?_
    show Stp p e below T2 m 67 #[.val (.int pi1), .val (.int pi2), .val (.int ((pi1 &&& (2147483647 : Int32)) % (9 : Int32))), .val (.int (1 : Int32)), .val (.ref w_ASC), .val (.ref w_H2), .unset, .unset, .unset] [(.int (0 : Int32))] _
    refine XS.istore X2.here hx rfl (hb hby at_67) rfl (l' := #[.val (.int pi1), .val (.int pi2), .val (.int ((pi1 &&& (2147483647 : Int32)) % (9 : Int32))), .val (.int (1 : Int32)), .val (.ref w_ASC), .val (.ref w_H2), .val (.int (0 : Int32)), .unset, .unset]) rfl ?_
    show Stp p e below T2 m 69 #[.val (.int pi1), .val (.int pi2), .val (.int ((pi1 &&& (2147483647 : Int32)) % (9 : Int32))), .val (.int (1 : Int32)), .val (.ref w_ASC), .val (.ref w_H2), .val (.int (0 : Int32)), .unset, .unset] [] _
    refine XS.iloadN X2.here hx rfl (hb hby at_69) rfl ?_
    show Stp p e below T2 m 70 #[.val (.int pi1), .val (.int pi2), .val (.int ((pi1 &&& (2147483647 : Int32)) % (9 : Int32))), .val (.int (1 : Int32)), .val (.ref w_ASC), .val (.ref w_H2), .val (.int (0 : Int32)), .unset, .unset] [(.int ((pi1 &&& (2147483647 : Int32)) % (9 : Int32)))] _
    refine XS.iconst X2.here hx rfl (hb hby at_70) ?_
    show Stp p e below T2 m 71 #[.val (.int pi1), .val (.int pi2), .val (.int ((pi1 &&& (2147483647 : Int32)) % (9 : Int32))), .val (.int (1 : Int32)), .val (.ref w_ASC), .val (.ref w_H2), .val (.int (0 : Int32)), .unset, .unset] [(.int (1 : Int32)), (.int ((pi1 &&& (2147483647 : Int32)) % (9 : Int32)))] _
    refine XS.icmpNo X2.here hx rfl (hb hby at_71) rfl (feq hc36_2).1 ?_
    show Stp p e below T2 m 74 #[.val (.int pi1), .val (.int pi2), .val (.int ((pi1 &&& (2147483647 : Int32)) % (9 : Int32))), .val (.int (1 : Int32)), .val (.ref w_ASC), .val (.ref w_H2), .val (.int (0 : Int32)), .unset, .unset] [] _
    refine XS.iloadN X2.here hx rfl (hb hby at_74) rfl ?_
    show Stp p e below T2 m 75 #[.val (.int pi1), .val (.int pi2), .val (.int ((pi1 &&& (2147483647 : Int32)) % (9 : Int32))), .val (.int (1 : Int32)), .val (.ref w_ASC), .val (.ref w_H2), .val (.int (0 : Int32)), .unset, .unset] [(.int ((pi1 &&& (2147483647 : Int32)) % (9 : Int32)))] _
    refine XS.iconst X2.here hx rfl (hb hby at_75) ?_
    show Stp p e below T2 m 76 #[.val (.int pi1), .val (.int pi2), .val (.int ((pi1 &&& (2147483647 : Int32)) % (9 : Int32))), .val (.int (1 : Int32)), .val (.ref w_ASC), .val (.ref w_H2), .val (.int (0 : Int32)), .unset, .unset] [(.int (2 : Int32)), (.int ((pi1 &&& (2147483647 : Int32)) % (9 : Int32)))] _
    refine XS.icmpNo X2.here hx rfl (hb hby at_76) rfl (feq hc36_3).1 ?_
    show Stp p e below T2 m 79 #[.val (.int pi1), .val (.int pi2), .val (.int ((pi1 &&& (2147483647 : Int32)) % (9 : Int32))), .val (.int (1 : Int32)), .val (.ref w_ASC), .val (.ref w_H2), .val (.int (0 : Int32)), .unset, .unset] [] _
    refine XS.iloadN X2.here hx rfl (hb hby at_79) rfl ?_
    show Stp p e below T2 m 80 #[.val (.int pi1), .val (.int pi2), .val (.int ((pi1 &&& (2147483647 : Int32)) % (9 : Int32))), .val (.int (1 : Int32)), .val (.ref w_ASC), .val (.ref w_H2), .val (.int (0 : Int32)), .unset, .unset] [(.int ((pi1 &&& (2147483647 : Int32)) % (9 : Int32)))] _
    refine XS.iconst X2.here hx rfl (hb hby at_80) ?_
    show Stp p e below T2 m 81 #[.val (.int pi1), .val (.int pi2), .val (.int ((pi1 &&& (2147483647 : Int32)) % (9 : Int32))), .val (.int (1 : Int32)), .val (.ref w_ASC), .val (.ref w_H2), .val (.int (0 : Int32)), .unset, .unset] [(.int (3 : Int32)), (.int ((pi1 &&& (2147483647 : Int32)) % (9 : Int32)))] _
    refine XS.icmpYes X2.here hx rfl (pc0 := 81) (pc' := 90) rfl (hb hby at_81) rfl (teq hc36_4).1 (by decide) (by decide) ?_
    show Stp p e below T2 m 90 #[.val (.int pi1), .val (.int pi2), .val (.int ((pi1 &&& (2147483647 : Int32)) % (9 : Int32))), .val (.int (1 : Int32)), .val (.ref w_ASC), .val (.ref w_H2), .val (.int (0 : Int32)), .unset, .unset] [] _
    refine XS.iconst X2.here hx rfl (hb hby at_90) ?_
    show Stp p e below T2 m 91 #[.val (.int pi1), .val (.int pi2), .val (.int ((pi1 &&& (2147483647 : Int32)) % (9 : Int32))), .val (.int (1 : Int32)), .val (.ref w_ASC), .val (.ref w_H2), .val (.int (0 : Int32)), .unset, .unset] [(.int (1 : Int32))] _
    refine XS.goto X2.here hx rfl (pc0 := 91) (pc' := 95) rfl (hb hby at_91) (by decide) (by decide) ?_
    show Stp p e below T2 m 95 #[.val (.int pi1), .val (.int pi2), .val (.int ((pi1 &&& (2147483647 : Int32)) % (9 : Int32))), .val (.int (1 : Int32)), .val (.ref w_ASC), .val (.ref w_H2), .val (.int (0 : Int32)), .unset, .unset] [(.int (1 : Int32))] _
    refine XS.istore X2.here hx rfl (hb hby at_95) rfl (l' := #[.val (.int pi1), .val (.int pi2), .val (.int ((pi1 &&& (2147483647 : Int32)) % (9 : Int32))), .val (.int (1 : Int32)), .val (.ref w_ASC), .val (.ref w_H2), .val (.int (0 : Int32)), .val (.int (1 : Int32)), .unset]) rfl ?_
    show Stp p e below T2 m 97 #[.val (.int pi1), .val (.int pi2), .val (.int ((pi1 &&& (2147483647 : Int32)) % (9 : Int32))), .val (.int (1 : Int32)), .val (.ref w_ASC), .val (.ref w_H2), .val (.int (0 : Int32)), .val (.int (1 : Int32)), .unset] [] _
    refine XS.iload X2.here hx rfl (hb hby at_97) rfl ?_
    show Stp p e below T2 m 99 #[.val (.int pi1), .val (.int pi2), .val (.int ((pi1 &&& (2147483647 : Int32)) % (9 : Int32))), .val (.int (1 : Int32)), .val (.ref w_ASC), .val (.ref w_H2), .val (.int (0 : Int32)), .val (.int (1 : Int32)), .unset] [(.int (0 : Int32))] _
    refine XS.ifYes X2.here hx rfl (pc0 := 99) (pc' := 108) rfl (hb hby at_99) rfl ((if0 _ _).trans (teq (rfl : (0 : Int32) = (0 : Int32))).1) (by decide) (by decide) ?_
    show Stp p e below T2 m 108 #[.val (.int pi1), .val (.int pi2), .val (.int ((pi1 &&& (2147483647 : Int32)) % (9 : Int32))), .val (.int (1 : Int32)), .val (.ref w_ASC), .val (.ref w_H2), .val (.int (0 : Int32)), .val (.int (1 : Int32)), .unset] [] _
    refine XS.iload X2.here hx rfl (hb hby at_108) rfl ?_
    show Stp p e below T2 m 110 #[.val (.int pi1), .val (.int pi2), .val (.int ((pi1 &&& (2147483647 : Int32)) % (9 : Int32))), .val (.int (1 : Int32)), .val (.ref w_ASC), .val (.ref w_H2), .val (.int (0 : Int32)), .val (.int (1 : Int32)), .unset] [(.int (1 : Int32))] _
    refine XS.ifNo X2.here hx rfl (hb hby at_110) rfl ((if0 _ _).trans (feq (by decide : ¬ ((1 : Int32) = (0 : Int32)))).1) ?_
    show Stp p e below T2 m 113 #[.val (.int pi1), .val (.int pi2), .val (.int ((pi1 &&& (2147483647 : Int32)) % (9 : Int32))), .val (.int (1 : Int32)), .val (.ref w_ASC), .val (.ref w_H2), .val (.int (0 : Int32)), .val (.int (1 : Int32)), .unset] [] _
    refine XS.iloadN X2.here hx rfl (hb hby at_113) rfl ?_
    show Stp p e below T2 m 114 #[.val (.int pi1), .val (.int pi2), .val (.int ((pi1 &&& (2147483647 : Int32)) % (9 : Int32))), .val (.int (1 : Int32)), .val (.ref w_ASC), .val (.ref w_H2), .val (.int (0 : Int32)), .val (.int (1 : Int32)), .unset] [(.int (1 : Int32))] _
    refine XS.ifYes X2.here hx rfl (pc0 := 114) (pc' := 121) rfl (hb hby at_114) rfl ((if0 _ _).trans (feq (by decide : ¬ ((1 : Int32) = (0 : Int32)))).2) (by decide) (by decide) ?_
    show Stp p e below T2 m 121 #[.val (.int pi1), .val (.int pi2), .val (.int ((pi1 &&& (2147483647 : Int32)) % (9 : Int32))), .val (.int (1 : Int32)), .val (.ref w_ASC), .val (.ref w_H2), .val (.int (0 : Int32)), .val (.int (1 : Int32)), .unset] [] _
    refine XS.iconst X2.here hx rfl (hb hby at_121) ?_
    show Stp p e below T2 m 122 #[.val (.int pi1), .val (.int pi2), .val (.int ((pi1 &&& (2147483647 : Int32)) % (9 : Int32))), .val (.int (1 : Int32)), .val (.ref w_ASC), .val (.ref w_H2), .val (.int (0 : Int32)), .val (.int (1 : Int32)), .unset] [(.int (0 : Int32))] _
    refine XS.istore X2.here hx rfl (hb hby at_122) rfl (l' := #[.val (.int pi1), .val (.int pi2), .val (.int ((pi1 &&& (2147483647 : Int32)) % (9 : Int32))), .val (.int (1 : Int32)), .val (.ref w_ASC), .val (.ref w_H2), .val (.int (0 : Int32)), .val (.int (1 : Int32)), .val (.int (0 : Int32))]) rfl ?_
    show Stp p e below T2 m 124 #[.val (.int pi1), .val (.int pi2), .val (.int ((pi1 &&& (2147483647 : Int32)) % (9 : Int32))), .val (.int (1 : Int32)), .val (.ref w_ASC), .val (.ref w_H2), .val (.int (0 : Int32)), .val (.int (1 : Int32)), .val (.int (0 : Int32))] [] _
    refine XS.goto X2.here hx rfl (pc0 := 124) (pc' := 130) rfl (hb hby at_124) (by decide) (by decide) ?_
    show Stp p e below T2 m 130 #[.val (.int pi1), .val (.int pi2), .val (.int ((pi1 &&& (2147483647 : Int32)) % (9 : Int32))), .val (.int (1 : Int32)), .val (.ref w_ASC), .val (.ref w_H2), .val (.int (0 : Int32)), .val (.int (1 : Int32)), .val (.int (0 : Int32))] [] _
    refine XS.aload X2.here hx rfl (hb hby at_130) rfl rfl ?_
    show Stp p e below T2 m 132 #[.val (.int pi1), .val (.int pi2), .val (.int ((pi1 &&& (2147483647 : Int32)) % (9 : Int32))), .val (.int (1 : Int32)), .val (.ref w_ASC), .val (.ref w_H2), .val (.int (0 : Int32)), .val (.int (1 : Int32)), .val (.int (0 : Int32))] [(.ref w_H2)] _
    refine XS.aload X2.here hx rfl (hb hby at_132) rfl rfl ?_
    show Stp p e below T2 m 134 #[.val (.int pi1), .val (.int pi2), .val (.int ((pi1 &&& (2147483647 : Int32)) % (9 : Int32))), .val (.int (1 : Int32)), .val (.ref w_ASC), .val (.ref w_H2), .val (.int (0 : Int32)), .val (.int (1 : Int32)), .val (.int (0 : Int32))] [(.ref w_ASC), (.ref w_H2)] _
    refine st3.trans ?_
    show Stp p e below T3 m 137 #[.val (.int pi1), .val (.int pi2), .val (.int ((pi1 &&& (2147483647 : Int32)) % (9 : Int32))), .val (.int (1 : Int32)), .val (.ref w_ASC), .val (.ref w_H2), .val (.int (0 : Int32)), .val (.int (1 : Int32)), .val (.int (0 : Int32))] [(.int (0 : Int32))] _
    refine XS.iload X3.here hx rfl (hb hby at_137) rfl ?_
    show Stp p e below T3 m 139 #[.val (.int pi1), .val (.int pi2), .val (.int ((pi1 &&& (2147483647 : Int32)) % (9 : Int32))), .val (.int (1 : Int32)), .val (.ref w_ASC), .val (.ref w_H2), .val (.int (0 : Int32)), .val (.int (1 : Int32)), .val (.int (0 : Int32))] [(.int (0 : Int32)), (.int (0 : Int32))] _
    refine XS.icmpNo X3.here hx rfl (hb hby at_139) rfl (teq (rfl : (0 : Int32) = (0 : Int32))).2 ?_
    show Stp p e below T3 m 142 #[.val (.int pi1), .val (.int pi2), .val (.int ((pi1 &&& (2147483647 : Int32)) % (9 : Int32))), .val (.int (1 : Int32)), .val (.ref w_ASC), .val (.ref w_H2), .val (.int (0 : Int32)), .val (.int (1 : Int32)), .val (.int (0 : Int32))] [] _
    refine XS.iconst X3.here hx rfl (hb hby at_142) ?_
    show Stp p e below T3 m 143 #[.val (.int pi1), .val (.int pi2), .val (.int ((pi1 &&& (2147483647 : Int32)) % (9 : Int32))), .val (.int (1 : Int32)), .val (.ref w_ASC), .val (.ref w_H2), .val (.int (0 : Int32)), .val (.int (1 : Int32)), .val (.int (0 : Int32))] [(.int (1 : Int32))] _
    refine XS.goto X3.here hx rfl (pc0 := 143) (pc' := 147) rfl (hb hby at_143) (by decide) (by decide) ?_
    show Stp p e below T3 m 147 #[.val (.int pi1), .val (.int pi2), .val (.int ((pi1 &&& (2147483647 : Int32)) % (9 : Int32))), .val (.int (1 : Int32)), .val (.ref w_ASC), .val (.ref w_H2), .val (.int (0 : Int32)), .val (.int (1 : Int32)), .val (.int (0 : Int32))] [(.int (1 : Int32))] _
    exact retN X3 hx (t := .boolean) Bd.returns (by simp) (hb hby at_147) hr
  · exact ⟨rfl, N3⟩
set_option maxRecDepth 65536 in
set_option maxHeartbeats 40000000 in
theorem rm0_tfffft (l : Launch) (Z : State) (a0 : Array Value) (hw : ∀ d ∈ tables_1, d.before a0 Z = true) (ws : List Jvm.Cond) (pi1 : Int32) (pi2 : Int32) (w_HIGH : Addr) (w_LOW : Addr) (w_FIRST : Addr) (w_ASC : Addr) (w_DESC : Addr) (w_POSTGRESQL : Addr) (w_MARIADB : Addr) (w_SQLITE : Addr) (w_H2 : Addr) (w_HSQLDB : Addr) (w_DERBY : Addr) (w_ORACLE : Addr) (w_SQLSERVER : Addr) (w_DB2 : Addr) (h0 : Heap) (n0 : Nat) (Z0 : n0 ≤ h0.size) (O0 : Old Z n0 h0) (S_ASC : Sta Z Z.heap "com/example/leafcount/leafcount/Sort$Direction" "ASC" "Lcom/example/leafcount/leafcount/Sort$Direction;" (.ref w_ASC)) (S_DESC : Sta Z Z.heap "com/example/leafcount/leafcount/Sort$Direction" "DESC" "Lcom/example/leafcount/leafcount/Sort$Direction;" (.ref w_DESC)) (S_POSTGRESQL : Sta Z Z.heap "com/example/leafcount/leafcount/SqlSyntax" "POSTGRESQL" "Lcom/example/leafcount/leafcount/SqlSyntax;" (.ref w_POSTGRESQL)) (S_MARIADB : Sta Z Z.heap "com/example/leafcount/leafcount/SqlSyntax" "MARIADB" "Lcom/example/leafcount/leafcount/SqlSyntax;" (.ref w_MARIADB)) (S_SQLITE : Sta Z Z.heap "com/example/leafcount/leafcount/SqlSyntax" "SQLITE" "Lcom/example/leafcount/leafcount/SqlSyntax;" (.ref w_SQLITE)) (S_H2 : Sta Z Z.heap "com/example/leafcount/leafcount/SqlSyntax" "H2" "Lcom/example/leafcount/leafcount/SqlSyntax;" (.ref w_H2)) (S_HSQLDB : Sta Z Z.heap "com/example/leafcount/leafcount/SqlSyntax" "HSQLDB" "Lcom/example/leafcount/leafcount/SqlSyntax;" (.ref w_HSQLDB)) (S_DERBY : Sta Z Z.heap "com/example/leafcount/leafcount/SqlSyntax" "DERBY" "Lcom/example/leafcount/leafcount/SqlSyntax;" (.ref w_DERBY)) (S_ORACLE : Sta Z Z.heap "com/example/leafcount/leafcount/SqlSyntax" "ORACLE" "Lcom/example/leafcount/leafcount/SqlSyntax;" (.ref w_ORACLE)) (S_SQLSERVER : Sta Z Z.heap "com/example/leafcount/leafcount/SqlSyntax" "SQLSERVER" "Lcom/example/leafcount/leafcount/SqlSyntax;" (.ref w_SQLSERVER)) (S_DB2 : Sta Z Z.heap "com/example/leafcount/leafcount/SqlSyntax" "DB2" "Lcom/example/leafcount/leafcount/SqlSyntax;" (.ref w_DB2)) (E_w_POSTGRESQL : Exa Z Z.heap w_POSTGRESQL "com/example/leafcount/leafcount/SqlSyntax") (E_w_MARIADB : Exa Z Z.heap w_MARIADB "com/example/leafcount/leafcount/SqlSyntax") (E_w_SQLITE : Exa Z Z.heap w_SQLITE "com/example/leafcount/leafcount/SqlSyntax") (E_w_H2 : Exa Z Z.heap w_H2 "com/example/leafcount/leafcount/SqlSyntax") (E_w_HSQLDB : Exa Z Z.heap w_HSQLDB "com/example/leafcount/leafcount/SqlSyntax") (E_w_DERBY : Exa Z Z.heap w_DERBY "com/example/leafcount/leafcount/SqlSyntax") (E_w_ORACLE : Exa Z Z.heap w_ORACLE "com/example/leafcount/leafcount/SqlSyntax") (E_w_SQLSERVER : Exa Z Z.heap w_SQLSERVER "com/example/leafcount/leafcount/SqlSyntax") (E_w_DB2 : Exa Z Z.heap w_DB2 "com/example/leafcount/leafcount/SqlSyntax") (F_nullOrder_w_POSTGRESQL : Fld Z Z.heap w_POSTGRESQL "com/example/leafcount/leafcount/SqlSyntax" "nullOrder" "Lcom/example/leafcount/leafcount/SqlSyntax$NullOrder;" (.ref w_HIGH)) (F_nullOrder_w_MARIADB : Fld Z Z.heap w_MARIADB "com/example/leafcount/leafcount/SqlSyntax" "nullOrder" "Lcom/example/leafcount/leafcount/SqlSyntax$NullOrder;" (.ref w_LOW)) (F_nullOrder_w_SQLITE : Fld Z Z.heap w_SQLITE "com/example/leafcount/leafcount/SqlSyntax" "nullOrder" "Lcom/example/leafcount/leafcount/SqlSyntax$NullOrder;" (.ref w_LOW)) (F_nullOrder_w_H2 : Fld Z Z.heap w_H2 "com/example/leafcount/leafcount/SqlSyntax" "nullOrder" "Lcom/example/leafcount/leafcount/SqlSyntax$NullOrder;" (.ref w_LOW)) (F_nullOrder_w_HSQLDB : Fld Z Z.heap w_HSQLDB "com/example/leafcount/leafcount/SqlSyntax" "nullOrder" "Lcom/example/leafcount/leafcount/SqlSyntax$NullOrder;" (.ref w_FIRST)) (F_nullOrder_w_DERBY : Fld Z Z.heap w_DERBY "com/example/leafcount/leafcount/SqlSyntax" "nullOrder" "Lcom/example/leafcount/leafcount/SqlSyntax$NullOrder;" (.ref w_HIGH)) (F_nullOrder_w_ORACLE : Fld Z Z.heap w_ORACLE "com/example/leafcount/leafcount/SqlSyntax" "nullOrder" "Lcom/example/leafcount/leafcount/SqlSyntax$NullOrder;" (.ref w_HIGH)) (F_nullOrder_w_SQLSERVER : Fld Z Z.heap w_SQLSERVER "com/example/leafcount/leafcount/SqlSyntax" "nullOrder" "Lcom/example/leafcount/leafcount/SqlSyntax$NullOrder;" (.ref w_LOW)) (F_nullOrder_w_DB2 : Fld Z Z.heap w_DB2 "com/example/leafcount/leafcount/SqlSyntax" "nullOrder" "Lcom/example/leafcount/leafcount/SqlSyntax$NullOrder;" (.ref w_HIGH)) (F_last_w_HIGH : Fld Z Z.heap w_HIGH "com/example/leafcount/leafcount/SqlSyntax$NullOrder" "last" "Lcom/example/leafcount/leafcount/Sort$Direction;" (.ref w_ASC)) (F_last_w_LOW : Fld Z Z.heap w_LOW "com/example/leafcount/leafcount/SqlSyntax$NullOrder" "last" "Lcom/example/leafcount/leafcount/Sort$Direction;" (.ref w_DESC)) (F_last_w_FIRST : Fld Z Z.heap w_FIRST "com/example/leafcount/leafcount/SqlSyntax$NullOrder" "last" "Lcom/example/leafcount/leafcount/Sort$Direction;" .null) (hne : w_ASC ≠ w_DESC) (hc11_0 : (pi2 &&& (1 : Int32)) = (0 : Int32)) (hc36_1 : ¬ (((pi1 &&& (2147483647 : Int32)) % (9 : Int32)) = (0 : Int32))) (hc36_2 : ¬ (((pi1 &&& (2147483647 : Int32)) % (9 : Int32)) = (1 : Int32))) (hc36_3 : ¬ (((pi1 &&& (2147483647 : Int32)) % (9 : Int32)) = (2 : Int32))) (hc36_4 : ¬ (((pi1 &&& (2147483647 : Int32)) % (9 : Int32)) = (3 : Int32))) (hc36_5 : ((pi1 &&& (2147483647 : Int32)) % (9 : Int32)) = (4 : Int32)) :
    MetFree l x (head1 (Jvm.Cond.code x code maxLocals ret :: ws) room_1) (fun a U => a = #[(.int pi1), (.int pi2)] ∧ Z.Warmed39 U.vm ∧ U.heap = h0) (fun _ _ _ _ _ => True) (fun _ U o U' => ∃ v L, o = .returned v ∧ Q0 v L n0 ∧ FrameEnd U o U' L room_1.cells room_1.slots) := by
  refine MetFree.of_bodySF (plainFor_of_name pn_0) hisR ?_
  intro p e s m args below meth c s₁ Bd hml0 hP hK
  obtain ⟨rfl, hZ, hh⟩ := hP
  have hx := Bd.exec
  have hby := Bd.bytes
  have hml : c.maxLocals = 9 := hml0
  have hown : s.vm.findClass "com/example/leafcount/leafcount/SqlSyntaxPutsNullLastPinLaw" = some m.cls := findClass_of_methodNamed Bd.named
  have hnm := (name_of_methodNamed Bd.named Bd.method).1
  have X0 : Stand p l e room_1 s m #[(.int pi1), (.int pi2)] below meth c s₁ [] 0 0 := Stand.of_body Bd
  have e0 : s₁.heap = h0 := by rw [← hh, Bd.state]; rfl
  have N0 := Fr.nil n0
  have pre0 : ∀ t, Steps p.tables e below (s₁.setTop (mkF m 0 #[.val (.int pi1), .val (.int pi2), .unset, .unset, .unset, .unset, .unset, .unset, .unset] [])) t → Steps p.tables e below (s₁.setTop (entryFrame m #[(.int pi1), (.int pi2)] maxLocals)) t := fun t k => castTop (ef_0 m pi1 pi2) k
  obtain ⟨T1, X1, e1, st1⟩ := getS2 X0 hx hZ hown (host := "") (Or.inl (own_W hw 25 rfl)) Via.refl e0 (S_ASC.ext O0.2) (g := (mkF m 24 #[.val (.int pi1), .val (.int pi2), .val (.int ((pi1 &&& (2147483647 : Int32)) % (9 : Int32))), .val (.int (1 : Int32)), .unset, .unset, .unset, .unset, .unset] [])) rfl (hb hby at_24)
  obtain ⟨_, _, ⟨T2, L2, k2, n2⟩, -, X2, ⟨Lc2, hQ2, l2, y2, z2⟩, st2⟩ := Jvm.LawKit.callS X1 hx (y := (⟨"com/example/leafcount/leafcount/SqlSyntaxPutsNullLastPinLaw", "pick", "(I)Lcom/example/leafcount/leafcount/SqlSyntax;"⟩ : MethodName)) hown (mvT hZ (own_W hw 4 rfl)) (mvT hZ (own_W hw 5 rfl)) (mvT hZ (own_W hw 6 rfl)) (mvT hZ (own_W hw 7 rfl)) (by decide) (backOf (W := 0) (rm1_4 l Z a0 hw [] ((pi1 &&& (2147483647 : Int32)) % (9 : Int32)) w_HSQLDB h0 n0 Z0 O0 S_HSQLDB hc36_1 hc36_2 hc36_3 hc36_4 hc36_5) hZ (own_W hw 7 rfl) (own_W hw 6 rfl) (by decide) (by decide)) (g := (mkF m 36 #[.val (.int pi1), .val (.int pi2), .val (.int ((pi1 &&& (2147483647 : Int32)) % (9 : Int32))), .val (.int (1 : Int32)), .val (.ref w_ASC), .unset, .unset, .unset, .unset] [(.int ((pi1 &&& (2147483647 : Int32)) % (9 : Int32)))])) rfl (by rw [hml]; rfl) (argsL := [(.int ((pi1 &&& (2147483647 : Int32)) % (9 : Int32)))]) (rest := []) (lenOf pd_0 rfl) rfl (by show 2 * 0 + _ ≤ _; exact Nat.le_of_eq rfl) (hb hby at_36) (fun _ _ => ⟨rfl, e1, (by decide : 0 + 0 ≤ _), (by decide : 0 + 0 ≤ _)⟩)
  dsimp only [Pt.U, Pt.locs, Pt.cells, Pt.slots] at X2 l2 y2 z2 st2 hQ2
  subst l2 y2 z2
  obtain ⟨rfl, N2q, eq2⟩ := hQ2
  have N2 := Fr.app N0 N2q
  obtain ⟨cq3, kq3, q3a, q3b, q3c⟩ := isOf hZ eq2 (E_w_HSQLDB.ext O0.2)
  obtain ⟨_, _, ⟨T3, L3, k3, n3⟩, -, X3, ⟨Lc3, hQ3, l3, y3, z3⟩, st3⟩ := X2.virtualBack hx (y := (⟨"com/example/leafcount/leafcount/SqlSyntax", "putsNullLast", "(Lcom/example/leafcount/leafcount/Sort$Direction;)Z"⟩ : MethodName)) (z := (⟨"com/example/leafcount/leafcount/SqlSyntax", "putsNullLast", "(Lcom/example/leafcount/leafcount/Sort$Direction;)Z"⟩ : MethodName)) hown (mvT hZ (own_W hw 11 rfl)) (mvT hZ (own_W hw 12 rfl)) (notFace_of_selects (args := #[]) (mvT hZ (own_W hw 14 rfl))) (mvT hZ (own_W hw 14 rfl)) (mvT hZ (own_W hw 13 rfl)) (by decide) (backOf (W := 0) (rm2_n l Z a0 hw [] w_HSQLDB w_ASC w_FIRST h0 n0 Z0 O0 (F_nullOrder_w_HSQLDB.ext O0.2) (F_last_w_FIRST.ext O0.2)) hZ (own_W hw 15 rfl) (own_W hw 9 rfl) (by decide) (by decide)) q3a q3c (g := (mkF m 134 #[.val (.int pi1), .val (.int pi2), .val (.int ((pi1 &&& (2147483647 : Int32)) % (9 : Int32))), .val (.int (1 : Int32)), .val (.ref w_ASC), .val (.ref w_HSQLDB), .val (.int (0 : Int32)), .val (.int (0 : Int32)), .val (.int (0 : Int32))] [(.ref w_ASC), (.ref w_HSQLDB)])) rfl (by rw [hml]; rfl) (Steps.refl _) (argsL := [(.ref w_ASC)]) (rest := []) (lenOf pd_1 rfl) rfl (by show 2 * 0 + _ ≤ _; exact Nat.le_of_eq rfl) (hb hby at_134) (fun _ _ => ⟨rfl, eq2, (by decide : 0 + 0 ≤ _), (by decide : 0 + 0 ≤ _)⟩)
  dsimp only [Pt.U, Pt.locs, Pt.cells, Pt.slots] at X3 l3 y3 z3 st3 hQ3
  subst l3 y3 z3
  obtain ⟨rfl, N3q, eq3⟩ := hQ3
  have N3 := Fr.app N2 N3q
  obtain ⟨fs, hr, hrun, hended, hW, hsame⟩ := X3.leave (v := some (.int (1 : Int32))) (fun h => by rw [Bd.returns] at h; cases h)
  refine ⟨_, _, pre0 _ ?_, hrun, hended, _, _, rfl, ?_, ⟨_, rfl⟩, hW, hsame.mono (by decide) (by decide)⟩
  · show Stp p e below s₁ m 0 #[.val (.int pi1), .val (.int pi2), .unset, .unset, .unset, .unset, .unset, .unset, .unset] [] _
    refine XS.iloadN X0.here hx rfl (hb hby at_0) rfl ?_
    show Stp p e below s₁ m 1 #[.val (.int pi1), .val (.int pi2), .unset, .unset, .unset, .unset, .unset, .unset, .unset] [(.int pi1)] _
    refine X0.ldcInt hx hown (mvT hZ (own_W hw 0 rfl)) (g := (mkF m 1 #[.val (.int pi1), .val (.int pi2), .unset, .unset, .unset, .unset, .unset, .unset, .unset] [(.int pi1)])) rfl (hb hby at_1) _ ?_
    show Stp p e below s₁ m 3 #[.val (.int pi1), .val (.int pi2), .unset, .unset, .unset, .unset, .unset, .unset, .unset] [(.int (2147483647 : Int32)), (.int pi1)] _
    refine XS.iand X0.here hx rfl (hb hby at_3) rfl ?_
    show Stp p e below s₁ m 4 #[.val (.int pi1), .val (.int pi2), .unset, .unset, .unset, .unset, .unset, .unset, .unset] [(.int (pi1 &&& (2147483647 : Int32)))] _
    refine XS.bipush X0.here hx rfl (hb hby at_4) ?_
    show Stp p e below s₁ m 6 #[.val (.int pi1), .val (.int pi2), .unset, .unset, .unset, .unset, .unset, .unset, .unset] [(.int (9 : Int32)), (.int (pi1 &&& (2147483647 : Int32)))] _
    refine iremM X0 hx rfl (hb hby at_6) rfl (by decide) ?_
    show Stp p e below s₁ m 7 #[.val (.int pi1), .val (.int pi2), .unset, .unset, .unset, .unset, .unset, .unset, .unset] [(.int ((pi1 &&& (2147483647 : Int32)) % (9 : Int32)))] _
    refine XS.istoreN X0.here hx rfl (hb hby at_7) rfl (l' := #[.val (.int pi1), .val (.int pi2), .val (.int ((pi1 &&& (2147483647 : Int32)) % (9 : Int32))), .unset, .unset, .unset, .unset, .unset, .unset]) rfl ?_
    show Stp p e below s₁ m 8 #[.val (.int pi1), .val (.int pi2), .val (.int ((pi1 &&& (2147483647 : Int32)) % (9 : Int32))), .unset, .unset, .unset, .unset, .unset, .unset] [] _
    refine XS.iloadN X0.here hx rfl (hb hby at_8) rfl ?_
    show Stp p e below s₁ m 9 #[.val (.int pi1), .val (.int pi2), .val (.int ((pi1 &&& (2147483647 : Int32)) % (9 : Int32))), .unset, .unset, .unset, .unset, .unset, .unset] [(.int pi2)] _
    refine XS.iconst X0.here hx rfl (hb hby at_9) ?_
    show Stp p e below s₁ m 10 #[.val (.int pi1), .val (.int pi2), .val (.int ((pi1 &&& (2147483647 : Int32)) % (9 : Int32))), .unset, .unset, .unset, .unset, .unset, .unset] [(.int (1 : Int32)), (.int pi2)] _
    refine XS.iand X0.here hx rfl (hb hby at_10) rfl ?_
    show Stp p e below s₁ m 11 #[.val (.int pi1), .val (.int pi2), .val (.int ((pi1 &&& (2147483647 : Int32)) % (9 : Int32))), .unset, .unset, .unset, .unset, .unset, .unset] [(.int (pi2 &&& (1 : Int32)))] _
    refine XS.ifNo X0.here hx rfl (hb hby at_11) rfl ((if0 _ _).trans (teq hc11_0).2) ?_
    show Stp p e below s₁ m 14 #[.val (.int pi1), .val (.int pi2), .val (.int ((pi1 &&& (2147483647 : Int32)) % (9 : Int32))), .unset, .unset, .unset, .unset, .unset, .unset] [] _
    refine XS.iconst X0.here hx rfl (hb hby at_14) ?_
    show Stp p e below s₁ m 15 #[.val (.int pi1), .val (.int pi2), .val (.int ((pi1 &&& (2147483647 : Int32)) % (9 : Int32))), .unset, .unset, .unset, .unset, .unset, .unset] [(.int (1 : Int32))] _
    refine XS.goto X0.here hx rfl (pc0 := 15) (pc' := 19) rfl (hb hby at_15) (by decide) (by decide) ?_
    show Stp p e below s₁ m 19 #[.val (.int pi1), .val (.int pi2), .val (.int ((pi1 &&& (2147483647 : Int32)) % (9 : Int32))), .unset, .unset, .unset, .unset, .unset, .unset] [(.int (1 : Int32))] _
    refine XS.istoreN X0.here hx rfl (hb hby at_19) rfl (l' := #[.val (.int pi1), .val (.int pi2), .val (.int ((pi1 &&& (2147483647 : Int32)) % (9 : Int32))), .val (.int (1 : Int32)), .unset, .unset, .unset, .unset, .unset]) rfl ?_
    show Stp p e below s₁ m 20 #[.val (.int pi1), .val (.int pi2), .val (.int ((pi1 &&& (2147483647 : Int32)) % (9 : Int32))), .val (.int (1 : Int32)), .unset, .unset, .unset, .unset, .unset] [] _
    refine XS.iloadN X0.here hx rfl (hb hby at_20) rfl ?_
    show Stp p e below s₁ m 21 #[.val (.int pi1), .val (.int pi2), .val (.int ((pi1 &&& (2147483647 : Int32)) % (9 : Int32))), .val (.int (1 : Int32)), .unset, .unset, .unset, .unset, .unset] [(.int (1 : Int32))] _
    refine XS.ifNo X0.here hx rfl (hb hby at_21) rfl ((if0 _ _).trans (feq (by decide : ¬ ((1 : Int32) = (0 : Int32)))).1) ?_
    show Stp p e below s₁ m 24 #[.val (.int pi1), .val (.int pi2), .val (.int ((pi1 &&& (2147483647 : Int32)) % (9 : Int32))), .val (.int (1 : Int32)), .unset, .unset, .unset, .unset, .unset] [] _
    refine st1 _ ?_
    show Stp p e below T1 m 27 #[.val (.int pi1), .val (.int pi2), .val (.int ((pi1 &&& (2147483647 : Int32)) % (9 : Int32))), .val (.int (1 : Int32)), .unset, .unset, .unset, .unset, .unset] [(.ref w_ASC)] _
    refine XS.goto X1.here hx rfl (pc0 := 27) (pc' := 33) rfl (hb hby at_27) (by decide) (by decide) ?_
    show Stp p e below T1 m 33 #[.val (.int pi1), .val (.int pi2), .val (.int ((pi1 &&& (2147483647 : Int32)) % (9 : Int32))), .val (.int (1 : Int32)), .unset, .unset, .unset, .unset, .unset] [(.ref w_ASC)] _
    refine XS.astore X1.here hx rfl (hb hby at_33) rfl rfl (l' := #[.val (.int pi1), .val (.int pi2), .val (.int ((pi1 &&& (2147483647 : Int32)) % (9 : Int32))), .val (.int (1 : Int32)), .val (.ref w_ASC), .unset, .unset, .unset, .unset]) rfl ?_
    show Stp p e below T1 m 35 #[.val (.int pi1), .val (.int pi2), .val (.int ((pi1 &&& (2147483647 : Int32)) % (9 : Int32))), .val (.int (1 : Int32)), .val (.ref w_ASC), .unset, .unset, .unset, .unset] [] _
    refine XS.iloadN X1.here hx rfl (hb hby at_35) rfl ?_
    show Stp p e below T1 m 36 #[.val (.int pi1), .val (.int pi2), .val (.int ((pi1 &&& (2147483647 : Int32)) % (9 : Int32))), .val (.int (1 : Int32)), .val (.ref w_ASC), .unset, .unset, .unset, .unset] [(.int ((pi1 &&& (2147483647 : Int32)) % (9 : Int32)))] _
    refine st2 _ ?_
    show Stp p e below T2 m 39 #[.val (.int pi1), .val (.int pi2), .val (.int ((pi1 &&& (2147483647 : Int32)) % (9 : Int32))), .val (.int (1 : Int32)), .val (.ref w_ASC), .unset, .unset, .unset, .unset] [(.ref w_HSQLDB)] _
    refine XS.astore X2.here hx rfl (hb hby at_39) rfl rfl (l' := #[.val (.int pi1), .val (.int pi2), .val (.int ((pi1 &&& (2147483647 : Int32)) % (9 : Int32))), .val (.int (1 : Int32)), .val (.ref w_ASC), .val (.ref w_HSQLDB), .unset, .unset, .unset]) rfl ?_
    show Stp p e below T2 m 41 #[.val (.int pi1), .val (.int pi2), .val (.int ((pi1 &&& (2147483647 : Int32)) % (9 : Int32))), .val (.int (1 : Int32)), .val (.ref w_ASC), .val (.ref w_HSQLDB), .unset, .unset, .unset] [] _
    refine XS.iloadN X2.here hx rfl (hb hby at_41) rfl ?_
    show Stp p e below T2 m 42 #[.val (.int pi1), .val (.int pi2), .val (.int ((pi1 &&& (2147483647 : Int32)) % (9 : Int32))), .val (.int (1 : Int32)), .val (.ref w_ASC), .val (.ref w_HSQLDB), .unset, .unset, .unset] [(.int ((pi1 &&& (2147483647 : Int32)) % (9 : Int32)))] _
    refine XS.ifNo X2.here hx rfl (hb hby at_42) rfl ((if0 _ _).trans (feq hc36_1).1) ?_
    show Stp p e below T2 m 45 #[.val (.int pi1), .val (.int pi2), .val (.int ((pi1 &&& (2147483647 : Int32)) % (9 : Int32))), .val (.int (1 : Int32)), .val (.ref w_ASC), .val (.ref w_HSQLDB), .unset, .unset, .unset] [] _
    refine XS.iloadN X2.here hx rfl (hb hby at_45) rfl ?_
    show Stp p e below T2 m 46 #[.val (.int pi1), .val (.int pi2), .val (.int ((pi1 &&& (2147483647 : Int32)) % (9 : Int32))), .val (.int (1 : Int32)), .val (.ref w_ASC), .val (.ref w_HSQLDB), .unset, .unset, .unset] [(.int ((pi1 &&& (2147483647 : Int32)) % (9 : Int32)))] _
    refine XS.iconst X2.here hx rfl (hb hby at_46) ?_
    show Stp p e below T2 m 47 #[.val (.int pi1), .val (.int pi2), .val (.int ((pi1 &&& (2147483647 : Int32)) % (9 : Int32))), .val (.int (1 : Int32)), .val (.ref w_ASC), .val (.ref w_HSQLDB), .unset, .unset, .unset] [(.int (5 : Int32)), (.int ((pi1 &&& (2147483647 : Int32)) % (9 : Int32)))] _
    refine XS.icmpNo X2.here hx rfl (hb hby at_47) rfl (feq (fun q => absurd (hc36_5.symm.trans q) (by decide))).1 ?_
    show Stp p e below T2 m 50 #[.val (.int pi1), .val (.int pi2), .val (.int ((pi1 &&& (2147483647 : Int32)) % (9 : Int32))), .val (.int (1 : Int32)), .val (.ref w_ASC), .val (.ref w_HSQLDB), .unset, .unset, .unset] [] _
    refine XS.iloadN X2.here hx rfl (hb hby at_50) rfl ?_
    show Stp p e below T2 m 51 #[.val (.int pi1), .val (.int pi2), .val (.int ((pi1 &&& (2147483647 : Int32)) % (9 : Int32))), .val (.int (1 : Int32)), .val (.ref w_ASC), .val (.ref w_HSQLDB), .unset, .unset, .unset] [(.int ((pi1 &&& (2147483647 : Int32)) % (9 : Int32)))] _
    refine XS.bipush X2.here hx rfl (hb hby at_51) ?_
    show Stp p e below T2 m 53 #[.val (.int pi1), .val (.int pi2), .val (.int ((pi1 &&& (2147483647 : Int32)) % (9 : Int32))), .val (.int (1 : Int32)), .val (.ref w_ASC), .val (.ref w_HSQLDB), .unset, .unset, .unset] [(.int (6 : Int32)), (.int ((pi1 &&& (2147483647 : Int32)) % (9 : Int32)))] _
    refine XS.icmpNo X2.here hx rfl (hb hby at_53) rfl (feq (fun q => absurd (hc36_5.symm.trans q) (by decide))).1 ?_
    show Stp p e below T2 m 56 #[.val (.int pi1), .val (.int pi2), .val (.int ((pi1 &&& (2147483647 : Int32)) % (9 : Int32))), .val (.int (1 : Int32)), .val (.ref w_ASC), .val (.ref w_HSQLDB), .unset, .unset, .unset] [] _
    refine XS.iloadN X2.here hx rfl (hb hby at_56) rfl ?_
    show Stp p e below T2 m 57 #[.val (.int pi1), .val (.int pi2), .val (.int ((pi1 &&& (2147483647 : Int32)) % (9 : Int32))), .val (.int (1 : Int32)), .val (.ref w_ASC), .val (.ref w_HSQLDB), .unset, .unset, .unset] [(.int ((pi1 &&& (2147483647 : Int32)) % (9 : Int32)))] _
    refine XS.bipush X2.here hx rfl (hb hby at_57) ?_
    show Stp p e below T2 m 59 #[.val (.int pi1), .val (.int pi2), .val (.int ((pi1 &&& (2147483647 : Int32)) % (9 : Int32))), .val (.int (1 : Int32)), .val (.ref w_ASC), .val (.ref w_HSQLDB), .unset, .unset, .unset] [(.int (8 : Int32)), (.int ((pi1 &&& (2147483647 : Int32)) % (9 : Int32)))] _
    refine XS.icmpYes X2.here hx rfl (pc0 := 59) (pc' := 66) rfl (hb hby at_59) rfl (feq (fun q => absurd (hc36_5.symm.trans q) (by decide))).2 (by decide) (by decide) ?_
    show Stp p e below T2 m 66 #[.val (.int pi1), .val (.int pi2), .val (.int ((pi1 &&& (2147483647 : Int32)) % (9 : Int32))), .val (.int (1 : Int32)), .val (.ref w_ASC), .val (.ref w_HSQLDB), .unset, .unset, .unset] [] _
    refine XS.iconst X2.here hx rfl (hb hby at_66) ?_
    show Stp p e below T2 m 67 #[.val (.int pi1), .val (.int pi2), .val (.int ((pi1 &&& (2147483647 : Int32)) % (9 : Int32))), .val (.int (1 : Int32)), .val (.ref w_ASC), .val (.ref w_HSQLDB), .unset, .unset, .unset] [(.int (0 : Int32))] _
    refine XS.istore X2.here hx rfl (hb hby at_67) rfl (l' := #[.val (.int pi1), .val (.int pi2), .val (.int ((pi1 &&& (2147483647 : Int32)) % (9 : Int32))), .val (.int (1 : Int32)), .val (.ref w_ASC), .val (.ref w_HSQLDB), .val (.int (0 : Int32)), .unset, .unset]) rfl ?_
    show Stp p e below T2 m 69 #[.val (.int pi1), .val (.int pi2), .val (.int ((pi1 &&& (2147483647 : Int32)) % (9 : Int32))), .val (.int (1 : Int32)), .val (.ref w_ASC), .val (.ref w_HSQLDB), .val (.int (0 : Int32)), .unset, .unset] [] _
    refine XS.iloadN X2.here hx rfl (hb hby at_69) rfl ?_
    show Stp p e below T2 m 70 #[.val (.int pi1), .val (.int pi2), .val (.int ((pi1 &&& (2147483647 : Int32)) % (9 : Int32))), .val (.int (1 : Int32)), .val (.ref w_ASC), .val (.ref w_HSQLDB), .val (.int (0 : Int32)), .unset, .unset] [(.int ((pi1 &&& (2147483647 : Int32)) % (9 : Int32)))] _
    refine XS.iconst X2.here hx rfl (hb hby at_70) ?_
    show Stp p e below T2 m 71 #[.val (.int pi1), .val (.int pi2), .val (.int ((pi1 &&& (2147483647 : Int32)) % (9 : Int32))), .val (.int (1 : Int32)), .val (.ref w_ASC), .val (.ref w_HSQLDB), .val (.int (0 : Int32)), .unset, .unset] [(.int (1 : Int32)), (.int ((pi1 &&& (2147483647 : Int32)) % (9 : Int32)))] _
    refine XS.icmpNo X2.here hx rfl (hb hby at_71) rfl (feq hc36_2).1 ?_
    show Stp p e below T2 m 74 #[.val (.int pi1), .val (.int pi2), .val (.int ((pi1 &&& (2147483647 : Int32)) % (9 : Int32))), .val (.int (1 : Int32)), .val (.ref w_ASC), .val (.ref w_HSQLDB), .val (.int (0 : Int32)), .unset, .unset] [] _
    refine XS.iloadN X2.here hx rfl (hb hby at_74) rfl ?_
    show Stp p e below T2 m 75 #[.val (.int pi1), .val (.int pi2), .val (.int ((pi1 &&& (2147483647 : Int32)) % (9 : Int32))), .val (.int (1 : Int32)), .val (.ref w_ASC), .val (.ref w_HSQLDB), .val (.int (0 : Int32)), .unset, .unset] [(.int ((pi1 &&& (2147483647 : Int32)) % (9 : Int32)))] _
    refine XS.iconst X2.here hx rfl (hb hby at_75) ?_
    show Stp p e below T2 m 76 #[.val (.int pi1), .val (.int pi2), .val (.int ((pi1 &&& (2147483647 : Int32)) % (9 : Int32))), .val (.int (1 : Int32)), .val (.ref w_ASC), .val (.ref w_HSQLDB), .val (.int (0 : Int32)), .unset, .unset] [(.int (2 : Int32)), (.int ((pi1 &&& (2147483647 : Int32)) % (9 : Int32)))] _
    refine XS.icmpNo X2.here hx rfl (hb hby at_76) rfl (feq hc36_3).1 ?_
    show Stp p e below T2 m 79 #[.val (.int pi1), .val (.int pi2), .val (.int ((pi1 &&& (2147483647 : Int32)) % (9 : Int32))), .val (.int (1 : Int32)), .val (.ref w_ASC), .val (.ref w_HSQLDB), .val (.int (0 : Int32)), .unset, .unset] [] _
    refine XS.iloadN X2.here hx rfl (hb hby at_79) rfl ?_
    show Stp p e below T2 m 80 #[.val (.int pi1), .val (.int pi2), .val (.int ((pi1 &&& (2147483647 : Int32)) % (9 : Int32))), .val (.int (1 : Int32)), .val (.ref w_ASC), .val (.ref w_HSQLDB), .val (.int (0 : Int32)), .unset, .unset] [(.int ((pi1 &&& (2147483647 : Int32)) % (9 : Int32)))] _
    refine XS.iconst X2.here hx rfl (hb hby at_80) ?_
    show Stp p e below T2 m 81 #[.val (.int pi1), .val (.int pi2), .val (.int ((pi1 &&& (2147483647 : Int32)) % (9 : Int32))), .val (.int (1 : Int32)), .val (.ref w_ASC), .val (.ref w_HSQLDB), .val (.int (0 : Int32)), .unset, .unset] [(.int (3 : Int32)), (.int ((pi1 &&& (2147483647 : Int32)) % (9 : Int32)))] _
    refine XS.icmpNo X2.here hx rfl (hb hby at_81) rfl (feq hc36_4).1 ?_
    show Stp p e below T2 m 84 #[.val (.int pi1), .val (.int pi2), .val (.int ((pi1 &&& (2147483647 : Int32)) % (9 : Int32))), .val (.int (1 : Int32)), .val (.ref w_ASC), .val (.ref w_HSQLDB), .val (.int (0 : Int32)), .unset, .unset] [] _
    refine XS.iloadN X2.here hx rfl (hb hby at_84) rfl ?_
    show Stp p e below T2 m 85 #[.val (.int pi1), .val (.int pi2), .val (.int ((pi1 &&& (2147483647 : Int32)) % (9 : Int32))), .val (.int (1 : Int32)), .val (.ref w_ASC), .val (.ref w_HSQLDB), .val (.int (0 : Int32)), .unset, .unset] [(.int ((pi1 &&& (2147483647 : Int32)) % (9 : Int32)))] _
    refine XS.bipush X2.here hx rfl (hb hby at_85) ?_
    show Stp p e below T2 m 87 #[.val (.int pi1), .val (.int pi2), .val (.int ((pi1 &&& (2147483647 : Int32)) % (9 : Int32))), .val (.int (1 : Int32)), .val (.ref w_ASC), .val (.ref w_HSQLDB), .val (.int (0 : Int32)), .unset, .unset] [(.int (7 : Int32)), (.int ((pi1 &&& (2147483647 : Int32)) % (9 : Int32)))] _
    refine XS.icmpYes X2.here hx rfl (pc0 := 87) (pc' := 94) rfl (hb hby at_87) rfl (feq (fun q => absurd (hc36_5.symm.trans q) (by decide))).2 (by decide) (by decide) ?_
    show Stp p e below T2 m 94 #[.val (.int pi1), .val (.int pi2), .val (.int ((pi1 &&& (2147483647 : Int32)) % (9 : Int32))), .val (.int (1 : Int32)), .val (.ref w_ASC), .val (.ref w_HSQLDB), .val (.int (0 : Int32)), .unset, .unset] [] _
    refine XS.iconst X2.here hx rfl (hb hby at_94) ?_
    show Stp p e below T2 m 95 #[.val (.int pi1), .val (.int pi2), .val (.int ((pi1 &&& (2147483647 : Int32)) % (9 : Int32))), .val (.int (1 : Int32)), .val (.ref w_ASC), .val (.ref w_HSQLDB), .val (.int (0 : Int32)), .unset, .unset] [(.int (0 : Int32))] _
    refine XS.istore X2.here hx rfl (hb hby at_95) rfl (l' := #[.val (.int pi1), .val (.int pi2), .val (.int ((pi1 &&& (2147483647 : Int32)) % (9 : Int32))), .val (.int (1 : Int32)), .val (.ref w_ASC), .val (.ref w_HSQLDB), .val (.int (0 : Int32)), .val (.int (0 : Int32)), .unset]) rfl ?_
    show Stp p e below T2 m 97 #[.val (.int pi1), .val (.int pi2), .val (.int ((pi1 &&& (2147483647 : Int32)) % (9 : Int32))), .val (.int (1 : Int32)), .val (.ref w_ASC), .val (.ref w_HSQLDB), .val (.int (0 : Int32)), .val (.int (0 : Int32)), .unset] [] _
    refine XS.iload X2.here hx rfl (hb hby at_97) rfl ?_
    show Stp p e below T2 m 99 #[.val (.int pi1), .val (.int pi2), .val (.int ((pi1 &&& (2147483647 : Int32)) % (9 : Int32))), .val (.int (1 : Int32)), .val (.ref w_ASC), .val (.ref w_HSQLDB), .val (.int (0 : Int32)), .val (.int (0 : Int32)), .unset] [(.int (0 : Int32))] _
    refine XS.ifYes X2.here hx rfl (pc0 := 99) (pc' := 108) rfl (hb hby at_99) rfl ((if0 _ _).trans (teq (rfl : (0 : Int32) = (0 : Int32))).1) (by decide) (by decide) ?_
    show Stp p e below T2 m 108 #[.val (.int pi1), .val (.int pi2), .val (.int ((pi1 &&& (2147483647 : Int32)) % (9 : Int32))), .val (.int (1 : Int32)), .val (.ref w_ASC), .val (.ref w_HSQLDB), .val (.int (0 : Int32)), .val (.int (0 : Int32)), .unset] [] _
    refine XS.iload X2.here hx rfl (hb hby at_108) rfl ?_
    show Stp p e below T2 m 110 #[.val (.int pi1), .val (.int pi2), .val (.int ((pi1 &&& (2147483647 : Int32)) % (9 : Int32))), .val (.int (1 : Int32)), .val (.ref w_ASC), .val (.ref w_HSQLDB), .val (.int (0 : Int32)), .val (.int (0 : Int32)), .unset] [(.int (0 : Int32))] _
    refine XS.ifYes X2.here hx rfl (pc0 := 110) (pc' := 127) rfl (hb hby at_110) rfl ((if0 _ _).trans (teq (rfl : (0 : Int32) = (0 : Int32))).1) (by decide) (by decide) ?_
    show Stp p e below T2 m 127 #[.val (.int pi1), .val (.int pi2), .val (.int ((pi1 &&& (2147483647 : Int32)) % (9 : Int32))), .val (.int (1 : Int32)), .val (.ref w_ASC), .val (.ref w_HSQLDB), .val (.int (0 : Int32)), .val (.int (0 : Int32)), .unset] [] _
    refine XS.iconst X2.here hx rfl (hb hby at_127) ?_
    show Stp p e below T2 m 128 #[.val (.int pi1), .val (.int pi2), .val (.int ((pi1 &&& (2147483647 : Int32)) % (9 : Int32))), .val (.int (1 : Int32)), .val (.ref w_ASC), .val (.ref w_HSQLDB), .val (.int (0 : Int32)), .val (.int (0 : Int32)), .unset] [(.int (0 : Int32))] _
    refine XS.istore X2.here hx rfl (hb hby at_128) rfl (l' := #[.val (.int pi1), .val (.int pi2), .val (.int ((pi1 &&& (2147483647 : Int32)) % (9 : Int32))), .val (.int (1 : Int32)), .val (.ref w_ASC), .val (.ref w_HSQLDB), .val (.int (0 : Int32)), .val (.int (0 : Int32)), .val (.int (0 : Int32))]) rfl ?_
    show Stp p e below T2 m 130 #[.val (.int pi1), .val (.int pi2), .val (.int ((pi1 &&& (2147483647 : Int32)) % (9 : Int32))), .val (.int (1 : Int32)), .val (.ref w_ASC), .val (.ref w_HSQLDB), .val (.int (0 : Int32)), .val (.int (0 : Int32)), .val (.int (0 : Int32))] [] _
    refine XS.aload X2.here hx rfl (hb hby at_130) rfl rfl ?_
    show Stp p e below T2 m 132 #[.val (.int pi1), .val (.int pi2), .val (.int ((pi1 &&& (2147483647 : Int32)) % (9 : Int32))), .val (.int (1 : Int32)), .val (.ref w_ASC), .val (.ref w_HSQLDB), .val (.int (0 : Int32)), .val (.int (0 : Int32)), .val (.int (0 : Int32))] [(.ref w_HSQLDB)] _
    refine XS.aload X2.here hx rfl (hb hby at_132) rfl rfl ?_
    show Stp p e below T2 m 134 #[.val (.int pi1), .val (.int pi2), .val (.int ((pi1 &&& (2147483647 : Int32)) % (9 : Int32))), .val (.int (1 : Int32)), .val (.ref w_ASC), .val (.ref w_HSQLDB), .val (.int (0 : Int32)), .val (.int (0 : Int32)), .val (.int (0 : Int32))] [(.ref w_ASC), (.ref w_HSQLDB)] _
    refine st3.trans ?_
    show Stp p e below T3 m 137 #[.val (.int pi1), .val (.int pi2), .val (.int ((pi1 &&& (2147483647 : Int32)) % (9 : Int32))), .val (.int (1 : Int32)), .val (.ref w_ASC), .val (.ref w_HSQLDB), .val (.int (0 : Int32)), .val (.int (0 : Int32)), .val (.int (0 : Int32))] [(.int (0 : Int32))] _
    refine XS.iload X3.here hx rfl (hb hby at_137) rfl ?_
    show Stp p e below T3 m 139 #[.val (.int pi1), .val (.int pi2), .val (.int ((pi1 &&& (2147483647 : Int32)) % (9 : Int32))), .val (.int (1 : Int32)), .val (.ref w_ASC), .val (.ref w_HSQLDB), .val (.int (0 : Int32)), .val (.int (0 : Int32)), .val (.int (0 : Int32))] [(.int (0 : Int32)), (.int (0 : Int32))] _
    refine XS.icmpNo X3.here hx rfl (hb hby at_139) rfl (teq (rfl : (0 : Int32) = (0 : Int32))).2 ?_
    show Stp p e below T3 m 142 #[.val (.int pi1), .val (.int pi2), .val (.int ((pi1 &&& (2147483647 : Int32)) % (9 : Int32))), .val (.int (1 : Int32)), .val (.ref w_ASC), .val (.ref w_HSQLDB), .val (.int (0 : Int32)), .val (.int (0 : Int32)), .val (.int (0 : Int32))] [] _
    refine XS.iconst X3.here hx rfl (hb hby at_142) ?_
    show Stp p e below T3 m 143 #[.val (.int pi1), .val (.int pi2), .val (.int ((pi1 &&& (2147483647 : Int32)) % (9 : Int32))), .val (.int (1 : Int32)), .val (.ref w_ASC), .val (.ref w_HSQLDB), .val (.int (0 : Int32)), .val (.int (0 : Int32)), .val (.int (0 : Int32))] [(.int (1 : Int32))] _
    refine XS.goto X3.here hx rfl (pc0 := 143) (pc' := 147) rfl (hb hby at_143) (by decide) (by decide) ?_
    show Stp p e below T3 m 147 #[.val (.int pi1), .val (.int pi2), .val (.int ((pi1 &&& (2147483647 : Int32)) % (9 : Int32))), .val (.int (1 : Int32)), .val (.ref w_ASC), .val (.ref w_HSQLDB), .val (.int (0 : Int32)), .val (.int (0 : Int32)), .val (.int (0 : Int32))] [(.int (1 : Int32))] _
    exact retN X3 hx (t := .boolean) Bd.returns (by simp) (hb hby at_147) hr
  · exact ⟨rfl, N3⟩
set_option maxRecDepth 65536 in
set_option maxHeartbeats 40000000 in
theorem rm0_tffffft (l : Launch) (Z : State) (a0 : Array Value) (hw : ∀ d ∈ tables_1, d.before a0 Z = true) (ws : List Jvm.Cond) (pi1 : Int32) (pi2 : Int32) (w_HIGH : Addr) (w_LOW : Addr) (w_FIRST : Addr) (w_ASC : Addr) (w_DESC : Addr) (w_POSTGRESQL : Addr) (w_MARIADB : Addr) (w_SQLITE : Addr) (w_H2 : Addr) (w_HSQLDB : Addr) (w_DERBY : Addr) (w_ORACLE : Addr) (w_SQLSERVER : Addr) (w_DB2 : Addr) (h0 : Heap) (n0 : Nat) (Z0 : n0 ≤ h0.size) (O0 : Old Z n0 h0) (S_ASC : Sta Z Z.heap "com/example/leafcount/leafcount/Sort$Direction" "ASC" "Lcom/example/leafcount/leafcount/Sort$Direction;" (.ref w_ASC)) (S_DESC : Sta Z Z.heap "com/example/leafcount/leafcount/Sort$Direction" "DESC" "Lcom/example/leafcount/leafcount/Sort$Direction;" (.ref w_DESC)) (S_POSTGRESQL : Sta Z Z.heap "com/example/leafcount/leafcount/SqlSyntax" "POSTGRESQL" "Lcom/example/leafcount/leafcount/SqlSyntax;" (.ref w_POSTGRESQL)) (S_MARIADB : Sta Z Z.heap "com/example/leafcount/leafcount/SqlSyntax" "MARIADB" "Lcom/example/leafcount/leafcount/SqlSyntax;" (.ref w_MARIADB)) (S_SQLITE : Sta Z Z.heap "com/example/leafcount/leafcount/SqlSyntax" "SQLITE" "Lcom/example/leafcount/leafcount/SqlSyntax;" (.ref w_SQLITE)) (S_H2 : Sta Z Z.heap "com/example/leafcount/leafcount/SqlSyntax" "H2" "Lcom/example/leafcount/leafcount/SqlSyntax;" (.ref w_H2)) (S_HSQLDB : Sta Z Z.heap "com/example/leafcount/leafcount/SqlSyntax" "HSQLDB" "Lcom/example/leafcount/leafcount/SqlSyntax;" (.ref w_HSQLDB)) (S_DERBY : Sta Z Z.heap "com/example/leafcount/leafcount/SqlSyntax" "DERBY" "Lcom/example/leafcount/leafcount/SqlSyntax;" (.ref w_DERBY)) (S_ORACLE : Sta Z Z.heap "com/example/leafcount/leafcount/SqlSyntax" "ORACLE" "Lcom/example/leafcount/leafcount/SqlSyntax;" (.ref w_ORACLE)) (S_SQLSERVER : Sta Z Z.heap "com/example/leafcount/leafcount/SqlSyntax" "SQLSERVER" "Lcom/example/leafcount/leafcount/SqlSyntax;" (.ref w_SQLSERVER)) (S_DB2 : Sta Z Z.heap "com/example/leafcount/leafcount/SqlSyntax" "DB2" "Lcom/example/leafcount/leafcount/SqlSyntax;" (.ref w_DB2)) (E_w_POSTGRESQL : Exa Z Z.heap w_POSTGRESQL "com/example/leafcount/leafcount/SqlSyntax") (E_w_MARIADB : Exa Z Z.heap w_MARIADB "com/example/leafcount/leafcount/SqlSyntax") (E_w_SQLITE : Exa Z Z.heap w_SQLITE "com/example/leafcount/leafcount/SqlSyntax") (E_w_H2 : Exa Z Z.heap w_H2 "com/example/leafcount/leafcount/SqlSyntax") (E_w_HSQLDB : Exa Z Z.heap w_HSQLDB "com/example/leafcount/leafcount/SqlSyntax") (E_w_DERBY : Exa Z Z.heap w_DERBY "com/example/leafcount/leafcount/SqlSyntax") (E_w_ORACLE : Exa Z Z.heap w_ORACLE "com/example/leafcount/leafcount/SqlSyntax") (E_w_SQLSERVER : Exa Z Z.heap w_SQLSERVER "com/example/leafcount/leafcount/SqlSyntax") (E_w_DB2 : Exa Z Z.heap w_DB2 "com/example/leafcount/leafcount/SqlSyntax") (F_nullOrder_w_POSTGRESQL : Fld Z Z.heap w_POSTGRESQL "com/example/leafcount/leafcount/SqlSyntax" "nullOrder" "Lcom/example/leafcount/leafcount/SqlSyntax$NullOrder;" (.ref w_HIGH)) (F_nullOrder_w_MARIADB : Fld Z Z.heap w_MARIADB "com/example/leafcount/leafcount/SqlSyntax" "nullOrder" "Lcom/example/leafcount/leafcount/SqlSyntax$NullOrder;" (.ref w_LOW)) (F_nullOrder_w_SQLITE : Fld Z Z.heap w_SQLITE "com/example/leafcount/leafcount/SqlSyntax" "nullOrder" "Lcom/example/leafcount/leafcount/SqlSyntax$NullOrder;" (.ref w_LOW)) (F_nullOrder_w_H2 : Fld Z Z.heap w_H2 "com/example/leafcount/leafcount/SqlSyntax" "nullOrder" "Lcom/example/leafcount/leafcount/SqlSyntax$NullOrder;" (.ref w_LOW)) (F_nullOrder_w_HSQLDB : Fld Z Z.heap w_HSQLDB "com/example/leafcount/leafcount/SqlSyntax" "nullOrder" "Lcom/example/leafcount/leafcount/SqlSyntax$NullOrder;" (.ref w_FIRST)) (F_nullOrder_w_DERBY : Fld Z Z.heap w_DERBY "com/example/leafcount/leafcount/SqlSyntax" "nullOrder" "Lcom/example/leafcount/leafcount/SqlSyntax$NullOrder;" (.ref w_HIGH)) (F_nullOrder_w_ORACLE : Fld Z Z.heap w_ORACLE "com/example/leafcount/leafcount/SqlSyntax" "nullOrder" "Lcom/example/leafcount/leafcount/SqlSyntax$NullOrder;" (.ref w_HIGH)) (F_nullOrder_w_SQLSERVER : Fld Z Z.heap w_SQLSERVER "com/example/leafcount/leafcount/SqlSyntax" "nullOrder" "Lcom/example/leafcount/leafcount/SqlSyntax$NullOrder;" (.ref w_LOW)) (F_nullOrder_w_DB2 : Fld Z Z.heap w_DB2 "com/example/leafcount/leafcount/SqlSyntax" "nullOrder" "Lcom/example/leafcount/leafcount/SqlSyntax$NullOrder;" (.ref w_HIGH)) (F_last_w_HIGH : Fld Z Z.heap w_HIGH "com/example/leafcount/leafcount/SqlSyntax$NullOrder" "last" "Lcom/example/leafcount/leafcount/Sort$Direction;" (.ref w_ASC)) (F_last_w_LOW : Fld Z Z.heap w_LOW "com/example/leafcount/leafcount/SqlSyntax$NullOrder" "last" "Lcom/example/leafcount/leafcount/Sort$Direction;" (.ref w_DESC)) (F_last_w_FIRST : Fld Z Z.heap w_FIRST "com/example/leafcount/leafcount/SqlSyntax$NullOrder" "last" "Lcom/example/leafcount/leafcount/Sort$Direction;" .null) (hne : w_ASC ≠ w_DESC) (hc11_0 : (pi2 &&& (1 : Int32)) = (0 : Int32)) (hc36_1 : ¬ (((pi1 &&& (2147483647 : Int32)) % (9 : Int32)) = (0 : Int32))) (hc36_2 : ¬ (((pi1 &&& (2147483647 : Int32)) % (9 : Int32)) = (1 : Int32))) (hc36_3 : ¬ (((pi1 &&& (2147483647 : Int32)) % (9 : Int32)) = (2 : Int32))) (hc36_4 : ¬ (((pi1 &&& (2147483647 : Int32)) % (9 : Int32)) = (3 : Int32))) (hc36_5 : ¬ (((pi1 &&& (2147483647 : Int32)) % (9 : Int32)) = (4 : Int32))) (hc36_6 : ((pi1 &&& (2147483647 : Int32)) % (9 : Int32)) = (5 : Int32)) :
    MetFree l x (head1 (Jvm.Cond.code x code maxLocals ret :: ws) room_1) (fun a U => a = #[(.int pi1), (.int pi2)] ∧ Z.Warmed39 U.vm ∧ U.heap = h0) (fun _ _ _ _ _ => True) (fun _ U o U' => ∃ v L, o = .returned v ∧ Q0 v L n0 ∧ FrameEnd U o U' L room_1.cells room_1.slots) := by
  refine MetFree.of_bodySF (plainFor_of_name pn_0) hisR ?_
  intro p e s m args below meth c s₁ Bd hml0 hP hK
  obtain ⟨rfl, hZ, hh⟩ := hP
  have hx := Bd.exec
  have hby := Bd.bytes
  have hml : c.maxLocals = 9 := hml0
  have hown : s.vm.findClass "com/example/leafcount/leafcount/SqlSyntaxPutsNullLastPinLaw" = some m.cls := findClass_of_methodNamed Bd.named
  have hnm := (name_of_methodNamed Bd.named Bd.method).1
  have X0 : Stand p l e room_1 s m #[(.int pi1), (.int pi2)] below meth c s₁ [] 0 0 := Stand.of_body Bd
  have e0 : s₁.heap = h0 := by rw [← hh, Bd.state]; rfl
  have N0 := Fr.nil n0
  have pre0 : ∀ t, Steps p.tables e below (s₁.setTop (mkF m 0 #[.val (.int pi1), .val (.int pi2), .unset, .unset, .unset, .unset, .unset, .unset, .unset] [])) t → Steps p.tables e below (s₁.setTop (entryFrame m #[(.int pi1), (.int pi2)] maxLocals)) t := fun t k => castTop (ef_0 m pi1 pi2) k
  obtain ⟨T1, X1, e1, st1⟩ := getS2 X0 hx hZ hown (host := "") (Or.inl (own_W hw 25 rfl)) Via.refl e0 (S_ASC.ext O0.2) (g := (mkF m 24 #[.val (.int pi1), .val (.int pi2), .val (.int ((pi1 &&& (2147483647 : Int32)) % (9 : Int32))), .val (.int (1 : Int32)), .unset, .unset, .unset, .unset, .unset] [])) rfl (hb hby at_24)
  obtain ⟨_, _, ⟨T2, L2, k2, n2⟩, -, X2, ⟨Lc2, hQ2, l2, y2, z2⟩, st2⟩ := Jvm.LawKit.callS X1 hx (y := (⟨"com/example/leafcount/leafcount/SqlSyntaxPutsNullLastPinLaw", "pick", "(I)Lcom/example/leafcount/leafcount/SqlSyntax;"⟩ : MethodName)) hown (mvT hZ (own_W hw 4 rfl)) (mvT hZ (own_W hw 5 rfl)) (mvT hZ (own_W hw 6 rfl)) (mvT hZ (own_W hw 7 rfl)) (by decide) (backOf (W := 0) (rm1_5 l Z a0 hw [] ((pi1 &&& (2147483647 : Int32)) % (9 : Int32)) w_DERBY h0 n0 Z0 O0 S_DERBY hc36_1 hc36_2 hc36_3 hc36_4 hc36_5 hc36_6) hZ (own_W hw 7 rfl) (own_W hw 6 rfl) (by decide) (by decide)) (g := (mkF m 36 #[.val (.int pi1), .val (.int pi2), .val (.int ((pi1 &&& (2147483647 : Int32)) % (9 : Int32))), .val (.int (1 : Int32)), .val (.ref w_ASC), .unset, .unset, .unset, .unset] [(.int ((pi1 &&& (2147483647 : Int32)) % (9 : Int32)))])) rfl (by rw [hml]; rfl) (argsL := [(.int ((pi1 &&& (2147483647 : Int32)) % (9 : Int32)))]) (rest := []) (lenOf pd_0 rfl) rfl (by show 2 * 0 + _ ≤ _; exact Nat.le_of_eq rfl) (hb hby at_36) (fun _ _ => ⟨rfl, e1, (by decide : 0 + 0 ≤ _), (by decide : 0 + 0 ≤ _)⟩)
  dsimp only [Pt.U, Pt.locs, Pt.cells, Pt.slots] at X2 l2 y2 z2 st2 hQ2
  subst l2 y2 z2
  obtain ⟨rfl, N2q, eq2⟩ := hQ2
  have N2 := Fr.app N0 N2q
  obtain ⟨cq3, kq3, q3a, q3b, q3c⟩ := isOf hZ eq2 (E_w_DERBY.ext O0.2)
  obtain ⟨_, _, ⟨T3, L3, k3, n3⟩, -, X3, ⟨Lc3, hQ3, l3, y3, z3⟩, st3⟩ := X2.virtualBack hx (y := (⟨"com/example/leafcount/leafcount/SqlSyntax", "putsNullLast", "(Lcom/example/leafcount/leafcount/Sort$Direction;)Z"⟩ : MethodName)) (z := (⟨"com/example/leafcount/leafcount/SqlSyntax", "putsNullLast", "(Lcom/example/leafcount/leafcount/Sort$Direction;)Z"⟩ : MethodName)) hown (mvT hZ (own_W hw 11 rfl)) (mvT hZ (own_W hw 12 rfl)) (notFace_of_selects (args := #[]) (mvT hZ (own_W hw 14 rfl))) (mvT hZ (own_W hw 14 rfl)) (mvT hZ (own_W hw 13 rfl)) (by decide) (backOf (W := 0) (rm2_t l Z a0 hw [] w_DERBY w_ASC w_HIGH w_ASC h0 n0 Z0 O0 (F_nullOrder_w_DERBY.ext O0.2) (F_last_w_HIGH.ext O0.2) rfl) hZ (own_W hw 15 rfl) (own_W hw 9 rfl) (by decide) (by decide)) q3a q3c (g := (mkF m 134 #[.val (.int pi1), .val (.int pi2), .val (.int ((pi1 &&& (2147483647 : Int32)) % (9 : Int32))), .val (.int (1 : Int32)), .val (.ref w_ASC), .val (.ref w_DERBY), .val (.int (1 : Int32)), .val (.int (0 : Int32)), .val (.int (1 : Int32))] [(.ref w_ASC), (.ref w_DERBY)])) rfl (by rw [hml]; rfl) (Steps.refl _) (argsL := [(.ref w_ASC)]) (rest := []) (lenOf pd_1 rfl) rfl (by show 2 * 0 + _ ≤ _; exact Nat.le_of_eq rfl) (hb hby at_134) (fun _ _ => ⟨rfl, eq2, (by decide : 0 + 0 ≤ _), (by decide : 0 + 0 ≤ _)⟩)
  dsimp only [Pt.U, Pt.locs, Pt.cells, Pt.slots] at X3 l3 y3 z3 st3 hQ3
  subst l3 y3 z3
  obtain ⟨rfl, N3q, eq3⟩ := hQ3
  have N3 := Fr.app N2 N3q
  obtain ⟨fs, hr, hrun, hended, hW, hsame⟩ := X3.leave (v := some (.int (1 : Int32))) (fun h => by rw [Bd.returns] at h; cases h)
  refine ⟨_, _, pre0 _ ?_, hrun, hended, _, _, rfl, ?_, ⟨_, rfl⟩, hW, hsame.mono (by decide) (by decide)⟩
  · show Stp p e below s₁ m 0 #[.val (.int pi1), .val (.int pi2), .unset, .unset, .unset, .unset, .unset, .unset, .unset] [] _
    refine XS.iloadN X0.here hx rfl (hb hby at_0) rfl ?_
    show Stp p e below s₁ m 1 #[.val (.int pi1), .val (.int pi2), .unset, .unset, .unset, .unset, .unset, .unset, .unset] [(.int pi1)] _
    refine X0.ldcInt hx hown (mvT hZ (own_W hw 0 rfl)) (g := (mkF m 1 #[.val (.int pi1), .val (.int pi2), .unset, .unset, .unset, .unset, .unset, .unset, .unset] [(.int pi1)])) rfl (hb hby at_1) _ ?_
    show Stp p e below s₁ m 3 #[.val (.int pi1), .val (.int pi2), .unset, .unset, .unset, .unset, .unset, .unset, .unset] [(.int (2147483647 : Int32)), (.int pi1)] _
    refine XS.iand X0.here hx rfl (hb hby at_3) rfl ?_
    show Stp p e below s₁ m 4 #[.val (.int pi1), .val (.int pi2), .unset, .unset, .unset, .unset, .unset, .unset, .unset] [(.int (pi1 &&& (2147483647 : Int32)))] _
    refine XS.bipush X0.here hx rfl (hb hby at_4) ?_
    show Stp p e below s₁ m 6 #[.val (.int pi1), .val (.int pi2), .unset, .unset, .unset, .unset, .unset, .unset, .unset] [(.int (9 : Int32)), (.int (pi1 &&& (2147483647 : Int32)))] _
    refine iremM X0 hx rfl (hb hby at_6) rfl (by decide) ?_
    show Stp p e below s₁ m 7 #[.val (.int pi1), .val (.int pi2), .unset, .unset, .unset, .unset, .unset, .unset, .unset] [(.int ((pi1 &&& (2147483647 : Int32)) % (9 : Int32)))] _
    refine XS.istoreN X0.here hx rfl (hb hby at_7) rfl (l' := #[.val (.int pi1), .val (.int pi2), .val (.int ((pi1 &&& (2147483647 : Int32)) % (9 : Int32))), .unset, .unset, .unset, .unset, .unset, .unset]) rfl ?_
    show Stp p e below s₁ m 8 #[.val (.int pi1), .val (.int pi2), .val (.int ((pi1 &&& (2147483647 : Int32)) % (9 : Int32))), .unset, .unset, .unset, .unset, .unset, .unset] [] _
    refine XS.iloadN X0.here hx rfl (hb hby at_8) rfl ?_
    show Stp p e below s₁ m 9 #[.val (.int pi1), .val (.int pi2), .val (.int ((pi1 &&& (2147483647 : Int32)) % (9 : Int32))), .unset, .unset, .unset, .unset, .unset, .unset] [(.int pi2)] _
    refine XS.iconst X0.here hx rfl (hb hby at_9) ?_
    show Stp p e below s₁ m 10 #[.val (.int pi1), .val (.int pi2), .val (.int ((pi1 &&& (2147483647 : Int32)) % (9 : Int32))), .unset, .unset, .unset, .unset, .unset, .unset] [(.int (1 : Int32)), (.int pi2)] _
    refine XS.iand X0.here hx rfl (hb hby at_10) rfl ?_
    show Stp p e below s₁ m 11 #[.val (.int pi1), .val (.int pi2), .val (.int ((pi1 &&& (2147483647 : Int32)) % (9 : Int32))), .unset, .unset, .unset, .unset, .unset, .unset] [(.int (pi2 &&& (1 : Int32)))] _
    refine XS.ifNo X0.here hx rfl (hb hby at_11) rfl ((if0 _ _).trans (teq hc11_0).2) ?_
    show Stp p e below s₁ m 14 #[.val (.int pi1), .val (.int pi2), .val (.int ((pi1 &&& (2147483647 : Int32)) % (9 : Int32))), .unset, .unset, .unset, .unset, .unset, .unset] [] _
    refine XS.iconst X0.here hx rfl (hb hby at_14) ?_
    show Stp p e below s₁ m 15 #[.val (.int pi1), .val (.int pi2), .val (.int ((pi1 &&& (2147483647 : Int32)) % (9 : Int32))), .unset, .unset, .unset, .unset, .unset, .unset] [(.int (1 : Int32))] _
    refine XS.goto X0.here hx rfl (pc0 := 15) (pc' := 19) rfl (hb hby at_15) (by decide) (by decide) ?_
    show Stp p e below s₁ m 19 #[.val (.int pi1), .val (.int pi2), .val (.int ((pi1 &&& (2147483647 : Int32)) % (9 : Int32))), .unset, .unset, .unset, .unset, .unset, .unset] [(.int (1 : Int32))] _
    refine XS.istoreN X0.here hx rfl (hb hby at_19) rfl (l' := #[.val (.int pi1), .val (.int pi2), .val (.int ((pi1 &&& (2147483647 : Int32)) % (9 : Int32))), .val (.int (1 : Int32)), .unset, .unset, .unset, .unset, .unset]) rfl ?_
    show Stp p e below s₁ m 20 #[.val (.int pi1), .val (.int pi2), .val (.int ((pi1 &&& (2147483647 : Int32)) % (9 : Int32))), .val (.int (1 : Int32)), .unset, .unset, .unset, .unset, .unset] [] _
    refine XS.iloadN X0.here hx rfl (hb hby at_20) rfl ?_
    show Stp p e below s₁ m 21 #[.val (.int pi1), .val (.int pi2), .val (.int ((pi1 &&& (2147483647 : Int32)) % (9 : Int32))), .val (.int (1 : Int32)), .unset, .unset, .unset, .unset, .unset] [(.int (1 : Int32))] _
    refine XS.ifNo X0.here hx rfl (hb hby at_21) rfl ((if0 _ _).trans (feq (by decide : ¬ ((1 : Int32) = (0 : Int32)))).1) ?_
    show Stp p e below s₁ m 24 #[.val (.int pi1), .val (.int pi2), .val (.int ((pi1 &&& (2147483647 : Int32)) % (9 : Int32))), .val (.int (1 : Int32)), .unset, .unset, .unset, .unset, .unset] [] _
    refine st1 _ ?_
    show Stp p e below T1 m 27 #[.val (.int pi1), .val (.int pi2), .val (.int ((pi1 &&& (2147483647 : Int32)) % (9 : Int32))), .val (.int (1 : Int32)), .unset, .unset, .unset, .unset, .unset] [(.ref w_ASC)] _
    refine XS.goto X1.here hx rfl (pc0 := 27) (pc' := 33) rfl (hb hby at_27) (by decide) (by decide) ?_
    show Stp p e below T1 m 33 #[.val (.int pi1), .val (.int pi2), .val (.int ((pi1 &&& (2147483647 : Int32)) % (9 : Int32))), .val (.int (1 : Int32)), .unset, .unset, .unset, .unset, .unset] [(.ref w_ASC)] _
    refine XS.astore X1.here hx rfl (hb hby at_33) rfl rfl (l' := #[.val (.int pi1), .val (.int pi2), .val (.int ((pi1 &&& (2147483647 : Int32)) % (9 : Int32))), .val (.int (1 : Int32)), .val (.ref w_ASC), .unset, .unset, .unset, .unset]) rfl ?_
    show Stp p e below T1 m 35 #[.val (.int pi1), .val (.int pi2), .val (.int ((pi1 &&& (2147483647 : Int32)) % (9 : Int32))), .val (.int (1 : Int32)), .val (.ref w_ASC), .unset, .unset, .unset, .unset] [] _
    refine XS.iloadN X1.here hx rfl (hb hby at_35) rfl ?_
    show Stp p e below T1 m 36 #[.val (.int pi1), .val (.int pi2), .val (.int ((pi1 &&& (2147483647 : Int32)) % (9 : Int32))), .val (.int (1 : Int32)), .val (.ref w_ASC), .unset, .unset, .unset, .unset] [(.int ((pi1 &&& (2147483647 : Int32)) % (9 : Int32)))] _
    refine st2 _ ?_
    show Stp p e below T2 m 39 #[.val (.int pi1), .val (.int pi2), .val (.int ((pi1 &&& (2147483647 : Int32)) % (9 : Int32))), .val (.int (1 : Int32)), .val (.ref w_ASC), .unset, .unset, .unset, .unset] [(.ref w_DERBY)] _
    refine XS.astore X2.here hx rfl (hb hby at_39) rfl rfl (l' := #[.val (.int pi1), .val (.int pi2), .val (.int ((pi1 &&& (2147483647 : Int32)) % (9 : Int32))), .val (.int (1 : Int32)), .val (.ref w_ASC), .val (.ref w_DERBY), .unset, .unset, .unset]) rfl ?_
    show Stp p e below T2 m 41 #[.val (.int pi1), .val (.int pi2), .val (.int ((pi1 &&& (2147483647 : Int32)) % (9 : Int32))), .val (.int (1 : Int32)), .val (.ref w_ASC), .val (.ref w_DERBY), .unset, .unset, .unset] [] _
    refine XS.iloadN X2.here hx rfl (hb hby at_41) rfl ?_
    show Stp p e below T2 m 42 #[.val (.int pi1), .val (.int pi2), .val (.int ((pi1 &&& (2147483647 : Int32)) % (9 : Int32))), .val (.int (1 : Int32)), .val (.ref w_ASC), .val (.ref w_DERBY), .unset, .unset, .unset] [(.int ((pi1 &&& (2147483647 : Int32)) % (9 : Int32)))] _
    refine XS.ifNo X2.here hx rfl (hb hby at_42) rfl ((if0 _ _).trans (feq hc36_1).1) ?_
    show Stp p e below T2 m 45 #[.val (.int pi1), .val (.int pi2), .val (.int ((pi1 &&& (2147483647 : Int32)) % (9 : Int32))), .val (.int (1 : Int32)), .val (.ref w_ASC), .val (.ref w_DERBY), .unset, .unset, .unset] [] _
    refine XS.iloadN X2.here hx rfl (hb hby at_45) rfl ?_
    show Stp p e below T2 m 46 #[.val (.int pi1), .val (.int pi2), .val (.int ((pi1 &&& (2147483647 : Int32)) % (9 : Int32))), .val (.int (1 : Int32)), .val (.ref w_ASC), .val (.ref w_DERBY), .unset, .unset, .unset] [(.int ((pi1 &&& (2147483647 : Int32)) % (9 : Int32)))] _
    refine XS.iconst X2.here hx rfl (hb hby at_46) ?_
    show Stp p e below T2 m 47 #[.val (.int pi1), .val (.int pi2), .val (.int ((pi1 &&& (2147483647 : Int32)) % (9 : Int32))), .val (.int (1 : Int32)), .val (.ref w_ASC), .val (.ref w_DERBY), .unset, .unset, .unset] [(.int (5 : Int32)), (.int ((pi1 &&& (2147483647 : Int32)) % (9 : Int32)))] _
    refine XS.icmpYes X2.here hx rfl (pc0 := 47) (pc' := 62) rfl (hb hby at_47) rfl (teq hc36_6).1 (by decide) (by decide) ?_
    show Stp p e below T2 m 62 #[.val (.int pi1), .val (.int pi2), .val (.int ((pi1 &&& (2147483647 : Int32)) % (9 : Int32))), .val (.int (1 : Int32)), .val (.ref w_ASC), .val (.ref w_DERBY), .unset, .unset, .unset] [] _
    refine XS.iconst X2.here hx rfl (hb hby at_62) ?_
    show Stp p e below T2 m 63 #[.val (.int pi1), .val (.int pi2), .val (.int ((pi1 &&& (2147483647 : Int32)) % (9 : Int32))), .val (.int (1 : Int32)), .val (.ref w_ASC), .val (.ref w_DERBY), .unset, .unset, .unset] [(.int (1 : Int32))] _
    refine XS.goto X2.here hx rfl (pc0 := 63) (pc' := 67) rfl (hb hby at_63) (by decide) (by decide) ?_
    show Stp p e below T2 m 67 #[.val (.int pi1), .val (.int pi2), .val (.int ((pi1 &&& (2147483647 : Int32)) % (9 : Int32))), .val (.int (1 : Int32)), .val (.ref w_ASC), .val (.ref w_DERBY), .unset, .unset, .unset] [(.int (1 : Int32))] _
    refine XS.istore X2.here hx rfl (hb hby at_67) rfl (l' := #[.val (.int pi1), .val (.int pi2), .val (.int ((pi1 &&& (2147483647 : Int32)) % (9 : Int32))), .val (.int (1 : Int32)), .val (.ref w_ASC), .val (.ref w_DERBY), .val (.int (1 : Int32)), .unset, .unset]) rfl ?_
    show Stp p e below T2 m 69 #[.val (.int pi1), .val (.int pi2), .val (.int ((pi1 &&& (2147483647 : Int32)) % (9 : Int32))), .val (.int (1 : Int32)), .val (.ref w_ASC), .val (.ref w_DERBY), .val (.int (1 : Int32)), .unset, .unset] [] _
    refine XS.iloadN X2.here hx rfl (hb hby at_69) rfl ?_
    show Stp p e below T2 m 70 #[.val (.int pi1), .val (.int pi2), .val (.int ((pi1 &&& (2147483647 : Int32)) % (9 : Int32))), .val (.int (1 : Int32)), .val (.ref w_ASC), .val (.ref w_DERBY), .val (.int (1 : Int32)), .unset, .unset] [(.int ((pi1 &&& (2147483647 : Int32)) % (9 : Int32)))] _
    refine XS.iconst X2.here hx rfl (hb hby at_70) ?_
    show Stp p e below T2 m 71 #[.val (.int pi1), .val (.int pi2), .val (.int ((pi1 &&& (2147483647 : Int32)) % (9 : Int32))), .val (.int (1 : Int32)), .val (.ref w_ASC), .val (.ref w_DERBY), .val (.int (1 : Int32)), .unset, .unset] [(.int (1 : Int32)), (.int ((pi1 &&& (2147483647 : Int32)) % (9 : Int32)))] _
    refine XS.icmpNo X2.here hx rfl (hb hby at_71) rfl (feq hc36_2).1 ?_
    show Stp p e below T2 m 74 #[.val (.int pi1), .val (.int pi2), .val (.int ((pi1 &&& (2147483647 : Int32)) % (9 : Int32))), .val (.int (1 : Int32)), .val (.ref w_ASC), .val (.ref w_DERBY), .val (.int (1 : Int32)), .unset, .unset] [] _
    refine XS.iloadN X2.here hx rfl (hb hby at_74) rfl ?_
    show Stp p e below T2 m 75 #[.val (.int pi1), .val (.int pi2), .val (.int ((pi1 &&& (2147483647 : Int32)) % (9 : Int32))), .val (.int (1 : Int32)), .val (.ref w_ASC), .val (.ref w_DERBY), .val (.int (1 : Int32)), .unset, .unset] [(.int ((pi1 &&& (2147483647 : Int32)) % (9 : Int32)))] _
    refine XS.iconst X2.here hx rfl (hb hby at_75) ?_
    show Stp p e below T2 m 76 #[.val (.int pi1), .val (.int pi2), .val (.int ((pi1 &&& (2147483647 : Int32)) % (9 : Int32))), .val (.int (1 : Int32)), .val (.ref w_ASC), .val (.ref w_DERBY), .val (.int (1 : Int32)), .unset, .unset] [(.int (2 : Int32)), (.int ((pi1 &&& (2147483647 : Int32)) % (9 : Int32)))] _
    refine XS.icmpNo X2.here hx rfl (hb hby at_76) rfl (feq hc36_3).1 ?_
    show Stp p e below T2 m 79 #[.val (.int pi1), .val (.int pi2), .val (.int ((pi1 &&& (2147483647 : Int32)) % (9 : Int32))), .val (.int (1 : Int32)), .val (.ref w_ASC), .val (.ref w_DERBY), .val (.int (1 : Int32)), .unset, .unset] [] _
    refine XS.iloadN X2.here hx rfl (hb hby at_79) rfl ?_
    show Stp p e below T2 m 80 #[.val (.int pi1), .val (.int pi2), .val (.int ((pi1 &&& (2147483647 : Int32)) % (9 : Int32))), .val (.int (1 : Int32)), .val (.ref w_ASC), .val (.ref w_DERBY), .val (.int (1 : Int32)), .unset, .unset] [(.int ((pi1 &&& (2147483647 : Int32)) % (9 : Int32)))] _
    refine XS.iconst X2.here hx rfl (hb hby at_80) ?_
    show Stp p e below T2 m 81 #[.val (.int pi1), .val (.int pi2), .val (.int ((pi1 &&& (2147483647 : Int32)) % (9 : Int32))), .val (.int (1 : Int32)), .val (.ref w_ASC), .val (.ref w_DERBY), .val (.int (1 : Int32)), .unset, .unset] [(.int (3 : Int32)), (.int ((pi1 &&& (2147483647 : Int32)) % (9 : Int32)))] _
    refine XS.icmpNo X2.here hx rfl (hb hby at_81) rfl (feq hc36_4).1 ?_
    show Stp p e below T2 m 84 #[.val (.int pi1), .val (.int pi2), .val (.int ((pi1 &&& (2147483647 : Int32)) % (9 : Int32))), .val (.int (1 : Int32)), .val (.ref w_ASC), .val (.ref w_DERBY), .val (.int (1 : Int32)), .unset, .unset] [] _
    refine XS.iloadN X2.here hx rfl (hb hby at_84) rfl ?_
    show Stp p e below T2 m 85 #[.val (.int pi1), .val (.int pi2), .val (.int ((pi1 &&& (2147483647 : Int32)) % (9 : Int32))), .val (.int (1 : Int32)), .val (.ref w_ASC), .val (.ref w_DERBY), .val (.int (1 : Int32)), .unset, .unset] [(.int ((pi1 &&& (2147483647 : Int32)) % (9 : Int32)))] _
    refine XS.bipush X2.here hx rfl (hb hby at_85) ?_
    show Stp p e below T2 m 87 #[.val (.int pi1), .val (.int pi2), .val (.int ((pi1 &&& (2147483647 : Int32)) % (9 : Int32))), .val (.int (1 : Int32)), .val (.ref w_ASC), .val (.ref w_DERBY), .val (.int (1 : Int32)), .unset, .unset] [(.int (7 : Int32)), (.int ((pi1 &&& (2147483647 : Int32)) % (9 : Int32)))] _
    refine XS.icmpYes X2.here hx rfl (pc0 := 87) (pc' := 94) rfl (hb hby at_87) rfl (feq (fun q => absurd (hc36_6.symm.trans q) (by decide))).2 (by decide) (by decide) ?_
    show Stp p e below T2 m 94 #[.val (.int pi1), .val (.int pi2), .val (.int ((pi1 &&& (2147483647 : Int32)) % (9 : Int32))), .val (.int (1 : Int32)), .val (.ref w_ASC), .val (.ref w_DERBY), .val (.int (1 : Int32)), .unset, .unset] [] _
    refine XS.iconst X2.here hx rfl (hb hby at_94) ?_
    show Stp p e below T2 m 95 #[.val (.int pi1), .val (.int pi2), .val (.int ((pi1 &&& (2147483647 : Int32)) % (9 : Int32))), .val (.int (1 : Int32)), .val (.ref w_ASC), .val (.ref w_DERBY), .val (.int (1 : Int32)), .unset, .unset] [(.int (0 : Int32))] _
    refine XS.istore X2.here hx rfl (hb hby at_95) rfl (l' := #[.val (.int pi1), .val (.int pi2), .val (.int ((pi1 &&& (2147483647 : Int32)) % (9 : Int32))), .val (.int (1 : Int32)), .val (.ref w_ASC), .val (.ref w_DERBY), .val (.int (1 : Int32)), .val (.int (0 : Int32)), .unset]) rfl ?_
    show Stp p e below T2 m 97 #[.val (.int pi1), .val (.int pi2), .val (.int ((pi1 &&& (2147483647 : Int32)) % (9 : Int32))), .val (.int (1 : Int32)), .val (.ref w_ASC), .val (.ref w_DERBY), .val (.int (1 : Int32)), .val (.int (0 : Int32)), .unset] [] _
    refine XS.iload X2.here hx rfl (hb hby at_97) rfl ?_
    show Stp p e below T2 m 99 #[.val (.int pi1), .val (.int pi2), .val (.int ((pi1 &&& (2147483647 : Int32)) % (9 : Int32))), .val (.int (1 : Int32)), .val (.ref w_ASC), .val (.ref w_DERBY), .val (.int (1 : Int32)), .val (.int (0 : Int32)), .unset] [(.int (1 : Int32))] _
    refine XS.ifNo X2.here hx rfl (hb hby at_99) rfl ((if0 _ _).trans (feq (by decide : ¬ ((1 : Int32) = (0 : Int32)))).1) ?_
    show Stp p e below T2 m 102 #[.val (.int pi1), .val (.int pi2), .val (.int ((pi1 &&& (2147483647 : Int32)) % (9 : Int32))), .val (.int (1 : Int32)), .val (.ref w_ASC), .val (.ref w_DERBY), .val (.int (1 : Int32)), .val (.int (0 : Int32)), .unset] [] _
    refine XS.iloadN X2.here hx rfl (hb hby at_102) rfl ?_
    show Stp p e below T2 m 103 #[.val (.int pi1), .val (.int pi2), .val (.int ((pi1 &&& (2147483647 : Int32)) % (9 : Int32))), .val (.int (1 : Int32)), .val (.ref w_ASC), .val (.ref w_DERBY), .val (.int (1 : Int32)), .val (.int (0 : Int32)), .unset] [(.int (1 : Int32))] _
    refine XS.istore X2.here hx rfl (hb hby at_103) rfl (l' := #[.val (.int pi1), .val (.int pi2), .val (.int ((pi1 &&& (2147483647 : Int32)) % (9 : Int32))), .val (.int (1 : Int32)), .val (.ref w_ASC), .val (.ref w_DERBY), .val (.int (1 : Int32)), .val (.int (0 : Int32)), .val (.int (1 : Int32))]) rfl ?_
    show Stp p e below T2 m 105 #[.val (.int pi1), .val (.int pi2), .val (.int ((pi1 &&& (2147483647 : Int32)) % (9 : Int32))), .val (.int (1 : Int32)), .val (.ref w_ASC), .val (.ref w_DERBY), .val (.int (1 : Int32)), .val (.int (0 : Int32)), .val (.int (1 : Int32))] [] _
    refine XS.goto X2.here hx rfl (pc0 := 105) (pc' := 130) rfl (hb hby at_105) (by decide) (by decide) ?_
    show Stp p e below T2 m 130 #[.val (.int pi1), .val (.int pi2), .val (.int ((pi1 &&& (2147483647 : Int32)) % (9 : Int32))), .val (.int (1 : Int32)), .val (.ref w_ASC), .val (.ref w_DERBY), .val (.int (1 : Int32)), .val (.int (0 : Int32)), .val (.int (1 : Int32))] [] _
    refine XS.aload X2.here hx rfl (hb hby at_130) rfl rfl ?_
    show Stp p e below T2 m 132 #[.val (.int pi1), .val (.int pi2), .val (.int ((pi1 &&& (2147483647 : Int32)) % (9 : Int32))), .val (.int (1 : Int32)), .val (.ref w_ASC), .val (.ref w_DERBY), .val (.int (1 : Int32)), .val (.int (0 : Int32)), .val (.int (1 : Int32))] [(.ref w_DERBY)] _
    refine XS.aload X2.here hx rfl (hb hby at_132) rfl rfl ?_
    show Stp p e below T2 m 134 #[.val (.int pi1), .val (.int pi2), .val (.int ((pi1 &&& (2147483647 : Int32)) % (9 : Int32))), .val (.int (1 : Int32)), .val (.ref w_ASC), .val (.ref w_DERBY), .val (.int (1 : Int32)), .val (.int (0 : Int32)), .val (.int (1 : Int32))] [(.ref w_ASC), (.ref w_DERBY)] _
    refine st3.trans ?_
    show Stp p e below T3 m 137 #[.val (.int pi1), .val (.int pi2), .val (.int ((pi1 &&& (2147483647 : Int32)) % (9 : Int32))), .val (.int (1 : Int32)), .val (.ref w_ASC), .val (.ref w_DERBY), .val (.int (1 : Int32)), .val (.int (0 : Int32)), .val (.int (1 : Int32))] [(.int (1 : Int32))] _
    refine XS.iload X3.here hx rfl (hb hby at_137) rfl ?_
    show Stp p e below T3 m 139 #[.val (.int pi1), .val (.int pi2), .val (.int ((pi1 &&& (2147483647 : Int32)) % (9 : Int32))), .val (.int (1 : Int32)), .val (.ref w_ASC), .val (.ref w_DERBY), .val (.int (1 : Int32)), .val (.int (0 : Int32)), .val (.int (1 : Int32))] [(.int (1 : Int32)), (.int (1 : Int32))] _
    refine XS.icmpNo X3.here hx rfl (hb hby at_139) rfl (teq (rfl : (1 : Int32) = (1 : Int32))).2 ?_
    show Stp p e below T3 m 142 #[.val (.int pi1), .val (.int pi2), .val (.int ((pi1 &&& (2147483647 : Int32)) % (9 : Int32))), .val (.int (1 : Int32)), .val (.ref w_ASC), .val (.ref w_DERBY), .val (.int (1 : Int32)), .val (.int (0 : Int32)), .val (.int (1 : Int32))] [] _
    refine XS.iconst X3.here hx rfl (hb hby at_142) ?_
    show Stp p e below T3 m 143 #[.val (.int pi1), .val (.int pi2), .val (.int ((pi1 &&& (2147483647 : Int32)) % (9 : Int32))), .val (.int (1 : Int32)), .val (.ref w_ASC), .val (.ref w_DERBY), .val (.int (1 : Int32)), .val (.int (0 : Int32)), .val (.int (1 : Int32))] [(.int (1 : Int32))] _
    refine XS.goto X3.here hx rfl (pc0 := 143) (pc' := 147) rfl (hb hby at_143) (by decide) (by decide) ?_
    show Stp p e below T3 m 147 #[.val (.int pi1), .val (.int pi2), .val (.int ((pi1 &&& (2147483647 : Int32)) % (9 : Int32))), .val (.int (1 : Int32)), .val (.ref w_ASC), .val (.ref w_DERBY), .val (.int (1 : Int32)), .val (.int (0 : Int32)), .val (.int (1 : Int32))] [(.int (1 : Int32))] _
    exact retN X3 hx (t := .boolean) Bd.returns (by simp) (hb hby at_147) hr
  · exact ⟨rfl, N3⟩
set_option maxRecDepth 65536 in
set_option maxHeartbeats 40000000 in
theorem rm0_tfffffft (l : Launch) (Z : State) (a0 : Array Value) (hw : ∀ d ∈ tables_1, d.before a0 Z = true) (ws : List Jvm.Cond) (pi1 : Int32) (pi2 : Int32) (w_HIGH : Addr) (w_LOW : Addr) (w_FIRST : Addr) (w_ASC : Addr) (w_DESC : Addr) (w_POSTGRESQL : Addr) (w_MARIADB : Addr) (w_SQLITE : Addr) (w_H2 : Addr) (w_HSQLDB : Addr) (w_DERBY : Addr) (w_ORACLE : Addr) (w_SQLSERVER : Addr) (w_DB2 : Addr) (h0 : Heap) (n0 : Nat) (Z0 : n0 ≤ h0.size) (O0 : Old Z n0 h0) (S_ASC : Sta Z Z.heap "com/example/leafcount/leafcount/Sort$Direction" "ASC" "Lcom/example/leafcount/leafcount/Sort$Direction;" (.ref w_ASC)) (S_DESC : Sta Z Z.heap "com/example/leafcount/leafcount/Sort$Direction" "DESC" "Lcom/example/leafcount/leafcount/Sort$Direction;" (.ref w_DESC)) (S_POSTGRESQL : Sta Z Z.heap "com/example/leafcount/leafcount/SqlSyntax" "POSTGRESQL" "Lcom/example/leafcount/leafcount/SqlSyntax;" (.ref w_POSTGRESQL)) (S_MARIADB : Sta Z Z.heap "com/example/leafcount/leafcount/SqlSyntax" "MARIADB" "Lcom/example/leafcount/leafcount/SqlSyntax;" (.ref w_MARIADB)) (S_SQLITE : Sta Z Z.heap "com/example/leafcount/leafcount/SqlSyntax" "SQLITE" "Lcom/example/leafcount/leafcount/SqlSyntax;" (.ref w_SQLITE)) (S_H2 : Sta Z Z.heap "com/example/leafcount/leafcount/SqlSyntax" "H2" "Lcom/example/leafcount/leafcount/SqlSyntax;" (.ref w_H2)) (S_HSQLDB : Sta Z Z.heap "com/example/leafcount/leafcount/SqlSyntax" "HSQLDB" "Lcom/example/leafcount/leafcount/SqlSyntax;" (.ref w_HSQLDB)) (S_DERBY : Sta Z Z.heap "com/example/leafcount/leafcount/SqlSyntax" "DERBY" "Lcom/example/leafcount/leafcount/SqlSyntax;" (.ref w_DERBY)) (S_ORACLE : Sta Z Z.heap "com/example/leafcount/leafcount/SqlSyntax" "ORACLE" "Lcom/example/leafcount/leafcount/SqlSyntax;" (.ref w_ORACLE)) (S_SQLSERVER : Sta Z Z.heap "com/example/leafcount/leafcount/SqlSyntax" "SQLSERVER" "Lcom/example/leafcount/leafcount/SqlSyntax;" (.ref w_SQLSERVER)) (S_DB2 : Sta Z Z.heap "com/example/leafcount/leafcount/SqlSyntax" "DB2" "Lcom/example/leafcount/leafcount/SqlSyntax;" (.ref w_DB2)) (E_w_POSTGRESQL : Exa Z Z.heap w_POSTGRESQL "com/example/leafcount/leafcount/SqlSyntax") (E_w_MARIADB : Exa Z Z.heap w_MARIADB "com/example/leafcount/leafcount/SqlSyntax") (E_w_SQLITE : Exa Z Z.heap w_SQLITE "com/example/leafcount/leafcount/SqlSyntax") (E_w_H2 : Exa Z Z.heap w_H2 "com/example/leafcount/leafcount/SqlSyntax") (E_w_HSQLDB : Exa Z Z.heap w_HSQLDB "com/example/leafcount/leafcount/SqlSyntax") (E_w_DERBY : Exa Z Z.heap w_DERBY "com/example/leafcount/leafcount/SqlSyntax") (E_w_ORACLE : Exa Z Z.heap w_ORACLE "com/example/leafcount/leafcount/SqlSyntax") (E_w_SQLSERVER : Exa Z Z.heap w_SQLSERVER "com/example/leafcount/leafcount/SqlSyntax") (E_w_DB2 : Exa Z Z.heap w_DB2 "com/example/leafcount/leafcount/SqlSyntax") (F_nullOrder_w_POSTGRESQL : Fld Z Z.heap w_POSTGRESQL "com/example/leafcount/leafcount/SqlSyntax" "nullOrder" "Lcom/example/leafcount/leafcount/SqlSyntax$NullOrder;" (.ref w_HIGH)) (F_nullOrder_w_MARIADB : Fld Z Z.heap w_MARIADB "com/example/leafcount/leafcount/SqlSyntax" "nullOrder" "Lcom/example/leafcount/leafcount/SqlSyntax$NullOrder;" (.ref w_LOW)) (F_nullOrder_w_SQLITE : Fld Z Z.heap w_SQLITE "com/example/leafcount/leafcount/SqlSyntax" "nullOrder" "Lcom/example/leafcount/leafcount/SqlSyntax$NullOrder;" (.ref w_LOW)) (F_nullOrder_w_H2 : Fld Z Z.heap w_H2 "com/example/leafcount/leafcount/SqlSyntax" "nullOrder" "Lcom/example/leafcount/leafcount/SqlSyntax$NullOrder;" (.ref w_LOW)) (F_nullOrder_w_HSQLDB : Fld Z Z.heap w_HSQLDB "com/example/leafcount/leafcount/SqlSyntax" "nullOrder" "Lcom/example/leafcount/leafcount/SqlSyntax$NullOrder;" (.ref w_FIRST)) (F_nullOrder_w_DERBY : Fld Z Z.heap w_DERBY "com/example/leafcount/leafcount/SqlSyntax" "nullOrder" "Lcom/example/leafcount/leafcount/SqlSyntax$NullOrder;" (.ref w_HIGH)) (F_nullOrder_w_ORACLE : Fld Z Z.heap w_ORACLE "com/example/leafcount/leafcount/SqlSyntax" "nullOrder" "Lcom/example/leafcount/leafcount/SqlSyntax$NullOrder;" (.ref w_HIGH)) (F_nullOrder_w_SQLSERVER : Fld Z Z.heap w_SQLSERVER "com/example/leafcount/leafcount/SqlSyntax" "nullOrder" "Lcom/example/leafcount/leafcount/SqlSyntax$NullOrder;" (.ref w_LOW)) (F_nullOrder_w_DB2 : Fld Z Z.heap w_DB2 "com/example/leafcount/leafcount/SqlSyntax" "nullOrder" "Lcom/example/leafcount/leafcount/SqlSyntax$NullOrder;" (.ref w_HIGH)) (F_last_w_HIGH : Fld Z Z.heap w_HIGH "com/example/leafcount/leafcount/SqlSyntax$NullOrder" "last" "Lcom/example/leafcount/leafcount/Sort$Direction;" (.ref w_ASC)) (F_last_w_LOW : Fld Z Z.heap w_LOW "com/example/leafcount/leafcount/SqlSyntax$NullOrder" "last" "Lcom/example/leafcount/leafcount/Sort$Direction;" (.ref w_DESC)) (F_last_w_FIRST : Fld Z Z.heap w_FIRST "com/example/leafcount/leafcount/SqlSyntax$NullOrder" "last" "Lcom/example/leafcount/leafcount/Sort$Direction;" .null) (hne : w_ASC ≠ w_DESC) (hc11_0 : (pi2 &&& (1 : Int32)) = (0 : Int32)) (hc36_1 : ¬ (((pi1 &&& (2147483647 : Int32)) % (9 : Int32)) = (0 : Int32))) (hc36_2 : ¬ (((pi1 &&& (2147483647 : Int32)) % (9 : Int32)) = (1 : Int32))) (hc36_3 : ¬ (((pi1 &&& (2147483647 : Int32)) % (9 : Int32)) = (2 : Int32))) (hc36_4 : ¬ (((pi1 &&& (2147483647 : Int32)) % (9 : Int32)) = (3 : Int32))) (hc36_5 : ¬ (((pi1 &&& (2147483647 : Int32)) % (9 : Int32)) = (4 : Int32))) (hc36_6 : ¬ (((pi1 &&& (2147483647 : Int32)) % (9 : Int32)) = (5 : Int32))) (hc36_7 : ((pi1 &&& (2147483647 : Int32)) % (9 : Int32)) = (6 : Int32)) :
    MetFree l x (head1 (Jvm.Cond.code x code maxLocals ret :: ws) room_1) (fun a U => a = #[(.int pi1), (.int pi2)] ∧ Z.Warmed39 U.vm ∧ U.heap = h0) (fun _ _ _ _ _ => True) (fun _ U o U' => ∃ v L, o = .returned v ∧ Q0 v L n0 ∧ FrameEnd U o U' L room_1.cells room_1.slots) := by
  refine MetFree.of_bodySF (plainFor_of_name pn_0) hisR ?_
  intro p e s m args below meth c s₁ Bd hml0 hP hK
  obtain ⟨rfl, hZ, hh⟩ := hP
  have hx := Bd.exec
  have hby := Bd.bytes
  have hml : c.maxLocals = 9 := hml0
  have hown : s.vm.findClass "com/example/leafcount/leafcount/SqlSyntaxPutsNullLastPinLaw" = some m.cls := findClass_of_methodNamed Bd.named
  have hnm := (name_of_methodNamed Bd.named Bd.method).1
  have X0 : Stand p l e room_1 s m #[(.int pi1), (.int pi2)] below meth c s₁ [] 0 0 := Stand.of_body Bd
  have e0 : s₁.heap = h0 := by rw [← hh, Bd.state]; rfl
  have N0 := Fr.nil n0
  have pre0 : ∀ t, Steps p.tables e below (s₁.setTop (mkF m 0 #[.val (.int pi1), .val (.int pi2), .unset, .unset, .unset, .unset, .unset, .unset, .unset] [])) t → Steps p.tables e below (s₁.setTop (entryFrame m #[(.int pi1), (.int pi2)] maxLocals)) t := fun t k => castTop (ef_0 m pi1 pi2) k
  obtain ⟨T1, X1, e1, st1⟩ := getS2 X0 hx hZ hown (host := "") (Or.inl (own_W hw 25 rfl)) Via.refl e0 (S_ASC.ext O0.2) (g := (mkF m 24 #[.val (.int pi1), .val (.int pi2), .val (.int ((pi1 &&& (2147483647 : Int32)) % (9 : Int32))), .val (.int (1 : Int32)), .unset, .unset, .unset, .unset, .unset] [])) rfl (hb hby at_24)
  obtain ⟨_, _, ⟨T2, L2, k2, n2⟩, -, X2, ⟨Lc2, hQ2, l2, y2, z2⟩, st2⟩ := Jvm.LawKit.callS X1 hx (y := (⟨"com/example/leafcount/leafcount/SqlSyntaxPutsNullLastPinLaw", "pick", "(I)Lcom/example/leafcount/leafcount/SqlSyntax;"⟩ : MethodName)) hown (mvT hZ (own_W hw 4 rfl)) (mvT hZ (own_W hw 5 rfl)) (mvT hZ (own_W hw 6 rfl)) (mvT hZ (own_W hw 7 rfl)) (by decide) (backOf (W := 0) (rm1_6 l Z a0 hw [] ((pi1 &&& (2147483647 : Int32)) % (9 : Int32)) w_ORACLE h0 n0 Z0 O0 S_ORACLE hc36_1 hc36_2 hc36_3 hc36_4 hc36_5 hc36_6 hc36_7) hZ (own_W hw 7 rfl) (own_W hw 6 rfl) (by decide) (by decide)) (g := (mkF m 36 #[.val (.int pi1), .val (.int pi2), .val (.int ((pi1 &&& (2147483647 : Int32)) % (9 : Int32))), .val (.int (1 : Int32)), .val (.ref w_ASC), .unset, .unset, .unset, .unset] [(.int ((pi1 &&& (2147483647 : Int32)) % (9 : Int32)))])) rfl (by rw [hml]; rfl) (argsL := [(.int ((pi1 &&& (2147483647 : Int32)) % (9 : Int32)))]) (rest := []) (lenOf pd_0 rfl) rfl (by show 2 * 0 + _ ≤ _; exact Nat.le_of_eq rfl) (hb hby at_36) (fun _ _ => ⟨rfl, e1, (by decide : 0 + 0 ≤ _), (by decide : 0 + 0 ≤ _)⟩)
  dsimp only [Pt.U, Pt.locs, Pt.cells, Pt.slots] at X2 l2 y2 z2 st2 hQ2
  subst l2 y2 z2
  obtain ⟨rfl, N2q, eq2⟩ := hQ2
  have N2 := Fr.app N0 N2q
  obtain ⟨cq3, kq3, q3a, q3b, q3c⟩ := isOf hZ eq2 (E_w_ORACLE.ext O0.2)
  obtain ⟨_, _, ⟨T3, L3, k3, n3⟩, -, X3, ⟨Lc3, hQ3, l3, y3, z3⟩, st3⟩ := X2.virtualBack hx (y := (⟨"com/example/leafcount/leafcount/SqlSyntax", "putsNullLast", "(Lcom/example/leafcount/leafcount/Sort$Direction;)Z"⟩ : MethodName)) (z := (⟨"com/example/leafcount/leafcount/SqlSyntax", "putsNullLast", "(Lcom/example/leafcount/leafcount/Sort$Direction;)Z"⟩ : MethodName)) hown (mvT hZ (own_W hw 11 rfl)) (mvT hZ (own_W hw 12 rfl)) (notFace_of_selects (args := #[]) (mvT hZ (own_W hw 14 rfl))) (mvT hZ (own_W hw 14 rfl)) (mvT hZ (own_W hw 13 rfl)) (by decide) (backOf (W := 0) (rm2_t l Z a0 hw [] w_ORACLE w_ASC w_HIGH w_ASC h0 n0 Z0 O0 (F_nullOrder_w_ORACLE.ext O0.2) (F_last_w_HIGH.ext O0.2) rfl) hZ (own_W hw 15 rfl) (own_W hw 9 rfl) (by decide) (by decide)) q3a q3c (g := (mkF m 134 #[.val (.int pi1), .val (.int pi2), .val (.int ((pi1 &&& (2147483647 : Int32)) % (9 : Int32))), .val (.int (1 : Int32)), .val (.ref w_ASC), .val (.ref w_ORACLE), .val (.int (1 : Int32)), .val (.int (0 : Int32)), .val (.int (1 : Int32))] [(.ref w_ASC), (.ref w_ORACLE)])) rfl (by rw [hml]; rfl) (Steps.refl _) (argsL := [(.ref w_ASC)]) (rest := []) (lenOf pd_1 rfl) rfl (by show 2 * 0 + _ ≤ _; exact Nat.le_of_eq rfl) (hb hby at_134) (fun _ _ => ⟨rfl, eq2, (by decide : 0 + 0 ≤ _), (by decide : 0 + 0 ≤ _)⟩)
  dsimp only [Pt.U, Pt.locs, Pt.cells, Pt.slots] at X3 l3 y3 z3 st3 hQ3
  subst l3 y3 z3
  obtain ⟨rfl, N3q, eq3⟩ := hQ3
  have N3 := Fr.app N2 N3q
  obtain ⟨fs, hr, hrun, hended, hW, hsame⟩ := X3.leave (v := some (.int (1 : Int32))) (fun h => by rw [Bd.returns] at h; cases h)
  refine ⟨_, _, pre0 _ ?_, hrun, hended, _, _, rfl, ?_, ⟨_, rfl⟩, hW, hsame.mono (by decide) (by decide)⟩
  · show Stp p e below s₁ m 0 #[.val (.int pi1), .val (.int pi2), .unset, .unset, .unset, .unset, .unset, .unset, .unset] [] _
    refine XS.iloadN X0.here hx rfl (hb hby at_0) rfl ?_
    show Stp p e below s₁ m 1 #[.val (.int pi1), .val (.int pi2), .unset, .unset, .unset, .unset, .unset, .unset, .unset] [(.int pi1)] _
    refine X0.ldcInt hx hown (mvT hZ (own_W hw 0 rfl)) (g := (mkF m 1 #[.val (.int pi1), .val (.int pi2), .unset, .unset, .unset, .unset, .unset, .unset, .unset] [(.int pi1)])) rfl (hb hby at_1) _ ?_
    show Stp p e below s₁ m 3 #[.val (.int pi1), .val (.int pi2), .unset, .unset, .unset, .unset, .unset, .unset, .unset] [(.int (2147483647 : Int32)), (.int pi1)] _
    refine XS.iand X0.here hx rfl (hb hby at_3) rfl ?_
    show Stp p e below s₁ m 4 #[.val (.int pi1), .val (.int pi2), .unset, .unset, .unset, .unset, .unset, .unset, .unset] [(.int (pi1 &&& (2147483647 : Int32)))] _
    refine XS.bipush X0.here hx rfl (hb hby at_4) ?_
    show Stp p e below s₁ m 6 #[.val (.int pi1), .val (.int pi2), .unset, .unset, .unset, .unset, .unset, .unset, .unset] [(.int (9 : Int32)), (.int (pi1 &&& (2147483647 : Int32)))] _
    refine iremM X0 hx rfl (hb hby at_6) rfl (by decide) ?_
    show Stp p e below s₁ m 7 #[.val (.int pi1), .val (.int pi2), .unset, .unset, .unset, .unset, .unset, .unset, .unset] [(.int ((pi1 &&& (2147483647 : Int32)) % (9 : Int32)))] _
    refine XS.istoreN X0.here hx rfl (hb hby at_7) rfl (l' := #[.val (.int pi1), .val (.int pi2), .val (.int ((pi1 &&& (2147483647 : Int32)) % (9 : Int32))), .unset, .unset, .unset, .unset, .unset, .unset]) rfl ?_
    show Stp p e below s₁ m 8 #[.val (.int pi1), .val (.int pi2), .val (.int ((pi1 &&& (2147483647 : Int32)) % (9 : Int32))), .unset, .unset, .unset, .unset, .unset, .unset] [] _
    refine XS.iloadN X0.here hx rfl (hb hby at_8) rfl ?_
    show Stp p e below s₁ m 9 #[.val (.int pi1), .val (.int pi2), .val (.int ((pi1 &&& (2147483647 : Int32)) % (9 : Int32))), .unset, .unset, .unset, .unset, .unset, .unset] [(.int pi2)] _
    refine XS.iconst X0.here hx rfl (hb hby at_9) ?_
    show Stp p e below s₁ m 10 #[.val (.int pi1), .val (.int pi2), .val (.int ((pi1 &&& (2147483647 : Int32)) % (9 : Int32))), .unset, .unset, .unset, .unset, .unset, .unset] [(.int (1 : Int32)), (.int pi2)] _
    refine XS.iand X0.here hx rfl (hb hby at_10) rfl ?_
    show Stp p e below s₁ m 11 #[.val (.int pi1), .val (.int pi2), .val (.int ((pi1 &&& (2147483647 : Int32)) % (9 : Int32))), .unset, .unset, .unset, .unset, .unset, .unset] [(.int (pi2 &&& (1 : Int32)))] _
    refine XS.ifNo X0.here hx rfl (hb hby at_11) rfl ((if0 _ _).trans (teq hc11_0).2) ?_
    show Stp p e below s₁ m 14 #[.val (.int pi1), .val (.int pi2), .val (.int ((pi1 &&& (2147483647 : Int32)) % (9 : Int32))), .unset, .unset, .unset, .unset, .unset, .unset] [] _
    refine XS.iconst X0.here hx rfl (hb hby at_14) ?_
    show Stp p e below s₁ m 15 #[.val (.int pi1), .val (.int pi2), .val (.int ((pi1 &&& (2147483647 : Int32)) % (9 : Int32))), .unset, .unset, .unset, .unset, .unset, .unset] [(.int (1 : Int32))] _
    refine XS.goto X0.here hx rfl (pc0 := 15) (pc' := 19) rfl (hb hby at_15) (by decide) (by decide) ?_
    show Stp p e below s₁ m 19 #[.val (.int pi1), .val (.int pi2), .val (.int ((pi1 &&& (2147483647 : Int32)) % (9 : Int32))), .unset, .unset, .unset, .unset, .unset, .unset] [(.int (1 : Int32))] _
    refine XS.istoreN X0.here hx rfl (hb hby at_19) rfl (l' := #[.val (.int pi1), .val (.int pi2), .val (.int ((pi1 &&& (2147483647 : Int32)) % (9 : Int32))), .val (.int (1 : Int32)), .unset, .unset, .unset, .unset, .unset]) rfl ?_
    show Stp p e below s₁ m 20 #[.val (.int pi1), .val (.int pi2), .val (.int ((pi1 &&& (2147483647 : Int32)) % (9 : Int32))), .val (.int (1 : Int32)), .unset, .unset, .unset, .unset, .unset] [] _
    refine XS.iloadN X0.here hx rfl (hb hby at_20) rfl ?_
    show Stp p e below s₁ m 21 #[.val (.int pi1), .val (.int pi2), .val (.int ((pi1 &&& (2147483647 : Int32)) % (9 : Int32))), .val (.int (1 : Int32)), .unset, .unset, .unset, .unset, .unset] [(.int (1 : Int32))] _
    refine XS.ifNo X0.here hx rfl (hb hby at_21) rfl ((if0 _ _).trans (feq (by decide : ¬ ((1 : Int32) = (0 : Int32)))).1) ?_
    show Stp p e below s₁ m 24 #[.val (.int pi1), .val (.int pi2), .val (.int ((pi1 &&& (2147483647 : Int32)) % (9 : Int32))), .val (.int (1 : Int32)), .unset, .unset, .unset, .unset, .unset] [] _
    refine st1 _ ?_
    show Stp p e below T1 m 27 #[.val (.int pi1), .val (.int pi2), .val (.int ((pi1 &&& (2147483647 : Int32)) % (9 : Int32))), .val (.int (1 : Int32)), .unset, .unset, .unset, .unset, .unset] [(.ref w_ASC)] _
    refine XS.goto X1.here hx rfl (pc0 := 27) (pc' := 33) rfl (hb hby at_27) (by decide) (by decide) ?_
    show Stp p e below T1 m 33 #[.val (.int pi1), .val (.int pi2), .val (.int ((pi1 &&& (2147483647 : Int32)) % (9 : Int32))), .val (.int (1 : Int32)), .unset, .unset, .unset, .unset, .unset] [(.ref w_ASC)] _
    refine XS.astore X1.here hx rfl (hb hby at_33) rfl rfl (l' := #[.val (.int pi1), .val (.int pi2), .val (.int ((pi1 &&& (2147483647 : Int32)) % (9 : Int32))), .val (.int (1 : Int32)), .val (.ref w_ASC), .unset, .unset, .unset, .unset]) rfl ?_
    show Stp p e below T1 m 35 #[.val (.int pi1), .val (.int pi2), .val (.int ((pi1 &&& (2147483647 : Int32)) % (9 : Int32))), .val (.int (1 : Int32)), .val (.ref w_ASC), .unset, .unset, .unset, .unset] [] _
    refine XS.iloadN X1.here hx rfl (hb hby at_35) rfl ?_
    show Stp p e below T1 m 36 #[.val (.int pi1), .val (.int pi2), .val (.int ((pi1 &&& (2147483647 : Int32)) % (9 : Int32))), .val (.int (1 : Int32)), .val (.ref w_ASC), .unset, .unset, .unset, .unset] [(.int ((pi1 &&& (2147483647 : Int32)) % (9 : Int32)))] _
    refine st2 _ ?_
    show Stp p e below T2 m 39 #[.val (.int pi1), .val (.int pi2), .val (.int ((pi1 &&& (2147483647 : Int32)) % (9 : Int32))), .val (.int (1 : Int32)), .val (.ref w_ASC), .unset, .unset, .unset, .unset] [(.ref w_ORACLE)] _
    refine XS.astore X2.here hx rfl (hb hby at_39) rfl rfl (l' := #[.val (.int pi1), .val (.int pi2), .val (.int ((pi1 &&& (2147483647 : Int32)) % (9 : Int32))), .val (.int (1 : Int32)), .val (.ref w_ASC), .val (.ref w_ORACLE), .unset, .unset, .unset]) rfl ?_
    show Stp p e below T2 m 41 #[.val (.int pi1), .val (.int pi2), .val (.int ((pi1 &&& (2147483647 : Int32)) % (9 : Int32))), .val (.int (1 : Int32)), .val (.ref w_ASC), .val (.ref w_ORACLE), .unset, .unset, .unset] [] _
    refine XS.iloadN X2.here hx rfl (hb hby at_41) rfl ?_
    show Stp p e below T2 m 42 #[.val (.int pi1), .val (.int pi2), .val (.int ((pi1 &&& (2147483647 : Int32)) % (9 : Int32))), .val (.int (1 : Int32)), .val (.ref w_ASC), .val (.ref w_ORACLE), .unset, .unset, .unset] [(.int ((pi1 &&& (2147483647 : Int32)) % (9 : Int32)))] _
    refine XS.ifNo X2.here hx rfl (hb hby at_42) rfl ((if0 _ _).trans (feq hc36_1).1) ?_
    show Stp p e below T2 m 45 #[.val (.int pi1), .val (.int pi2), .val (.int ((pi1 &&& (2147483647 : Int32)) % (9 : Int32))), .val (.int (1 : Int32)), .val (.ref w_ASC), .val (.ref w_ORACLE), .unset, .unset, .unset] [] _
    refine XS.iloadN X2.here hx rfl (hb hby at_45) rfl ?_
    show Stp p e below T2 m 46 #[.val (.int pi1), .val (.int pi2), .val (.int ((pi1 &&& (2147483647 : Int32)) % (9 : Int32))), .val (.int (1 : Int32)), .val (.ref w_ASC), .val (.ref w_ORACLE), .unset, .unset, .unset] [(.int ((pi1 &&& (2147483647 : Int32)) % (9 : Int32)))] _
    refine XS.iconst X2.here hx rfl (hb hby at_46) ?_
    show Stp p e below T2 m 47 #[.val (.int pi1), .val (.int pi2), .val (.int ((pi1 &&& (2147483647 : Int32)) % (9 : Int32))), .val (.int (1 : Int32)), .val (.ref w_ASC), .val (.ref w_ORACLE), .unset, .unset, .unset] [(.int (5 : Int32)), (.int ((pi1 &&& (2147483647 : Int32)) % (9 : Int32)))] _
    refine XS.icmpNo X2.here hx rfl (hb hby at_47) rfl (feq hc36_6).1 ?_
    show Stp p e below T2 m 50 #[.val (.int pi1), .val (.int pi2), .val (.int ((pi1 &&& (2147483647 : Int32)) % (9 : Int32))), .val (.int (1 : Int32)), .val (.ref w_ASC), .val (.ref w_ORACLE), .unset, .unset, .unset] [] _
    refine XS.iloadN X2.here hx rfl (hb hby at_50) rfl ?_
    show Stp p e below T2 m 51 #[.val (.int pi1), .val (.int pi2), .val (.int ((pi1 &&& (2147483647 : Int32)) % (9 : Int32))), .val (.int (1 : Int32)), .val (.ref w_ASC), .val (.ref w_ORACLE), .unset, .unset, .unset] [(.int ((pi1 &&& (2147483647 : Int32)) % (9 : Int32)))] _
    refine XS.bipush X2.here hx rfl (hb hby at_51) ?_
    show Stp p e below T2 m 53 #[.val (.int pi1), .val (.int pi2), .val (.int ((pi1 &&& (2147483647 : Int32)) % (9 : Int32))), .val (.int (1 : Int32)), .val (.ref w_ASC), .val (.ref w_ORACLE), .unset, .unset, .unset] [(.int (6 : Int32)), (.int ((pi1 &&& (2147483647 : Int32)) % (9 : Int32)))] _
    refine XS.icmpYes X2.here hx rfl (pc0 := 53) (pc' := 62) rfl (hb hby at_53) rfl (teq hc36_7).1 (by decide) (by decide) ?_
    show Stp p e below T2 m 62 #[.val (.int pi1), .val (.int pi2), .val (.int ((pi1 &&& (2147483647 : Int32)) % (9 : Int32))), .val (.int (1 : Int32)), .val (.ref w_ASC), .val (.ref w_ORACLE), .unset, .unset, .unset] [] _
    refine XS.iconst X2.here hx rfl (hb hby at_62) ?_
    show Stp p e below T2 m 63 #[.val (.int pi1), .val (.int pi2), .val (.int ((pi1 &&& (2147483647 : Int32)) % (9 : Int32))), .val (.int (1 : Int32)), .val (.ref w_ASC), .val (.ref w_ORACLE), .unset, .unset, .unset] [(.int (1 : Int32))] _
    refine XS.goto X2.here hx rfl (pc0 := 63) (pc' := 67) rfl (hb hby at_63) (by decide) (by decide) ?_
    show Stp p e below T2 m 67 #[.val (.int pi1), .val (.int pi2), .val (.int ((pi1 &&& (2147483647 : Int32)) % (9 : Int32))), .val (.int (1 : Int32)), .val (.ref w_ASC), .val (.ref w_ORACLE), .unset, .unset, .unset] [(.int (1 : Int32))] _
    refine XS.istore X2.here hx rfl (hb hby at_67) rfl (l' := #[.val (.int pi1), .val (.int pi2), .val (.int ((pi1 &&& (2147483647 : Int32)) % (9 : Int32))), .val (.int (1 : Int32)), .val (.ref w_ASC), .val (.ref w_ORACLE), .val (.int (1 : Int32)), .unset, .unset]) rfl ?_
    show Stp p e below T2 m 69 #[.val (.int pi1), .val (.int pi2), .val (.int ((pi1 &&& (2147483647 : Int32)) % (9 : Int32))), .val (.int (1 : Int32)), .val (.ref w_ASC), .val (.ref w_ORACLE), .val (.int (1 : Int32)), .unset, .unset] [] _
    refine XS.iloadN X2.here hx rfl (hb hby at_69) rfl ?_
    show Stp p e below T2 m 70 #[.val (.int pi1), .val (.int pi2), .val (.int ((pi1 &&& (2147483647 : Int32)) % (9 : Int32))), .val (.int (1 : Int32)), .val (.ref w_ASC), .val (.ref w_ORACLE), .val (.int (1 : Int32)), .unset, .unset] [(.int ((pi1 &&& (2147483647 : Int32)) % (9 : Int32)))] _
    refine XS.iconst X2.here hx rfl (hb hby at_70) ?_
    show Stp p e below T2 m 71 #[.val (.int pi1), .val (.int pi2), .val (.int ((pi1 &&& (2147483647 : Int32)) % (9 : Int32))), .val (.int (1 : Int32)), .val (.ref w_ASC), .val (.ref w_ORACLE), .val (.int (1 : Int32)), .unset, .unset] [(.int (1 : Int32)), (.int ((pi1 &&& (2147483647 : Int32)) % (9 : Int32)))] _
    refine XS.icmpNo X2.here hx rfl (hb hby at_71) rfl (feq hc36_2).1 ?_
    show Stp p e below T2 m 74 #[.val (.int pi1), .val (.int pi2), .val (.int ((pi1 &&& (2147483647 : Int32)) % (9 : Int32))), .val (.int (1 : Int32)), .val (.ref w_ASC), .val (.ref w_ORACLE), .val (.int (1 : Int32)), .unset, .unset] [] _
    refine XS.iloadN X2.here hx rfl (hb hby at_74) rfl ?_
    show Stp p e below T2 m 75 #[.val (.int pi1), .val (.int pi2), .val (.int ((pi1 &&& (2147483647 : Int32)) % (9 : Int32))), .val (.int (1 : Int32)), .val (.ref w_ASC), .val (.ref w_ORACLE), .val (.int (1 : Int32)), .unset, .unset] [(.int ((pi1 &&& (2147483647 : Int32)) % (9 : Int32)))] _
    refine XS.iconst X2.here hx rfl (hb hby at_75) ?_
    show Stp p e below T2 m 76 #[.val (.int pi1), .val (.int pi2), .val (.int ((pi1 &&& (2147483647 : Int32)) % (9 : Int32))), .val (.int (1 : Int32)), .val (.ref w_ASC), .val (.ref w_ORACLE), .val (.int (1 : Int32)), .unset, .unset] [(.int (2 : Int32)), (.int ((pi1 &&& (2147483647 : Int32)) % (9 : Int32)))] _
    refine XS.icmpNo X2.here hx rfl (hb hby at_76) rfl (feq hc36_3).1 ?_
    show Stp p e below T2 m 79 #[.val (.int pi1), .val (.int pi2), .val (.int ((pi1 &&& (2147483647 : Int32)) % (9 : Int32))), .val (.int (1 : Int32)), .val (.ref w_ASC), .val (.ref w_ORACLE), .val (.int (1 : Int32)), .unset, .unset] [] _
    refine XS.iloadN X2.here hx rfl (hb hby at_79) rfl ?_
    show Stp p e below T2 m 80 #[.val (.int pi1), .val (.int pi2), .val (.int ((pi1 &&& (2147483647 : Int32)) % (9 : Int32))), .val (.int (1 : Int32)), .val (.ref w_ASC), .val (.ref w_ORACLE), .val (.int (1 : Int32)), .unset, .unset] [(.int ((pi1 &&& (2147483647 : Int32)) % (9 : Int32)))] _
    refine XS.iconst X2.here hx rfl (hb hby at_80) ?_
    show Stp p e below T2 m 81 #[.val (.int pi1), .val (.int pi2), .val (.int ((pi1 &&& (2147483647 : Int32)) % (9 : Int32))), .val (.int (1 : Int32)), .val (.ref w_ASC), .val (.ref w_ORACLE), .val (.int (1 : Int32)), .unset, .unset] [(.int (3 : Int32)), (.int ((pi1 &&& (2147483647 : Int32)) % (9 : Int32)))] _
    refine XS.icmpNo X2.here hx rfl (hb hby at_81) rfl (feq hc36_4).1 ?_
    show Stp p e below T2 m 84 #[.val (.int pi1), .val (.int pi2), .val (.int ((pi1 &&& (2147483647 : Int32)) % (9 : Int32))), .val (.int (1 : Int32)), .val (.ref w_ASC), .val (.ref w_ORACLE), .val (.int (1 : Int32)), .unset, .unset] [] _
    refine XS.iloadN X2.here hx rfl (hb hby at_84) rfl ?_
    show Stp p e below T2 m 85 #[.val (.int pi1), .val (.int pi2), .val (.int ((pi1 &&& (2147483647 : Int32)) % (9 : Int32))), .val (.int (1 : Int32)), .val (.ref w_ASC), .val (.ref w_ORACLE), .val (.int (1 : Int32)), .unset, .unset] [(.int ((pi1 &&& (2147483647 : Int32)) % (9 : Int32)))] _
    refine XS.bipush X2.here hx rfl (hb hby at_85) ?_
    show Stp p e below T2 m 87 #[.val (.int pi1), .val (.int pi2), .val (.int ((pi1 &&& (2147483647 : Int32)) % (9 : Int32))), .val (.int (1 : Int32)), .val (.ref w_ASC), .val (.ref w_ORACLE), .val (.int (1 : Int32)), .unset, .unset] [(.int (7 : Int32)), (.int ((pi1 &&& (2147483647 : Int32)) % (9 : Int32)))] _
    refine XS.icmpYes X2.here hx rfl (pc0 := 87) (pc' := 94) rfl (hb hby at_87) rfl (feq (fun q => absurd (hc36_7.symm.trans q) (by decide))).2 (by decide) (by decide) ?_
    show Stp p e below T2 m 94 #[.val (.int pi1), .val (.int pi2), .val (.int ((pi1 &&& (2147483647 : Int32)) % (9 : Int32))), .val (.int (1 : Int32)), .val (.ref w_ASC), .val (.ref w_ORACLE), .val (.int (1 : Int32)), .unset, .unset] [] _
    refine XS.iconst X2.here hx rfl (hb hby at_94) ?_
    show Stp p e below T2 m 95 #[.val (.int pi1), .val (.int pi2), .val (.int ((pi1 &&& (2147483647 : Int32)) % (9 : Int32))), .val (.int (1 : Int32)), .val (.ref w_ASC), .val (.ref w_ORACLE), .val (.int (1 : Int32)), .unset, .unset] [(.int (0 : Int32))] _
    refine XS.istore X2.here hx rfl (hb hby at_95) rfl (l' := #[.val (.int pi1), .val (.int pi2), .val (.int ((pi1 &&& (2147483647 : Int32)) % (9 : Int32))), .val (.int (1 : Int32)), .val (.ref w_ASC), .val (.ref w_ORACLE), .val (.int (1 : Int32)), .val (.int (0 : Int32)), .unset]) rfl ?_
    show Stp p e below T2 m 97 #[.val (.int pi1), .val (.int pi2), .val (.int ((pi1 &&& (2147483647 : Int32)) % (9 : Int32))), .val (.int (1 : Int32)), .val (.ref w_ASC), .val (.ref w_ORACLE), .val (.int (1 : Int32)), .val (.int (0 : Int32)), .unset] [] _
    refine XS.iload X2.here hx rfl (hb hby at_97) rfl ?_
    show Stp p e below T2 m 99 #[.val (.int pi1), .val (.int pi2), .val (.int ((pi1 &&& (2147483647 : Int32)) % (9 : Int32))), .val (.int (1 : Int32)), .val (.ref w_ASC), .val (.ref w_ORACLE), .val (.int (1 : Int32)), .val (.int (0 : Int32)), .unset] [(.int (1 : Int32))] _
    refine XS.ifNo X2.here hx rfl (hb hby at_99) rfl ((if0 _ _).trans (feq (by decide : ¬ ((1 : Int32) = (0 : Int32)))).1) ?_
    show Stp p e below T2 m 102 #[.val (.int pi1), .val (.int pi2), .val (.int ((pi1 &&& (2147483647 : Int32)) % (9 : Int32))), .val (.int (1 : Int32)), .val (.ref w_ASC), .val (.ref w_ORACLE), .val (.int (1 : Int32)), .val (.int (0 : Int32)), .unset] [] _
    refine XS.iloadN X2.here hx rfl (hb hby at_102) rfl ?_
    show Stp p e below T2 m 103 #[.val (.int pi1), .val (.int pi2), .val (.int ((pi1 &&& (2147483647 : Int32)) % (9 : Int32))), .val (.int (1 : Int32)), .val (.ref w_ASC), .val (.ref w_ORACLE), .val (.int (1 : Int32)), .val (.int (0 : Int32)), .unset] [(.int (1 : Int32))] _
    refine XS.istore X2.here hx rfl (hb hby at_103) rfl (l' := #[.val (.int pi1), .val (.int pi2), .val (.int ((pi1 &&& (2147483647 : Int32)) % (9 : Int32))), .val (.int (1 : Int32)), .val (.ref w_ASC), .val (.ref w_ORACLE), .val (.int (1 : Int32)), .val (.int (0 : Int32)), .val (.int (1 : Int32))]) rfl ?_
    show Stp p e below T2 m 105 #[.val (.int pi1), .val (.int pi2), .val (.int ((pi1 &&& (2147483647 : Int32)) % (9 : Int32))), .val (.int (1 : Int32)), .val (.ref w_ASC), .val (.ref w_ORACLE), .val (.int (1 : Int32)), .val (.int (0 : Int32)), .val (.int (1 : Int32))] [] _
    refine XS.goto X2.here hx rfl (pc0 := 105) (pc' := 130) rfl (hb hby at_105) (by decide) (by decide) ?_
    show Stp p e below T2 m 130 #[.val (.int pi1), .val (.int pi2), .val (.int ((pi1 &&& (2147483647 : Int32)) % (9 : Int32))), .val (.int (1 : Int32)), .val (.ref w_ASC), .val (.ref w_ORACLE), .val (.int (1 : Int32)), .val (.int (0 : Int32)), .val (.int (1 : Int32))] [] _
    refine XS.aload X2.here hx rfl (hb hby at_130) rfl rfl ?_
    show Stp p e below T2 m 132 #[.val (.int pi1), .val (.int pi2), .val (.int ((pi1 &&& (2147483647 : Int32)) % (9 : Int32))), .val (.int (1 : Int32)), .val (.ref w_ASC), .val (.ref w_ORACLE), .val (.int (1 : Int32)), .val (.int (0 : Int32)), .val (.int (1 : Int32))] [(.ref w_ORACLE)] _
    refine XS.aload X2.here hx rfl (hb hby at_132) rfl rfl ?_
    show Stp p e below T2 m 134 #[.val (.int pi1), .val (.int pi2), .val (.int ((pi1 &&& (2147483647 : Int32)) % (9 : Int32))), .val (.int (1 : Int32)), .val (.ref w_ASC), .val (.ref w_ORACLE), .val (.int (1 : Int32)), .val (.int (0 : Int32)), .val (.int (1 : Int32))] [(.ref w_ASC), (.ref w_ORACLE)] _
    refine st3.trans ?_
    show Stp p e below T3 m 137 #[.val (.int pi1), .val (.int pi2), .val (.int ((pi1 &&& (2147483647 : Int32)) % (9 : Int32))), .val (.int (1 : Int32)), .val (.ref w_ASC), .val (.ref w_ORACLE), .val (.int (1 : Int32)), .val (.int (0 : Int32)), .val (.int (1 : Int32))] [(.int (1 : Int32))] _
    refine XS.iload X3.here hx rfl (hb hby at_137) rfl ?_
    show Stp p e below T3 m 139 #[.val (.int pi1), .val (.int pi2), .val (.int ((pi1 &&& (2147483647 : Int32)) % (9 : Int32))), .val (.int (1 : Int32)), .val (.ref w_ASC), .val (.ref w_ORACLE), .val (.int (1 : Int32)), .val (.int (0 : Int32)), .val (.int (1 : Int32))] [(.int (1 : Int32)), (.int (1 : Int32))] _
    refine XS.icmpNo X3.here hx rfl (hb hby at_139) rfl (teq (rfl : (1 : Int32) = (1 : Int32))).2 ?_
    show Stp p e below T3 m 142 #[.val (.int pi1), .val (.int pi2), .val (.int ((pi1 &&& (2147483647 : Int32)) % (9 : Int32))), .val (.int (1 : Int32)), .val (.ref w_ASC), .val (.ref w_ORACLE), .val (.int (1 : Int32)), .val (.int (0 : Int32)), .val (.int (1 : Int32))] [] _
    refine XS.iconst X3.here hx rfl (hb hby at_142) ?_
    show Stp p e below T3 m 143 #[.val (.int pi1), .val (.int pi2), .val (.int ((pi1 &&& (2147483647 : Int32)) % (9 : Int32))), .val (.int (1 : Int32)), .val (.ref w_ASC), .val (.ref w_ORACLE), .val (.int (1 : Int32)), .val (.int (0 : Int32)), .val (.int (1 : Int32))] [(.int (1 : Int32))] _
    refine XS.goto X3.here hx rfl (pc0 := 143) (pc' := 147) rfl (hb hby at_143) (by decide) (by decide) ?_
    show Stp p e below T3 m 147 #[.val (.int pi1), .val (.int pi2), .val (.int ((pi1 &&& (2147483647 : Int32)) % (9 : Int32))), .val (.int (1 : Int32)), .val (.ref w_ASC), .val (.ref w_ORACLE), .val (.int (1 : Int32)), .val (.int (0 : Int32)), .val (.int (1 : Int32))] [(.int (1 : Int32))] _
    exact retN X3 hx (t := .boolean) Bd.returns (by simp) (hb hby at_147) hr
  · exact ⟨rfl, N3⟩
set_option maxRecDepth 65536 in
set_option maxHeartbeats 40000000 in
theorem rm0_tffffffft (l : Launch) (Z : State) (a0 : Array Value) (hw : ∀ d ∈ tables_1, d.before a0 Z = true) (ws : List Jvm.Cond) (pi1 : Int32) (pi2 : Int32) (w_HIGH : Addr) (w_LOW : Addr) (w_FIRST : Addr) (w_ASC : Addr) (w_DESC : Addr) (w_POSTGRESQL : Addr) (w_MARIADB : Addr) (w_SQLITE : Addr) (w_H2 : Addr) (w_HSQLDB : Addr) (w_DERBY : Addr) (w_ORACLE : Addr) (w_SQLSERVER : Addr) (w_DB2 : Addr) (h0 : Heap) (n0 : Nat) (Z0 : n0 ≤ h0.size) (O0 : Old Z n0 h0) (S_ASC : Sta Z Z.heap "com/example/leafcount/leafcount/Sort$Direction" "ASC" "Lcom/example/leafcount/leafcount/Sort$Direction;" (.ref w_ASC)) (S_DESC : Sta Z Z.heap "com/example/leafcount/leafcount/Sort$Direction" "DESC" "Lcom/example/leafcount/leafcount/Sort$Direction;" (.ref w_DESC)) (S_POSTGRESQL : Sta Z Z.heap "com/example/leafcount/leafcount/SqlSyntax" "POSTGRESQL" "Lcom/example/leafcount/leafcount/SqlSyntax;" (.ref w_POSTGRESQL)) (S_MARIADB : Sta Z Z.heap "com/example/leafcount/leafcount/SqlSyntax" "MARIADB" "Lcom/example/leafcount/leafcount/SqlSyntax;" (.ref w_MARIADB)) (S_SQLITE : Sta Z Z.heap "com/example/leafcount/leafcount/SqlSyntax" "SQLITE" "Lcom/example/leafcount/leafcount/SqlSyntax;" (.ref w_SQLITE)) (S_H2 : Sta Z Z.heap "com/example/leafcount/leafcount/SqlSyntax" "H2" "Lcom/example/leafcount/leafcount/SqlSyntax;" (.ref w_H2)) (S_HSQLDB : Sta Z Z.heap "com/example/leafcount/leafcount/SqlSyntax" "HSQLDB" "Lcom/example/leafcount/leafcount/SqlSyntax;" (.ref w_HSQLDB)) (S_DERBY : Sta Z Z.heap "com/example/leafcount/leafcount/SqlSyntax" "DERBY" "Lcom/example/leafcount/leafcount/SqlSyntax;" (.ref w_DERBY)) (S_ORACLE : Sta Z Z.heap "com/example/leafcount/leafcount/SqlSyntax" "ORACLE" "Lcom/example/leafcount/leafcount/SqlSyntax;" (.ref w_ORACLE)) (S_SQLSERVER : Sta Z Z.heap "com/example/leafcount/leafcount/SqlSyntax" "SQLSERVER" "Lcom/example/leafcount/leafcount/SqlSyntax;" (.ref w_SQLSERVER)) (S_DB2 : Sta Z Z.heap "com/example/leafcount/leafcount/SqlSyntax" "DB2" "Lcom/example/leafcount/leafcount/SqlSyntax;" (.ref w_DB2)) (E_w_POSTGRESQL : Exa Z Z.heap w_POSTGRESQL "com/example/leafcount/leafcount/SqlSyntax") (E_w_MARIADB : Exa Z Z.heap w_MARIADB "com/example/leafcount/leafcount/SqlSyntax") (E_w_SQLITE : Exa Z Z.heap w_SQLITE "com/example/leafcount/leafcount/SqlSyntax") (E_w_H2 : Exa Z Z.heap w_H2 "com/example/leafcount/leafcount/SqlSyntax") (E_w_HSQLDB : Exa Z Z.heap w_HSQLDB "com/example/leafcount/leafcount/SqlSyntax") (E_w_DERBY : Exa Z Z.heap w_DERBY "com/example/leafcount/leafcount/SqlSyntax") (E_w_ORACLE : Exa Z Z.heap w_ORACLE "com/example/leafcount/leafcount/SqlSyntax") (E_w_SQLSERVER : Exa Z Z.heap w_SQLSERVER "com/example/leafcount/leafcount/SqlSyntax") (E_w_DB2 : Exa Z Z.heap w_DB2 "com/example/leafcount/leafcount/SqlSyntax") (F_nullOrder_w_POSTGRESQL : Fld Z Z.heap w_POSTGRESQL "com/example/leafcount/leafcount/SqlSyntax" "nullOrder" "Lcom/example/leafcount/leafcount/SqlSyntax$NullOrder;" (.ref w_HIGH)) (F_nullOrder_w_MARIADB : Fld Z Z.heap w_MARIADB "com/example/leafcount/leafcount/SqlSyntax" "nullOrder" "Lcom/example/leafcount/leafcount/SqlSyntax$NullOrder;" (.ref w_LOW)) (F_nullOrder_w_SQLITE : Fld Z Z.heap w_SQLITE "com/example/leafcount/leafcount/SqlSyntax" "nullOrder" "Lcom/example/leafcount/leafcount/SqlSyntax$NullOrder;" (.ref w_LOW)) (F_nullOrder_w_H2 : Fld Z Z.heap w_H2 "com/example/leafcount/leafcount/SqlSyntax" "nullOrder" "Lcom/example/leafcount/leafcount/SqlSyntax$NullOrder;" (.ref w_LOW)) (F_nullOrder_w_HSQLDB : Fld Z Z.heap w_HSQLDB "com/example/leafcount/leafcount/SqlSyntax" "nullOrder" "Lcom/example/leafcount/leafcount/SqlSyntax$NullOrder;" (.ref w_FIRST)) (F_nullOrder_w_DERBY : Fld Z Z.heap w_DERBY "com/example/leafcount/leafcount/SqlSyntax" "nullOrder" "Lcom/example/leafcount/leafcount/SqlSyntax$NullOrder;" (.ref w_HIGH)) (F_nullOrder_w_ORACLE : Fld Z Z.heap w_ORACLE "com/example/leafcount/leafcount/SqlSyntax" "nullOrder" "Lcom/example/leafcount/leafcount/SqlSyntax$NullOrder;" (.ref w_HIGH)) (F_nullOrder_w_SQLSERVER : Fld Z Z.heap w_SQLSERVER "com/example/leafcount/leafcount/SqlSyntax" "nullOrder" "Lcom/example/leafcount/leafcount/SqlSyntax$NullOrder;" (.ref w_LOW)) (F_nullOrder_w_DB2 : Fld Z Z.heap w_DB2 "com/example/leafcount/leafcount/SqlSyntax" "nullOrder" "Lcom/example/leafcount/leafcount/SqlSyntax$NullOrder;" (.ref w_HIGH)) (F_last_w_HIGH : Fld Z Z.heap w_HIGH "com/example/leafcount/leafcount/SqlSyntax$NullOrder" "last" "Lcom/example/leafcount/leafcount/Sort$Direction;" (.ref w_ASC)) (F_last_w_LOW : Fld Z Z.heap w_LOW "com/example/leafcount/leafcount/SqlSyntax$NullOrder" "last" "Lcom/example/leafcount/leafcount/Sort$Direction;" (.ref w_DESC)) (F_last_w_FIRST : Fld Z Z.heap w_FIRST "com/example/leafcount/leafcount/SqlSyntax$NullOrder" "last" "Lcom/example/leafcount/leafcount/Sort$Direction;" .null) (hne : w_ASC ≠ w_DESC) (hc11_0 : (pi2 &&& (1 : Int32)) = (0 : Int32)) (hc36_1 : ¬ (((pi1 &&& (2147483647 : Int32)) % (9 : Int32)) = (0 : Int32))) (hc36_2 : ¬ (((pi1 &&& (2147483647 : Int32)) % (9 : Int32)) = (1 : Int32))) (hc36_3 : ¬ (((pi1 &&& (2147483647 : Int32)) % (9 : Int32)) = (2 : Int32))) (hc36_4 : ¬ (((pi1 &&& (2147483647 : Int32)) % (9 : Int32)) = (3 : Int32))) (hc36_5 : ¬ (((pi1 &&& (2147483647 : Int32)) % (9 : Int32)) = (4 : Int32))) (hc36_6 : ¬ (((pi1 &&& (2147483647 : Int32)) % (9 : Int32)) = (5 : Int32))) (hc36_7 : ¬ (((pi1 &&& (2147483647 : Int32)) % (9 : Int32)) = (6 : Int32))) (hc36_8 : ((pi1 &&& (2147483647 : Int32)) % (9 : Int32)) = (7 : Int32)) :
    MetFree l x (head1 (Jvm.Cond.code x code maxLocals ret :: ws) room_1) (fun a U => a = #[(.int pi1), (.int pi2)] ∧ Z.Warmed39 U.vm ∧ U.heap = h0) (fun _ _ _ _ _ => True) (fun _ U o U' => ∃ v L, o = .returned v ∧ Q0 v L n0 ∧ FrameEnd U o U' L room_1.cells room_1.slots) := by
  refine MetFree.of_bodySF (plainFor_of_name pn_0) hisR ?_
  intro p e s m args below meth c s₁ Bd hml0 hP hK
  obtain ⟨rfl, hZ, hh⟩ := hP
  have hx := Bd.exec
  have hby := Bd.bytes
  have hml : c.maxLocals = 9 := hml0
  have hown : s.vm.findClass "com/example/leafcount/leafcount/SqlSyntaxPutsNullLastPinLaw" = some m.cls := findClass_of_methodNamed Bd.named
  have hnm := (name_of_methodNamed Bd.named Bd.method).1
  have X0 : Stand p l e room_1 s m #[(.int pi1), (.int pi2)] below meth c s₁ [] 0 0 := Stand.of_body Bd
  have e0 : s₁.heap = h0 := by rw [← hh, Bd.state]; rfl
  have N0 := Fr.nil n0
  have pre0 : ∀ t, Steps p.tables e below (s₁.setTop (mkF m 0 #[.val (.int pi1), .val (.int pi2), .unset, .unset, .unset, .unset, .unset, .unset, .unset] [])) t → Steps p.tables e below (s₁.setTop (entryFrame m #[(.int pi1), (.int pi2)] maxLocals)) t := fun t k => castTop (ef_0 m pi1 pi2) k
  obtain ⟨T1, X1, e1, st1⟩ := getS2 X0 hx hZ hown (host := "") (Or.inl (own_W hw 25 rfl)) Via.refl e0 (S_ASC.ext O0.2) (g := (mkF m 24 #[.val (.int pi1), .val (.int pi2), .val (.int ((pi1 &&& (2147483647 : Int32)) % (9 : Int32))), .val (.int (1 : Int32)), .unset, .unset, .unset, .unset, .unset] [])) rfl (hb hby at_24)
  obtain ⟨_, _, ⟨T2, L2, k2, n2⟩, -, X2, ⟨Lc2, hQ2, l2, y2, z2⟩, st2⟩ := Jvm.LawKit.callS X1 hx (y := (⟨"com/example/leafcount/leafcount/SqlSyntaxPutsNullLastPinLaw", "pick", "(I)Lcom/example/leafcount/leafcount/SqlSyntax;"⟩ : MethodName)) hown (mvT hZ (own_W hw 4 rfl)) (mvT hZ (own_W hw 5 rfl)) (mvT hZ (own_W hw 6 rfl)) (mvT hZ (own_W hw 7 rfl)) (by decide) (backOf (W := 0) (rm1_7 l Z a0 hw [] ((pi1 &&& (2147483647 : Int32)) % (9 : Int32)) w_SQLSERVER h0 n0 Z0 O0 S_SQLSERVER hc36_1 hc36_2 hc36_3 hc36_4 hc36_5 hc36_6 hc36_7 hc36_8) hZ (own_W hw 7 rfl) (own_W hw 6 rfl) (by decide) (by decide)) (g := (mkF m 36 #[.val (.int pi1), .val (.int pi2), .val (.int ((pi1 &&& (2147483647 : Int32)) % (9 : Int32))), .val (.int (1 : Int32)), .val (.ref w_ASC), .unset, .unset, .unset, .unset] [(.int ((pi1 &&& (2147483647 : Int32)) % (9 : Int32)))])) rfl (by rw [hml]; rfl) (argsL := [(.int ((pi1 &&& (2147483647 : Int32)) % (9 : Int32)))]) (rest := []) (lenOf pd_0 rfl) rfl (by show 2 * 0 + _ ≤ _; exact Nat.le_of_eq rfl) (hb hby at_36) (fun _ _ => ⟨rfl, e1, (by decide : 0 + 0 ≤ _), (by decide : 0 + 0 ≤ _)⟩)
  dsimp only [Pt.U, Pt.locs, Pt.cells, Pt.slots] at X2 l2 y2 z2 st2 hQ2
  subst l2 y2 z2
  obtain ⟨rfl, N2q, eq2⟩ := hQ2
  have N2 := Fr.app N0 N2q
  obtain ⟨cq3, kq3, q3a, q3b, q3c⟩ := isOf hZ eq2 (E_w_SQLSERVER.ext O0.2)
  obtain ⟨_, _, ⟨T3, L3, k3, n3⟩, -, X3, ⟨Lc3, hQ3, l3, y3, z3⟩, st3⟩ := X2.virtualBack hx (y := (⟨"com/example/leafcount/leafcount/SqlSyntax", "putsNullLast", "(Lcom/example/leafcount/leafcount/Sort$Direction;)Z"⟩ : MethodName)) (z := (⟨"com/example/leafcount/leafcount/SqlSyntax", "putsNullLast", "(Lcom/example/leafcount/leafcount/Sort$Direction;)Z"⟩ : MethodName)) hown (mvT hZ (own_W hw 11 rfl)) (mvT hZ (own_W hw 12 rfl)) (notFace_of_selects (args := #[]) (mvT hZ (own_W hw 14 rfl))) (mvT hZ (own_W hw 14 rfl)) (mvT hZ (own_W hw 13 rfl)) (by decide) (backOf (W := 0) (rm2_f l Z a0 hw [] w_SQLSERVER w_ASC w_LOW w_DESC h0 n0 Z0 O0 (F_nullOrder_w_SQLSERVER.ext O0.2) (F_last_w_LOW.ext O0.2) (Ne.symm hne)) hZ (own_W hw 15 rfl) (own_W hw 9 rfl) (by decide) (by decide)) q3a q3c (g := (mkF m 134 #[.val (.int pi1), .val (.int pi2), .val (.int ((pi1 &&& (2147483647 : Int32)) % (9 : Int32))), .val (.int (1 : Int32)), .val (.ref w_ASC), .val (.ref w_SQLSERVER), .val (.int (0 : Int32)), .val (.int (1 : Int32)), .val (.int (0 : Int32))] [(.ref w_ASC), (.ref w_SQLSERVER)])) rfl (by rw [hml]; rfl) (Steps.refl _) (argsL := [(.ref w_ASC)]) (rest := []) (lenOf pd_1 rfl) rfl (by show 2 * 0 + _ ≤ _; exact Nat.le_of_eq rfl) (hb hby at_134) (fun _ _ => ⟨rfl, eq2, (by decide : 0 + 0 ≤ _), (by decide : 0 + 0 ≤ _)⟩)
  dsimp only [Pt.U, Pt.locs, Pt.cells, Pt.slots] at X3 l3 y3 z3 st3 hQ3
  subst l3 y3 z3
  obtain ⟨rfl, N3q, eq3⟩ := hQ3
  have N3 := Fr.app N2 N3q
  obtain ⟨fs, hr, hrun, hended, hW, hsame⟩ := X3.leave (v := some (.int (1 : Int32))) (fun h => by rw [Bd.returns] at h; cases h)
  refine ⟨_, _, pre0 _ ?_, hrun, hended, _, _, rfl, ?_, ⟨_, rfl⟩, hW, hsame.mono (by decide) (by decide)⟩
  · show Stp p e below s₁ m 0 #[.val (.int pi1), .val (.int pi2), .unset, .unset, .unset, .unset, .unset, .unset, .unset] [] _
    refine XS.iloadN X0.here hx rfl (hb hby at_0) rfl ?_
    show Stp p e below s₁ m 1 #[.val (.int pi1), .val (.int pi2), .unset, .unset, .unset, .unset, .unset, .unset, .unset] [(.int pi1)] _
    refine X0.ldcInt hx hown (mvT hZ (own_W hw 0 rfl)) (g := (mkF m 1 #[.val (.int pi1), .val (.int pi2), .unset, .unset, .unset, .unset, .unset, .unset, .unset] [(.int pi1)])) rfl (hb hby at_1) _ ?_
    show Stp p e below s₁ m 3 #[.val (.int pi1), .val (.int pi2), .unset, .unset, .unset, .unset, .unset, .unset, .unset] [(.int (2147483647 : Int32)), (.int pi1)] _
    refine XS.iand X0.here hx rfl (hb hby at_3) rfl ?_
    show Stp p e below s₁ m 4 #[.val (.int pi1), .val (.int pi2), .unset, .unset, .unset, .unset, .unset, .unset, .unset] [(.int (pi1 &&& (2147483647 : Int32)))] _
    refine XS.bipush X0.here hx rfl (hb hby at_4) ?_
    show Stp p e below s₁ m 6 #[.val (.int pi1), .val (.int pi2), .unset, .unset, .unset, .unset, .unset, .unset, .unset] [(.int (9 : Int32)), (.int (pi1 &&& (2147483647 : Int32)))] _
    refine iremM X0 hx rfl (hb hby at_6) rfl (by decide) ?_
    show Stp p e below s₁ m 7 #[.val (.int pi1), .val (.int pi2), .unset, .unset, .unset, .unset, .unset, .unset, .unset] [(.int ((pi1 &&& (2147483647 : Int32)) % (9 : Int32)))] _
    refine XS.istoreN X0.here hx rfl (hb hby at_7) rfl (l' := #[.val (.int pi1), .val (.int pi2), .val (.int ((pi1 &&& (2147483647 : Int32)) % (9 : Int32))), .unset, .unset, .unset, .unset, .unset, .unset]) rfl ?_
    show Stp p e below s₁ m 8 #[.val (.int pi1), .val (.int pi2), .val (.int ((pi1 &&& (2147483647 : Int32)) % (9 : Int32))), .unset, .unset, .unset, .unset, .unset, .unset] [] _
    refine XS.iloadN X0.here hx rfl (hb hby at_8) rfl ?_
    show Stp p e below s₁ m 9 #[.val (.int pi1), .val (.int pi2), .val (.int ((pi1 &&& (2147483647 : Int32)) % (9 : Int32))), .unset, .unset, .unset, .unset, .unset, .unset] [(.int pi2)] _
    refine XS.iconst X0.here hx rfl (hb hby at_9) ?_
    show Stp p e below s₁ m 10 #[.val (.int pi1), .val (.int pi2), .val (.int ((pi1 &&& (2147483647 : Int32)) % (9 : Int32))), .unset, .unset, .unset, .unset, .unset, .unset] [(.int (1 : Int32)), (.int pi2)] _
    refine XS.iand X0.here hx rfl (hb hby at_10) rfl ?_
    show Stp p e below s₁ m 11 #[.val (.int pi1), .val (.int pi2), .val (.int ((pi1 &&& (2147483647 : Int32)) % (9 : Int32))), .unset, .unset, .unset, .unset, .unset, .unset] [(.int (pi2 &&& (1 : Int32)))] _
    refine XS.ifNo X0.here hx rfl (hb hby at_11) rfl ((if0 _ _).trans (teq hc11_0).2) ?_
    show Stp p e below s₁ m 14 #[.val (.int pi1), .val (.int pi2), .val (.int ((pi1 &&& (2147483647 : Int32)) % (9 : Int32))), .unset, .unset, .unset, .unset, .unset, .unset] [] _
    refine XS.iconst X0.here hx rfl (hb hby at_14) ?_
    show Stp p e below s₁ m 15 #[.val (.int pi1), .val (.int pi2), .val (.int ((pi1 &&& (2147483647 : Int32)) % (9 : Int32))), .unset, .unset, .unset, .unset, .unset, .unset] [(.int (1 : Int32))] _
    refine XS.goto X0.here hx rfl (pc0 := 15) (pc' := 19) rfl (hb hby at_15) (by decide) (by decide) ?_
    show Stp p e below s₁ m 19 #[.val (.int pi1), .val (.int pi2), .val (.int ((pi1 &&& (2147483647 : Int32)) % (9 : Int32))), .unset, .unset, .unset, .unset, .unset, .unset] [(.int (1 : Int32))] _
    refine XS.istoreN X0.here hx rfl (hb hby at_19) rfl (l' := #[.val (.int pi1), .val (.int pi2), .val (.int ((pi1 &&& (2147483647 : Int32)) % (9 : Int32))), .val (.int (1 : Int32)), .unset, .unset, .unset, .unset, .unset]) rfl ?_
    show Stp p e below s₁ m 20 #[.val (.int pi1), .val (.int pi2), .val (.int ((pi1 &&& (2147483647 : Int32)) % (9 : Int32))), .val (.int (1 : Int32)), .unset, .unset, .unset, .unset, .unset] [] _
    refine XS.iloadN X0.here hx rfl (hb hby at_20) rfl ?_
    show Stp p e below s₁ m 21 #[.val (.int pi1), .val (.int pi2), .val (.int ((pi1 &&& (2147483647 : Int32)) % (9 : Int32))), .val (.int (1 : Int32)), .unset, .unset, .unset, .unset, .unset] [(.int (1 : Int32))] _
    refine XS.ifNo X0.here hx rfl (hb hby at_21) rfl ((if0 _ _).trans (feq (by decide : ¬ ((1 : Int32) = (0 : Int32)))).1) ?_
    show Stp p e below s₁ m 24 #[.val (.int pi1), .val (.int pi2), .val (.int ((pi1 &&& (2147483647 : Int32)) % (9 : Int32))), .val (.int (1 : Int32)), .unset, .unset, .unset, .unset, .unset] [] _
    refine st1 _ ?_
    show Stp p e below T1 m 27 #[.val (.int pi1), .val (.int pi2), .val (.int ((pi1 &&& (2147483647 : Int32)) % (9 : Int32))), .val (.int (1 : Int32)), .unset, .unset, .unset, .unset, .unset] [(.ref w_ASC)] _
    refine XS.goto X1.here hx rfl (pc0 := 27) (pc' := 33) rfl (hb hby at_27) (by decide) (by decide) ?_
    show Stp p e below T1 m 33 #[.val (.int pi1), .val (.int pi2), .val (.int ((pi1 &&& (2147483647 : Int32)) % (9 : Int32))), .val (.int (1 : Int32)), .unset, .unset, .unset, .unset, .unset] [(.ref w_ASC)] _
    refine XS.astore X1.here hx rfl (hb hby at_33) rfl rfl (l' := #[.val (.int pi1), .val (.int pi2), .val (.int ((pi1 &&& (2147483647 : Int32)) % (9 : Int32))), .val (.int (1 : Int32)), .val (.ref w_ASC), .unset, .unset, .unset, .unset]) rfl ?_
    show Stp p e below T1 m 35 #[.val (.int pi1), .val (.int pi2), .val (.int ((pi1 &&& (2147483647 : Int32)) % (9 : Int32))), .val (.int (1 : Int32)), .val (.ref w_ASC), .unset, .unset, .unset, .unset] [] _
    refine XS.iloadN X1.here hx rfl (hb hby at_35) rfl ?_
    show Stp p e below T1 m 36 #[.val (.int pi1), .val (.int pi2), .val (.int ((pi1 &&& (2147483647 : Int32)) % (9 : Int32))), .val (.int (1 : Int32)), .val (.ref w_ASC), .unset, .unset, .unset, .unset] [(.int ((pi1 &&& (2147483647 : Int32)) % (9 : Int32)))] _
    refine st2 _ ?_
    show Stp p e below T2 m 39 #[.val (.int pi1), .val (.int pi2), .val (.int ((pi1 &&& (2147483647 : Int32)) % (9 : Int32))), .val (.int (1 : Int32)), .val (.ref w_ASC), .unset, .unset, .unset, .unset] [(.ref w_SQLSERVER)] _
    refine XS.astore X2.here hx rfl (hb hby at_39) rfl rfl (l' := #[.val (.int pi1), .val (.int pi2), .val (.int ((pi1 &&& (2147483647 : Int32)) % (9 : Int32))), .val (.int (1 : Int32)), .val (.ref w_ASC), .val (.ref w_SQLSERVER), .unset, .unset, .unset]) rfl ?_
    show Stp p e below T2 m 41 #[.val (.int pi1), .val (.int pi2), .val (.int ((pi1 &&& (2147483647 : Int32)) % (9 : Int32))), .val (.int (1 : Int32)), .val (.ref w_ASC), .val (.ref w_SQLSERVER), .unset, .unset, .unset] [] _
    refine XS.iloadN X2.here hx rfl (hb hby at_41) rfl ?_
    show Stp p e below T2 m 42 #[.val (.int pi1), .val (.int pi2), .val (.int ((pi1 &&& (2147483647 : Int32)) % (9 : Int32))), .val (.int (1 : Int32)), .val (.ref w_ASC), .val (.ref w_SQLSERVER), .unset, .unset, .unset] [(.int ((pi1 &&& (2147483647 : Int32)) % (9 : Int32)))] _
    refine XS.ifNo X2.here hx rfl (hb hby at_42) rfl ((if0 _ _).trans (feq hc36_1).1) ?_
    show Stp p e below T2 m 45 #[.val (.int pi1), .val (.int pi2), .val (.int ((pi1 &&& (2147483647 : Int32)) % (9 : Int32))), .val (.int (1 : Int32)), .val (.ref w_ASC), .val (.ref w_SQLSERVER), .unset, .unset, .unset] [] _
    refine XS.iloadN X2.here hx rfl (hb hby at_45) rfl ?_
    show Stp p e below T2 m 46 #[.val (.int pi1), .val (.int pi2), .val (.int ((pi1 &&& (2147483647 : Int32)) % (9 : Int32))), .val (.int (1 : Int32)), .val (.ref w_ASC), .val (.ref w_SQLSERVER), .unset, .unset, .unset] [(.int ((pi1 &&& (2147483647 : Int32)) % (9 : Int32)))] _
    refine XS.iconst X2.here hx rfl (hb hby at_46) ?_
    show Stp p e below T2 m 47 #[.val (.int pi1), .val (.int pi2), .val (.int ((pi1 &&& (2147483647 : Int32)) % (9 : Int32))), .val (.int (1 : Int32)), .val (.ref w_ASC), .val (.ref w_SQLSERVER), .unset, .unset, .unset] [(.int (5 : Int32)), (.int ((pi1 &&& (2147483647 : Int32)) % (9 : Int32)))] _
    refine XS.icmpNo X2.here hx rfl (hb hby at_47) rfl (feq hc36_6).1 ?_
    show Stp p e below T2 m 50 #[.val (.int pi1), .val (.int pi2), .val (.int ((pi1 &&& (2147483647 : Int32)) % (9 : Int32))), .val (.int (1 : Int32)), .val (.ref w_ASC), .val (.ref w_SQLSERVER), .unset, .unset, .unset] [] _
    refine XS.iloadN X2.here hx rfl (hb hby at_50) rfl ?_
    show Stp p e below T2 m 51 #[.val (.int pi1), .val (.int pi2), .val (.int ((pi1 &&& (2147483647 : Int32)) % (9 : Int32))), .val (.int (1 : Int32)), .val (.ref w_ASC), .val (.ref w_SQLSERVER), .unset, .unset, .unset] [(.int ((pi1 &&& (2147483647 : Int32)) % (9 : Int32)))] _
    refine XS.bipush X2.here hx rfl (hb hby at_51) ?_
    show Stp p e below T2 m 53 #[.val (.int pi1), .val (.int pi2), .val (.int ((pi1 &&& (2147483647 : Int32)) % (9 : Int32))), .val (.int (1 : Int32)), .val (.ref w_ASC), .val (.ref w_SQLSERVER), .unset, .unset, .unset] [(.int (6 : Int32)), (.int ((pi1 &&& (2147483647 : Int32)) % (9 : Int32)))] _
    refine XS.icmpNo X2.here hx rfl (hb hby at_53) rfl (feq hc36_7).1 ?_
    show Stp p e below T2 m 56 #[.val (.int pi1), .val (.int pi2), .val (.int ((pi1 &&& (2147483647 : Int32)) % (9 : Int32))), .val (.int (1 : Int32)), .val (.ref w_ASC), .val (.ref w_SQLSERVER), .unset, .unset, .unset] [] _
    refine XS.iloadN X2.here hx rfl (hb hby at_56) rfl ?_
    show Stp p e below T2 m 57 #[.val (.int pi1), .val (.int pi2), .val (.int ((pi1 &&& (2147483647 : Int32)) % (9 : Int32))), .val (.int (1 : Int32)), .val (.ref w_ASC), .val (.ref w_SQLSERVER), .unset, .unset, .unset] [(.int ((pi1 &&& (2147483647 : Int32)) % (9 : Int32)))] _
    refine XS.bipush X2.here hx rfl (hb hby at_57) ?_
    show Stp p e below T2 m 59 #[.val (.int pi1), .val (.int pi2), .val (.int ((pi1 &&& (2147483647 : Int32)) % (9 : Int32))), .val (.int (1 : Int32)), .val (.ref w_ASC), .val (.ref w_SQLSERVER), .unset, .unset, .unset] [(.int (8 : Int32)), (.int ((pi1 &&& (2147483647 : Int32)) % (9 : Int32)))] _
    refine XS.icmpYes X2.here hx rfl (pc0 := 59) (pc' := 66) rfl (hb hby at_59) rfl (feq (fun q => absurd (hc36_8.symm.trans q) (by decide))).2 (by decide) (by decide) ?_
    show Stp p e below T2 m 66 #[.val (.int pi1), .val (.int pi2), .val (.int ((pi1 &&& (2147483647 : Int32)) % (9 : Int32))), .val (.int (1 : Int32)), .val (.ref w_ASC), .val (.ref w_SQLSERVER), .unset, .unset, .unset] [] _
    refine XS.iconst X2.here hx rfl (hb hby at_66) ?_
    show Stp p e below T2 m 67 #[.val (.int pi1), .val (.int pi2), .val (.int ((pi1 &&& (2147483647 : Int32)) % (9 : Int32))), .val (.int (1 : Int32)), .val (.ref w_ASC), .val (.ref w_SQLSERVER), .unset, .unset, .unset] [(.int (0 : Int32))] _
    refine XS.istore X2.here hx rfl (hb hby at_67) rfl (l' := #[.val (.int pi1), .val (.int pi2), .val (.int ((pi1 &&& (2147483647 : Int32)) % (9 : Int32))), .val (.int (1 : Int32)), .val (.ref w_ASC), .val (.ref w_SQLSERVER), .val (.int (0 : Int32)), .unset, .unset]) rfl ?_
    show Stp p e below T2 m 69 #[.val (.int pi1), .val (.int pi2), .val (.int ((pi1 &&& (2147483647 : Int32)) % (9 : Int32))), .val (.int (1 : Int32)), .val (.ref w_ASC), .val (.ref w_SQLSERVER), .val (.int (0 : Int32)), .unset, .unset] [] _
    refine XS.iloadN X2.here hx rfl (hb hby at_69) rfl ?_
    show Stp p e below T2 m 70 #[.val (.int pi1), .val (.int pi2), .val (.int ((pi1 &&& (2147483647 : Int32)) % (9 : Int32))), .val (.int (1 : Int32)), .val (.ref w_ASC), .val (.ref w_SQLSERVER), .val (.int (0 : Int32)), .unset, .unset] [(.int ((pi1 &&& (2147483647 : Int32)) % (9 : Int32)))] _
    refine XS.iconst X2.here hx rfl (hb hby at_70) ?_
    show Stp p e below T2 m 71 #[.val (.int pi1), .val (.int pi2), .val (.int ((pi1 &&& (2147483647 : Int32)) % (9 : Int32))), .val (.int (1 : Int32)), .val (.ref w_ASC), .val (.ref w_SQLSERVER), .val (.int (0 : Int32)), .unset, .unset] [(.int (1 : Int32)), (.int ((pi1 &&& (2147483647 : Int32)) % (9 : Int32)))] _
    refine XS.icmpNo X2.here hx rfl (hb hby at_71) rfl (feq hc36_2).1 ?_
    show Stp p e below T2 m 74 #[.val (.int pi1), .val (.int pi2), .val (.int ((pi1 &&& (2147483647 : Int32)) % (9 : Int32))), .val (.int (1 : Int32)), .val (.ref w_ASC), .val (.ref w_SQLSERVER), .val (.int (0 : Int32)), .unset, .unset] [] _
    refine XS.iloadN X2.here hx rfl (hb hby at_74) rfl ?_
    show Stp p e below T2 m 75 #[.val (.int pi1), .val (.int pi2), .val (.int ((pi1 &&& (2147483647 : Int32)) % (9 : Int32))), .val (.int (1 : Int32)), .val (.ref w_ASC), .val (.ref w_SQLSERVER), .val (.int (0 : Int32)), .unset, .unset] [(.int ((pi1 &&& (2147483647 : Int32)) % (9 : Int32)))] _
    refine XS.iconst X2.here hx rfl (hb hby at_75) ?_
    show Stp p e below T2 m 76 #[.val (.int pi1), .val (.int pi2), .val (.int ((pi1 &&& (2147483647 : Int32)) % (9 : Int32))), .val (.int (1 : Int32)), .val (.ref w_ASC), .val (.ref w_SQLSERVER), .val (.int (0 : Int32)), .unset, .unset] [(.int (2 : Int32)), (.int ((pi1 &&& (2147483647 : Int32)) % (9 : Int32)))] _
    refine XS.icmpNo X2.here hx rfl (hb hby at_76) rfl (feq hc36_3).1 ?_
    show Stp p e below T2 m 79 #[.val (.int pi1), .val (.int pi2), .val (.int ((pi1 &&& (2147483647 : Int32)) % (9 : Int32))), .val (.int (1 : Int32)), .val (.ref w_ASC), .val (.ref w_SQLSERVER), .val (.int (0 : Int32)), .unset, .unset] [] _
    refine XS.iloadN X2.here hx rfl (hb hby at_79) rfl ?_
    show Stp p e below T2 m 80 #[.val (.int pi1), .val (.int pi2), .val (.int ((pi1 &&& (2147483647 : Int32)) % (9 : Int32))), .val (.int (1 : Int32)), .val (.ref w_ASC), .val (.ref w_SQLSERVER), .val (.int (0 : Int32)), .unset, .unset] [(.int ((pi1 &&& (2147483647 : Int32)) % (9 : Int32)))] _
    refine XS.iconst X2.here hx rfl (hb hby at_80) ?_
    show Stp p e below T2 m 81 #[.val (.int pi1), .val (.int pi2), .val (.int ((pi1 &&& (2147483647 : Int32)) % (9 : Int32))), .val (.int (1 : Int32)), .val (.ref w_ASC), .val (.ref w_SQLSERVER), .val (.int (0 : Int32)), .unset, .unset] [(.int (3 : Int32)), (.int ((pi1 &&& (2147483647 : Int32)) % (9 : Int32)))] _
    refine XS.icmpNo X2.here hx rfl (hb hby at_81) rfl (feq hc36_4).1 ?_
    show Stp p e below T2 m 84 #[.val (.int pi1), .val (.int pi2), .val (.int ((pi1 &&& (2147483647 : Int32)) % (9 : Int32))), .val (.int (1 : Int32)), .val (.ref w_ASC), .val (.ref w_SQLSERVER), .val (.int (0 : Int32)), .unset, .unset] [] _
    refine XS.iloadN X2.here hx rfl (hb hby at_84) rfl ?_
    show Stp p e below T2 m 85 #[.val (.int pi1), .val (.int pi2), .val (.int ((pi1 &&& (2147483647 : Int32)) % (9 : Int32))), .val (.int (1 : Int32)), .val (.ref w_ASC), .val (.ref w_SQLSERVER), .val (.int (0 : Int32)), .unset, .unset] [(.int ((pi1 &&& (2147483647 : Int32)) % (9 : Int32)))] _
    refine XS.bipush X2.here hx rfl (hb hby at_85) ?_
    show Stp p e below T2 m 87 #[.val (.int pi1), .val (.int pi2), .val (.int ((pi1 &&& (2147483647 : Int32)) % (9 : Int32))), .val (.int (1 : Int32)), .val (.ref w_ASC), .val (.ref w_SQLSERVER), .val (.int (0 : Int32)), .unset, .unset] [(.int (7 : Int32)), (.int ((pi1 &&& (2147483647 : Int32)) % (9 : Int32)))] _
    refine XS.icmpNo X2.here hx rfl (hb hby at_87) rfl (teq hc36_8).2 ?_
    show Stp p e below T2 m 90 #[.val (.int pi1), .val (.int pi2), .val (.int ((pi1 &&& (2147483647 : Int32)) % (9 : Int32))), .val (.int (1 : Int32)), .val (.ref w_ASC), .val (.ref w_SQLSERVER), .val (.int (0 : Int32)), .unset, .unset] [] _
    refine XS.iconst X2.here hx rfl (hb hby at_90) ?_
    show Stp p e below T2 m 91 #[.val (.int pi1), .val (.int pi2), .val (.int ((pi1 &&& (2147483647 : Int32)) % (9 : Int32))), .val (.int (1 : Int32)), .val (.ref w_ASC), .val (.ref w_SQLSERVER), .val (.int (0 : Int32)), .unset, .unset] [(.int (1 : Int32))] _
    refine XS.goto X2.here hx rfl (pc0 := 91) (pc' := 95) rfl (hb hby at_91) (by decide) (by decide) ?_
    show Stp p e below T2 m 95 #[.val (.int pi1), .val (.int pi2), .val (.int ((pi1 &&& (2147483647 : Int32)) % (9 : Int32))), .val (.int (1 : Int32)), .val (.ref w_ASC), .val (.ref w_SQLSERVER), .val (.int (0 : Int32)), .unset, .unset] [(.int (1 : Int32))] _
    refine XS.istore X2.here hx rfl (hb hby at_95) rfl (l' := #[.val (.int pi1), .val (.int pi2), .val (.int ((pi1 &&& (2147483647 : Int32)) % (9 : Int32))), .val (.int (1 : Int32)), .val (.ref w_ASC), .val (.ref w_SQLSERVER), .val (.int (0 : Int32)), .val (.int (1 : Int32)), .unset]) rfl ?_
    show Stp p e below T2 m 97 #[.val (.int pi1), .val (.int pi2), .val (.int ((pi1 &&& (2147483647 : Int32)) % (9 : Int32))), .val (.int (1 : Int32)), .val (.ref w_ASC), .val (.ref w_SQLSERVER), .val (.int (0 : Int32)), .val (.int (1 : Int32)), .unset] [] _
    refine XS.iload X2.here hx rfl (hb hby at_97) rfl ?_
    show Stp p e below T2 m 99 #[.val (.int pi1), .val (.int pi2), .val (.int ((pi1 &&& (2147483647 : Int32)) % (9 : Int32))), .val (.int (1 : Int32)), .val (.ref w_ASC), .val (.ref w_SQLSERVER), .val (.int (0 : Int32)), .val (.int (1 : Int32)), .unset] [(.int (0 : Int32))] _
    refine XS.ifYes X2.here hx rfl (pc0 := 99) (pc' := 108) rfl (hb hby at_99) rfl ((if0 _ _).trans (teq (rfl : (0 : Int32) = (0 : Int32))).1) (by decide) (by decide) ?_
    show Stp p e below T2 m 108 #[.val (.int pi1), .val (.int pi2), .val (.int ((pi1 &&& (2147483647 : Int32)) % (9 : Int32))), .val (.int (1 : Int32)), .val (.ref w_ASC), .val (.ref w_SQLSERVER), .val (.int (0 : Int32)), .val (.int (1 : Int32)), .unset] [] _
    refine XS.iload X2.here hx rfl (hb hby at_108) rfl ?_
    show Stp p e below T2 m 110 #[.val (.int pi1), .val (.int pi2), .val (.int ((pi1 &&& (2147483647 : Int32)) % (9 : Int32))), .val (.int (1 : Int32)), .val (.ref w_ASC), .val (.ref w_SQLSERVER), .val (.int (0 : Int32)), .val (.int (1 : Int32)), .unset] [(.int (1 : Int32))] _
    refine XS.ifNo X2.here hx rfl (hb hby at_110) rfl ((if0 _ _).trans (feq (by decide : ¬ ((1 : Int32) = (0 : Int32)))).1) ?_
    show Stp p e below T2 m 113 #[.val (.int pi1), .val (.int pi2), .val (.int ((pi1 &&& (2147483647 : Int32)) % (9 : Int32))), .val (.int (1 : Int32)), .val (.ref w_ASC), .val (.ref w_SQLSERVER), .val (.int (0 : Int32)), .val (.int (1 : Int32)), .unset] [] _
    refine XS.iloadN X2.here hx rfl (hb hby at_113) rfl ?_
    show Stp p e below T2 m 114 #[.val (.int pi1), .val (.int pi2), .val (.int ((pi1 &&& (2147483647 : Int32)) % (9 : Int32))), .val (.int (1 : Int32)), .val (.ref w_ASC), .val (.ref w_SQLSERVER), .val (.int (0 : Int32)), .val (.int (1 : Int32)), .unset] [(.int (1 : Int32))] _
    refine XS.ifYes X2.here hx rfl (pc0 := 114) (pc' := 121) rfl (hb hby at_114) rfl ((if0 _ _).trans (feq (by decide : ¬ ((1 : Int32) = (0 : Int32)))).2) (by decide) (by decide) ?_
    show Stp p e below T2 m 121 #[.val (.int pi1), .val (.int pi2), .val (.int ((pi1 &&& (2147483647 : Int32)) % (9 : Int32))), .val (.int (1 : Int32)), .val (.ref w_ASC), .val (.ref w_SQLSERVER), .val (.int (0 : Int32)), .val (.int (1 : Int32)), .unset] [] _
    refine XS.iconst X2.here hx rfl (hb hby at_121) ?_
    show Stp p e below T2 m 122 #[.val (.int pi1), .val (.int pi2), .val (.int ((pi1 &&& (2147483647 : Int32)) % (9 : Int32))), .val (.int (1 : Int32)), .val (.ref w_ASC), .val (.ref w_SQLSERVER), .val (.int (0 : Int32)), .val (.int (1 : Int32)), .unset] [(.int (0 : Int32))] _
    refine XS.istore X2.here hx rfl (hb hby at_122) rfl (l' := #[.val (.int pi1), .val (.int pi2), .val (.int ((pi1 &&& (2147483647 : Int32)) % (9 : Int32))), .val (.int (1 : Int32)), .val (.ref w_ASC), .val (.ref w_SQLSERVER), .val (.int (0 : Int32)), .val (.int (1 : Int32)), .val (.int (0 : Int32))]) rfl ?_
    show Stp p e below T2 m 124 #[.val (.int pi1), .val (.int pi2), .val (.int ((pi1 &&& (2147483647 : Int32)) % (9 : Int32))), .val (.int (1 : Int32)), .val (.ref w_ASC), .val (.ref w_SQLSERVER), .val (.int (0 : Int32)), .val (.int (1 : Int32)), .val (.int (0 : Int32))] [] _
    refine XS.goto X2.here hx rfl (pc0 := 124) (pc' := 130) rfl (hb hby at_124) (by decide) (by decide) ?_
    show Stp p e below T2 m 130 #[.val (.int pi1), .val (.int pi2), .val (.int ((pi1 &&& (2147483647 : Int32)) % (9 : Int32))), .val (.int (1 : Int32)), .val (.ref w_ASC), .val (.ref w_SQLSERVER), .val (.int (0 : Int32)), .val (.int (1 : Int32)), .val (.int (0 : Int32))] [] _
    refine XS.aload X2.here hx rfl (hb hby at_130) rfl rfl ?_
    show Stp p e below T2 m 132 #[.val (.int pi1), .val (.int pi2), .val (.int ((pi1 &&& (2147483647 : Int32)) % (9 : Int32))), .val (.int (1 : Int32)), .val (.ref w_ASC), .val (.ref w_SQLSERVER), .val (.int (0 : Int32)), .val (.int (1 : Int32)), .val (.int (0 : Int32))] [(.ref w_SQLSERVER)] _
    refine XS.aload X2.here hx rfl (hb hby at_132) rfl rfl ?_
    show Stp p e below T2 m 134 #[.val (.int pi1), .val (.int pi2), .val (.int ((pi1 &&& (2147483647 : Int32)) % (9 : Int32))), .val (.int (1 : Int32)), .val (.ref w_ASC), .val (.ref w_SQLSERVER), .val (.int (0 : Int32)), .val (.int (1 : Int32)), .val (.int (0 : Int32))] [(.ref w_ASC), (.ref w_SQLSERVER)] _
    refine st3.trans ?_
    show Stp p e below T3 m 137 #[.val (.int pi1), .val (.int pi2), .val (.int ((pi1 &&& (2147483647 : Int32)) % (9 : Int32))), .val (.int (1 : Int32)), .val (.ref w_ASC), .val (.ref w_SQLSERVER), .val (.int (0 : Int32)), .val (.int (1 : Int32)), .val (.int (0 : Int32))] [(.int (0 : Int32))] _
    refine XS.iload X3.here hx rfl (hb hby at_137) rfl ?_
    show Stp p e below T3 m 139 #[.val (.int pi1), .val (.int pi2), .val (.int ((pi1 &&& (2147483647 : Int32)) % (9 : Int32))), .val (.int (1 : Int32)), .val (.ref w_ASC), .val (.ref w_SQLSERVER), .val (.int (0 : Int32)), .val (.int (1 : Int32)), .val (.int (0 : Int32))] [(.int (0 : Int32)), (.int (0 : Int32))] _
    refine XS.icmpNo X3.here hx rfl (hb hby at_139) rfl (teq (rfl : (0 : Int32) = (0 : Int32))).2 ?_
    show Stp p e below T3 m 142 #[.val (.int pi1), .val (.int pi2), .val (.int ((pi1 &&& (2147483647 : Int32)) % (9 : Int32))), .val (.int (1 : Int32)), .val (.ref w_ASC), .val (.ref w_SQLSERVER), .val (.int (0 : Int32)), .val (.int (1 : Int32)), .val (.int (0 : Int32))] [] _
    refine XS.iconst X3.here hx rfl (hb hby at_142) ?_
    show Stp p e below T3 m 143 #[.val (.int pi1), .val (.int pi2), .val (.int ((pi1 &&& (2147483647 : Int32)) % (9 : Int32))), .val (.int (1 : Int32)), .val (.ref w_ASC), .val (.ref w_SQLSERVER), .val (.int (0 : Int32)), .val (.int (1 : Int32)), .val (.int (0 : Int32))] [(.int (1 : Int32))] _
    refine XS.goto X3.here hx rfl (pc0 := 143) (pc' := 147) rfl (hb hby at_143) (by decide) (by decide) ?_
    show Stp p e below T3 m 147 #[.val (.int pi1), .val (.int pi2), .val (.int ((pi1 &&& (2147483647 : Int32)) % (9 : Int32))), .val (.int (1 : Int32)), .val (.ref w_ASC), .val (.ref w_SQLSERVER), .val (.int (0 : Int32)), .val (.int (1 : Int32)), .val (.int (0 : Int32))] [(.int (1 : Int32))] _
    exact retN X3 hx (t := .boolean) Bd.returns (by simp) (hb hby at_147) hr
  · exact ⟨rfl, N3⟩
set_option maxRecDepth 65536 in
set_option maxHeartbeats 40000000 in
theorem rm0_tffffffff (l : Launch) (Z : State) (a0 : Array Value) (hw : ∀ d ∈ tables_1, d.before a0 Z = true) (ws : List Jvm.Cond) (pi1 : Int32) (pi2 : Int32) (w_HIGH : Addr) (w_LOW : Addr) (w_FIRST : Addr) (w_ASC : Addr) (w_DESC : Addr) (w_POSTGRESQL : Addr) (w_MARIADB : Addr) (w_SQLITE : Addr) (w_H2 : Addr) (w_HSQLDB : Addr) (w_DERBY : Addr) (w_ORACLE : Addr) (w_SQLSERVER : Addr) (w_DB2 : Addr) (h0 : Heap) (n0 : Nat) (Z0 : n0 ≤ h0.size) (O0 : Old Z n0 h0) (S_ASC : Sta Z Z.heap "com/example/leafcount/leafcount/Sort$Direction" "ASC" "Lcom/example/leafcount/leafcount/Sort$Direction;" (.ref w_ASC)) (S_DESC : Sta Z Z.heap "com/example/leafcount/leafcount/Sort$Direction" "DESC" "Lcom/example/leafcount/leafcount/Sort$Direction;" (.ref w_DESC)) (S_POSTGRESQL : Sta Z Z.heap "com/example/leafcount/leafcount/SqlSyntax" "POSTGRESQL" "Lcom/example/leafcount/leafcount/SqlSyntax;" (.ref w_POSTGRESQL)) (S_MARIADB : Sta Z Z.heap "com/example/leafcount/leafcount/SqlSyntax" "MARIADB" "Lcom/example/leafcount/leafcount/SqlSyntax;" (.ref w_MARIADB)) (S_SQLITE : Sta Z Z.heap "com/example/leafcount/leafcount/SqlSyntax" "SQLITE" "Lcom/example/leafcount/leafcount/SqlSyntax;" (.ref w_SQLITE)) (S_H2 : Sta Z Z.heap "com/example/leafcount/leafcount/SqlSyntax" "H2" "Lcom/example/leafcount/leafcount/SqlSyntax;" (.ref w_H2)) (S_HSQLDB : Sta Z Z.heap "com/example/leafcount/leafcount/SqlSyntax" "HSQLDB" "Lcom/example/leafcount/leafcount/SqlSyntax;" (.ref w_HSQLDB)) (S_DERBY : Sta Z Z.heap "com/example/leafcount/leafcount/SqlSyntax" "DERBY" "Lcom/example/leafcount/leafcount/SqlSyntax;" (.ref w_DERBY)) (S_ORACLE : Sta Z Z.heap "com/example/leafcount/leafcount/SqlSyntax" "ORACLE" "Lcom/example/leafcount/leafcount/SqlSyntax;" (.ref w_ORACLE)) (S_SQLSERVER : Sta Z Z.heap "com/example/leafcount/leafcount/SqlSyntax" "SQLSERVER" "Lcom/example/leafcount/leafcount/SqlSyntax;" (.ref w_SQLSERVER)) (S_DB2 : Sta Z Z.heap "com/example/leafcount/leafcount/SqlSyntax" "DB2" "Lcom/example/leafcount/leafcount/SqlSyntax;" (.ref w_DB2)) (E_w_POSTGRESQL : Exa Z Z.heap w_POSTGRESQL "com/example/leafcount/leafcount/SqlSyntax") (E_w_MARIADB : Exa Z Z.heap w_MARIADB "com/example/leafcount/leafcount/SqlSyntax") (E_w_SQLITE : Exa Z Z.heap w_SQLITE "com/example/leafcount/leafcount/SqlSyntax") (E_w_H2 : Exa Z Z.heap w_H2 "com/example/leafcount/leafcount/SqlSyntax") (E_w_HSQLDB : Exa Z Z.heap w_HSQLDB "com/example/leafcount/leafcount/SqlSyntax") (E_w_DERBY : Exa Z Z.heap w_DERBY "com/example/leafcount/leafcount/SqlSyntax") (E_w_ORACLE : Exa Z Z.heap w_ORACLE "com/example/leafcount/leafcount/SqlSyntax") (E_w_SQLSERVER : Exa Z Z.heap w_SQLSERVER "com/example/leafcount/leafcount/SqlSyntax") (E_w_DB2 : Exa Z Z.heap w_DB2 "com/example/leafcount/leafcount/SqlSyntax") (F_nullOrder_w_POSTGRESQL : Fld Z Z.heap w_POSTGRESQL "com/example/leafcount/leafcount/SqlSyntax" "nullOrder" "Lcom/example/leafcount/leafcount/SqlSyntax$NullOrder;" (.ref w_HIGH)) (F_nullOrder_w_MARIADB : Fld Z Z.heap w_MARIADB "com/example/leafcount/leafcount/SqlSyntax" "nullOrder" "Lcom/example/leafcount/leafcount/SqlSyntax$NullOrder;" (.ref w_LOW)) (F_nullOrder_w_SQLITE : Fld Z Z.heap w_SQLITE "com/example/leafcount/leafcount/SqlSyntax" "nullOrder" "Lcom/example/leafcount/leafcount/SqlSyntax$NullOrder;" (.ref w_LOW)) (F_nullOrder_w_H2 : Fld Z Z.heap w_H2 "com/example/leafcount/leafcount/SqlSyntax" "nullOrder" "Lcom/example/leafcount/leafcount/SqlSyntax$NullOrder;" (.ref w_LOW)) (F_nullOrder_w_HSQLDB : Fld Z Z.heap w_HSQLDB "com/example/leafcount/leafcount/SqlSyntax" "nullOrder" "Lcom/example/leafcount/leafcount/SqlSyntax$NullOrder;" (.ref w_FIRST)) (F_nullOrder_w_DERBY : Fld Z Z.heap w_DERBY "com/example/leafcount/leafcount/SqlSyntax" "nullOrder" "Lcom/example/leafcount/leafcount/SqlSyntax$NullOrder;" (.ref w_HIGH)) (F_nullOrder_w_ORACLE : Fld Z Z.heap w_ORACLE "com/example/leafcount/leafcount/SqlSyntax" "nullOrder" "Lcom/example/leafcount/leafcount/SqlSyntax$NullOrder;" (.ref w_HIGH)) (F_nullOrder_w_SQLSERVER : Fld Z Z.heap w_SQLSERVER "com/example/leafcount/leafcount/SqlSyntax" "nullOrder" "Lcom/example/leafcount/leafcount/SqlSyntax$NullOrder;" (.ref w_LOW)) (F_nullOrder_w_DB2 : Fld Z Z.heap w_DB2 "com/example/leafcount/leafcount/SqlSyntax" "nullOrder" "Lcom/example/leafcount/leafcount/SqlSyntax$NullOrder;" (.ref w_HIGH)) (F_last_w_HIGH : Fld Z Z.heap w_HIGH "com/example/leafcount/leafcount/SqlSyntax$NullOrder" "last" "Lcom/example/leafcount/leafcount/Sort$Direction;" (.ref w_ASC)) (F_last_w_LOW : Fld Z Z.heap w_LOW "com/example/leafcount/leafcount/SqlSyntax$NullOrder" "last" "Lcom/example/leafcount/leafcount/Sort$Direction;" (.ref w_DESC)) (F_last_w_FIRST : Fld Z Z.heap w_FIRST "com/example/leafcount/leafcount/SqlSyntax$NullOrder" "last" "Lcom/example/leafcount/leafcount/Sort$Direction;" .null) (hne : w_ASC ≠ w_DESC) (hc11_0 : (pi2 &&& (1 : Int32)) = (0 : Int32)) (hc36_1 : ¬ (((pi1 &&& (2147483647 : Int32)) % (9 : Int32)) = (0 : Int32))) (hc36_2 : ¬ (((pi1 &&& (2147483647 : Int32)) % (9 : Int32)) = (1 : Int32))) (hc36_3 : ¬ (((pi1 &&& (2147483647 : Int32)) % (9 : Int32)) = (2 : Int32))) (hc36_4 : ¬ (((pi1 &&& (2147483647 : Int32)) % (9 : Int32)) = (3 : Int32))) (hc36_5 : ¬ (((pi1 &&& (2147483647 : Int32)) % (9 : Int32)) = (4 : Int32))) (hc36_6 : ¬ (((pi1 &&& (2147483647 : Int32)) % (9 : Int32)) = (5 : Int32))) (hc36_7 : ¬ (((pi1 &&& (2147483647 : Int32)) % (9 : Int32)) = (6 : Int32))) (hc36_8 : ¬ (((pi1 &&& (2147483647 : Int32)) % (9 : Int32)) = (7 : Int32))) :
    MetFree l x (head1 (Jvm.Cond.code x code maxLocals ret :: ws) room_1) (fun a U => a = #[(.int pi1), (.int pi2)] ∧ Z.Warmed39 U.vm ∧ U.heap = h0) (fun _ _ _ _ _ => True) (fun _ U o U' => ∃ v L, o = .returned v ∧ Q0 v L n0 ∧ FrameEnd U o U' L room_1.cells room_1.slots) := by
  refine MetFree.of_bodySF (plainFor_of_name pn_0) hisR ?_
  intro p e s m args below meth c s₁ Bd hml0 hP hK
  obtain ⟨rfl, hZ, hh⟩ := hP
  have hx := Bd.exec
  have hby := Bd.bytes
  have hml : c.maxLocals = 9 := hml0
  have hown : s.vm.findClass "com/example/leafcount/leafcount/SqlSyntaxPutsNullLastPinLaw" = some m.cls := findClass_of_methodNamed Bd.named
  have hnm := (name_of_methodNamed Bd.named Bd.method).1
  have X0 : Stand p l e room_1 s m #[(.int pi1), (.int pi2)] below meth c s₁ [] 0 0 := Stand.of_body Bd
  have e0 : s₁.heap = h0 := by rw [← hh, Bd.state]; rfl
  have N0 := Fr.nil n0
  have pre0 : ∀ t, Steps p.tables e below (s₁.setTop (mkF m 0 #[.val (.int pi1), .val (.int pi2), .unset, .unset, .unset, .unset, .unset, .unset, .unset] [])) t → Steps p.tables e below (s₁.setTop (entryFrame m #[(.int pi1), (.int pi2)] maxLocals)) t := fun t k => castTop (ef_0 m pi1 pi2) k
  obtain ⟨T1, X1, e1, st1⟩ := getS2 X0 hx hZ hown (host := "") (Or.inl (own_W hw 25 rfl)) Via.refl e0 (S_ASC.ext O0.2) (g := (mkF m 24 #[.val (.int pi1), .val (.int pi2), .val (.int ((pi1 &&& (2147483647 : Int32)) % (9 : Int32))), .val (.int (1 : Int32)), .unset, .unset, .unset, .unset, .unset] [])) rfl (hb hby at_24)
  obtain ⟨_, _, ⟨T2, L2, k2, n2⟩, -, X2, ⟨Lc2, hQ2, l2, y2, z2⟩, st2⟩ := Jvm.LawKit.callS X1 hx (y := (⟨"com/example/leafcount/leafcount/SqlSyntaxPutsNullLastPinLaw", "pick", "(I)Lcom/example/leafcount/leafcount/SqlSyntax;"⟩ : MethodName)) hown (mvT hZ (own_W hw 4 rfl)) (mvT hZ (own_W hw 5 rfl)) (mvT hZ (own_W hw 6 rfl)) (mvT hZ (own_W hw 7 rfl)) (by decide) (backOf (W := 0) (rm1_8 l Z a0 hw [] ((pi1 &&& (2147483647 : Int32)) % (9 : Int32)) w_DB2 h0 n0 Z0 O0 S_DB2 hc36_1 hc36_2 hc36_3 hc36_4 hc36_5 hc36_6 hc36_7 hc36_8) hZ (own_W hw 7 rfl) (own_W hw 6 rfl) (by decide) (by decide)) (g := (mkF m 36 #[.val (.int pi1), .val (.int pi2), .val (.int ((pi1 &&& (2147483647 : Int32)) % (9 : Int32))), .val (.int (1 : Int32)), .val (.ref w_ASC), .unset, .unset, .unset, .unset] [(.int ((pi1 &&& (2147483647 : Int32)) % (9 : Int32)))])) rfl (by rw [hml]; rfl) (argsL := [(.int ((pi1 &&& (2147483647 : Int32)) % (9 : Int32)))]) (rest := []) (lenOf pd_0 rfl) rfl (by show 2 * 0 + _ ≤ _; exact Nat.le_of_eq rfl) (hb hby at_36) (fun _ _ => ⟨rfl, e1, (by decide : 0 + 0 ≤ _), (by decide : 0 + 0 ≤ _)⟩)
  dsimp only [Pt.U, Pt.locs, Pt.cells, Pt.slots] at X2 l2 y2 z2 st2 hQ2
  subst l2 y2 z2
  obtain ⟨rfl, N2q, eq2⟩ := hQ2
  have N2 := Fr.app N0 N2q
  obtain ⟨cq3, kq3, q3a, q3b, q3c⟩ := isOf hZ eq2 (E_w_DB2.ext O0.2)
  obtain ⟨_, _, ⟨T3, L3, k3, n3⟩, -, X3, ⟨Lc3, hQ3, l3, y3, z3⟩, st3⟩ := X2.virtualBack hx (y := (⟨"com/example/leafcount/leafcount/SqlSyntax", "putsNullLast", "(Lcom/example/leafcount/leafcount/Sort$Direction;)Z"⟩ : MethodName)) (z := (⟨"com/example/leafcount/leafcount/SqlSyntax", "putsNullLast", "(Lcom/example/leafcount/leafcount/Sort$Direction;)Z"⟩ : MethodName)) hown (mvT hZ (own_W hw 11 rfl)) (mvT hZ (own_W hw 12 rfl)) (notFace_of_selects (args := #[]) (mvT hZ (own_W hw 14 rfl))) (mvT hZ (own_W hw 14 rfl)) (mvT hZ (own_W hw 13 rfl)) (by decide) (backOf (W := 0) (rm2_t l Z a0 hw [] w_DB2 w_ASC w_HIGH w_ASC h0 n0 Z0 O0 (F_nullOrder_w_DB2.ext O0.2) (F_last_w_HIGH.ext O0.2) rfl) hZ (own_W hw 15 rfl) (own_W hw 9 rfl) (by decide) (by decide)) q3a q3c (g := (mkF m 134 #[.val (.int pi1), .val (.int pi2), .val (.int ((pi1 &&& (2147483647 : Int32)) % (9 : Int32))), .val (.int (1 : Int32)), .val (.ref w_ASC), .val (.ref w_DB2), .val (.int (1 : Int32)), .val (.int (0 : Int32)), .val (.int (1 : Int32))] [(.ref w_ASC), (.ref w_DB2)])) rfl (by rw [hml]; rfl) (Steps.refl _) (argsL := [(.ref w_ASC)]) (rest := []) (lenOf pd_1 rfl) rfl (by show 2 * 0 + _ ≤ _; exact Nat.le_of_eq rfl) (hb hby at_134) (fun _ _ => ⟨rfl, eq2, (by decide : 0 + 0 ≤ _), (by decide : 0 + 0 ≤ _)⟩)
  dsimp only [Pt.U, Pt.locs, Pt.cells, Pt.slots] at X3 l3 y3 z3 st3 hQ3
  subst l3 y3 z3
  obtain ⟨rfl, N3q, eq3⟩ := hQ3
  have N3 := Fr.app N2 N3q
  obtain ⟨fs, hr, hrun, hended, hW, hsame⟩ := X3.leave (v := some (.int (1 : Int32))) (fun h => by rw [Bd.returns] at h; cases h)
  refine ⟨_, _, pre0 _ ?_, hrun, hended, _, _, rfl, ?_, ⟨_, rfl⟩, hW, hsame.mono (by decide) (by decide)⟩
  · show Stp p e below s₁ m 0 #[.val (.int pi1), .val (.int pi2), .unset, .unset, .unset, .unset, .unset, .unset, .unset] [] _
    refine XS.iloadN X0.here hx rfl (hb hby at_0) rfl ?_
    show Stp p e below s₁ m 1 #[.val (.int pi1), .val (.int pi2), .unset, .unset, .unset, .unset, .unset, .unset, .unset] [(.int pi1)] _
    refine X0.ldcInt hx hown (mvT hZ (own_W hw 0 rfl)) (g := (mkF m 1 #[.val (.int pi1), .val (.int pi2), .unset, .unset, .unset, .unset, .unset, .unset, .unset] [(.int pi1)])) rfl (hb hby at_1) _ ?_
    show Stp p e below s₁ m 3 #[.val (.int pi1), .val (.int pi2), .unset, .unset, .unset, .unset, .unset, .unset, .unset] [(.int (2147483647 : Int32)), (.int pi1)] _
    refine XS.iand X0.here hx rfl (hb hby at_3) rfl ?_
    show Stp p e below s₁ m 4 #[.val (.int pi1), .val (.int pi2), .unset, .unset, .unset, .unset, .unset, .unset, .unset] [(.int (pi1 &&& (2147483647 : Int32)))] _
    refine XS.bipush X0.here hx rfl (hb hby at_4) ?_
    show Stp p e below s₁ m 6 #[.val (.int pi1), .val (.int pi2), .unset, .unset, .unset, .unset, .unset, .unset, .unset] [(.int (9 : Int32)), (.int (pi1 &&& (2147483647 : Int32)))] _
    refine iremM X0 hx rfl (hb hby at_6) rfl (by decide) ?_
    show Stp p e below s₁ m 7 #[.val (.int pi1), .val (.int pi2), .unset, .unset, .unset, .unset, .unset, .unset, .unset] [(.int ((pi1 &&& (2147483647 : Int32)) % (9 : Int32)))] _
    refine XS.istoreN X0.here hx rfl (hb hby at_7) rfl (l' := #[.val (.int pi1), .val (.int pi2), .val (.int ((pi1 &&& (2147483647 : Int32)) % (9 : Int32))), .unset, .unset, .unset, .unset, .unset, .unset]) rfl ?_
    show Stp p e below s₁ m 8 #[.val (.int pi1), .val (.int pi2), .val (.int ((pi1 &&& (2147483647 : Int32)) % (9 : Int32))), .unset, .unset, .unset, .unset, .unset, .unset] [] _
    refine XS.iloadN X0.here hx rfl (hb hby at_8) rfl ?_
    show Stp p e below s₁ m 9 #[.val (.int pi1), .val (.int pi2), .val (.int ((pi1 &&& (2147483647 : Int32)) % (9 : Int32))), .unset, .unset, .unset, .unset, .unset, .unset] [(.int pi2)] _
    refine XS.iconst X0.here hx rfl (hb hby at_9) ?_
    show Stp p e below s₁ m 10 #[.val (.int pi1), .val (.int pi2), .val (.int ((pi1 &&& (2147483647 : Int32)) % (9 : Int32))), .unset, .unset, .unset, .unset, .unset, .unset] [(.int (1 : Int32)), (.int pi2)] _
    refine XS.iand X0.here hx rfl (hb hby at_10) rfl ?_
    show Stp p e below s₁ m 11 #[.val (.int pi1), .val (.int pi2), .val (.int ((pi1 &&& (2147483647 : Int32)) % (9 : Int32))), .unset, .unset, .unset, .unset, .unset, .unset] [(.int (pi2 &&& (1 : Int32)))] _
    refine XS.ifNo X0.here hx rfl (hb hby at_11) rfl ((if0 _ _).trans (teq hc11_0).2) ?_
    show Stp p e below s₁ m 14 #[.val (.int pi1), .val (.int pi2), .val (.int ((pi1 &&& (2147483647 : Int32)) % (9 : Int32))), .unset, .unset, .unset, .unset, .unset, .unset] [] _
    refine XS.iconst X0.here hx rfl (hb hby at_14) ?_
    show Stp p e below s₁ m 15 #[.val (.int pi1), .val (.int pi2), .val (.int ((pi1 &&& (2147483647 : Int32)) % (9 : Int32))), .unset, .unset, .unset, .unset, .unset, .unset] [(.int (1 : Int32))] _
    refine XS.goto X0.here hx rfl (pc0 := 15) (pc' := 19) rfl (hb hby at_15) (by decide) (by decide) ?_
    show Stp p e below s₁ m 19 #[.val (.int pi1), .val (.int pi2), .val (.int ((pi1 &&& (2147483647 : Int32)) % (9 : Int32))), .unset, .unset, .unset, .unset, .unset, .unset] [(.int (1 : Int32))] _
    refine XS.istoreN X0.here hx rfl (hb hby at_19) rfl (l' := #[.val (.int pi1), .val (.int pi2), .val (.int ((pi1 &&& (2147483647 : Int32)) % (9 : Int32))), .val (.int (1 : Int32)), .unset, .unset, .unset, .unset, .unset]) rfl ?_
    show Stp p e below s₁ m 20 #[.val (.int pi1), .val (.int pi2), .val (.int ((pi1 &&& (2147483647 : Int32)) % (9 : Int32))), .val (.int (1 : Int32)), .unset, .unset, .unset, .unset, .unset] [] _
    refine XS.iloadN X0.here hx rfl (hb hby at_20) rfl ?_
    show Stp p e below s₁ m 21 #[.val (.int pi1), .val (.int pi2), .val (.int ((pi1 &&& (2147483647 : Int32)) % (9 : Int32))), .val (.int (1 : Int32)), .unset, .unset, .unset, .unset, .unset] [(.int (1 : Int32))] _
    refine XS.ifNo X0.here hx rfl (hb hby at_21) rfl ((if0 _ _).trans (feq (by decide : ¬ ((1 : Int32) = (0 : Int32)))).1) ?_
    show Stp p e below s₁ m 24 #[.val (.int pi1), .val (.int pi2), .val (.int ((pi1 &&& (2147483647 : Int32)) % (9 : Int32))), .val (.int (1 : Int32)), .unset, .unset, .unset, .unset, .unset] [] _
    refine st1 _ ?_
    show Stp p e below T1 m 27 #[.val (.int pi1), .val (.int pi2), .val (.int ((pi1 &&& (2147483647 : Int32)) % (9 : Int32))), .val (.int (1 : Int32)), .unset, .unset, .unset, .unset, .unset] [(.ref w_ASC)] _
    refine XS.goto X1.here hx rfl (pc0 := 27) (pc' := 33) rfl (hb hby at_27) (by decide) (by decide) ?_
    show Stp p e below T1 m 33 #[.val (.int pi1), .val (.int pi2), .val (.int ((pi1 &&& (2147483647 : Int32)) % (9 : Int32))), .val (.int (1 : Int32)), .unset, .unset, .unset, .unset, .unset] [(.ref w_ASC)] _
    refine XS.astore X1.here hx rfl (hb hby at_33) rfl rfl (l' := #[.val (.int pi1), .val (.int pi2), .val (.int ((pi1 &&& (2147483647 : Int32)) % (9 : Int32))), .val (.int (1 : Int32)), .val (.ref w_ASC), .unset, .unset, .unset, .unset]) rfl ?_
    show Stp p e below T1 m 35 #[.val (.int pi1), .val (.int pi2), .val (.int ((pi1 &&& (2147483647 : Int32)) % (9 : Int32))), .val (.int (1 : Int32)), .val (.ref w_ASC), .unset, .unset, .unset, .unset] [] _
    refine XS.iloadN X1.here hx rfl (hb hby at_35) rfl ?_
    show Stp p e below T1 m 36 #[.val (.int pi1), .val (.int pi2), .val (.int ((pi1 &&& (2147483647 : Int32)) % (9 : Int32))), .val (.int (1 : Int32)), .val (.ref w_ASC), .unset, .unset, .unset, .unset] [(.int ((pi1 &&& (2147483647 : Int32)) % (9 : Int32)))] _
    refine st2 _ ?_
    show Stp p e below T2 m 39 #[.val (.int pi1), .val (.int pi2), .val (.int ((pi1 &&& (2147483647 : Int32)) % (9 : Int32))), .val (.int (1 : Int32)), .val (.ref w_ASC), .unset, .unset, .unset, .unset] [(.ref w_DB2)] _
    refine XS.astore X2.here hx rfl (hb hby at_39) rfl rfl (l' := #[.val (.int pi1), .val (.int pi2), .val (.int ((pi1 &&& (2147483647 : Int32)) % (9 : Int32))), .val (.int (1 : Int32)), .val (.ref w_ASC), .val (.ref w_DB2), .unset, .unset, .unset]) rfl ?_
    show Stp p e below T2 m 41 #[.val (.int pi1), .val (.int pi2), .val (.int ((pi1 &&& (2147483647 : Int32)) % (9 : Int32))), .val (.int (1 : Int32)), .val (.ref w_ASC), .val (.ref w_DB2), .unset, .unset, .unset] [] _
    refine XS.iloadN X2.here hx rfl (hb hby at_41) rfl ?_
    show Stp p e below T2 m 42 #[.val (.int pi1), .val (.int pi2), .val (.int ((pi1 &&& (2147483647 : Int32)) % (9 : Int32))), .val (.int (1 : Int32)), .val (.ref w_ASC), .val (.ref w_DB2), .unset, .unset, .unset] [(.int ((pi1 &&& (2147483647 : Int32)) % (9 : Int32)))] _
    refine XS.ifNo X2.here hx rfl (hb hby at_42) rfl ((if0 _ _).trans (feq hc36_1).1) ?_
    show Stp p e below T2 m 45 #[.val (.int pi1), .val (.int pi2), .val (.int ((pi1 &&& (2147483647 : Int32)) % (9 : Int32))), .val (.int (1 : Int32)), .val (.ref w_ASC), .val (.ref w_DB2), .unset, .unset, .unset] [] _
    refine XS.iloadN X2.here hx rfl (hb hby at_45) rfl ?_
    show Stp p e below T2 m 46 #[.val (.int pi1), .val (.int pi2), .val (.int ((pi1 &&& (2147483647 : Int32)) % (9 : Int32))), .val (.int (1 : Int32)), .val (.ref w_ASC), .val (.ref w_DB2), .unset, .unset, .unset] [(.int ((pi1 &&& (2147483647 : Int32)) % (9 : Int32)))] _
    refine XS.iconst X2.here hx rfl (hb hby at_46) ?_
    show Stp p e below T2 m 47 #[.val (.int pi1), .val (.int pi2), .val (.int ((pi1 &&& (2147483647 : Int32)) % (9 : Int32))), .val (.int (1 : Int32)), .val (.ref w_ASC), .val (.ref w_DB2), .unset, .unset, .unset] [(.int (5 : Int32)), (.int ((pi1 &&& (2147483647 : Int32)) % (9 : Int32)))] _
    refine XS.icmpNo X2.here hx rfl (hb hby at_47) rfl (feq hc36_6).1 ?_
    show Stp p e below T2 m 50 #[.val (.int pi1), .val (.int pi2), .val (.int ((pi1 &&& (2147483647 : Int32)) % (9 : Int32))), .val (.int (1 : Int32)), .val (.ref w_ASC), .val (.ref w_DB2), .unset, .unset, .unset] [] _
    refine XS.iloadN X2.here hx rfl (hb hby at_50) rfl ?_
    show Stp p e below T2 m 51 #[.val (.int pi1), .val (.int pi2), .val (.int ((pi1 &&& (2147483647 : Int32)) % (9 : Int32))), .val (.int (1 : Int32)), .val (.ref w_ASC), .val (.ref w_DB2), .unset, .unset, .unset] [(.int ((pi1 &&& (2147483647 : Int32)) % (9 : Int32)))] _
    refine XS.bipush X2.here hx rfl (hb hby at_51) ?_
    show Stp p e below T2 m 53 #[.val (.int pi1), .val (.int pi2), .val (.int ((pi1 &&& (2147483647 : Int32)) % (9 : Int32))), .val (.int (1 : Int32)), .val (.ref w_ASC), .val (.ref w_DB2), .unset, .unset, .unset] [(.int (6 : Int32)), (.int ((pi1 &&& (2147483647 : Int32)) % (9 : Int32)))] _
    refine XS.icmpNo X2.here hx rfl (hb hby at_53) rfl (feq hc36_7).1 ?_
    show Stp p e below T2 m 56 #[.val (.int pi1), .val (.int pi2), .val (.int ((pi1 &&& (2147483647 : Int32)) % (9 : Int32))), .val (.int (1 : Int32)), .val (.ref w_ASC), .val (.ref w_DB2), .unset, .unset, .unset] [] _
    refine XS.iloadN X2.here hx rfl (hb hby at_56) rfl ?_
    show Stp p e below T2 m 57 #[.val (.int pi1), .val (.int pi2), .val (.int ((pi1 &&& (2147483647 : Int32)) % (9 : Int32))), .val (.int (1 : Int32)), .val (.ref w_ASC), .val (.ref w_DB2), .unset, .unset, .unset] [(.int ((pi1 &&& (2147483647 : Int32)) % (9 : Int32)))] _
    refine XS.bipush X2.here hx rfl (hb hby at_57) ?_
    show Stp p e below T2 m 59 #[.val (.int pi1), .val (.int pi2), .val (.int ((pi1 &&& (2147483647 : Int32)) % (9 : Int32))), .val (.int (1 : Int32)), .val (.ref w_ASC), .val (.ref w_DB2), .unset, .unset, .unset] [(.int (8 : Int32)), (.int ((pi1 &&& (2147483647 : Int32)) % (9 : Int32)))] _
    refine XS.icmpNo X2.here hx rfl (hb hby at_59) rfl (teq (own_k8 _ hc36_1 hc36_2 hc36_3 hc36_4 hc36_5 hc36_6 hc36_7 hc36_8)).2 ?_
    show Stp p e below T2 m 62 #[.val (.int pi1), .val (.int pi2), .val (.int ((pi1 &&& (2147483647 : Int32)) % (9 : Int32))), .val (.int (1 : Int32)), .val (.ref w_ASC), .val (.ref w_DB2), .unset, .unset, .unset] [] _
    refine XS.iconst X2.here hx rfl (hb hby at_62) ?_
    show Stp p e below T2 m 63 #[.val (.int pi1), .val (.int pi2), .val (.int ((pi1 &&& (2147483647 : Int32)) % (9 : Int32))), .val (.int (1 : Int32)), .val (.ref w_ASC), .val (.ref w_DB2), .unset, .unset, .unset] [(.int (1 : Int32))] _
    refine XS.goto X2.here hx rfl (pc0 := 63) (pc' := 67) rfl (hb hby at_63) (by decide) (by decide) ?_
    show Stp p e below T2 m 67 #[.val (.int pi1), .val (.int pi2), .val (.int ((pi1 &&& (2147483647 : Int32)) % (9 : Int32))), .val (.int (1 : Int32)), .val (.ref w_ASC), .val (.ref w_DB2), .unset, .unset, .unset] [(.int (1 : Int32))] _
    refine XS.istore X2.here hx rfl (hb hby at_67) rfl (l' := #[.val (.int pi1), .val (.int pi2), .val (.int ((pi1 &&& (2147483647 : Int32)) % (9 : Int32))), .val (.int (1 : Int32)), .val (.ref w_ASC), .val (.ref w_DB2), .val (.int (1 : Int32)), .unset, .unset]) rfl ?_
    show Stp p e below T2 m 69 #[.val (.int pi1), .val (.int pi2), .val (.int ((pi1 &&& (2147483647 : Int32)) % (9 : Int32))), .val (.int (1 : Int32)), .val (.ref w_ASC), .val (.ref w_DB2), .val (.int (1 : Int32)), .unset, .unset] [] _
    refine XS.iloadN X2.here hx rfl (hb hby at_69) rfl ?_
    show Stp p e below T2 m 70 #[.val (.int pi1), .val (.int pi2), .val (.int ((pi1 &&& (2147483647 : Int32)) % (9 : Int32))), .val (.int (1 : Int32)), .val (.ref w_ASC), .val (.ref w_DB2), .val (.int (1 : Int32)), .unset, .unset] [(.int ((pi1 &&& (2147483647 : Int32)) % (9 : Int32)))] _
    refine XS.iconst X2.here hx rfl (hb hby at_70) ?_
    show Stp p e below T2 m 71 #[.val (.int pi1), .val (.int pi2), .val (.int ((pi1 &&& (2147483647 : Int32)) % (9 : Int32))), .val (.int (1 : Int32)), .val (.ref w_ASC), .val (.ref w_DB2), .val (.int (1 : Int32)), .unset, .unset] [(.int (1 : Int32)), (.int ((pi1 &&& (2147483647 : Int32)) % (9 : Int32)))] _
    refine XS.icmpNo X2.here hx rfl (hb hby at_71) rfl (feq hc36_2).1 ?_
    show Stp p e below T2 m 74 #[.val (.int pi1), .val (.int pi2), .val (.int ((pi1 &&& (2147483647 : Int32)) % (9 : Int32))), .val (.int (1 : Int32)), .val (.ref w_ASC), .val (.ref w_DB2), .val (.int (1 : Int32)), .unset, .unset] [] _
    refine XS.iloadN X2.here hx rfl (hb hby at_74) rfl ?_
    show Stp p e below T2 m 75 #[.val (.int pi1), .val (.int pi2), .val (.int ((pi1 &&& (2147483647 : Int32)) % (9 : Int32))), .val (.int (1 : Int32)), .val (.ref w_ASC), .val (.ref w_DB2), .val (.int (1 : Int32)), .unset, .unset] [(.int ((pi1 &&& (2147483647 : Int32)) % (9 : Int32)))] _
    refine XS.iconst X2.here hx rfl (hb hby at_75) ?_
    show Stp p e below T2 m 76 #[.val (.int pi1), .val (.int pi2), .val (.int ((pi1 &&& (2147483647 : Int32)) % (9 : Int32))), .val (.int (1 : Int32)), .val (.ref w_ASC), .val (.ref w_DB2), .val (.int (1 : Int32)), .unset, .unset] [(.int (2 : Int32)), (.int ((pi1 &&& (2147483647 : Int32)) % (9 : Int32)))] _
    refine XS.icmpNo X2.here hx rfl (hb hby at_76) rfl (feq hc36_3).1 ?_
    show Stp p e below T2 m 79 #[.val (.int pi1), .val (.int pi2), .val (.int ((pi1 &&& (2147483647 : Int32)) % (9 : Int32))), .val (.int (1 : Int32)), .val (.ref w_ASC), .val (.ref w_DB2), .val (.int (1 : Int32)), .unset, .unset] [] _
    refine XS.iloadN X2.here hx rfl (hb hby at_79) rfl ?_
    show Stp p e below T2 m 80 #[.val (.int pi1), .val (.int pi2), .val (.int ((pi1 &&& (2147483647 : Int32)) % (9 : Int32))), .val (.int (1 : Int32)), .val (.ref w_ASC), .val (.ref w_DB2), .val (.int (1 : Int32)), .unset, .unset] [(.int ((pi1 &&& (2147483647 : Int32)) % (9 : Int32)))] _
    refine XS.iconst X2.here hx rfl (hb hby at_80) ?_
    show Stp p e below T2 m 81 #[.val (.int pi1), .val (.int pi2), .val (.int ((pi1 &&& (2147483647 : Int32)) % (9 : Int32))), .val (.int (1 : Int32)), .val (.ref w_ASC), .val (.ref w_DB2), .val (.int (1 : Int32)), .unset, .unset] [(.int (3 : Int32)), (.int ((pi1 &&& (2147483647 : Int32)) % (9 : Int32)))] _
    refine XS.icmpNo X2.here hx rfl (hb hby at_81) rfl (feq hc36_4).1 ?_
    show Stp p e below T2 m 84 #[.val (.int pi1), .val (.int pi2), .val (.int ((pi1 &&& (2147483647 : Int32)) % (9 : Int32))), .val (.int (1 : Int32)), .val (.ref w_ASC), .val (.ref w_DB2), .val (.int (1 : Int32)), .unset, .unset] [] _
    refine XS.iloadN X2.here hx rfl (hb hby at_84) rfl ?_
    show Stp p e below T2 m 85 #[.val (.int pi1), .val (.int pi2), .val (.int ((pi1 &&& (2147483647 : Int32)) % (9 : Int32))), .val (.int (1 : Int32)), .val (.ref w_ASC), .val (.ref w_DB2), .val (.int (1 : Int32)), .unset, .unset] [(.int ((pi1 &&& (2147483647 : Int32)) % (9 : Int32)))] _
    refine XS.bipush X2.here hx rfl (hb hby at_85) ?_
    show Stp p e below T2 m 87 #[.val (.int pi1), .val (.int pi2), .val (.int ((pi1 &&& (2147483647 : Int32)) % (9 : Int32))), .val (.int (1 : Int32)), .val (.ref w_ASC), .val (.ref w_DB2), .val (.int (1 : Int32)), .unset, .unset] [(.int (7 : Int32)), (.int ((pi1 &&& (2147483647 : Int32)) % (9 : Int32)))] _
    refine XS.icmpYes X2.here hx rfl (pc0 := 87) (pc' := 94) rfl (hb hby at_87) rfl (feq hc36_8).2 (by decide) (by decide) ?_
    show Stp p e below T2 m 94 #[.val (.int pi1), .val (.int pi2), .val (.int ((pi1 &&& (2147483647 : Int32)) % (9 : Int32))), .val (.int (1 : Int32)), .val (.ref w_ASC), .val (.ref w_DB2), .val (.int (1 : Int32)), .unset, .unset] [] _
    refine XS.iconst X2.here hx rfl (hb hby at_94) ?_
    show Stp p e below T2 m 95 #[.val (.int pi1), .val (.int pi2), .val (.int ((pi1 &&& (2147483647 : Int32)) % (9 : Int32))), .val (.int (1 : Int32)), .val (.ref w_ASC), .val (.ref w_DB2), .val (.int (1 : Int32)), .unset, .unset] [(.int (0 : Int32))] _
    refine XS.istore X2.here hx rfl (hb hby at_95) rfl (l' := #[.val (.int pi1), .val (.int pi2), .val (.int ((pi1 &&& (2147483647 : Int32)) % (9 : Int32))), .val (.int (1 : Int32)), .val (.ref w_ASC), .val (.ref w_DB2), .val (.int (1 : Int32)), .val (.int (0 : Int32)), .unset]) rfl ?_
    show Stp p e below T2 m 97 #[.val (.int pi1), .val (.int pi2), .val (.int ((pi1 &&& (2147483647 : Int32)) % (9 : Int32))), .val (.int (1 : Int32)), .val (.ref w_ASC), .val (.ref w_DB2), .val (.int (1 : Int32)), .val (.int (0 : Int32)), .unset] [] _
    refine XS.iload X2.here hx rfl (hb hby at_97) rfl ?_
    show Stp p e below T2 m 99 #[.val (.int pi1), .val (.int pi2), .val (.int ((pi1 &&& (2147483647 : Int32)) % (9 : Int32))), .val (.int (1 : Int32)), .val (.ref w_ASC), .val (.ref w_DB2), .val (.int (1 : Int32)), .val (.int (0 : Int32)), .unset] [(.int (1 : Int32))] _
    refine XS.ifNo X2.here hx rfl (hb hby at_99) rfl ((if0 _ _).trans (feq (by decide : ¬ ((1 : Int32) = (0 : Int32)))).1) ?_
    show Stp p e below T2 m 102 #[.val (.int pi1), .val (.int pi2), .val (.int ((pi1 &&& (2147483647 : Int32)) % (9 : Int32))), .val (.int (1 : Int32)), .val (.ref w_ASC), .val (.ref w_DB2), .val (.int (1 : Int32)), .val (.int (0 : Int32)), .unset] [] _
    refine XS.iloadN X2.here hx rfl (hb hby at_102) rfl ?_
    show Stp p e below T2 m 103 #[.val (.int pi1), .val (.int pi2), .val (.int ((pi1 &&& (2147483647 : Int32)) % (9 : Int32))), .val (.int (1 : Int32)), .val (.ref w_ASC), .val (.ref w_DB2), .val (.int (1 : Int32)), .val (.int (0 : Int32)), .unset] [(.int (1 : Int32))] _
    refine XS.istore X2.here hx rfl (hb hby at_103) rfl (l' := #[.val (.int pi1), .val (.int pi2), .val (.int ((pi1 &&& (2147483647 : Int32)) % (9 : Int32))), .val (.int (1 : Int32)), .val (.ref w_ASC), .val (.ref w_DB2), .val (.int (1 : Int32)), .val (.int (0 : Int32)), .val (.int (1 : Int32))]) rfl ?_
    show Stp p e below T2 m 105 #[.val (.int pi1), .val (.int pi2), .val (.int ((pi1 &&& (2147483647 : Int32)) % (9 : Int32))), .val (.int (1 : Int32)), .val (.ref w_ASC), .val (.ref w_DB2), .val (.int (1 : Int32)), .val (.int (0 : Int32)), .val (.int (1 : Int32))] [] _
    refine XS.goto X2.here hx rfl (pc0 := 105) (pc' := 130) rfl (hb hby at_105) (by decide) (by decide) ?_
    show Stp p e below T2 m 130 #[.val (.int pi1), .val (.int pi2), .val (.int ((pi1 &&& (2147483647 : Int32)) % (9 : Int32))), .val (.int (1 : Int32)), .val (.ref w_ASC), .val (.ref w_DB2), .val (.int (1 : Int32)), .val (.int (0 : Int32)), .val (.int (1 : Int32))] [] _
    refine XS.aload X2.here hx rfl (hb hby at_130) rfl rfl ?_
    show Stp p e below T2 m 132 #[.val (.int pi1), .val (.int pi2), .val (.int ((pi1 &&& (2147483647 : Int32)) % (9 : Int32))), .val (.int (1 : Int32)), .val (.ref w_ASC), .val (.ref w_DB2), .val (.int (1 : Int32)), .val (.int (0 : Int32)), .val (.int (1 : Int32))] [(.ref w_DB2)] _
    refine XS.aload X2.here hx rfl (hb hby at_132) rfl rfl ?_
    show Stp p e below T2 m 134 #[.val (.int pi1), .val (.int pi2), .val (.int ((pi1 &&& (2147483647 : Int32)) % (9 : Int32))), .val (.int (1 : Int32)), .val (.ref w_ASC), .val (.ref w_DB2), .val (.int (1 : Int32)), .val (.int (0 : Int32)), .val (.int (1 : Int32))] [(.ref w_ASC), (.ref w_DB2)] _
    refine st3.trans ?_
    show Stp p e below T3 m 137 #[.val (.int pi1), .val (.int pi2), .val (.int ((pi1 &&& (2147483647 : Int32)) % (9 : Int32))), .val (.int (1 : Int32)), .val (.ref w_ASC), .val (.ref w_DB2), .val (.int (1 : Int32)), .val (.int (0 : Int32)), .val (.int (1 : Int32))] [(.int (1 : Int32))] _
    refine XS.iload X3.here hx rfl (hb hby at_137) rfl ?_
    show Stp p e below T3 m 139 #[.val (.int pi1), .val (.int pi2), .val (.int ((pi1 &&& (2147483647 : Int32)) % (9 : Int32))), .val (.int (1 : Int32)), .val (.ref w_ASC), .val (.ref w_DB2), .val (.int (1 : Int32)), .val (.int (0 : Int32)), .val (.int (1 : Int32))] [(.int (1 : Int32)), (.int (1 : Int32))] _
    refine XS.icmpNo X3.here hx rfl (hb hby at_139) rfl (teq (rfl : (1 : Int32) = (1 : Int32))).2 ?_
    show Stp p e below T3 m 142 #[.val (.int pi1), .val (.int pi2), .val (.int ((pi1 &&& (2147483647 : Int32)) % (9 : Int32))), .val (.int (1 : Int32)), .val (.ref w_ASC), .val (.ref w_DB2), .val (.int (1 : Int32)), .val (.int (0 : Int32)), .val (.int (1 : Int32))] [] _
    refine XS.iconst X3.here hx rfl (hb hby at_142) ?_
    show Stp p e below T3 m 143 #[.val (.int pi1), .val (.int pi2), .val (.int ((pi1 &&& (2147483647 : Int32)) % (9 : Int32))), .val (.int (1 : Int32)), .val (.ref w_ASC), .val (.ref w_DB2), .val (.int (1 : Int32)), .val (.int (0 : Int32)), .val (.int (1 : Int32))] [(.int (1 : Int32))] _
    refine XS.goto X3.here hx rfl (pc0 := 143) (pc' := 147) rfl (hb hby at_143) (by decide) (by decide) ?_
    show Stp p e below T3 m 147 #[.val (.int pi1), .val (.int pi2), .val (.int ((pi1 &&& (2147483647 : Int32)) % (9 : Int32))), .val (.int (1 : Int32)), .val (.ref w_ASC), .val (.ref w_DB2), .val (.int (1 : Int32)), .val (.int (0 : Int32)), .val (.int (1 : Int32))] [(.int (1 : Int32))] _
    exact retN X3 hx (t := .boolean) Bd.returns (by simp) (hb hby at_147) hr
  · exact ⟨rfl, N3⟩
set_option maxRecDepth 65536 in
set_option maxHeartbeats 40000000 in
theorem rm0_ft (l : Launch) (Z : State) (a0 : Array Value) (hw : ∀ d ∈ tables_1, d.before a0 Z = true) (ws : List Jvm.Cond) (pi1 : Int32) (pi2 : Int32) (w_HIGH : Addr) (w_LOW : Addr) (w_FIRST : Addr) (w_ASC : Addr) (w_DESC : Addr) (w_POSTGRESQL : Addr) (w_MARIADB : Addr) (w_SQLITE : Addr) (w_H2 : Addr) (w_HSQLDB : Addr) (w_DERBY : Addr) (w_ORACLE : Addr) (w_SQLSERVER : Addr) (w_DB2 : Addr) (h0 : Heap) (n0 : Nat) (Z0 : n0 ≤ h0.size) (O0 : Old Z n0 h0) (S_ASC : Sta Z Z.heap "com/example/leafcount/leafcount/Sort$Direction" "ASC" "Lcom/example/leafcount/leafcount/Sort$Direction;" (.ref w_ASC)) (S_DESC : Sta Z Z.heap "com/example/leafcount/leafcount/Sort$Direction" "DESC" "Lcom/example/leafcount/leafcount/Sort$Direction;" (.ref w_DESC)) (S_POSTGRESQL : Sta Z Z.heap "com/example/leafcount/leafcount/SqlSyntax" "POSTGRESQL" "Lcom/example/leafcount/leafcount/SqlSyntax;" (.ref w_POSTGRESQL)) (S_MARIADB : Sta Z Z.heap "com/example/leafcount/leafcount/SqlSyntax" "MARIADB" "Lcom/example/leafcount/leafcount/SqlSyntax;" (.ref w_MARIADB)) (S_SQLITE : Sta Z Z.heap "com/example/leafcount/leafcount/SqlSyntax" "SQLITE" "Lcom/example/leafcount/leafcount/SqlSyntax;" (.ref w_SQLITE)) (S_H2 : Sta Z Z.heap "com/example/leafcount/leafcount/SqlSyntax" "H2" "Lcom/example/leafcount/leafcount/SqlSyntax;" (.ref w_H2)) (S_HSQLDB : Sta Z Z.heap "com/example/leafcount/leafcount/SqlSyntax" "HSQLDB" "Lcom/example/leafcount/leafcount/SqlSyntax;" (.ref w_HSQLDB)) (S_DERBY : Sta Z Z.heap "com/example/leafcount/leafcount/SqlSyntax" "DERBY" "Lcom/example/leafcount/leafcount/SqlSyntax;" (.ref w_DERBY)) (S_ORACLE : Sta Z Z.heap "com/example/leafcount/leafcount/SqlSyntax" "ORACLE" "Lcom/example/leafcount/leafcount/SqlSyntax;" (.ref w_ORACLE)) (S_SQLSERVER : Sta Z Z.heap "com/example/leafcount/leafcount/SqlSyntax" "SQLSERVER" "Lcom/example/leafcount/leafcount/SqlSyntax;" (.ref w_SQLSERVER)) (S_DB2 : Sta Z Z.heap "com/example/leafcount/leafcount/SqlSyntax" "DB2" "Lcom/example/leafcount/leafcount/SqlSyntax;" (.ref w_DB2)) (E_w_POSTGRESQL : Exa Z Z.heap w_POSTGRESQL "com/example/leafcount/leafcount/SqlSyntax") (E_w_MARIADB : Exa Z Z.heap w_MARIADB "com/example/leafcount/leafcount/SqlSyntax") (E_w_SQLITE : Exa Z Z.heap w_SQLITE "com/example/leafcount/leafcount/SqlSyntax") (E_w_H2 : Exa Z Z.heap w_H2 "com/example/leafcount/leafcount/SqlSyntax") (E_w_HSQLDB : Exa Z Z.heap w_HSQLDB "com/example/leafcount/leafcount/SqlSyntax") (E_w_DERBY : Exa Z Z.heap w_DERBY "com/example/leafcount/leafcount/SqlSyntax") (E_w_ORACLE : Exa Z Z.heap w_ORACLE "com/example/leafcount/leafcount/SqlSyntax") (E_w_SQLSERVER : Exa Z Z.heap w_SQLSERVER "com/example/leafcount/leafcount/SqlSyntax") (E_w_DB2 : Exa Z Z.heap w_DB2 "com/example/leafcount/leafcount/SqlSyntax") (F_nullOrder_w_POSTGRESQL : Fld Z Z.heap w_POSTGRESQL "com/example/leafcount/leafcount/SqlSyntax" "nullOrder" "Lcom/example/leafcount/leafcount/SqlSyntax$NullOrder;" (.ref w_HIGH)) (F_nullOrder_w_MARIADB : Fld Z Z.heap w_MARIADB "com/example/leafcount/leafcount/SqlSyntax" "nullOrder" "Lcom/example/leafcount/leafcount/SqlSyntax$NullOrder;" (.ref w_LOW)) (F_nullOrder_w_SQLITE : Fld Z Z.heap w_SQLITE "com/example/leafcount/leafcount/SqlSyntax" "nullOrder" "Lcom/example/leafcount/leafcount/SqlSyntax$NullOrder;" (.ref w_LOW)) (F_nullOrder_w_H2 : Fld Z Z.heap w_H2 "com/example/leafcount/leafcount/SqlSyntax" "nullOrder" "Lcom/example/leafcount/leafcount/SqlSyntax$NullOrder;" (.ref w_LOW)) (F_nullOrder_w_HSQLDB : Fld Z Z.heap w_HSQLDB "com/example/leafcount/leafcount/SqlSyntax" "nullOrder" "Lcom/example/leafcount/leafcount/SqlSyntax$NullOrder;" (.ref w_FIRST)) (F_nullOrder_w_DERBY : Fld Z Z.heap w_DERBY "com/example/leafcount/leafcount/SqlSyntax" "nullOrder" "Lcom/example/leafcount/leafcount/SqlSyntax$NullOrder;" (.ref w_HIGH)) (F_nullOrder_w_ORACLE : Fld Z Z.heap w_ORACLE "com/example/leafcount/leafcount/SqlSyntax" "nullOrder" "Lcom/example/leafcount/leafcount/SqlSyntax$NullOrder;" (.ref w_HIGH)) (F_nullOrder_w_SQLSERVER : Fld Z Z.heap w_SQLSERVER "com/example/leafcount/leafcount/SqlSyntax" "nullOrder" "Lcom/example/leafcount/leafcount/SqlSyntax$NullOrder;" (.ref w_LOW)) (F_nullOrder_w_DB2 : Fld Z Z.heap w_DB2 "com/example/leafcount/leafcount/SqlSyntax" "nullOrder" "Lcom/example/leafcount/leafcount/SqlSyntax$NullOrder;" (.ref w_HIGH)) (F_last_w_HIGH : Fld Z Z.heap w_HIGH "com/example/leafcount/leafcount/SqlSyntax$NullOrder" "last" "Lcom/example/leafcount/leafcount/Sort$Direction;" (.ref w_ASC)) (F_last_w_LOW : Fld Z Z.heap w_LOW "com/example/leafcount/leafcount/SqlSyntax$NullOrder" "last" "Lcom/example/leafcount/leafcount/Sort$Direction;" (.ref w_DESC)) (F_last_w_FIRST : Fld Z Z.heap w_FIRST "com/example/leafcount/leafcount/SqlSyntax$NullOrder" "last" "Lcom/example/leafcount/leafcount/Sort$Direction;" .null) (hne : w_ASC ≠ w_DESC) (hc11_0 : ¬ ((pi2 &&& (1 : Int32)) = (0 : Int32))) (hc36_1 : ((pi1 &&& (2147483647 : Int32)) % (9 : Int32)) = (0 : Int32)) :
    MetFree l x (head1 (Jvm.Cond.code x code maxLocals ret :: ws) room_1) (fun a U => a = #[(.int pi1), (.int pi2)] ∧ Z.Warmed39 U.vm ∧ U.heap = h0) (fun _ _ _ _ _ => True) (fun _ U o U' => ∃ v L, o = .returned v ∧ Q0 v L n0 ∧ FrameEnd U o U' L room_1.cells room_1.slots) := by
  refine MetFree.of_bodySF (plainFor_of_name pn_0) hisR ?_
  intro p e s m args below meth c s₁ Bd hml0 hP hK
  obtain ⟨rfl, hZ, hh⟩ := hP
  have hx := Bd.exec
  have hby := Bd.bytes
  have hml : c.maxLocals = 9 := hml0
  have hown : s.vm.findClass "com/example/leafcount/leafcount/SqlSyntaxPutsNullLastPinLaw" = some m.cls := findClass_of_methodNamed Bd.named
  have hnm := (name_of_methodNamed Bd.named Bd.method).1
  have X0 : Stand p l e room_1 s m #[(.int pi1), (.int pi2)] below meth c s₁ [] 0 0 := Stand.of_body Bd
  have e0 : s₁.heap = h0 := by rw [← hh, Bd.state]; rfl
  have N0 := Fr.nil n0
  have pre0 : ∀ t, Steps p.tables e below (s₁.setTop (mkF m 0 #[.val (.int pi1), .val (.int pi2), .unset, .unset, .unset, .unset, .unset, .unset, .unset] [])) t → Steps p.tables e below (s₁.setTop (entryFrame m #[(.int pi1), (.int pi2)] maxLocals)) t := fun t k => castTop (ef_0 m pi1 pi2) k
  obtain ⟨T1, X1, e1, st1⟩ := getS2 X0 hx hZ hown (host := "") (Or.inl (own_W hw 1 rfl)) Via.refl e0 (S_DESC.ext O0.2) (g := (mkF m 30 #[.val (.int pi1), .val (.int pi2), .val (.int ((pi1 &&& (2147483647 : Int32)) % (9 : Int32))), .val (.int (0 : Int32)), .unset, .unset, .unset, .unset, .unset] [])) rfl (hb hby at_30)
  obtain ⟨_, _, ⟨T2, L2, k2, n2⟩, -, X2, ⟨Lc2, hQ2, l2, y2, z2⟩, st2⟩ := Jvm.LawKit.callS X1 hx (y := (⟨"com/example/leafcount/leafcount/SqlSyntaxPutsNullLastPinLaw", "pick", "(I)Lcom/example/leafcount/leafcount/SqlSyntax;"⟩ : MethodName)) hown (mvT hZ (own_W hw 4 rfl)) (mvT hZ (own_W hw 5 rfl)) (mvT hZ (own_W hw 6 rfl)) (mvT hZ (own_W hw 7 rfl)) (by decide) (backOf (W := 0) (rm1_0 l Z a0 hw [] ((pi1 &&& (2147483647 : Int32)) % (9 : Int32)) w_POSTGRESQL h0 n0 Z0 O0 S_POSTGRESQL hc36_1) hZ (own_W hw 7 rfl) (own_W hw 6 rfl) (by decide) (by decide)) (g := (mkF m 36 #[.val (.int pi1), .val (.int pi2), .val (.int ((pi1 &&& (2147483647 : Int32)) % (9 : Int32))), .val (.int (0 : Int32)), .val (.ref w_DESC), .unset, .unset, .unset, .unset] [(.int ((pi1 &&& (2147483647 : Int32)) % (9 : Int32)))])) rfl (by rw [hml]; rfl) (argsL := [(.int ((pi1 &&& (2147483647 : Int32)) % (9 : Int32)))]) (rest := []) (lenOf pd_0 rfl) rfl (by show 2 * 0 + _ ≤ _; exact Nat.le_of_eq rfl) (hb hby at_36) (fun _ _ => ⟨rfl, e1, (by decide : 0 + 0 ≤ _), (by decide : 0 + 0 ≤ _)⟩)
  dsimp only [Pt.U, Pt.locs, Pt.cells, Pt.slots] at X2 l2 y2 z2 st2 hQ2
  subst l2 y2 z2
  obtain ⟨rfl, N2q, eq2⟩ := hQ2
  have N2 := Fr.app N0 N2q
  obtain ⟨cq3, kq3, q3a, q3b, q3c⟩ := isOf hZ eq2 (E_w_POSTGRESQL.ext O0.2)
  obtain ⟨_, _, ⟨T3, L3, k3, n3⟩, -, X3, ⟨Lc3, hQ3, l3, y3, z3⟩, st3⟩ := X2.virtualBack hx (y := (⟨"com/example/leafcount/leafcount/SqlSyntax", "putsNullLast", "(Lcom/example/leafcount/leafcount/Sort$Direction;)Z"⟩ : MethodName)) (z := (⟨"com/example/leafcount/leafcount/SqlSyntax", "putsNullLast", "(Lcom/example/leafcount/leafcount/Sort$Direction;)Z"⟩ : MethodName)) hown (mvT hZ (own_W hw 11 rfl)) (mvT hZ (own_W hw 12 rfl)) (notFace_of_selects (args := #[]) (mvT hZ (own_W hw 14 rfl))) (mvT hZ (own_W hw 14 rfl)) (mvT hZ (own_W hw 13 rfl)) (by decide) (backOf (W := 0) (rm2_f l Z a0 hw [] w_POSTGRESQL w_DESC w_HIGH w_ASC h0 n0 Z0 O0 (F_nullOrder_w_POSTGRESQL.ext O0.2) (F_last_w_HIGH.ext O0.2) hne) hZ (own_W hw 15 rfl) (own_W hw 9 rfl) (by decide) (by decide)) q3a q3c (g := (mkF m 134 #[.val (.int pi1), .val (.int pi2), .val (.int ((pi1 &&& (2147483647 : Int32)) % (9 : Int32))), .val (.int (0 : Int32)), .val (.ref w_DESC), .val (.ref w_POSTGRESQL), .val (.int (1 : Int32)), .val (.int (0 : Int32)), .val (.int (0 : Int32))] [(.ref w_DESC), (.ref w_POSTGRESQL)])) rfl (by rw [hml]; rfl) (Steps.refl _) (argsL := [(.ref w_DESC)]) (rest := []) (lenOf pd_1 rfl) rfl (by show 2 * 0 + _ ≤ _; exact Nat.le_of_eq rfl) (hb hby at_134) (fun _ _ => ⟨rfl, eq2, (by decide : 0 + 0 ≤ _), (by decide : 0 + 0 ≤ _)⟩)
  dsimp only [Pt.U, Pt.locs, Pt.cells, Pt.slots] at X3 l3 y3 z3 st3 hQ3
  subst l3 y3 z3
  obtain ⟨rfl, N3q, eq3⟩ := hQ3
  have N3 := Fr.app N2 N3q
  obtain ⟨fs, hr, hrun, hended, hW, hsame⟩ := X3.leave (v := some (.int (1 : Int32))) (fun h => by rw [Bd.returns] at h; cases h)
  refine ⟨_, _, pre0 _ ?_, hrun, hended, _, _, rfl, ?_, ⟨_, rfl⟩, hW, hsame.mono (by decide) (by decide)⟩
  · show Stp p e below s₁ m 0 #[.val (.int pi1), .val (.int pi2), .unset, .unset, .unset, .unset, .unset, .unset, .unset] [] _
    refine XS.iloadN X0.here hx rfl (hb hby at_0) rfl ?_
    show Stp p e below s₁ m 1 #[.val (.int pi1), .val (.int pi2), .unset, .unset, .unset, .unset, .unset, .unset, .unset] [(.int pi1)] _
    refine X0.ldcInt hx hown (mvT hZ (own_W hw 0 rfl)) (g := (mkF m 1 #[.val (.int pi1), .val (.int pi2), .unset, .unset, .unset, .unset, .unset, .unset, .unset] [(.int pi1)])) rfl (hb hby at_1) _ ?_
    show Stp p e below s₁ m 3 #[.val (.int pi1), .val (.int pi2), .unset, .unset, .unset, .unset, .unset, .unset, .unset] [(.int (2147483647 : Int32)), (.int pi1)] _
    refine XS.iand X0.here hx rfl (hb hby at_3) rfl ?_
    show Stp p e below s₁ m 4 #[.val (.int pi1), .val (.int pi2), .unset, .unset, .unset, .unset, .unset, .unset, .unset] [(.int (pi1 &&& (2147483647 : Int32)))] _
    refine XS.bipush X0.here hx rfl (hb hby at_4) ?_
    show Stp p e below s₁ m 6 #[.val (.int pi1), .val (.int pi2), .unset, .unset, .unset, .unset, .unset, .unset, .unset] [(.int (9 : Int32)), (.int (pi1 &&& (2147483647 : Int32)))] _
    refine iremM X0 hx rfl (hb hby at_6) rfl (by decide) ?_
    show Stp p e below s₁ m 7 #[.val (.int pi1), .val (.int pi2), .unset, .unset, .unset, .unset, .unset, .unset, .unset] [(.int ((pi1 &&& (2147483647 : Int32)) % (9 : Int32)))] _
    refine XS.istoreN X0.here hx rfl (hb hby at_7) rfl (l' := #[.val (.int pi1), .val (.int pi2), .val (.int ((pi1 &&& (2147483647 : Int32)) % (9 : Int32))), .unset, .unset, .unset, .unset, .unset, .unset]) rfl ?_
    show Stp p e below s₁ m 8 #[.val (.int pi1), .val (.int pi2), .val (.int ((pi1 &&& (2147483647 : Int32)) % (9 : Int32))), .unset, .unset, .unset, .unset, .unset, .unset] [] _
    refine XS.iloadN X0.here hx rfl (hb hby at_8) rfl ?_
    show Stp p e below s₁ m 9 #[.val (.int pi1), .val (.int pi2), .val (.int ((pi1 &&& (2147483647 : Int32)) % (9 : Int32))), .unset, .unset, .unset, .unset, .unset, .unset] [(.int pi2)] _
    refine XS.iconst X0.here hx rfl (hb hby at_9) ?_
    show Stp p e below s₁ m 10 #[.val (.int pi1), .val (.int pi2), .val (.int ((pi1 &&& (2147483647 : Int32)) % (9 : Int32))), .unset, .unset, .unset, .unset, .unset, .unset] [(.int (1 : Int32)), (.int pi2)] _
    refine XS.iand X0.here hx rfl (hb hby at_10) rfl ?_
    show Stp p e below s₁ m 11 #[.val (.int pi1), .val (.int pi2), .val (.int ((pi1 &&& (2147483647 : Int32)) % (9 : Int32))), .unset, .unset, .unset, .unset, .unset, .unset] [(.int (pi2 &&& (1 : Int32)))] _
    refine XS.ifYes X0.here hx rfl (pc0 := 11) (pc' := 18) rfl (hb hby at_11) rfl ((if0 _ _).trans (feq hc11_0).2) (by decide) (by decide) ?_
    show Stp p e below s₁ m 18 #[.val (.int pi1), .val (.int pi2), .val (.int ((pi1 &&& (2147483647 : Int32)) % (9 : Int32))), .unset, .unset, .unset, .unset, .unset, .unset] [] _
    refine XS.iconst X0.here hx rfl (hb hby at_18) ?_
    show Stp p e below s₁ m 19 #[.val (.int pi1), .val (.int pi2), .val (.int ((pi1 &&& (2147483647 : Int32)) % (9 : Int32))), .unset, .unset, .unset, .unset, .unset, .unset] [(.int (0 : Int32))] _
    refine XS.istoreN X0.here hx rfl (hb hby at_19) rfl (l' := #[.val (.int pi1), .val (.int pi2), .val (.int ((pi1 &&& (2147483647 : Int32)) % (9 : Int32))), .val (.int (0 : Int32)), .unset, .unset, .unset, .unset, .unset]) rfl ?_
    show Stp p e below s₁ m 20 #[.val (.int pi1), .val (.int pi2), .val (.int ((pi1 &&& (2147483647 : Int32)) % (9 : Int32))), .val (.int (0 : Int32)), .unset, .unset, .unset, .unset, .unset] [] _
    refine XS.iloadN X0.here hx rfl (hb hby at_20) rfl ?_
    show Stp p e below s₁ m 21 #[.val (.int pi1), .val (.int pi2), .val (.int ((pi1 &&& (2147483647 : Int32)) % (9 : Int32))), .val (.int (0 : Int32)), .unset, .unset, .unset, .unset, .unset] [(.int (0 : Int32))] _
    refine XS.ifYes X0.here hx rfl (pc0 := 21) (pc' := 30) rfl (hb hby at_21) rfl ((if0 _ _).trans (teq (rfl : (0 : Int32) = (0 : Int32))).1) (by decide) (by decide) ?_
    show Stp p e below s₁ m 30 #[.val (.int pi1), .val (.int pi2), .val (.int ((pi1 &&& (2147483647 : Int32)) % (9 : Int32))), .val (.int (0 : Int32)), .unset, .unset, .unset, .unset, .unset] [] _
    refine st1 _ ?_
    show Stp p e below T1 m 33 #[.val (.int pi1), .val (.int pi2), .val (.int ((pi1 &&& (2147483647 : Int32)) % (9 : Int32))), .val (.int (0 : Int32)), .unset, .unset, .unset, .unset, .unset] [(.ref w_DESC)] _
    refine XS.astore X1.here hx rfl (hb hby at_33) rfl rfl (l' := #[.val (.int pi1), .val (.int pi2), .val (.int ((pi1 &&& (2147483647 : Int32)) % (9 : Int32))), .val (.int (0 : Int32)), .val (.ref w_DESC), .unset, .unset, .unset, .unset]) rfl ?_
    show Stp p e below T1 m 35 #[.val (.int pi1), .val (.int pi2), .val (.int ((pi1 &&& (2147483647 : Int32)) % (9 : Int32))), .val (.int (0 : Int32)), .val (.ref w_DESC), .unset, .unset, .unset, .unset] [] _
    refine XS.iloadN X1.here hx rfl (hb hby at_35) rfl ?_
    show Stp p e below T1 m 36 #[.val (.int pi1), .val (.int pi2), .val (.int ((pi1 &&& (2147483647 : Int32)) % (9 : Int32))), .val (.int (0 : Int32)), .val (.ref w_DESC), .unset, .unset, .unset, .unset] [(.int ((pi1 &&& (2147483647 : Int32)) % (9 : Int32)))] _
    refine st2 _ ?_
    show Stp p e below T2 m 39 #[.val (.int pi1), .val (.int pi2), .val (.int ((pi1 &&& (2147483647 : Int32)) % (9 : Int32))), .val (.int (0 : Int32)), .val (.ref w_DESC), .unset, .unset, .unset, .unset] [(.ref w_POSTGRESQL)] _
    refine XS.astore X2.here hx rfl (hb hby at_39) rfl rfl (l' := #[.val (.int pi1), .val (.int pi2), .val (.int ((pi1 &&& (2147483647 : Int32)) % (9 : Int32))), .val (.int (0 : Int32)), .val (.ref w_DESC), .val (.ref w_POSTGRESQL), .unset, .unset, .unset]) rfl ?_
    show Stp p e below T2 m 41 #[.val (.int pi1), .val (.int pi2), .val (.int ((pi1 &&& (2147483647 : Int32)) % (9 : Int32))), .val (.int (0 : Int32)), .val (.ref w_DESC), .val (.ref w_POSTGRESQL), .unset, .unset, .unset] [] _
    refine XS.iloadN X2.here hx rfl (hb hby at_41) rfl ?_
    show Stp p e below T2 m 42 #[.val (.int pi1), .val (.int pi2), .val (.int ((pi1 &&& (2147483647 : Int32)) % (9 : Int32))), .val (.int (0 : Int32)), .val (.ref w_DESC), .val (.ref w_POSTGRESQL), .unset, .unset, .unset] [(.int ((pi1 &&& (2147483647 : Int32)) % (9 : Int32)))] _
    refine XS.ifYes X2.here hx rfl (pc0 := 42) (pc' := 62) rfl (hb hby at_42) rfl ((if0 _ _).trans (teq hc36_1).1) (by decide) (by decide) ?_
    show Stp p e below T2 m 62 #[.val (.int pi1), .val (.int pi2), .val (.int ((pi1 &&& (2147483647 : Int32)) % (9 : Int32))), .val (.int (0 : Int32)), .val (.ref w_DESC), .val (.ref w_POSTGRESQL), .unset, .unset, .unset] [] _
    refine XS.iconst X2.here hx rfl (hb hby at_62) ?_
    show Stp p e below T2 m 63 #[.val (.int pi1), .val (.int pi2), .val (.int ((pi1 &&& (2147483647 : Int32)) % (9 : Int32))), .val (.int (0 : Int32)), .val (.ref w_DESC), .val (.ref w_POSTGRESQL), .unset, .unset, .unset] [(.int (1 : Int32))] _
    refine XS.goto X2.here hx rfl (pc0 := 63) (pc' := 67) rfl (hb hby at_63) (by decide) (by decide) ?_
    show Stp p e below T2 m 67 #[.val (.int pi1), .val (.int pi2), .val (.int ((pi1 &&& (2147483647 : Int32)) % (9 : Int32))), .val (.int (0 : Int32)), .val (.ref w_DESC), .val (.ref w_POSTGRESQL), .unset, .unset, .unset] [(.int (1 : Int32))] _
    refine XS.istore X2.here hx rfl (hb hby at_67) rfl (l' := #[.val (.int pi1), .val (.int pi2), .val (.int ((pi1 &&& (2147483647 : Int32)) % (9 : Int32))), .val (.int (0 : Int32)), .val (.ref w_DESC), .val (.ref w_POSTGRESQL), .val (.int (1 : Int32)), .unset, .unset]) rfl ?_
    show Stp p e below T2 m 69 #[.val (.int pi1), .val (.int pi2), .val (.int ((pi1 &&& (2147483647 : Int32)) % (9 : Int32))), .val (.int (0 : Int32)), .val (.ref w_DESC), .val (.ref w_POSTGRESQL), .val (.int (1 : Int32)), .unset, .unset] [] _
    refine XS.iloadN X2.here hx rfl (hb hby at_69) rfl ?_
    show Stp p e below T2 m 70 #[.val (.int pi1), .val (.int pi2), .val (.int ((pi1 &&& (2147483647 : Int32)) % (9 : Int32))), .val (.int (0 : Int32)), .val (.ref w_DESC), .val (.ref w_POSTGRESQL), .val (.int (1 : Int32)), .unset, .unset] [(.int ((pi1 &&& (2147483647 : Int32)) % (9 : Int32)))] _
    refine XS.iconst X2.here hx rfl (hb hby at_70) ?_
    show Stp p e below T2 m 71 #[.val (.int pi1), .val (.int pi2), .val (.int ((pi1 &&& (2147483647 : Int32)) % (9 : Int32))), .val (.int (0 : Int32)), .val (.ref w_DESC), .val (.ref w_POSTGRESQL), .val (.int (1 : Int32)), .unset, .unset] [(.int (1 : Int32)), (.int ((pi1 &&& (2147483647 : Int32)) % (9 : Int32)))] _
    refine XS.icmpNo X2.here hx rfl (hb hby at_71) rfl (feq (fun q => absurd (hc36_1.symm.trans q) (by decide))).1 ?_
    show Stp p e below T2 m 74 #[.val (.int pi1), .val (.int pi2), .val (.int ((pi1 &&& (2147483647 : Int32)) % (9 : Int32))), .val (.int (0 : Int32)), .val (.ref w_DESC), .val (.ref w_POSTGRESQL), .val (.int (1 : Int32)), .unset, .unset] [] _
    refine XS.iloadN X2.here hx rfl (hb hby at_74) rfl ?_
    show Stp p e below T2 m 75 #[.val (.int pi1), .val (.int pi2), .val (.int ((pi1 &&& (2147483647 : Int32)) % (9 : Int32))), .val (.int (0 : Int32)), .val (.ref w_DESC), .val (.ref w_POSTGRESQL), .val (.int (1 : Int32)), .unset, .unset] [(.int ((pi1 &&& (2147483647 : Int32)) % (9 : Int32)))] _
    refine XS.iconst X2.here hx rfl (hb hby at_75) ?_
    show Stp p e below T2 m 76 #[.val (.int pi1), .val (.int pi2), .val (.int ((pi1 &&& (2147483647 : Int32)) % (9 : Int32))), .val (.int (0 : Int32)), .val (.ref w_DESC), .val (.ref w_POSTGRESQL), .val (.int (1 : Int32)), .unset, .unset] [(.int (2 : Int32)), (.int ((pi1 &&& (2147483647 : Int32)) % (9 : Int32)))] _
    refine XS.icmpNo X2.here hx rfl (hb hby at_76) rfl (feq (fun q => absurd (hc36_1.symm.trans q) (by decide))).1 ?_
    show Stp p e below T2 m 79 #[.val (.int pi1), .val (.int pi2), .val (.int ((pi1 &&& (2147483647 : Int32)) % (9 : Int32))), .val (.int (0 : Int32)), .val (.ref w_DESC), .val (.ref w_POSTGRESQL), .val (.int (1 : Int32)), .unset, .unset] [] _
    refine XS.iloadN X2.here hx rfl (hb hby at_79) rfl ?_
    show Stp p e below T2 m 80 #[.val (.int pi1), .val (.int pi2), .val (.int ((pi1 &&& (2147483647 : Int32)) % (9 : Int32))), .val (.int (0 : Int32)), .val (.ref w_DESC), .val (.ref w_POSTGRESQL), .val (.int (1 : Int32)), .unset, .unset] [(.int ((pi1 &&& (2147483647 : Int32)) % (9 : Int32)))] _
    refine XS.iconst X2.here hx rfl (hb hby at_80) ?_
    show Stp p e below T2 m 81 #[.val (.int pi1), .val (.int pi2), .val (.int ((pi1 &&& (2147483647 : Int32)) % (9 : Int32))), .val (.int (0 : Int32)), .val (.ref w_DESC), .val (.ref w_POSTGRESQL), .val (.int (1 : Int32)), .unset, .unset] [(.int (3 : Int32)), (.int ((pi1 &&& (2147483647 : Int32)) % (9 : Int32)))] _
    refine XS.icmpNo X2.here hx rfl (hb hby at_81) rfl (feq (fun q => absurd (hc36_1.symm.trans q) (by decide))).1 ?_
    show Stp p e below T2 m 84 #[.val (.int pi1), .val (.int pi2), .val (.int ((pi1 &&& (2147483647 : Int32)) % (9 : Int32))), .val (.int (0 : Int32)), .val (.ref w_DESC), .val (.ref w_POSTGRESQL), .val (.int (1 : Int32)), .unset, .unset] [] _
    refine XS.iloadN X2.here hx rfl (hb hby at_84) rfl ?_
    show Stp p e below T2 m 85 #[.val (.int pi1), .val (.int pi2), .val (.int ((pi1 &&& (2147483647 : Int32)) % (9 : Int32))), .val (.int (0 : Int32)), .val (.ref w_DESC), .val (.ref w_POSTGRESQL), .val (.int (1 : Int32)), .unset, .unset] [(.int ((pi1 &&& (2147483647 : Int32)) % (9 : Int32)))] _
    refine XS.bipush X2.here hx rfl (hb hby at_85) ?_
    show Stp p e below T2 m 87 #[.val (.int pi1), .val (.int pi2), .val (.int ((pi1 &&& (2147483647 : Int32)) % (9 : Int32))), .val (.int (0 : Int32)), .val (.ref w_DESC), .val (.ref w_POSTGRESQL), .val (.int (1 : Int32)), .unset, .unset] [(.int (7 : Int32)), (.int ((pi1 &&& (2147483647 : Int32)) % (9 : Int32)))] _
    refine XS.icmpYes X2.here hx rfl (pc0 := 87) (pc' := 94) rfl (hb hby at_87) rfl (feq (fun q => absurd (hc36_1.symm.trans q) (by decide))).2 (by decide) (by decide) ?_
    show Stp p e below T2 m 94 #[.val (.int pi1), .val (.int pi2), .val (.int ((pi1 &&& (2147483647 : Int32)) % (9 : Int32))), .val (.int (0 : Int32)), .val (.ref w_DESC), .val (.ref w_POSTGRESQL), .val (.int (1 : Int32)), .unset, .unset] [] _
    refine XS.iconst X2.here hx rfl (hb hby at_94) ?_
    show Stp p e below T2 m 95 #[.val (.int pi1), .val (.int pi2), .val (.int ((pi1 &&& (2147483647 : Int32)) % (9 : Int32))), .val (.int (0 : Int32)), .val (.ref w_DESC), .val (.ref w_POSTGRESQL), .val (.int (1 : Int32)), .unset, .unset] [(.int (0 : Int32))] _
    refine XS.istore X2.here hx rfl (hb hby at_95) rfl (l' := #[.val (.int pi1), .val (.int pi2), .val (.int ((pi1 &&& (2147483647 : Int32)) % (9 : Int32))), .val (.int (0 : Int32)), .val (.ref w_DESC), .val (.ref w_POSTGRESQL), .val (.int (1 : Int32)), .val (.int (0 : Int32)), .unset]) rfl ?_
    show Stp p e below T2 m 97 #[.val (.int pi1), .val (.int pi2), .val (.int ((pi1 &&& (2147483647 : Int32)) % (9 : Int32))), .val (.int (0 : Int32)), .val (.ref w_DESC), .val (.ref w_POSTGRESQL), .val (.int (1 : Int32)), .val (.int (0 : Int32)), .unset] [] _
    refine XS.iload X2.here hx rfl (hb hby at_97) rfl ?_
    show Stp p e below T2 m 99 #[.val (.int pi1), .val (.int pi2), .val (.int ((pi1 &&& (2147483647 : Int32)) % (9 : Int32))), .val (.int (0 : Int32)), .val (.ref w_DESC), .val (.ref w_POSTGRESQL), .val (.int (1 : Int32)), .val (.int (0 : Int32)), .unset] [(.int (1 : Int32))] _
    refine XS.ifNo X2.here hx rfl (hb hby at_99) rfl ((if0 _ _).trans (feq (by decide : ¬ ((1 : Int32) = (0 : Int32)))).1) ?_
    show Stp p e below T2 m 102 #[.val (.int pi1), .val (.int pi2), .val (.int ((pi1 &&& (2147483647 : Int32)) % (9 : Int32))), .val (.int (0 : Int32)), .val (.ref w_DESC), .val (.ref w_POSTGRESQL), .val (.int (1 : Int32)), .val (.int (0 : Int32)), .unset] [] _
    refine XS.iloadN X2.here hx rfl (hb hby at_102) rfl ?_
    show Stp p e below T2 m 103 #[.val (.int pi1), .val (.int pi2), .val (.int ((pi1 &&& (2147483647 : Int32)) % (9 : Int32))), .val (.int (0 : Int32)), .val (.ref w_DESC), .val (.ref w_POSTGRESQL), .val (.int (1 : Int32)), .val (.int (0 : Int32)), .unset] [(.int (0 : Int32))] _
    refine XS.istore X2.here hx rfl (hb hby at_103) rfl (l' := #[.val (.int pi1), .val (.int pi2), .val (.int ((pi1 &&& (2147483647 : Int32)) % (9 : Int32))), .val (.int (0 : Int32)), .val (.ref w_DESC), .val (.ref w_POSTGRESQL), .val (.int (1 : Int32)), .val (.int (0 : Int32)), .val (.int (0 : Int32))]) rfl ?_
    show Stp p e below T2 m 105 #[.val (.int pi1), .val (.int pi2), .val (.int ((pi1 &&& (2147483647 : Int32)) % (9 : Int32))), .val (.int (0 : Int32)), .val (.ref w_DESC), .val (.ref w_POSTGRESQL), .val (.int (1 : Int32)), .val (.int (0 : Int32)), .val (.int (0 : Int32))] [] _
    refine XS.goto X2.here hx rfl (pc0 := 105) (pc' := 130) rfl (hb hby at_105) (by decide) (by decide) ?_
    show Stp p e below T2 m 130 #[.val (.int pi1), .val (.int pi2), .val (.int ((pi1 &&& (2147483647 : Int32)) % (9 : Int32))), .val (.int (0 : Int32)), .val (.ref w_DESC), .val (.ref w_POSTGRESQL), .val (.int (1 : Int32)), .val (.int (0 : Int32)), .val (.int (0 : Int32))] [] _
    refine XS.aload X2.here hx rfl (hb hby at_130) rfl rfl ?_
    show Stp p e below T2 m 132 #[.val (.int pi1), .val (.int pi2), .val (.int ((pi1 &&& (2147483647 : Int32)) % (9 : Int32))), .val (.int (0 : Int32)), .val (.ref w_DESC), .val (.ref w_POSTGRESQL), .val (.int (1 : Int32)), .val (.int (0 : Int32)), .val (.int (0 : Int32))] [(.ref w_POSTGRESQL)] _
    refine XS.aload X2.here hx rfl (hb hby at_132) rfl rfl ?_
    show Stp p e below T2 m 134 #[.val (.int pi1), .val (.int pi2), .val (.int ((pi1 &&& (2147483647 : Int32)) % (9 : Int32))), .val (.int (0 : Int32)), .val (.ref w_DESC), .val (.ref w_POSTGRESQL), .val (.int (1 : Int32)), .val (.int (0 : Int32)), .val (.int (0 : Int32))] [(.ref w_DESC), (.ref w_POSTGRESQL)] _
    refine st3.trans ?_
    show Stp p e below T3 m 137 #[.val (.int pi1), .val (.int pi2), .val (.int ((pi1 &&& (2147483647 : Int32)) % (9 : Int32))), .val (.int (0 : Int32)), .val (.ref w_DESC), .val (.ref w_POSTGRESQL), .val (.int (1 : Int32)), .val (.int (0 : Int32)), .val (.int (0 : Int32))] [(.int (0 : Int32))] _
    refine XS.iload X3.here hx rfl (hb hby at_137) rfl ?_
    show Stp p e below T3 m 139 #[.val (.int pi1), .val (.int pi2), .val (.int ((pi1 &&& (2147483647 : Int32)) % (9 : Int32))), .val (.int (0 : Int32)), .val (.ref w_DESC), .val (.ref w_POSTGRESQL), .val (.int (1 : Int32)), .val (.int (0 : Int32)), .val (.int (0 : Int32))] [(.int (0 : Int32)), (.int (0 : Int32))] _
    refine XS.icmpNo X3.here hx rfl (hb hby at_139) rfl (teq (rfl : (0 : Int32) = (0 : Int32))).2 ?_
    show Stp p e below T3 m 142 #[.val (.int pi1), .val (.int pi2), .val (.int ((pi1 &&& (2147483647 : Int32)) % (9 : Int32))), .val (.int (0 : Int32)), .val (.ref w_DESC), .val (.ref w_POSTGRESQL), .val (.int (1 : Int32)), .val (.int (0 : Int32)), .val (.int (0 : Int32))] [] _
    refine XS.iconst X3.here hx rfl (hb hby at_142) ?_
    show Stp p e below T3 m 143 #[.val (.int pi1), .val (.int pi2), .val (.int ((pi1 &&& (2147483647 : Int32)) % (9 : Int32))), .val (.int (0 : Int32)), .val (.ref w_DESC), .val (.ref w_POSTGRESQL), .val (.int (1 : Int32)), .val (.int (0 : Int32)), .val (.int (0 : Int32))] [(.int (1 : Int32))] _
    refine XS.goto X3.here hx rfl (pc0 := 143) (pc' := 147) rfl (hb hby at_143) (by decide) (by decide) ?_
    show Stp p e below T3 m 147 #[.val (.int pi1), .val (.int pi2), .val (.int ((pi1 &&& (2147483647 : Int32)) % (9 : Int32))), .val (.int (0 : Int32)), .val (.ref w_DESC), .val (.ref w_POSTGRESQL), .val (.int (1 : Int32)), .val (.int (0 : Int32)), .val (.int (0 : Int32))] [(.int (1 : Int32))] _
    exact retN X3 hx (t := .boolean) Bd.returns (by simp) (hb hby at_147) hr
  · exact ⟨rfl, N3⟩
set_option maxRecDepth 65536 in
set_option maxHeartbeats 40000000 in
theorem rm0_fft (l : Launch) (Z : State) (a0 : Array Value) (hw : ∀ d ∈ tables_1, d.before a0 Z = true) (ws : List Jvm.Cond) (pi1 : Int32) (pi2 : Int32) (w_HIGH : Addr) (w_LOW : Addr) (w_FIRST : Addr) (w_ASC : Addr) (w_DESC : Addr) (w_POSTGRESQL : Addr) (w_MARIADB : Addr) (w_SQLITE : Addr) (w_H2 : Addr) (w_HSQLDB : Addr) (w_DERBY : Addr) (w_ORACLE : Addr) (w_SQLSERVER : Addr) (w_DB2 : Addr) (h0 : Heap) (n0 : Nat) (Z0 : n0 ≤ h0.size) (O0 : Old Z n0 h0) (S_ASC : Sta Z Z.heap "com/example/leafcount/leafcount/Sort$Direction" "ASC" "Lcom/example/leafcount/leafcount/Sort$Direction;" (.ref w_ASC)) (S_DESC : Sta Z Z.heap "com/example/leafcount/leafcount/Sort$Direction" "DESC" "Lcom/example/leafcount/leafcount/Sort$Direction;" (.ref w_DESC)) (S_POSTGRESQL : Sta Z Z.heap "com/example/leafcount/leafcount/SqlSyntax" "POSTGRESQL" "Lcom/example/leafcount/leafcount/SqlSyntax;" (.ref w_POSTGRESQL)) (S_MARIADB : Sta Z Z.heap "com/example/leafcount/leafcount/SqlSyntax" "MARIADB" "Lcom/example/leafcount/leafcount/SqlSyntax;" (.ref w_MARIADB)) (S_SQLITE : Sta Z Z.heap "com/example/leafcount/leafcount/SqlSyntax" "SQLITE" "Lcom/example/leafcount/leafcount/SqlSyntax;" (.ref w_SQLITE)) (S_H2 : Sta Z Z.heap "com/example/leafcount/leafcount/SqlSyntax" "H2" "Lcom/example/leafcount/leafcount/SqlSyntax;" (.ref w_H2)) (S_HSQLDB : Sta Z Z.heap "com/example/leafcount/leafcount/SqlSyntax" "HSQLDB" "Lcom/example/leafcount/leafcount/SqlSyntax;" (.ref w_HSQLDB)) (S_DERBY : Sta Z Z.heap "com/example/leafcount/leafcount/SqlSyntax" "DERBY" "Lcom/example/leafcount/leafcount/SqlSyntax;" (.ref w_DERBY)) (S_ORACLE : Sta Z Z.heap "com/example/leafcount/leafcount/SqlSyntax" "ORACLE" "Lcom/example/leafcount/leafcount/SqlSyntax;" (.ref w_ORACLE)) (S_SQLSERVER : Sta Z Z.heap "com/example/leafcount/leafcount/SqlSyntax" "SQLSERVER" "Lcom/example/leafcount/leafcount/SqlSyntax;" (.ref w_SQLSERVER)) (S_DB2 : Sta Z Z.heap "com/example/leafcount/leafcount/SqlSyntax" "DB2" "Lcom/example/leafcount/leafcount/SqlSyntax;" (.ref w_DB2)) (E_w_POSTGRESQL : Exa Z Z.heap w_POSTGRESQL "com/example/leafcount/leafcount/SqlSyntax") (E_w_MARIADB : Exa Z Z.heap w_MARIADB "com/example/leafcount/leafcount/SqlSyntax") (E_w_SQLITE : Exa Z Z.heap w_SQLITE "com/example/leafcount/leafcount/SqlSyntax") (E_w_H2 : Exa Z Z.heap w_H2 "com/example/leafcount/leafcount/SqlSyntax") (E_w_HSQLDB : Exa Z Z.heap w_HSQLDB "com/example/leafcount/leafcount/SqlSyntax") (E_w_DERBY : Exa Z Z.heap w_DERBY "com/example/leafcount/leafcount/SqlSyntax") (E_w_ORACLE : Exa Z Z.heap w_ORACLE "com/example/leafcount/leafcount/SqlSyntax") (E_w_SQLSERVER : Exa Z Z.heap w_SQLSERVER "com/example/leafcount/leafcount/SqlSyntax") (E_w_DB2 : Exa Z Z.heap w_DB2 "com/example/leafcount/leafcount/SqlSyntax") (F_nullOrder_w_POSTGRESQL : Fld Z Z.heap w_POSTGRESQL "com/example/leafcount/leafcount/SqlSyntax" "nullOrder" "Lcom/example/leafcount/leafcount/SqlSyntax$NullOrder;" (.ref w_HIGH)) (F_nullOrder_w_MARIADB : Fld Z Z.heap w_MARIADB "com/example/leafcount/leafcount/SqlSyntax" "nullOrder" "Lcom/example/leafcount/leafcount/SqlSyntax$NullOrder;" (.ref w_LOW)) (F_nullOrder_w_SQLITE : Fld Z Z.heap w_SQLITE "com/example/leafcount/leafcount/SqlSyntax" "nullOrder" "Lcom/example/leafcount/leafcount/SqlSyntax$NullOrder;" (.ref w_LOW)) (F_nullOrder_w_H2 : Fld Z Z.heap w_H2 "com/example/leafcount/leafcount/SqlSyntax" "nullOrder" "Lcom/example/leafcount/leafcount/SqlSyntax$NullOrder;" (.ref w_LOW)) (F_nullOrder_w_HSQLDB : Fld Z Z.heap w_HSQLDB "com/example/leafcount/leafcount/SqlSyntax" "nullOrder" "Lcom/example/leafcount/leafcount/SqlSyntax$NullOrder;" (.ref w_FIRST)) (F_nullOrder_w_DERBY : Fld Z Z.heap w_DERBY "com/example/leafcount/leafcount/SqlSyntax" "nullOrder" "Lcom/example/leafcount/leafcount/SqlSyntax$NullOrder;" (.ref w_HIGH)) (F_nullOrder_w_ORACLE : Fld Z Z.heap w_ORACLE "com/example/leafcount/leafcount/SqlSyntax" "nullOrder" "Lcom/example/leafcount/leafcount/SqlSyntax$NullOrder;" (.ref w_HIGH)) (F_nullOrder_w_SQLSERVER : Fld Z Z.heap w_SQLSERVER "com/example/leafcount/leafcount/SqlSyntax" "nullOrder" "Lcom/example/leafcount/leafcount/SqlSyntax$NullOrder;" (.ref w_LOW)) (F_nullOrder_w_DB2 : Fld Z Z.heap w_DB2 "com/example/leafcount/leafcount/SqlSyntax" "nullOrder" "Lcom/example/leafcount/leafcount/SqlSyntax$NullOrder;" (.ref w_HIGH)) (F_last_w_HIGH : Fld Z Z.heap w_HIGH "com/example/leafcount/leafcount/SqlSyntax$NullOrder" "last" "Lcom/example/leafcount/leafcount/Sort$Direction;" (.ref w_ASC)) (F_last_w_LOW : Fld Z Z.heap w_LOW "com/example/leafcount/leafcount/SqlSyntax$NullOrder" "last" "Lcom/example/leafcount/leafcount/Sort$Direction;" (.ref w_DESC)) (F_last_w_FIRST : Fld Z Z.heap w_FIRST "com/example/leafcount/leafcount/SqlSyntax$NullOrder" "last" "Lcom/example/leafcount/leafcount/Sort$Direction;" .null) (hne : w_ASC ≠ w_DESC) (hc11_0 : ¬ ((pi2 &&& (1 : Int32)) = (0 : Int32))) (hc36_1 : ¬ (((pi1 &&& (2147483647 : Int32)) % (9 : Int32)) = (0 : Int32))) (hc36_2 : ((pi1 &&& (2147483647 : Int32)) % (9 : Int32)) = (1 : Int32)) :
    MetFree l x (head1 (Jvm.Cond.code x code maxLocals ret :: ws) room_1) (fun a U => a = #[(.int pi1), (.int pi2)] ∧ Z.Warmed39 U.vm ∧ U.heap = h0) (fun _ _ _ _ _ => True) (fun _ U o U' => ∃ v L, o = .returned v ∧ Q0 v L n0 ∧ FrameEnd U o U' L room_1.cells room_1.slots) := by
  refine MetFree.of_bodySF (plainFor_of_name pn_0) hisR ?_
  intro p e s m args below meth c s₁ Bd hml0 hP hK
  obtain ⟨rfl, hZ, hh⟩ := hP
  have hx := Bd.exec
  have hby := Bd.bytes
  have hml : c.maxLocals = 9 := hml0
  have hown : s.vm.findClass "com/example/leafcount/leafcount/SqlSyntaxPutsNullLastPinLaw" = some m.cls := findClass_of_methodNamed Bd.named
  have hnm := (name_of_methodNamed Bd.named Bd.method).1
  have X0 : Stand p l e room_1 s m #[(.int pi1), (.int pi2)] below meth c s₁ [] 0 0 := Stand.of_body Bd
  have e0 : s₁.heap = h0 := by rw [← hh, Bd.state]; rfl
  have N0 := Fr.nil n0
  have pre0 : ∀ t, Steps p.tables e below (s₁.setTop (mkF m 0 #[.val (.int pi1), .val (.int pi2), .unset, .unset, .unset, .unset, .unset, .unset, .unset] [])) t → Steps p.tables e below (s₁.setTop (entryFrame m #[(.int pi1), (.int pi2)] maxLocals)) t := fun t k => castTop (ef_0 m pi1 pi2) k
  obtain ⟨T1, X1, e1, st1⟩ := getS2 X0 hx hZ hown (host := "") (Or.inl (own_W hw 1 rfl)) Via.refl e0 (S_DESC.ext O0.2) (g := (mkF m 30 #[.val (.int pi1), .val (.int pi2), .val (.int ((pi1 &&& (2147483647 : Int32)) % (9 : Int32))), .val (.int (0 : Int32)), .unset, .unset, .unset, .unset, .unset] [])) rfl (hb hby at_30)
  obtain ⟨_, _, ⟨T2, L2, k2, n2⟩, -, X2, ⟨Lc2, hQ2, l2, y2, z2⟩, st2⟩ := Jvm.LawKit.callS X1 hx (y := (⟨"com/example/leafcount/leafcount/SqlSyntaxPutsNullLastPinLaw", "pick", "(I)Lcom/example/leafcount/leafcount/SqlSyntax;"⟩ : MethodName)) hown (mvT hZ (own_W hw 4 rfl)) (mvT hZ (own_W hw 5 rfl)) (mvT hZ (own_W hw 6 rfl)) (mvT hZ (own_W hw 7 rfl)) (by decide) (backOf (W := 0) (rm1_1 l Z a0 hw [] ((pi1 &&& (2147483647 : Int32)) % (9 : Int32)) w_MARIADB h0 n0 Z0 O0 S_MARIADB hc36_1 hc36_2) hZ (own_W hw 7 rfl) (own_W hw 6 rfl) (by decide) (by decide)) (g := (mkF m 36 #[.val (.int pi1), .val (.int pi2), .val (.int ((pi1 &&& (2147483647 : Int32)) % (9 : Int32))), .val (.int (0 : Int32)), .val (.ref w_DESC), .unset, .unset, .unset, .unset] [(.int ((pi1 &&& (2147483647 : Int32)) % (9 : Int32)))])) rfl (by rw [hml]; rfl) (argsL := [(.int ((pi1 &&& (2147483647 : Int32)) % (9 : Int32)))]) (rest := []) (lenOf pd_0 rfl) rfl (by show 2 * 0 + _ ≤ _; exact Nat.le_of_eq rfl) (hb hby at_36) (fun _ _ => ⟨rfl, e1, (by decide : 0 + 0 ≤ _), (by decide : 0 + 0 ≤ _)⟩)
  dsimp only [Pt.U, Pt.locs, Pt.cells, Pt.slots] at X2 l2 y2 z2 st2 hQ2
  subst l2 y2 z2
  obtain ⟨rfl, N2q, eq2⟩ := hQ2
  have N2 := Fr.app N0 N2q
  obtain ⟨cq3, kq3, q3a, q3b, q3c⟩ := isOf hZ eq2 (E_w_MARIADB.ext O0.2)
  obtain ⟨_, _, ⟨T3, L3, k3, n3⟩, -, X3, ⟨Lc3, hQ3, l3, y3, z3⟩, st3⟩ := X2.virtualBack hx (y := (⟨"com/example/leafcount/leafcount/SqlSyntax", "putsNullLast", "(Lcom/example/leafcount/leafcount/Sort$Direction;)Z"⟩ : MethodName)) (z := (⟨"com/example/leafcount/leafcount/SqlSyntax", "putsNullLast", "(Lcom/example/leafcount/leafcount/Sort$Direction;)Z"⟩ : MethodName)) hown (mvT hZ (own_W hw 11 rfl)) (mvT hZ (own_W hw 12 rfl)) (notFace_of_selects (args := #[]) (mvT hZ (own_W hw 14 rfl))) (mvT hZ (own_W hw 14 rfl)) (mvT hZ (own_W hw 13 rfl)) (by decide) (backOf (W := 0) (rm2_t l Z a0 hw [] w_MARIADB w_DESC w_LOW w_DESC h0 n0 Z0 O0 (F_nullOrder_w_MARIADB.ext O0.2) (F_last_w_LOW.ext O0.2) rfl) hZ (own_W hw 15 rfl) (own_W hw 9 rfl) (by decide) (by decide)) q3a q3c (g := (mkF m 134 #[.val (.int pi1), .val (.int pi2), .val (.int ((pi1 &&& (2147483647 : Int32)) % (9 : Int32))), .val (.int (0 : Int32)), .val (.ref w_DESC), .val (.ref w_MARIADB), .val (.int (0 : Int32)), .val (.int (1 : Int32)), .val (.int (1 : Int32))] [(.ref w_DESC), (.ref w_MARIADB)])) rfl (by rw [hml]; rfl) (Steps.refl _) (argsL := [(.ref w_DESC)]) (rest := []) (lenOf pd_1 rfl) rfl (by show 2 * 0 + _ ≤ _; exact Nat.le_of_eq rfl) (hb hby at_134) (fun _ _ => ⟨rfl, eq2, (by decide : 0 + 0 ≤ _), (by decide : 0 + 0 ≤ _)⟩)
  dsimp only [Pt.U, Pt.locs, Pt.cells, Pt.slots] at X3 l3 y3 z3 st3 hQ3
  subst l3 y3 z3
  obtain ⟨rfl, N3q, eq3⟩ := hQ3
  have N3 := Fr.app N2 N3q
  obtain ⟨fs, hr, hrun, hended, hW, hsame⟩ := X3.leave (v := some (.int (1 : Int32))) (fun h => by rw [Bd.returns] at h; cases h)
  refine ⟨_, _, pre0 _ ?_, hrun, hended, _, _, rfl, ?_, ⟨_, rfl⟩, hW, hsame.mono (by decide) (by decide)⟩
  · show Stp p e below s₁ m 0 #[.val (.int pi1), .val (.int pi2), .unset, .unset, .unset, .unset, .unset, .unset, .unset] [] _
    refine XS.iloadN X0.here hx rfl (hb hby at_0) rfl ?_
    show Stp p e below s₁ m 1 #[.val (.int pi1), .val (.int pi2), .unset, .unset, .unset, .unset, .unset, .unset, .unset] [(.int pi1)] _
    refine X0.ldcInt hx hown (mvT hZ (own_W hw 0 rfl)) (g := (mkF m 1 #[.val (.int pi1), .val (.int pi2), .unset, .unset, .unset, .unset, .unset, .unset, .unset] [(.int pi1)])) rfl (hb hby at_1) _ ?_
    show Stp p e below s₁ m 3 #[.val (.int pi1), .val (.int pi2), .unset, .unset, .unset, .unset, .unset, .unset, .unset] [(.int (2147483647 : Int32)), (.int pi1)] _
    refine XS.iand X0.here hx rfl (hb hby at_3) rfl ?_
    show Stp p e below s₁ m 4 #[.val (.int pi1), .val (.int pi2), .unset, .unset, .unset, .unset, .unset, .unset, .unset] [(.int (pi1 &&& (2147483647 : Int32)))] _
    refine XS.bipush X0.here hx rfl (hb hby at_4) ?_
    show Stp p e below s₁ m 6 #[.val (.int pi1), .val (.int pi2), .unset, .unset, .unset, .unset, .unset, .unset, .unset] [(.int (9 : Int32)), (.int (pi1 &&& (2147483647 : Int32)))] _
    refine iremM X0 hx rfl (hb hby at_6) rfl (by decide) ?_
    show Stp p e below s₁ m 7 #[.val (.int pi1), .val (.int pi2), .unset, .unset, .unset, .unset, .unset, .unset, .unset] [(.int ((pi1 &&& (2147483647 : Int32)) % (9 : Int32)))] _
    refine XS.istoreN X0.here hx rfl (hb hby at_7) rfl (l' := #[.val (.int pi1), .val (.int pi2), .val (.int ((pi1 &&& (2147483647 : Int32)) % (9 : Int32))), .unset, .unset, .unset, .unset, .unset, .unset]) rfl ?_
    show Stp p e below s₁ m 8 #[.val (.int pi1), .val (.int pi2), .val (.int ((pi1 &&& (2147483647 : Int32)) % (9 : Int32))), .unset, .unset, .unset, .unset, .unset, .unset] [] _
    refine XS.iloadN X0.here hx rfl (hb hby at_8) rfl ?_
    show Stp p e below s₁ m 9 #[.val (.int pi1), .val (.int pi2), .val (.int ((pi1 &&& (2147483647 : Int32)) % (9 : Int32))), .unset, .unset, .unset, .unset, .unset, .unset] [(.int pi2)] _
    refine XS.iconst X0.here hx rfl (hb hby at_9) ?_
    show Stp p e below s₁ m 10 #[.val (.int pi1), .val (.int pi2), .val (.int ((pi1 &&& (2147483647 : Int32)) % (9 : Int32))), .unset, .unset, .unset, .unset, .unset, .unset] [(.int (1 : Int32)), (.int pi2)] _
    refine XS.iand X0.here hx rfl (hb hby at_10) rfl ?_
    show Stp p e below s₁ m 11 #[.val (.int pi1), .val (.int pi2), .val (.int ((pi1 &&& (2147483647 : Int32)) % (9 : Int32))), .unset, .unset, .unset, .unset, .unset, .unset] [(.int (pi2 &&& (1 : Int32)))] _
    refine XS.ifYes X0.here hx rfl (pc0 := 11) (pc' := 18) rfl (hb hby at_11) rfl ((if0 _ _).trans (feq hc11_0).2) (by decide) (by decide) ?_
    show Stp p e below s₁ m 18 #[.val (.int pi1), .val (.int pi2), .val (.int ((pi1 &&& (2147483647 : Int32)) % (9 : Int32))), .unset, .unset, .unset, .unset, .unset, .unset] [] _
    refine XS.iconst X0.here hx rfl (hb hby at_18) ?_
    show Stp p e below s₁ m 19 #[.val (.int pi1), .val (.int pi2), .val (.int ((pi1 &&& (2147483647 : Int32)) % (9 : Int32))), .unset, .unset, .unset, .unset, .unset, .unset] [(.int (0 : Int32))] _
    refine XS.istoreN X0.here hx rfl (hb hby at_19) rfl (l' := #[.val (.int pi1), .val (.int pi2), .val (.int ((pi1 &&& (2147483647 : Int32)) % (9 : Int32))), .val (.int (0 : Int32)), .unset, .unset, .unset, .unset, .unset]) rfl ?_
    show Stp p e below s₁ m 20 #[.val (.int pi1), .val (.int pi2), .val (.int ((pi1 &&& (2147483647 : Int32)) % (9 : Int32))), .val (.int (0 : Int32)), .unset, .unset, .unset, .unset, .unset] [] _
    refine XS.iloadN X0.here hx rfl (hb hby at_20) rfl ?_
    show Stp p e below s₁ m 21 #[.val (.int pi1), .val (.int pi2), .val (.int ((pi1 &&& (2147483647 : Int32)) % (9 : Int32))), .val (.int (0 : Int32)), .unset, .unset, .unset, .unset, .unset] [(.int (0 : Int32))] _
    refine XS.ifYes X0.here hx rfl (pc0 := 21) (pc' := 30) rfl (hb hby at_21) rfl ((if0 _ _).trans (teq (rfl : (0 : Int32) = (0 : Int32))).1) (by decide) (by decide) ?_
    show Stp p e below s₁ m 30 #[.val (.int pi1), .val (.int pi2), .val (.int ((pi1 &&& (2147483647 : Int32)) % (9 : Int32))), .val (.int (0 : Int32)), .unset, .unset, .unset, .unset, .unset] [] _
    refine st1 _ ?_
    show Stp p e below T1 m 33 #[.val (.int pi1), .val (.int pi2), .val (.int ((pi1 &&& (2147483647 : Int32)) % (9 : Int32))), .val (.int (0 : Int32)), .unset, .unset, .unset, .unset, .unset] [(.ref w_DESC)] _
    refine XS.astore X1.here hx rfl (hb hby at_33) rfl rfl (l' := #[.val (.int pi1), .val (.int pi2), .val (.int ((pi1 &&& (2147483647 : Int32)) % (9 : Int32))), .val (.int (0 : Int32)), .val (.ref w_DESC), .unset, .unset, .unset, .unset]) rfl ?_
    show Stp p e below T1 m 35 #[.val (.int pi1), .val (.int pi2), .val (.int ((pi1 &&& (2147483647 : Int32)) % (9 : Int32))), .val (.int (0 : Int32)), .val (.ref w_DESC), .unset, .unset, .unset, .unset] [] _
    refine XS.iloadN X1.here hx rfl (hb hby at_35) rfl ?_
    show Stp p e below T1 m 36 #[.val (.int pi1), .val (.int pi2), .val (.int ((pi1 &&& (2147483647 : Int32)) % (9 : Int32))), .val (.int (0 : Int32)), .val (.ref w_DESC), .unset, .unset, .unset, .unset] [(.int ((pi1 &&& (2147483647 : Int32)) % (9 : Int32)))] _
    refine st2 _ ?_
    show Stp p e below T2 m 39 #[.val (.int pi1), .val (.int pi2), .val (.int ((pi1 &&& (2147483647 : Int32)) % (9 : Int32))), .val (.int (0 : Int32)), .val (.ref w_DESC), .unset, .unset, .unset, .unset] [(.ref w_MARIADB)] _
    refine XS.astore X2.here hx rfl (hb hby at_39) rfl rfl (l' := #[.val (.int pi1), .val (.int pi2), .val (.int ((pi1 &&& (2147483647 : Int32)) % (9 : Int32))), .val (.int (0 : Int32)), .val (.ref w_DESC), .val (.ref w_MARIADB), .unset, .unset, .unset]) rfl ?_
    show Stp p e below T2 m 41 #[.val (.int pi1), .val (.int pi2), .val (.int ((pi1 &&& (2147483647 : Int32)) % (9 : Int32))), .val (.int (0 : Int32)), .val (.ref w_DESC), .val (.ref w_MARIADB), .unset, .unset, .unset] [] _
    refine XS.iloadN X2.here hx rfl (hb hby at_41) rfl ?_
    show Stp p e below T2 m 42 #[.val (.int pi1), .val (.int pi2), .val (.int ((pi1 &&& (2147483647 : Int32)) % (9 : Int32))), .val (.int (0 : Int32)), .val (.ref w_DESC), .val (.ref w_MARIADB), .unset, .unset, .unset] [(.int ((pi1 &&& (2147483647 : Int32)) % (9 : Int32)))] _
    refine XS.ifNo X2.here hx rfl (hb hby at_42) rfl ((if0 _ _).trans (feq hc36_1).1) ?_
    show Stp p e below T2 m 45 #[.val (.int pi1), .val (.int pi2), .val (.int ((pi1 &&& (2147483647 : Int32)) % (9 : Int32))), .val (.int (0 : Int32)), .val (.ref w_DESC), .val (.ref w_MARIADB), .unset, .unset, .unset] [] _
    refine XS.iloadN X2.here hx rfl (hb hby at_45) rfl ?_
    show Stp p e below T2 m 46 #[.val (.int pi1), .val (.int pi2), .val (.int ((pi1 &&& (2147483647 : Int32)) % (9 : Int32))), .val (.int (0 : Int32)), .val (.ref w_DESC), .val (.ref w_MARIADB), .unset, .unset, .unset] [(.int ((pi1 &&& (2147483647 : Int32)) % (9 : Int32)))] _
    refine XS.iconst X2.here hx rfl (hb hby at_46) ?_
    show Stp p e below T2 m 47 #[.val (.int pi1), .val (.int pi2), .val (.int ((pi1 &&& (2147483647 : Int32)) % (9 : Int32))), .val (.int (0 : Int32)), .val (.ref w_DESC), .val (.ref w_MARIADB), .unset, .unset, .unset] [(.int (5 : Int32)), (.int ((pi1 &&& (2147483647 : Int32)) % (9 : Int32)))] _
    refine XS.icmpNo X2.here hx rfl (hb hby at_47) rfl (feq (fun q => absurd (hc36_2.symm.trans q) (by decide))).1 ?_
    show Stp p e below T2 m 50 #[.val (.int pi1), .val (.int pi2), .val (.int ((pi1 &&& (2147483647 : Int32)) % (9 : Int32))), .val (.int (0 : Int32)), .val (.ref w_DESC), .val (.ref w_MARIADB), .unset, .unset, .unset] [] _
    refine XS.iloadN X2.here hx rfl (hb hby at_50) rfl ?_
    show Stp p e below T2 m 51 #[.val (.int pi1), .val (.int pi2), .val (.int ((pi1 &&& (2147483647 : Int32)) % (9 : Int32))), .val (.int (0 : Int32)), .val (.ref w_DESC), .val (.ref w_MARIADB), .unset, .unset, .unset] [(.int ((pi1 &&& (2147483647 : Int32)) % (9 : Int32)))] _
    refine XS.bipush X2.here hx rfl (hb hby at_51) ?_
    show Stp p e below T2 m 53 #[.val (.int pi1), .val (.int pi2), .val (.int ((pi1 &&& (2147483647 : Int32)) % (9 : Int32))), .val (.int (0 : Int32)), .val (.ref w_DESC), .val (.ref w_MARIADB), .unset, .unset, .unset] [(.int (6 : Int32)), (.int ((pi1 &&& (2147483647 : Int32)) % (9 : Int32)))] _
    refine XS.icmpNo X2.here hx rfl (hb hby at_53) rfl (feq (fun q => absurd (hc36_2.symm.trans q) (by decide))).1 ?_
    show Stp p e below T2 m 56 #[.val (.int pi1), .val (.int pi2), .val (.int ((pi1 &&& (2147483647 : Int32)) % (9 : Int32))), .val (.int (0 : Int32)), .val (.ref w_DESC), .val (.ref w_MARIADB), .unset, .unset, .unset] [] _
    refine XS.iloadN X2.here hx rfl (hb hby at_56) rfl ?_
    show Stp p e below T2 m 57 #[.val (.int pi1), .val (.int pi2), .val (.int ((pi1 &&& (2147483647 : Int32)) % (9 : Int32))), .val (.int (0 : Int32)), .val (.ref w_DESC), .val (.ref w_MARIADB), .unset, .unset, .unset] [(.int ((pi1 &&& (2147483647 : Int32)) % (9 : Int32)))] _
    refine XS.bipush X2.here hx rfl (hb hby at_57) ?_
    show Stp p e below T2 m 59 #[.val (.int pi1), .val (.int pi2), .val (.int ((pi1 &&& (2147483647 : Int32)) % (9 : Int32))), .val (.int (0 : Int32)), .val (.ref w_DESC), .val (.ref w_MARIADB), .unset, .unset, .unset] [(.int (8 : Int32)), (.int ((pi1 &&& (2147483647 : Int32)) % (9 : Int32)))] _
    refine XS.icmpYes X2.here hx rfl (pc0 := 59) (pc' := 66) rfl (hb hby at_59) rfl (feq (fun q => absurd (hc36_2.symm.trans q) (by decide))).2 (by decide) (by decide) ?_
    show Stp p e below T2 m 66 #[.val (.int pi1), .val (.int pi2), .val (.int ((pi1 &&& (2147483647 : Int32)) % (9 : Int32))), .val (.int (0 : Int32)), .val (.ref w_DESC), .val (.ref w_MARIADB), .unset, .unset, .unset] [] _
    refine XS.iconst X2.here hx rfl (hb hby at_66) ?_
    show Stp p e below T2 m 67 #[.val (.int pi1), .val (.int pi2), .val (.int ((pi1 &&& (2147483647 : Int32)) % (9 : Int32))), .val (.int (0 : Int32)), .val (.ref w_DESC), .val (.ref w_MARIADB), .unset, .unset, .unset] [(.int (0 : Int32))] _
    refine XS.istore X2.here hx rfl (hb hby at_67) rfl (l' := #[.val (.int pi1), .val (.int pi2), .val (.int ((pi1 &&& (2147483647 : Int32)) % (9 : Int32))), .val (.int (0 : Int32)), .val (.ref w_DESC), .val (.ref w_MARIADB), .val (.int (0 : Int32)), .unset, .unset]) rfl ?_
    show Stp p e below T2 m 69 #[.val (.int pi1), .val (.int pi2), .val (.int ((pi1 &&& (2147483647 : Int32)) % (9 : Int32))), .val (.int (0 : Int32)), .val (.ref w_DESC), .val (.ref w_MARIADB), .val (.int (0 : Int32)), .unset, .unset] [] _
    refine XS.iloadN X2.here hx rfl (hb hby at_69) rfl ?_
    show Stp p e below T2 m 70 #[.val (.int pi1), .val (.int pi2), .val (.int ((pi1 &&& (2147483647 : Int32)) % (9 : Int32))), .val (.int (0 : Int32)), .val (.ref w_DESC), .val (.ref w_MARIADB), .val (.int (0 : Int32)), .unset, .unset] [(.int ((pi1 &&& (2147483647 : Int32)) % (9 : Int32)))] _
    refine XS.iconst X2.here hx rfl (hb hby at_70) ?_
    show Stp p e below T2 m 71 #[.val (.int pi1), .val (.int pi2), .val (.int ((pi1 &&& (2147483647 : Int32)) % (9 : Int32))), .val (.int (0 : Int32)), .val (.ref w_DESC), .val (.ref w_MARIADB), .val (.int (0 : Int32)), .unset, .unset] [(.int (1 : Int32)), (.int ((pi1 &&& (2147483647 : Int32)) % (9 : Int32)))] _
    refine XS.icmpYes X2.here hx rfl (pc0 := 71) (pc' := 90) rfl (hb hby at_71) rfl (teq hc36_2).1 (by decide) (by decide) ?_
    show Stp p e below T2 m 90 #[.val (.int pi1), .val (.int pi2), .val (.int ((pi1 &&& (2147483647 : Int32)) % (9 : Int32))), .val (.int (0 : Int32)), .val (.ref w_DESC), .val (.ref w_MARIADB), .val (.int (0 : Int32)), .unset, .unset] [] _
    refine XS.iconst X2.here hx rfl (hb hby at_90) ?_
    show Stp p e below T2 m 91 #[.val (.int pi1), .val (.int pi2), .val (.int ((pi1 &&& (2147483647 : Int32)) % (9 : Int32))), .val (.int (0 : Int32)), .val (.ref w_DESC), .val (.ref w_MARIADB), .val (.int (0 : Int32)), .unset, .unset] [(.int (1 : Int32))] _
    refine XS.goto X2.here hx rfl (pc0 := 91) (pc' := 95) rfl (hb hby at_91) (by decide) (by decide) ?_
    show Stp p e below T2 m 95 #[.val (.int pi1), .val (.int pi2), .val (.int ((pi1 &&& (2147483647 : Int32)) % (9 : Int32))), .val (.int (0 : Int32)), .val (.ref w_DESC), .val (.ref w_MARIADB), .val (.int (0 : Int32)), .unset, .unset] [(.int (1 : Int32))] _
    refine XS.istore X2.here hx rfl (hb hby at_95) rfl (l' := #[.val (.int pi1), .val (.int pi2), .val (.int ((pi1 &&& (2147483647 : Int32)) % (9 : Int32))), .val (.int (0 : Int32)), .val (.ref w_DESC), .val (.ref w_MARIADB), .val (.int (0 : Int32)), .val (.int (1 : Int32)), .unset]) rfl ?_
    show Stp p e below T2 m 97 #[.val (.int pi1), .val (.int pi2), .val (.int ((pi1 &&& (2147483647 : Int32)) % (9 : Int32))), .val (.int (0 : Int32)), .val (.ref w_DESC), .val (.ref w_MARIADB), .val (.int (0 : Int32)), .val (.int (1 : Int32)), .unset] [] _
    refine XS.iload X2.here hx rfl (hb hby at_97) rfl ?_
    show Stp p e below T2 m 99 #[.val (.int pi1), .val (.int pi2), .val (.int ((pi1 &&& (2147483647 : Int32)) % (9 : Int32))), .val (.int (0 : Int32)), .val (.ref w_DESC), .val (.ref w_MARIADB), .val (.int (0 : Int32)), .val (.int (1 : Int32)), .unset] [(.int (0 : Int32))] _
    refine XS.ifYes X2.here hx rfl (pc0 := 99) (pc' := 108) rfl (hb hby at_99) rfl ((if0 _ _).trans (teq (rfl : (0 : Int32) = (0 : Int32))).1) (by decide) (by decide) ?_
    show Stp p e below T2 m 108 #[.val (.int pi1), .val (.int pi2), .val (.int ((pi1 &&& (2147483647 : Int32)) % (9 : Int32))), .val (.int (0 : Int32)), .val (.ref w_DESC), .val (.ref w_MARIADB), .val (.int (0 : Int32)), .val (.int (1 : Int32)), .unset] [] _
    refine XS.iload X2.here hx rfl (hb hby at_108) rfl ?_
    show Stp p e below T2 m 110 #[.val (.int pi1), .val (.int pi2), .val (.int ((pi1 &&& (2147483647 : Int32)) % (9 : Int32))), .val (.int (0 : Int32)), .val (.ref w_DESC), .val (.ref w_MARIADB), .val (.int (0 : Int32)), .val (.int (1 : Int32)), .unset] [(.int (1 : Int32))] _
    refine XS.ifNo X2.here hx rfl (hb hby at_110) rfl ((if0 _ _).trans (feq (by decide : ¬ ((1 : Int32) = (0 : Int32)))).1) ?_
    show Stp p e below T2 m 113 #[.val (.int pi1), .val (.int pi2), .val (.int ((pi1 &&& (2147483647 : Int32)) % (9 : Int32))), .val (.int (0 : Int32)), .val (.ref w_DESC), .val (.ref w_MARIADB), .val (.int (0 : Int32)), .val (.int (1 : Int32)), .unset] [] _
    refine XS.iloadN X2.here hx rfl (hb hby at_113) rfl ?_
    show Stp p e below T2 m 114 #[.val (.int pi1), .val (.int pi2), .val (.int ((pi1 &&& (2147483647 : Int32)) % (9 : Int32))), .val (.int (0 : Int32)), .val (.ref w_DESC), .val (.ref w_MARIADB), .val (.int (0 : Int32)), .val (.int (1 : Int32)), .unset] [(.int (0 : Int32))] _
    refine XS.ifNo X2.here hx rfl (hb hby at_114) rfl ((if0 _ _).trans (teq (rfl : (0 : Int32) = (0 : Int32))).2) ?_
    show Stp p e below T2 m 117 #[.val (.int pi1), .val (.int pi2), .val (.int ((pi1 &&& (2147483647 : Int32)) % (9 : Int32))), .val (.int (0 : Int32)), .val (.ref w_DESC), .val (.ref w_MARIADB), .val (.int (0 : Int32)), .val (.int (1 : Int32)), .unset] [] _
    refine XS.iconst X2.here hx rfl (hb hby at_117) ?_
    show Stp p e below T2 m 118 #[.val (.int pi1), .val (.int pi2), .val (.int ((pi1 &&& (2147483647 : Int32)) % (9 : Int32))), .val (.int (0 : Int32)), .val (.ref w_DESC), .val (.ref w_MARIADB), .val (.int (0 : Int32)), .val (.int (1 : Int32)), .unset] [(.int (1 : Int32))] _
    refine XS.goto X2.here hx rfl (pc0 := 118) (pc' := 122) rfl (hb hby at_118) (by decide) (by decide) ?_
    show Stp p e below T2 m 122 #[.val (.int pi1), .val (.int pi2), .val (.int ((pi1 &&& (2147483647 : Int32)) % (9 : Int32))), .val (.int (0 : Int32)), .val (.ref w_DESC), .val (.ref w_MARIADB), .val (.int (0 : Int32)), .val (.int (1 : Int32)), .unset] [(.int (1 : Int32))] _
    refine XS.istore X2.here hx rfl (hb hby at_122) rfl (l' := #[.val (.int pi1), .val (.int pi2), .val (.int ((pi1 &&& (2147483647 : Int32)) % (9 : Int32))), .val (.int (0 : Int32)), .val (.ref w_DESC), .val (.ref w_MARIADB), .val (.int (0 : Int32)), .val (.int (1 : Int32)), .val (.int (1 : Int32))]) rfl ?_
    show Stp p e below T2 m 124 #[.val (.int pi1), .val (.int pi2), .val (.int ((pi1 &&& (2147483647 : Int32)) % (9 : Int32))), .val (.int (0 : Int32)), .val (.ref w_DESC), .val (.ref w_MARIADB), .val (.int (0 : Int32)), .val (.int (1 : Int32)), .val (.int (1 : Int32))] [] _
    refine XS.goto X2.here hx rfl (pc0 := 124) (pc' := 130) rfl (hb hby at_124) (by decide) (by decide) ?_
    show Stp p e below T2 m 130 #[.val (.int pi1), .val (.int pi2), .val (.int ((pi1 &&& (2147483647 : Int32)) % (9 : Int32))), .val (.int (0 : Int32)), .val (.ref w_DESC), .val (.ref w_MARIADB), .val (.int (0 : Int32)), .val (.int (1 : Int32)), .val (.int (1 : Int32))] [] _
    refine XS.aload X2.here hx rfl (hb hby at_130) rfl rfl ?_
    show Stp p e below T2 m 132 #[.val (.int pi1), .val (.int pi2), .val (.int ((pi1 &&& (2147483647 : Int32)) % (9 : Int32))), .val (.int (0 : Int32)), .val (.ref w_DESC), .val (.ref w_MARIADB), .val (.int (0 : Int32)), .val (.int (1 : Int32)), .val (.int (1 : Int32))] [(.ref w_MARIADB)] _
    refine XS.aload X2.here hx rfl (hb hby at_132) rfl rfl ?_
    show Stp p e below T2 m 134 #[.val (.int pi1), .val (.int pi2), .val (.int ((pi1 &&& (2147483647 : Int32)) % (9 : Int32))), .val (.int (0 : Int32)), .val (.ref w_DESC), .val (.ref w_MARIADB), .val (.int (0 : Int32)), .val (.int (1 : Int32)), .val (.int (1 : Int32))] [(.ref w_DESC), (.ref w_MARIADB)] _
    refine st3.trans ?_
    show Stp p e below T3 m 137 #[.val (.int pi1), .val (.int pi2), .val (.int ((pi1 &&& (2147483647 : Int32)) % (9 : Int32))), .val (.int (0 : Int32)), .val (.ref w_DESC), .val (.ref w_MARIADB), .val (.int (0 : Int32)), .val (.int (1 : Int32)), .val (.int (1 : Int32))] [(.int (1 : Int32))] _
    refine XS.iload X3.here hx rfl (hb hby at_137) rfl ?_
    show Stp p e below T3 m 139 #[.val (.int pi1), .val (.int pi2), .val (.int ((pi1 &&& (2147483647 : Int32)) % (9 : Int32))), .val (.int (0 : Int32)), .val (.ref w_DESC), .val (.ref w_MARIADB), .val (.int (0 : Int32)), .val (.int (1 : Int32)), .val (.int (1 : Int32))] [(.int (1 : Int32)), (.int (1 : Int32))] _
    refine XS.icmpNo X3.here hx rfl (hb hby at_139) rfl (teq (rfl : (1 : Int32) = (1 : Int32))).2 ?_
    show Stp p e below T3 m 142 #[.val (.int pi1), .val (.int pi2), .val (.int ((pi1 &&& (2147483647 : Int32)) % (9 : Int32))), .val (.int (0 : Int32)), .val (.ref w_DESC), .val (.ref w_MARIADB), .val (.int (0 : Int32)), .val (.int (1 : Int32)), .val (.int (1 : Int32))] [] _
    refine XS.iconst X3.here hx rfl (hb hby at_142) ?_
    show Stp p e below T3 m 143 #[.val (.int pi1), .val (.int pi2), .val (.int ((pi1 &&& (2147483647 : Int32)) % (9 : Int32))), .val (.int (0 : Int32)), .val (.ref w_DESC), .val (.ref w_MARIADB), .val (.int (0 : Int32)), .val (.int (1 : Int32)), .val (.int (1 : Int32))] [(.int (1 : Int32))] _
    refine XS.goto X3.here hx rfl (pc0 := 143) (pc' := 147) rfl (hb hby at_143) (by decide) (by decide) ?_
    show Stp p e below T3 m 147 #[.val (.int pi1), .val (.int pi2), .val (.int ((pi1 &&& (2147483647 : Int32)) % (9 : Int32))), .val (.int (0 : Int32)), .val (.ref w_DESC), .val (.ref w_MARIADB), .val (.int (0 : Int32)), .val (.int (1 : Int32)), .val (.int (1 : Int32))] [(.int (1 : Int32))] _
    exact retN X3 hx (t := .boolean) Bd.returns (by simp) (hb hby at_147) hr
  · exact ⟨rfl, N3⟩
set_option maxRecDepth 65536 in
set_option maxHeartbeats 40000000 in
theorem rm0_ffft (l : Launch) (Z : State) (a0 : Array Value) (hw : ∀ d ∈ tables_1, d.before a0 Z = true) (ws : List Jvm.Cond) (pi1 : Int32) (pi2 : Int32) (w_HIGH : Addr) (w_LOW : Addr) (w_FIRST : Addr) (w_ASC : Addr) (w_DESC : Addr) (w_POSTGRESQL : Addr) (w_MARIADB : Addr) (w_SQLITE : Addr) (w_H2 : Addr) (w_HSQLDB : Addr) (w_DERBY : Addr) (w_ORACLE : Addr) (w_SQLSERVER : Addr) (w_DB2 : Addr) (h0 : Heap) (n0 : Nat) (Z0 : n0 ≤ h0.size) (O0 : Old Z n0 h0) (S_ASC : Sta Z Z.heap "com/example/leafcount/leafcount/Sort$Direction" "ASC" "Lcom/example/leafcount/leafcount/Sort$Direction;" (.ref w_ASC)) (S_DESC : Sta Z Z.heap "com/example/leafcount/leafcount/Sort$Direction" "DESC" "Lcom/example/leafcount/leafcount/Sort$Direction;" (.ref w_DESC)) (S_POSTGRESQL : Sta Z Z.heap "com/example/leafcount/leafcount/SqlSyntax" "POSTGRESQL" "Lcom/example/leafcount/leafcount/SqlSyntax;" (.ref w_POSTGRESQL)) (S_MARIADB : Sta Z Z.heap "com/example/leafcount/leafcount/SqlSyntax" "MARIADB" "Lcom/example/leafcount/leafcount/SqlSyntax;" (.ref w_MARIADB)) (S_SQLITE : Sta Z Z.heap "com/example/leafcount/leafcount/SqlSyntax" "SQLITE" "Lcom/example/leafcount/leafcount/SqlSyntax;" (.ref w_SQLITE)) (S_H2 : Sta Z Z.heap "com/example/leafcount/leafcount/SqlSyntax" "H2" "Lcom/example/leafcount/leafcount/SqlSyntax;" (.ref w_H2)) (S_HSQLDB : Sta Z Z.heap "com/example/leafcount/leafcount/SqlSyntax" "HSQLDB" "Lcom/example/leafcount/leafcount/SqlSyntax;" (.ref w_HSQLDB)) (S_DERBY : Sta Z Z.heap "com/example/leafcount/leafcount/SqlSyntax" "DERBY" "Lcom/example/leafcount/leafcount/SqlSyntax;" (.ref w_DERBY)) (S_ORACLE : Sta Z Z.heap "com/example/leafcount/leafcount/SqlSyntax" "ORACLE" "Lcom/example/leafcount/leafcount/SqlSyntax;" (.ref w_ORACLE)) (S_SQLSERVER : Sta Z Z.heap "com/example/leafcount/leafcount/SqlSyntax" "SQLSERVER" "Lcom/example/leafcount/leafcount/SqlSyntax;" (.ref w_SQLSERVER)) (S_DB2 : Sta Z Z.heap "com/example/leafcount/leafcount/SqlSyntax" "DB2" "Lcom/example/leafcount/leafcount/SqlSyntax;" (.ref w_DB2)) (E_w_POSTGRESQL : Exa Z Z.heap w_POSTGRESQL "com/example/leafcount/leafcount/SqlSyntax") (E_w_MARIADB : Exa Z Z.heap w_MARIADB "com/example/leafcount/leafcount/SqlSyntax") (E_w_SQLITE : Exa Z Z.heap w_SQLITE "com/example/leafcount/leafcount/SqlSyntax") (E_w_H2 : Exa Z Z.heap w_H2 "com/example/leafcount/leafcount/SqlSyntax") (E_w_HSQLDB : Exa Z Z.heap w_HSQLDB "com/example/leafcount/leafcount/SqlSyntax") (E_w_DERBY : Exa Z Z.heap w_DERBY "com/example/leafcount/leafcount/SqlSyntax") (E_w_ORACLE : Exa Z Z.heap w_ORACLE "com/example/leafcount/leafcount/SqlSyntax") (E_w_SQLSERVER : Exa Z Z.heap w_SQLSERVER "com/example/leafcount/leafcount/SqlSyntax") (E_w_DB2 : Exa Z Z.heap w_DB2 "com/example/leafcount/leafcount/SqlSyntax") (F_nullOrder_w_POSTGRESQL : Fld Z Z.heap w_POSTGRESQL "com/example/leafcount/leafcount/SqlSyntax" "nullOrder" "Lcom/example/leafcount/leafcount/SqlSyntax$NullOrder;" (.ref w_HIGH)) (F_nullOrder_w_MARIADB : Fld Z Z.heap w_MARIADB "com/example/leafcount/leafcount/SqlSyntax" "nullOrder" "Lcom/example/leafcount/leafcount/SqlSyntax$NullOrder;" (.ref w_LOW)) (F_nullOrder_w_SQLITE : Fld Z Z.heap w_SQLITE "com/example/leafcount/leafcount/SqlSyntax" "nullOrder" "Lcom/example/leafcount/leafcount/SqlSyntax$NullOrder;" (.ref w_LOW)) (F_nullOrder_w_H2 : Fld Z Z.heap w_H2 "com/example/leafcount/leafcount/SqlSyntax" "nullOrder" "Lcom/example/leafcount/leafcount/SqlSyntax$NullOrder;" (.ref w_LOW)) (F_nullOrder_w_HSQLDB : Fld Z Z.heap w_HSQLDB "com/example/leafcount/leafcount/SqlSyntax" "nullOrder" "Lcom/example/leafcount/leafcount/SqlSyntax$NullOrder;" (.ref w_FIRST)) (F_nullOrder_w_DERBY : Fld Z Z.heap w_DERBY "com/example/leafcount/leafcount/SqlSyntax" "nullOrder" "Lcom/example/leafcount/leafcount/SqlSyntax$NullOrder;" (.ref w_HIGH)) (F_nullOrder_w_ORACLE : Fld Z Z.heap w_ORACLE "com/example/leafcount/leafcount/SqlSyntax" "nullOrder" "Lcom/example/leafcount/leafcount/SqlSyntax$NullOrder;" (.ref w_HIGH)) (F_nullOrder_w_SQLSERVER : Fld Z Z.heap w_SQLSERVER "com/example/leafcount/leafcount/SqlSyntax" "nullOrder" "Lcom/example/leafcount/leafcount/SqlSyntax$NullOrder;" (.ref w_LOW)) (F_nullOrder_w_DB2 : Fld Z Z.heap w_DB2 "com/example/leafcount/leafcount/SqlSyntax" "nullOrder" "Lcom/example/leafcount/leafcount/SqlSyntax$NullOrder;" (.ref w_HIGH)) (F_last_w_HIGH : Fld Z Z.heap w_HIGH "com/example/leafcount/leafcount/SqlSyntax$NullOrder" "last" "Lcom/example/leafcount/leafcount/Sort$Direction;" (.ref w_ASC)) (F_last_w_LOW : Fld Z Z.heap w_LOW "com/example/leafcount/leafcount/SqlSyntax$NullOrder" "last" "Lcom/example/leafcount/leafcount/Sort$Direction;" (.ref w_DESC)) (F_last_w_FIRST : Fld Z Z.heap w_FIRST "com/example/leafcount/leafcount/SqlSyntax$NullOrder" "last" "Lcom/example/leafcount/leafcount/Sort$Direction;" .null) (hne : w_ASC ≠ w_DESC) (hc11_0 : ¬ ((pi2 &&& (1 : Int32)) = (0 : Int32))) (hc36_1 : ¬ (((pi1 &&& (2147483647 : Int32)) % (9 : Int32)) = (0 : Int32))) (hc36_2 : ¬ (((pi1 &&& (2147483647 : Int32)) % (9 : Int32)) = (1 : Int32))) (hc36_3 : ((pi1 &&& (2147483647 : Int32)) % (9 : Int32)) = (2 : Int32)) :
    MetFree l x (head1 (Jvm.Cond.code x code maxLocals ret :: ws) room_1) (fun a U => a = #[(.int pi1), (.int pi2)] ∧ Z.Warmed39 U.vm ∧ U.heap = h0) (fun _ _ _ _ _ => True) (fun _ U o U' => ∃ v L, o = .returned v ∧ Q0 v L n0 ∧ FrameEnd U o U' L room_1.cells room_1.slots) := by
  refine MetFree.of_bodySF (plainFor_of_name pn_0) hisR ?_
  intro p e s m args below meth c s₁ Bd hml0 hP hK
  obtain ⟨rfl, hZ, hh⟩ := hP
  have hx := Bd.exec
  have hby := Bd.bytes
  have hml : c.maxLocals = 9 := hml0
  have hown : s.vm.findClass "com/example/leafcount/leafcount/SqlSyntaxPutsNullLastPinLaw" = some m.cls := findClass_of_methodNamed Bd.named
  have hnm := (name_of_methodNamed Bd.named Bd.method).1
  have X0 : Stand p l e room_1 s m #[(.int pi1), (.int pi2)] below meth c s₁ [] 0 0 := Stand.of_body Bd
  have e0 : s₁.heap = h0 := by rw [← hh, Bd.state]; rfl
  have N0 := Fr.nil n0
  have pre0 : ∀ t, Steps p.tables e below (s₁.setTop (mkF m 0 #[.val (.int pi1), .val (.int pi2), .unset, .unset, .unset, .unset, .unset, .unset, .unset] [])) t → Steps p.tables e below (s₁.setTop (entryFrame m #[(.int pi1), (.int pi2)] maxLocals)) t := fun t k => castTop (ef_0 m pi1 pi2) k
  obtain ⟨T1, X1, e1, st1⟩ := getS2 X0 hx hZ hown (host := "") (Or.inl (own_W hw 1 rfl)) Via.refl e0 (S_DESC.ext O0.2) (g := (mkF m 30 #[.val (.int pi1), .val (.int pi2), .val (.int ((pi1 &&& (2147483647 : Int32)) % (9 : Int32))), .val (.int (0 : Int32)), .unset, .unset, .unset, .unset, .unset] [])) rfl (hb hby at_30)
  obtain ⟨_, _, ⟨T2, L2, k2, n2⟩, -, X2, ⟨Lc2, hQ2, l2, y2, z2⟩, st2⟩ := Jvm.LawKit.callS X1 hx (y := (⟨"com/example/leafcount/leafcount/SqlSyntaxPutsNullLastPinLaw", "pick", "(I)Lcom/example/leafcount/leafcount/SqlSyntax;"⟩ : MethodName)) hown (mvT hZ (own_W hw 4 rfl)) (mvT hZ (own_W hw 5 rfl)) (mvT hZ (own_W hw 6 rfl)) (mvT hZ (own_W hw 7 rfl)) (by decide) (backOf (W := 0) (rm1_2 l Z a0 hw [] ((pi1 &&& (2147483647 : Int32)) % (9 : Int32)) w_SQLITE h0 n0 Z0 O0 S_SQLITE hc36_1 hc36_2 hc36_3) hZ (own_W hw 7 rfl) (own_W hw 6 rfl) (by decide) (by decide)) (g := (mkF m 36 #[.val (.int pi1), .val (.int pi2), .val (.int ((pi1 &&& (2147483647 : Int32)) % (9 : Int32))), .val (.int (0 : Int32)), .val (.ref w_DESC), .unset, .unset, .unset, .unset] [(.int ((pi1 &&& (2147483647 : Int32)) % (9 : Int32)))])) rfl (by rw [hml]; rfl) (argsL := [(.int ((pi1 &&& (2147483647 : Int32)) % (9 : Int32)))]) (rest := []) (lenOf pd_0 rfl) rfl (by show 2 * 0 + _ ≤ _; exact Nat.le_of_eq rfl) (hb hby at_36) (fun _ _ => ⟨rfl, e1, (by decide : 0 + 0 ≤ _), (by decide : 0 + 0 ≤ _)⟩)
  dsimp only [Pt.U, Pt.locs, Pt.cells, Pt.slots] at X2 l2 y2 z2 st2 hQ2
  subst l2 y2 z2
  obtain ⟨rfl, N2q, eq2⟩ := hQ2
  have N2 := Fr.app N0 N2q
  obtain ⟨cq3, kq3, q3a, q3b, q3c⟩ := isOf hZ eq2 (E_w_SQLITE.ext O0.2)
  obtain ⟨_, _, ⟨T3, L3, k3, n3⟩, -, X3, ⟨Lc3, hQ3, l3, y3, z3⟩, st3⟩ := X2.virtualBack hx (y := (⟨"com/example/leafcount/leafcount/SqlSyntax", "putsNullLast", "(Lcom/example/leafcount/leafcount/Sort$Direction;)Z"⟩ : MethodName)) (z := (⟨"com/example/leafcount/leafcount/SqlSyntax", "putsNullLast", "(Lcom/example/leafcount/leafcount/Sort$Direction;)Z"⟩ : MethodName)) hown (mvT hZ (own_W hw 11 rfl)) (mvT hZ (own_W hw 12 rfl)) (notFace_of_selects (args := #[]) (mvT hZ (own_W hw 14 rfl))) (mvT hZ (own_W hw 14 rfl)) (mvT hZ (own_W hw 13 rfl)) (by decide) (backOf (W := 0) (rm2_t l Z a0 hw [] w_SQLITE w_DESC w_LOW w_DESC h0 n0 Z0 O0 (F_nullOrder_w_SQLITE.ext O0.2) (F_last_w_LOW.ext O0.2) rfl) hZ (own_W hw 15 rfl) (own_W hw 9 rfl) (by decide) (by decide)) q3a q3c (g := (mkF m 134 #[.val (.int pi1), .val (.int pi2), .val (.int ((pi1 &&& (2147483647 : Int32)) % (9 : Int32))), .val (.int (0 : Int32)), .val (.ref w_DESC), .val (.ref w_SQLITE), .val (.int (0 : Int32)), .val (.int (1 : Int32)), .val (.int (1 : Int32))] [(.ref w_DESC), (.ref w_SQLITE)])) rfl (by rw [hml]; rfl) (Steps.refl _) (argsL := [(.ref w_DESC)]) (rest := []) (lenOf pd_1 rfl) rfl (by show 2 * 0 + _ ≤ _; exact Nat.le_of_eq rfl) (hb hby at_134) (fun _ _ => ⟨rfl, eq2, (by decide : 0 + 0 ≤ _), (by decide : 0 + 0 ≤ _)⟩)
  dsimp only [Pt.U, Pt.locs, Pt.cells, Pt.slots] at X3 l3 y3 z3 st3 hQ3
  subst l3 y3 z3
  obtain ⟨rfl, N3q, eq3⟩ := hQ3
  have N3 := Fr.app N2 N3q
  obtain ⟨fs, hr, hrun, hended, hW, hsame⟩ := X3.leave (v := some (.int (1 : Int32))) (fun h => by rw [Bd.returns] at h; cases h)
  refine ⟨_, _, pre0 _ ?_, hrun, hended, _, _, rfl, ?_, ⟨_, rfl⟩, hW, hsame.mono (by decide) (by decide)⟩
  · show Stp p e below s₁ m 0 #[.val (.int pi1), .val (.int pi2), .unset, .unset, .unset, .unset, .unset, .unset, .unset] [] _
    refine XS.iloadN X0.here hx rfl (hb hby at_0) rfl ?_
    show Stp p e below s₁ m 1 #[.val (.int pi1), .val (.int pi2), .unset, .unset, .unset, .unset, .unset, .unset, .unset] [(.int pi1)] _
    refine X0.ldcInt hx hown (mvT hZ (own_W hw 0 rfl)) (g := (mkF m 1 #[.val (.int pi1), .val (.int pi2), .unset, .unset, .unset, .unset, .unset, .unset, .unset] [(.int pi1)])) rfl (hb hby at_1) _ ?_
    show Stp p e below s₁ m 3 #[.val (.int pi1), .val (.int pi2), .unset, .unset, .unset, .unset, .unset, .unset, .unset] [(.int (2147483647 : Int32)), (.int pi1)] _
    refine XS.iand X0.here hx rfl (hb hby at_3) rfl ?_
    show Stp p e below s₁ m 4 #[.val (.int pi1), .val (.int pi2), .unset, .unset, .unset, .unset, .unset, .unset, .unset] [(.int (pi1 &&& (2147483647 : Int32)))] _
    refine XS.bipush X0.here hx rfl (hb hby at_4) ?_
    show Stp p e below s₁ m 6 #[.val (.int pi1), .val (.int pi2), .unset, .unset, .unset, .unset, .unset, .unset, .unset] [(.int (9 : Int32)), (.int (pi1 &&& (2147483647 : Int32)))] _
    refine iremM X0 hx rfl (hb hby at_6) rfl (by decide) ?_
    show Stp p e below s₁ m 7 #[.val (.int pi1), .val (.int pi2), .unset, .unset, .unset, .unset, .unset, .unset, .unset] [(.int ((pi1 &&& (2147483647 : Int32)) % (9 : Int32)))] _
    refine XS.istoreN X0.here hx rfl (hb hby at_7) rfl (l' := #[.val (.int pi1), .val (.int pi2), .val (.int ((pi1 &&& (2147483647 : Int32)) % (9 : Int32))), .unset, .unset, .unset, .unset, .unset, .unset]) rfl ?_
    show Stp p e below s₁ m 8 #[.val (.int pi1), .val (.int pi2), .val (.int ((pi1 &&& (2147483647 : Int32)) % (9 : Int32))), .unset, .unset, .unset, .unset, .unset, .unset] [] _
    refine XS.iloadN X0.here hx rfl (hb hby at_8) rfl ?_
    show Stp p e below s₁ m 9 #[.val (.int pi1), .val (.int pi2), .val (.int ((pi1 &&& (2147483647 : Int32)) % (9 : Int32))), .unset, .unset, .unset, .unset, .unset, .unset] [(.int pi2)] _
    refine XS.iconst X0.here hx rfl (hb hby at_9) ?_
    show Stp p e below s₁ m 10 #[.val (.int pi1), .val (.int pi2), .val (.int ((pi1 &&& (2147483647 : Int32)) % (9 : Int32))), .unset, .unset, .unset, .unset, .unset, .unset] [(.int (1 : Int32)), (.int pi2)] _
    refine XS.iand X0.here hx rfl (hb hby at_10) rfl ?_
    show Stp p e below s₁ m 11 #[.val (.int pi1), .val (.int pi2), .val (.int ((pi1 &&& (2147483647 : Int32)) % (9 : Int32))), .unset, .unset, .unset, .unset, .unset, .unset] [(.int (pi2 &&& (1 : Int32)))] _
    refine XS.ifYes X0.here hx rfl (pc0 := 11) (pc' := 18) rfl (hb hby at_11) rfl ((if0 _ _).trans (feq hc11_0).2) (by decide) (by decide) ?_
    show Stp p e below s₁ m 18 #[.val (.int pi1), .val (.int pi2), .val (.int ((pi1 &&& (2147483647 : Int32)) % (9 : Int32))), .unset, .unset, .unset, .unset, .unset, .unset] [] _
    refine XS.iconst X0.here hx rfl (hb hby at_18) ?_
    show Stp p e below s₁ m 19 #[.val (.int pi1), .val (.int pi2), .val (.int ((pi1 &&& (2147483647 : Int32)) % (9 : Int32))), .unset, .unset, .unset, .unset, .unset, .unset] [(.int (0 : Int32))] _
    refine XS.istoreN X0.here hx rfl (hb hby at_19) rfl (l' := #[.val (.int pi1), .val (.int pi2), .val (.int ((pi1 &&& (2147483647 : Int32)) % (9 : Int32))), .val (.int (0 : Int32)), .unset, .unset, .unset, .unset, .unset]) rfl ?_
    show Stp p e below s₁ m 20 #[.val (.int pi1), .val (.int pi2), .val (.int ((pi1 &&& (2147483647 : Int32)) % (9 : Int32))), .val (.int (0 : Int32)), .unset, .unset, .unset, .unset, .unset] [] _
    refine XS.iloadN X0.here hx rfl (hb hby at_20) rfl ?_
    show Stp p e below s₁ m 21 #[.val (.int pi1), .val (.int pi2), .val (.int ((pi1 &&& (2147483647 : Int32)) % (9 : Int32))), .val (.int (0 : Int32)), .unset, .unset, .unset, .unset, .unset] [(.int (0 : Int32))] _
    refine XS.ifYes X0.here hx rfl (pc0 := 21) (pc' := 30) rfl (hb hby at_21) rfl ((if0 _ _).trans (teq (rfl : (0 : Int32) = (0 : Int32))).1) (by decide) (by decide) ?_
    show Stp p e below s₁ m 30 #[.val (.int pi1), .val (.int pi2), .val (.int ((pi1 &&& (2147483647 : Int32)) % (9 : Int32))), .val (.int (0 : Int32)), .unset, .unset, .unset, .unset, .unset] [] _
    refine st1 _ ?_
    show Stp p e below T1 m 33 #[.val (.int pi1), .val (.int pi2), .val (.int ((pi1 &&& (2147483647 : Int32)) % (9 : Int32))), .val (.int (0 : Int32)), .unset, .unset, .unset, .unset, .unset] [(.ref w_DESC)] _
    refine XS.astore X1.here hx rfl (hb hby at_33) rfl rfl (l' := #[.val (.int pi1), .val (.int pi2), .val (.int ((pi1 &&& (2147483647 : Int32)) % (9 : Int32))), .val (.int (0 : Int32)), .val (.ref w_DESC), .unset, .unset, .unset, .unset]) rfl ?_
    show Stp p e below T1 m 35 #[.val (.int pi1), .val (.int pi2), .val (.int ((pi1 &&& (2147483647 : Int32)) % (9 : Int32))), .val (.int (0 : Int32)), .val (.ref w_DESC), .unset, .unset, .unset, .unset] [] _
    refine XS.iloadN X1.here hx rfl (hb hby at_35) rfl ?_
    show Stp p e below T1 m 36 #[.val (.int pi1), .val (.int pi2), .val (.int ((pi1 &&& (2147483647 : Int32)) % (9 : Int32))), .val (.int (0 : Int32)), .val (.ref w_DESC), .unset, .unset, .unset, .unset] [(.int ((pi1 &&& (2147483647 : Int32)) % (9 : Int32)))] _
    refine st2 _ ?_
    show Stp p e below T2 m 39 #[.val (.int pi1), .val (.int pi2), .val (.int ((pi1 &&& (2147483647 : Int32)) % (9 : Int32))), .val (.int (0 : Int32)), .val (.ref w_DESC), .unset, .unset, .unset, .unset] [(.ref w_SQLITE)] _
    refine XS.astore X2.here hx rfl (hb hby at_39) rfl rfl (l' := #[.val (.int pi1), .val (.int pi2), .val (.int ((pi1 &&& (2147483647 : Int32)) % (9 : Int32))), .val (.int (0 : Int32)), .val (.ref w_DESC), .val (.ref w_SQLITE), .unset, .unset, .unset]) rfl ?_
    show Stp p e below T2 m 41 #[.val (.int pi1), .val (.int pi2), .val (.int ((pi1 &&& (2147483647 : Int32)) % (9 : Int32))), .val (.int (0 : Int32)), .val (.ref w_DESC), .val (.ref w_SQLITE), .unset, .unset, .unset] [] _
    refine XS.iloadN X2.here hx rfl (hb hby at_41) rfl ?_
    show Stp p e below T2 m 42 #[.val (.int pi1), .val (.int pi2), .val (.int ((pi1 &&& (2147483647 : Int32)) % (9 : Int32))), .val (.int (0 : Int32)), .val (.ref w_DESC), .val (.ref w_SQLITE), .unset, .unset, .unset] [(.int ((pi1 &&& (2147483647 : Int32)) % (9 : Int32)))] _
    refine XS.ifNo X2.here hx rfl (hb hby at_42) rfl ((if0 _ _).trans (feq hc36_1).1) ?_
    show Stp p e below T2 m 45 #[.val (.int pi1), .val (.int pi2), .val (.int ((pi1 &&& (2147483647 : Int32)) % (9 : Int32))), .val (.int (0 : Int32)), .val (.ref w_DESC), .val (.ref w_SQLITE), .unset, .unset, .unset] [] _
    refine XS.iloadN X2.here hx rfl (hb hby at_45) rfl ?_
    show Stp p e below T2 m 46 #[.val (.int pi1), .val (.int pi2), .val (.int ((pi1 &&& (2147483647 : Int32)) % (9 : Int32))), .val (.int (0 : Int32)), .val (.ref w_DESC), .val (.ref w_SQLITE), .unset, .unset, .unset] [(.int ((pi1 &&& (2147483647 : Int32)) % (9 : Int32)))] _
    refine XS.iconst X2.here hx rfl (hb hby at_46) ?_
    show Stp p e below T2 m 47 #[.val (.int pi1), .val (.int pi2), .val (.int ((pi1 &&& (2147483647 : Int32)) % (9 : Int32))), .val (.int (0 : Int32)), .val (.ref w_DESC), .val (.ref w_SQLITE), .unset, .unset, .unset] [(.int (5 : Int32)), (.int ((pi1 &&& (2147483647 : Int32)) % (9 : Int32)))] _
    refine XS.icmpNo X2.here hx rfl (hb hby at_47) rfl (feq (fun q => absurd (hc36_3.symm.trans q) (by decide))).1 ?_
    show Stp p e below T2 m 50 #[.val (.int pi1), .val (.int pi2), .val (.int ((pi1 &&& (2147483647 : Int32)) % (9 : Int32))), .val (.int (0 : Int32)), .val (.ref w_DESC), .val (.ref w_SQLITE), .unset, .unset, .unset] [] _
    refine XS.iloadN X2.here hx rfl (hb hby at_50) rfl ?_
    show Stp p e below T2 m 51 #[.val (.int pi1), .val (.int pi2), .val (.int ((pi1 &&& (2147483647 : Int32)) % (9 : Int32))), .val (.int (0 : Int32)), .val (.ref w_DESC), .val (.ref w_SQLITE), .unset, .unset, .unset] [(.int ((pi1 &&& (2147483647 : Int32)) % (9 : Int32)))] _
    refine XS.bipush X2.here hx rfl (hb hby at_51) ?_
    show Stp p e below T2 m 53 #[.val (.int pi1), .val (.int pi2), .val (.int ((pi1 &&& (2147483647 : Int32)) % (9 : Int32))), .val (.int (0 : Int32)), .val (.ref w_DESC), .val (.ref w_SQLITE), .unset, .unset, .unset] [(.int (6 : Int32)), (.int ((pi1 &&& (2147483647 : Int32)) % (9 : Int32)))] _
    refine XS.icmpNo X2.here hx rfl (hb hby at_53) rfl (feq (fun q => absurd (hc36_3.symm.trans q) (by decide))).1 ?_
    show Stp p e below T2 m 56 #[.val (.int pi1), .val (.int pi2), .val (.int ((pi1 &&& (2147483647 : Int32)) % (9 : Int32))), .val (.int (0 : Int32)), .val (.ref w_DESC), .val (.ref w_SQLITE), .unset, .unset, .unset] [] _
    refine XS.iloadN X2.here hx rfl (hb hby at_56) rfl ?_
    show Stp p e below T2 m 57 #[.val (.int pi1), .val (.int pi2), .val (.int ((pi1 &&& (2147483647 : Int32)) % (9 : Int32))), .val (.int (0 : Int32)), .val (.ref w_DESC), .val (.ref w_SQLITE), .unset, .unset, .unset] [(.int ((pi1 &&& (2147483647 : Int32)) % (9 : Int32)))] _
    refine XS.bipush X2.here hx rfl (hb hby at_57) ?_
    show Stp p e below T2 m 59 #[.val (.int pi1), .val (.int pi2), .val (.int ((pi1 &&& (2147483647 : Int32)) % (9 : Int32))), .val (.int (0 : Int32)), .val (.ref w_DESC), .val (.ref w_SQLITE), .unset, .unset, .unset] [(.int (8 : Int32)), (.int ((pi1 &&& (2147483647 : Int32)) % (9 : Int32)))] _
    refine XS.icmpYes X2.here hx rfl (pc0 := 59) (pc' := 66) rfl (hb hby at_59) rfl (feq (fun q => absurd (hc36_3.symm.trans q) (by decide))).2 (by decide) (by decide) ?_
    show Stp p e below T2 m 66 #[.val (.int pi1), .val (.int pi2), .val (.int ((pi1 &&& (2147483647 : Int32)) % (9 : Int32))), .val (.int (0 : Int32)), .val (.ref w_DESC), .val (.ref w_SQLITE), .unset, .unset, .unset] [] _
    refine XS.iconst X2.here hx rfl (hb hby at_66) ?_
    show Stp p e below T2 m 67 #[.val (.int pi1), .val (.int pi2), .val (.int ((pi1 &&& (2147483647 : Int32)) % (9 : Int32))), .val (.int (0 : Int32)), .val (.ref w_DESC), .val (.ref w_SQLITE), .unset, .unset, .unset] [(.int (0 : Int32))] _
    refine XS.istore X2.here hx rfl (hb hby at_67) rfl (l' := #[.val (.int pi1), .val (.int pi2), .val (.int ((pi1 &&& (2147483647 : Int32)) % (9 : Int32))), .val (.int (0 : Int32)), .val (.ref w_DESC), .val (.ref w_SQLITE), .val (.int (0 : Int32)), .unset, .unset]) rfl ?_
    show Stp p e below T2 m 69 #[.val (.int pi1), .val (.int pi2), .val (.int ((pi1 &&& (2147483647 : Int32)) % (9 : Int32))), .val (.int (0 : Int32)), .val (.ref w_DESC), .val (.ref w_SQLITE), .val (.int (0 : Int32)), .unset, .unset] [] _
    refine XS.iloadN X2.here hx rfl (hb hby at_69) rfl ?_
    show Stp p e below T2 m 70 #[.val (.int pi1), .val (.int pi2), .val (.int ((pi1 &&& (2147483647 : Int32)) % (9 : Int32))), .val (.int (0 : Int32)), .val (.ref w_DESC), .val (.ref w_SQLITE), .val (.int (0 : Int32)), .unset, .unset] [(.int ((pi1 &&& (2147483647 : Int32)) % (9 : Int32)))] _
    refine XS.iconst X2.here hx rfl (hb hby at_70) ?_
    show Stp p e below T2 m 71 #[.val (.int pi1), .val (.int pi2), .val (.int ((pi1 &&& (2147483647 : Int32)) % (9 : Int32))), .val (.int (0 : Int32)), .val (.ref w_DESC), .val (.ref w_SQLITE), .val (.int (0 : Int32)), .unset, .unset] [(.int (1 : Int32)), (.int ((pi1 &&& (2147483647 : Int32)) % (9 : Int32)))] _
    refine XS.icmpNo X2.here hx rfl (hb hby at_71) rfl (feq hc36_2).1 ?_
    show Stp p e below T2 m 74 #[.val (.int pi1), .val (.int pi2), .val (.int ((pi1 &&& (2147483647 : Int32)) % (9 : Int32))), .val (.int (0 : Int32)), .val (.ref w_DESC), .val (.ref w_SQLITE), .val (.int (0 : Int32)), .unset, .unset] [] _
    refine XS.iloadN X2.here hx rfl (hb hby at_74) rfl ?_
    show Stp p e below T2 m 75 #[.val (.int pi1), .val (.int pi2), .val (.int ((pi1 &&& (2147483647 : Int32)) % (9 : Int32))), .val (.int (0 : Int32)), .val (.ref w_DESC), .val (.ref w_SQLITE), .val (.int (0 : Int32)), .unset, .unset] [(.int ((pi1 &&& (2147483647 : Int32)) % (9 : Int32)))] _
    refine XS.iconst X2.here hx rfl (hb hby at_75) ?_
    show Stp p e below T2 m 76 #[.val (.int pi1), .val (.int pi2), .val (.int ((pi1 &&& (2147483647 : Int32)) % (9 : Int32))), .val (.int (0 : Int32)), .val (.ref w_DESC), .val (.ref w_SQLITE), .val (.int (0 : Int32)), .unset, .unset] [(.int (2 : Int32)), (.int ((pi1 &&& (2147483647 : Int32)) % (9 : Int32)))] _
    refine XS.icmpYes X2.here hx rfl (pc0 := 76) (pc' := 90) rfl (hb hby at_76) rfl (teq hc36_3).1 (by decide) (by decide) ?_
    show Stp p e below T2 m 90 #[.val (.int pi1), .val (.int pi2), .val (.int ((pi1 &&& (2147483647 : Int32)) % (9 : Int32))), .val (.int (0 : Int32)), .val (.ref w_DESC), .val (.ref w_SQLITE), .val (.int (0 : Int32)), .unset, .unset] [] _
    refine XS.iconst X2.here hx rfl (hb hby at_90) ?_
    show Stp p e below T2 m 91 #[.val (.int pi1), .val (.int pi2), .val (.int ((pi1 &&& (2147483647 : Int32)) % (9 : Int32))), .val (.int (0 : Int32)), .val (.ref w_DESC), .val (.ref w_SQLITE), .val (.int (0 : Int32)), .unset, .unset] [(.int (1 : Int32))] _
    refine XS.goto X2.here hx rfl (pc0 := 91) (pc' := 95) rfl (hb hby at_91) (by decide) (by decide) ?_
    show Stp p e below T2 m 95 #[.val (.int pi1), .val (.int pi2), .val (.int ((pi1 &&& (2147483647 : Int32)) % (9 : Int32))), .val (.int (0 : Int32)), .val (.ref w_DESC), .val (.ref w_SQLITE), .val (.int (0 : Int32)), .unset, .unset] [(.int (1 : Int32))] _
    refine XS.istore X2.here hx rfl (hb hby at_95) rfl (l' := #[.val (.int pi1), .val (.int pi2), .val (.int ((pi1 &&& (2147483647 : Int32)) % (9 : Int32))), .val (.int (0 : Int32)), .val (.ref w_DESC), .val (.ref w_SQLITE), .val (.int (0 : Int32)), .val (.int (1 : Int32)), .unset]) rfl ?_
    show Stp p e below T2 m 97 #[.val (.int pi1), .val (.int pi2), .val (.int ((pi1 &&& (2147483647 : Int32)) % (9 : Int32))), .val (.int (0 : Int32)), .val (.ref w_DESC), .val (.ref w_SQLITE), .val (.int (0 : Int32)), .val (.int (1 : Int32)), .unset] [] _
    refine XS.iload X2.here hx rfl (hb hby at_97) rfl ?_
    show Stp p e below T2 m 99 #[.val (.int pi1), .val (.int pi2), .val (.int ((pi1 &&& (2147483647 : Int32)) % (9 : Int32))), .val (.int (0 : Int32)), .val (.ref w_DESC), .val (.ref w_SQLITE), .val (.int (0 : Int32)), .val (.int (1 : Int32)), .unset] [(.int (0 : Int32))] _
    refine XS.ifYes X2.here hx rfl (pc0 := 99) (pc' := 108) rfl (hb hby at_99) rfl ((if0 _ _).trans (teq (rfl : (0 : Int32) = (0 : Int32))).1) (by decide) (by decide) ?_
    show Stp p e below T2 m 108 #[.val (.int pi1), .val (.int pi2), .val (.int ((pi1 &&& (2147483647 : Int32)) % (9 : Int32))), .val (.int (0 : Int32)), .val (.ref w_DESC), .val (.ref w_SQLITE), .val (.int (0 : Int32)), .val (.int (1 : Int32)), .unset] [] _
    refine XS.iload X2.here hx rfl (hb hby at_108) rfl ?_
    show Stp p e below T2 m 110 #[.val (.int pi1), .val (.int pi2), .val (.int ((pi1 &&& (2147483647 : Int32)) % (9 : Int32))), .val (.int (0 : Int32)), .val (.ref w_DESC), .val (.ref w_SQLITE), .val (.int (0 : Int32)), .val (.int (1 : Int32)), .unset] [(.int (1 : Int32))] _
    refine XS.ifNo X2.here hx rfl (hb hby at_110) rfl ((if0 _ _).trans (feq (by decide : ¬ ((1 : Int32) = (0 : Int32)))).1) ?_
    show Stp p e below T2 m 113 #[.val (.int pi1), .val (.int pi2), .val (.int ((pi1 &&& (2147483647 : Int32)) % (9 : Int32))), .val (.int (0 : Int32)), .val (.ref w_DESC), .val (.ref w_SQLITE), .val (.int (0 : Int32)), .val (.int (1 : Int32)), .unset] [] _
    refine XS.iloadN X2.here hx rfl (hb hby at_113) rfl ?_
    show Stp p e below T2 m 114 #[.val (.int pi1), .val (.int pi2), .val (.int ((pi1 &&& (2147483647 : Int32)) % (9 : Int32))), .val (.int (0 : Int32)), .val (.ref w_DESC), .val (.ref w_SQLITE), .val (.int (0 : Int32)), .val (.int (1 : Int32)), .unset] [(.int (0 : Int32))] _
    refine XS.ifNo X2.here hx rfl (hb hby at_114) rfl ((if0 _ _).trans (teq (rfl : (0 : Int32) = (0 : Int32))).2) ?_
    show Stp p e below T2 m 117 #[.val (.int pi1), .val (.int pi2), .val (.int ((pi1 &&& (2147483647 : Int32)) % (9 : Int32))), .val (.int (0 : Int32)), .val (.ref w_DESC), .val (.ref w_SQLITE), .val (.int (0 : Int32)), .val (.int (1 : Int32)), .unset] [] _
    refine XS.iconst X2.here hx rfl (hb hby at_117) ?_
    show Stp p e below T2 m 118 #[.val (.int pi1), .val (.int pi2), .val (.int ((pi1 &&& (2147483647 : Int32)) % (9 : Int32))), .val (.int (0 : Int32)), .val (.ref w_DESC), .val (.ref w_SQLITE), .val (.int (0 : Int32)), .val (.int (1 : Int32)), .unset] [(.int (1 : Int32))] _
    refine XS.goto X2.here hx rfl (pc0 := 118) (pc' := 122) rfl (hb hby at_118) (by decide) (by decide) ?_
    show Stp p e below T2 m 122 #[.val (.int pi1), .val (.int pi2), .val (.int ((pi1 &&& (2147483647 : Int32)) % (9 : Int32))), .val (.int (0 : Int32)), .val (.ref w_DESC), .val (.ref w_SQLITE), .val (.int (0 : Int32)), .val (.int (1 : Int32)), .unset] [(.int (1 : Int32))] _
    refine XS.istore X2.here hx rfl (hb hby at_122) rfl (l' := #[.val (.int pi1), .val (.int pi2), .val (.int ((pi1 &&& (2147483647 : Int32)) % (9 : Int32))), .val (.int (0 : Int32)), .val (.ref w_DESC), .val (.ref w_SQLITE), .val (.int (0 : Int32)), .val (.int (1 : Int32)), .val (.int (1 : Int32))]) rfl ?_
    show Stp p e below T2 m 124 #[.val (.int pi1), .val (.int pi2), .val (.int ((pi1 &&& (2147483647 : Int32)) % (9 : Int32))), .val (.int (0 : Int32)), .val (.ref w_DESC), .val (.ref w_SQLITE), .val (.int (0 : Int32)), .val (.int (1 : Int32)), .val (.int (1 : Int32))] [] _
    refine XS.goto X2.here hx rfl (pc0 := 124) (pc' := 130) rfl (hb hby at_124) (by decide) (by decide) ?_
    show Stp p e below T2 m 130 #[.val (.int pi1), .val (.int pi2), .val (.int ((pi1 &&& (2147483647 : Int32)) % (9 : Int32))), .val (.int (0 : Int32)), .val (.ref w_DESC), .val (.ref w_SQLITE), .val (.int (0 : Int32)), .val (.int (1 : Int32)), .val (.int (1 : Int32))] [] _
    refine XS.aload X2.here hx rfl (hb hby at_130) rfl rfl ?_
    show Stp p e below T2 m 132 #[.val (.int pi1), .val (.int pi2), .val (.int ((pi1 &&& (2147483647 : Int32)) % (9 : Int32))), .val (.int (0 : Int32)), .val (.ref w_DESC), .val (.ref w_SQLITE), .val (.int (0 : Int32)), .val (.int (1 : Int32)), .val (.int (1 : Int32))] [(.ref w_SQLITE)] _
    refine XS.aload X2.here hx rfl (hb hby at_132) rfl rfl ?_
    show Stp p e below T2 m 134 #[.val (.int pi1), .val (.int pi2), .val (.int ((pi1 &&& (2147483647 : Int32)) % (9 : Int32))), .val (.int (0 : Int32)), .val (.ref w_DESC), .val (.ref w_SQLITE), .val (.int (0 : Int32)), .val (.int (1 : Int32)), .val (.int (1 : Int32))] [(.ref w_DESC), (.ref w_SQLITE)] _
    refine st3.trans ?_
    show Stp p e below T3 m 137 #[.val (.int pi1), .val (.int pi2), .val (.int ((pi1 &&& (2147483647 : Int32)) % (9 : Int32))), .val (.int (0 : Int32)), .val (.ref w_DESC), .val (.ref w_SQLITE), .val (.int (0 : Int32)), .val (.int (1 : Int32)), .val (.int (1 : Int32))] [(.int (1 : Int32))] _
    refine XS.iload X3.here hx rfl (hb hby at_137) rfl ?_
    show Stp p e below T3 m 139 #[.val (.int pi1), .val (.int pi2), .val (.int ((pi1 &&& (2147483647 : Int32)) % (9 : Int32))), .val (.int (0 : Int32)), .val (.ref w_DESC), .val (.ref w_SQLITE), .val (.int (0 : Int32)), .val (.int (1 : Int32)), .val (.int (1 : Int32))] [(.int (1 : Int32)), (.int (1 : Int32))] _
    refine XS.icmpNo X3.here hx rfl (hb hby at_139) rfl (teq (rfl : (1 : Int32) = (1 : Int32))).2 ?_
    show Stp p e below T3 m 142 #[.val (.int pi1), .val (.int pi2), .val (.int ((pi1 &&& (2147483647 : Int32)) % (9 : Int32))), .val (.int (0 : Int32)), .val (.ref w_DESC), .val (.ref w_SQLITE), .val (.int (0 : Int32)), .val (.int (1 : Int32)), .val (.int (1 : Int32))] [] _
    refine XS.iconst X3.here hx rfl (hb hby at_142) ?_
    show Stp p e below T3 m 143 #[.val (.int pi1), .val (.int pi2), .val (.int ((pi1 &&& (2147483647 : Int32)) % (9 : Int32))), .val (.int (0 : Int32)), .val (.ref w_DESC), .val (.ref w_SQLITE), .val (.int (0 : Int32)), .val (.int (1 : Int32)), .val (.int (1 : Int32))] [(.int (1 : Int32))] _
    refine XS.goto X3.here hx rfl (pc0 := 143) (pc' := 147) rfl (hb hby at_143) (by decide) (by decide) ?_
    show Stp p e below T3 m 147 #[.val (.int pi1), .val (.int pi2), .val (.int ((pi1 &&& (2147483647 : Int32)) % (9 : Int32))), .val (.int (0 : Int32)), .val (.ref w_DESC), .val (.ref w_SQLITE), .val (.int (0 : Int32)), .val (.int (1 : Int32)), .val (.int (1 : Int32))] [(.int (1 : Int32))] _
    exact retN X3 hx (t := .boolean) Bd.returns (by simp) (hb hby at_147) hr
  · exact ⟨rfl, N3⟩
set_option maxRecDepth 65536 in
set_option maxHeartbeats 40000000 in
theorem rm0_fffft (l : Launch) (Z : State) (a0 : Array Value) (hw : ∀ d ∈ tables_1, d.before a0 Z = true) (ws : List Jvm.Cond) (pi1 : Int32) (pi2 : Int32) (w_HIGH : Addr) (w_LOW : Addr) (w_FIRST : Addr) (w_ASC : Addr) (w_DESC : Addr) (w_POSTGRESQL : Addr) (w_MARIADB : Addr) (w_SQLITE : Addr) (w_H2 : Addr) (w_HSQLDB : Addr) (w_DERBY : Addr) (w_ORACLE : Addr) (w_SQLSERVER : Addr) (w_DB2 : Addr) (h0 : Heap) (n0 : Nat) (Z0 : n0 ≤ h0.size) (O0 : Old Z n0 h0) (S_ASC : Sta Z Z.heap "com/example/leafcount/leafcount/Sort$Direction" "ASC" "Lcom/example/leafcount/leafcount/Sort$Direction;" (.ref w_ASC)) (S_DESC : Sta Z Z.heap "com/example/leafcount/leafcount/Sort$Direction" "DESC" "Lcom/example/leafcount/leafcount/Sort$Direction;" (.ref w_DESC)) (S_POSTGRESQL : Sta Z Z.heap "com/example/leafcount/leafcount/SqlSyntax" "POSTGRESQL" "Lcom/example/leafcount/leafcount/SqlSyntax;" (.ref w_POSTGRESQL)) (S_MARIADB : Sta Z Z.heap "com/example/leafcount/leafcount/SqlSyntax" "MARIADB" "Lcom/example/leafcount/leafcount/SqlSyntax;" (.ref w_MARIADB)) (S_SQLITE : Sta Z Z.heap "com/example/leafcount/leafcount/SqlSyntax" "SQLITE" "Lcom/example/leafcount/leafcount/SqlSyntax;" (.ref w_SQLITE)) (S_H2 : Sta Z Z.heap "com/example/leafcount/leafcount/SqlSyntax" "H2" "Lcom/example/leafcount/leafcount/SqlSyntax;" (.ref w_H2)) (S_HSQLDB : Sta Z Z.heap "com/example/leafcount/leafcount/SqlSyntax" "HSQLDB" "Lcom/example/leafcount/leafcount/SqlSyntax;" (.ref w_HSQLDB)) (S_DERBY : Sta Z Z.heap "com/example/leafcount/leafcount/SqlSyntax" "DERBY" "Lcom/example/leafcount/leafcount/SqlSyntax;" (.ref w_DERBY)) (S_ORACLE : Sta Z Z.heap "com/example/leafcount/leafcount/SqlSyntax" "ORACLE" "Lcom/example/leafcount/leafcount/SqlSyntax;" (.ref w_ORACLE)) (S_SQLSERVER : Sta Z Z.heap "com/example/leafcount/leafcount/SqlSyntax" "SQLSERVER" "Lcom/example/leafcount/leafcount/SqlSyntax;" (.ref w_SQLSERVER)) (S_DB2 : Sta Z Z.heap "com/example/leafcount/leafcount/SqlSyntax" "DB2" "Lcom/example/leafcount/leafcount/SqlSyntax;" (.ref w_DB2)) (E_w_POSTGRESQL : Exa Z Z.heap w_POSTGRESQL "com/example/leafcount/leafcount/SqlSyntax") (E_w_MARIADB : Exa Z Z.heap w_MARIADB "com/example/leafcount/leafcount/SqlSyntax") (E_w_SQLITE : Exa Z Z.heap w_SQLITE "com/example/leafcount/leafcount/SqlSyntax") (E_w_H2 : Exa Z Z.heap w_H2 "com/example/leafcount/leafcount/SqlSyntax") (E_w_HSQLDB : Exa Z Z.heap w_HSQLDB "com/example/leafcount/leafcount/SqlSyntax") (E_w_DERBY : Exa Z Z.heap w_DERBY "com/example/leafcount/leafcount/SqlSyntax") (E_w_ORACLE : Exa Z Z.heap w_ORACLE "com/example/leafcount/leafcount/SqlSyntax") (E_w_SQLSERVER : Exa Z Z.heap w_SQLSERVER "com/example/leafcount/leafcount/SqlSyntax") (E_w_DB2 : Exa Z Z.heap w_DB2 "com/example/leafcount/leafcount/SqlSyntax") (F_nullOrder_w_POSTGRESQL : Fld Z Z.heap w_POSTGRESQL "com/example/leafcount/leafcount/SqlSyntax" "nullOrder" "Lcom/example/leafcount/leafcount/SqlSyntax$NullOrder;" (.ref w_HIGH)) (F_nullOrder_w_MARIADB : Fld Z Z.heap w_MARIADB "com/example/leafcount/leafcount/SqlSyntax" "nullOrder" "Lcom/example/leafcount/leafcount/SqlSyntax$NullOrder;" (.ref w_LOW)) (F_nullOrder_w_SQLITE : Fld Z Z.heap w_SQLITE "com/example/leafcount/leafcount/SqlSyntax" "nullOrder" "Lcom/example/leafcount/leafcount/SqlSyntax$NullOrder;" (.ref w_LOW)) (F_nullOrder_w_H2 : Fld Z Z.heap w_H2 "com/example/leafcount/leafcount/SqlSyntax" "nullOrder" "Lcom/example/leafcount/leafcount/SqlSyntax$NullOrder;" (.ref w_LOW)) (F_nullOrder_w_HSQLDB : Fld Z Z.heap w_HSQLDB "com/example/leafcount/leafcount/SqlSyntax" "nullOrder" "Lcom/example/leafcount/leafcount/SqlSyntax$NullOrder;" (.ref w_FIRST)) (F_nullOrder_w_DERBY : Fld Z Z.heap w_DERBY "com/example/leafcount/leafcount/SqlSyntax" "nullOrder" "Lcom/example/leafcount/leafcount/SqlSyntax$NullOrder;" (.ref w_HIGH)) (F_nullOrder_w_ORACLE : Fld Z Z.heap w_ORACLE "com/example/leafcount/leafcount/SqlSyntax" "nullOrder" "Lcom/example/leafcount/leafcount/SqlSyntax$NullOrder;" (.ref w_HIGH)) (F_nullOrder_w_SQLSERVER : Fld Z Z.heap w_SQLSERVER "com/example/leafcount/leafcount/SqlSyntax" "nullOrder" "Lcom/example/leafcount/leafcount/SqlSyntax$NullOrder;" (.ref w_LOW)) (F_nullOrder_w_DB2 : Fld Z Z.heap w_DB2 "com/example/leafcount/leafcount/SqlSyntax" "nullOrder" "Lcom/example/leafcount/leafcount/SqlSyntax$NullOrder;" (.ref w_HIGH)) (F_last_w_HIGH : Fld Z Z.heap w_HIGH "com/example/leafcount/leafcount/SqlSyntax$NullOrder" "last" "Lcom/example/leafcount/leafcount/Sort$Direction;" (.ref w_ASC)) (F_last_w_LOW : Fld Z Z.heap w_LOW "com/example/leafcount/leafcount/SqlSyntax$NullOrder" "last" "Lcom/example/leafcount/leafcount/Sort$Direction;" (.ref w_DESC)) (F_last_w_FIRST : Fld Z Z.heap w_FIRST "com/example/leafcount/leafcount/SqlSyntax$NullOrder" "last" "Lcom/example/leafcount/leafcount/Sort$Direction;" .null) (hne : w_ASC ≠ w_DESC) (hc11_0 : ¬ ((pi2 &&& (1 : Int32)) = (0 : Int32))) (hc36_1 : ¬ (((pi1 &&& (2147483647 : Int32)) % (9 : Int32)) = (0 : Int32))) (hc36_2 : ¬ (((pi1 &&& (2147483647 : Int32)) % (9 : Int32)) = (1 : Int32))) (hc36_3 : ¬ (((pi1 &&& (2147483647 : Int32)) % (9 : Int32)) = (2 : Int32))) (hc36_4 : ((pi1 &&& (2147483647 : Int32)) % (9 : Int32)) = (3 : Int32)) :
    MetFree l x (head1 (Jvm.Cond.code x code maxLocals ret :: ws) room_1) (fun a U => a = #[(.int pi1), (.int pi2)] ∧ Z.Warmed39 U.vm ∧ U.heap = h0) (fun _ _ _ _ _ => True) (fun _ U o U' => ∃ v L, o = .returned v ∧ Q0 v L n0 ∧ FrameEnd U o U' L room_1.cells room_1.slots) := by
  refine MetFree.of_bodySF (plainFor_of_name pn_0) hisR ?_
  intro p e s m args below meth c s₁ Bd hml0 hP hK
  obtain ⟨rfl, hZ, hh⟩ := hP
  have hx := Bd.exec
  have hby := Bd.bytes
  have hml : c.maxLocals = 9 := hml0
  have hown : s.vm.findClass "com/example/leafcount/leafcount/SqlSyntaxPutsNullLastPinLaw" = some m.cls := findClass_of_methodNamed Bd.named
  have hnm := (name_of_methodNamed Bd.named Bd.method).1
  have X0 : Stand p l e room_1 s m #[(.int pi1), (.int pi2)] below meth c s₁ [] 0 0 := Stand.of_body Bd
  have e0 : s₁.heap = h0 := by rw [← hh, Bd.state]; rfl
  have N0 := Fr.nil n0
  have pre0 : ∀ t, Steps p.tables e below (s₁.setTop (mkF m 0 #[.val (.int pi1), .val (.int pi2), .unset, .unset, .unset, .unset, .unset, .unset, .unset] [])) t → Steps p.tables e below (s₁.setTop (entryFrame m #[(.int pi1), (.int pi2)] maxLocals)) t := fun t k => castTop (ef_0 m pi1 pi2) k
  obtain ⟨T1, X1, e1, st1⟩ := getS2 X0 hx hZ hown (host := "") (Or.inl (own_W hw 1 rfl)) Via.refl e0 (S_DESC.ext O0.2) (g := (mkF m 30 #[.val (.int pi1), .val (.int pi2), .val (.int ((pi1 &&& (2147483647 : Int32)) % (9 : Int32))), .val (.int (0 : Int32)), .unset, .unset, .unset, .unset, .unset] [])) rfl (hb hby at_30)
  obtain ⟨_, _, ⟨T2, L2, k2, n2⟩, -, X2, ⟨Lc2, hQ2, l2, y2, z2⟩, st2⟩ := Jvm.LawKit.callS X1 hx (y := (⟨"com/example/leafcount/leafcount/SqlSyntaxPutsNullLastPinLaw", "pick", "(I)Lcom/example/leafcount/leafcount/SqlSyntax;"⟩ : MethodName)) hown (mvT hZ (own_W hw 4 rfl)) (mvT hZ (own_W hw 5 rfl)) (mvT hZ (own_W hw 6 rfl)) (mvT hZ (own_W hw 7 rfl)) (by decide) (backOf (W := 0) (rm1_3 l Z a0 hw [] ((pi1 &&& (2147483647 : Int32)) % (9 : Int32)) w_H2 h0 n0 Z0 O0 S_H2 hc36_1 hc36_2 hc36_3 hc36_4) hZ (own_W hw 7 rfl) (own_W hw 6 rfl) (by decide) (by decide)) (g := (mkF m 36 #[.val (.int pi1), .val (.int pi2), .val (.int ((pi1 &&& (2147483647 : Int32)) % (9 : Int32))), .val (.int (0 : Int32)), .val (.ref w_DESC), .unset, .unset, .unset, .unset] [(.int ((pi1 &&& (2147483647 : Int32)) % (9 : Int32)))])) rfl (by rw [hml]; rfl) (argsL := [(.int ((pi1 &&& (2147483647 : Int32)) % (9 : Int32)))]) (rest := []) (lenOf pd_0 rfl) rfl (by show 2 * 0 + _ ≤ _; exact Nat.le_of_eq rfl) (hb hby at_36) (fun _ _ => ⟨rfl, e1, (by decide : 0 + 0 ≤ _), (by decide : 0 + 0 ≤ _)⟩)
  dsimp only [Pt.U, Pt.locs, Pt.cells, Pt.slots] at X2 l2 y2 z2 st2 hQ2
  subst l2 y2 z2
  obtain ⟨rfl, N2q, eq2⟩ := hQ2
  have N2 := Fr.app N0 N2q
  obtain ⟨cq3, kq3, q3a, q3b, q3c⟩ := isOf hZ eq2 (E_w_H2.ext O0.2)
  obtain ⟨_, _, ⟨T3, L3, k3, n3⟩, -, X3, ⟨Lc3, hQ3, l3, y3, z3⟩, st3⟩ := X2.virtualBack hx (y := (⟨"com/example/leafcount/leafcount/SqlSyntax", "putsNullLast", "(Lcom/example/leafcount/leafcount/Sort$Direction;)Z"⟩ : MethodName)) (z := (⟨"com/example/leafcount/leafcount/SqlSyntax", "putsNullLast", "(Lcom/example/leafcount/leafcount/Sort$Direction;)Z"⟩ : MethodName)) hown (mvT hZ (own_W hw 11 rfl)) (mvT hZ (own_W hw 12 rfl)) (notFace_of_selects (args := #[]) (mvT hZ (own_W hw 14 rfl))) (mvT hZ (own_W hw 14 rfl)) (mvT hZ (own_W hw 13 rfl)) (by decide) (backOf (W := 0) (rm2_t l Z a0 hw [] w_H2 w_DESC w_LOW w_DESC h0 n0 Z0 O0 (F_nullOrder_w_H2.ext O0.2) (F_last_w_LOW.ext O0.2) rfl) hZ (own_W hw 15 rfl) (own_W hw 9 rfl) (by decide) (by decide)) q3a q3c (g := (mkF m 134 #[.val (.int pi1), .val (.int pi2), .val (.int ((pi1 &&& (2147483647 : Int32)) % (9 : Int32))), .val (.int (0 : Int32)), .val (.ref w_DESC), .val (.ref w_H2), .val (.int (0 : Int32)), .val (.int (1 : Int32)), .val (.int (1 : Int32))] [(.ref w_DESC), (.ref w_H2)])) rfl (by rw [hml]; rfl) (Steps.refl _) (argsL := [(.ref w_DESC)]) (rest := []) (lenOf pd_1 rfl) rfl (by show 2 * 0 + _ ≤ _; exact Nat.le_of_eq rfl) (hb hby at_134) (fun _ _ => ⟨rfl, eq2, (by decide : 0 + 0 ≤ _), (by decide : 0 + 0 ≤ _)⟩)
  dsimp only [Pt.U, Pt.locs, Pt.cells, Pt.slots] at X3 l3 y3 z3 st3 hQ3
  subst l3 y3 z3
  obtain ⟨rfl, N3q, eq3⟩ := hQ3
  have N3 := Fr.app N2 N3q
  obtain ⟨fs, hr, hrun, hended, hW, hsame⟩ := X3.leave (v := some (.int (1 : Int32))) (fun h => by rw [Bd.returns] at h; cases h)
  refine ⟨_, _, pre0 _ ?_, hrun, hended, _, _, rfl, ?_, ⟨_, rfl⟩, hW, hsame.mono (by decide) (by decide)⟩
  · show Stp p e below s₁ m 0 #[.val (.int pi1), .val (.int pi2), .unset, .unset, .unset, .unset, .unset, .unset, .unset] [] _
    refine XS.iloadN X0.here hx rfl (hb hby at_0) rfl ?_
    show Stp p e below s₁ m 1 #[.val (.int pi1), .val (.int pi2), .unset, .unset, .unset, .unset, .unset, .unset, .unset] [(.int pi1)] _
    refine X0.ldcInt hx hown (mvT hZ (own_W hw 0 rfl)) (g := (mkF m 1 #[.val (.int pi1), .val (.int pi2), .unset, .unset, .unset, .unset, .unset, .unset, .unset] [(.int pi1)])) rfl (hb hby at_1) _ ?_
    show Stp p e below s₁ m 3 #[.val (.int pi1), .val (.int pi2), .unset, .unset, .unset, .unset, .unset, .unset, .unset] [(.int (2147483647 : Int32)), (.int pi1)] _
    refine XS.iand X0.here hx rfl (hb hby at_3) rfl ?_
    show Stp p e below s₁ m 4 #[.val (.int pi1), .val (.int pi2), .unset, .unset, .unset, .unset, .unset, .unset, .unset] [(.int (pi1 &&& (2147483647 : Int32)))] _
    refine XS.bipush X0.here hx rfl (hb hby at_4) ?_
    show Stp p e below s₁ m 6 #[.val (.int pi1), .val (.int pi2), .unset, .unset, .unset, .unset, .unset, .unset, .unset] [(.int (9 : Int32)), (.int (pi1 &&& (2147483647 : Int32)))] _
    refine iremM X0 hx rfl (hb hby at_6) rfl (by decide) ?_
    show Stp p e below s₁ m 7 #[.val (.int pi1), .val (.int pi2), .unset, .unset, .unset, .unset, .unset, .unset, .unset] [(.int ((pi1 &&& (2147483647 : Int32)) % (9 : Int32)))] _
    refine XS.istoreN X0.here hx rfl (hb hby at_7) rfl (l' := #[.val (.int pi1), .val (.int pi2), .val (.int ((pi1 &&& (2147483647 : Int32)) % (9 : Int32))), .unset, .unset, .unset, .unset, .unset, .unset]) rfl ?_
    show Stp p e below s₁ m 8 #[.val (.int pi1), .val (.int pi2), .val (.int ((pi1 &&& (2147483647 : Int32)) % (9 : Int32))), .unset, .unset, .unset, .unset, .unset, .unset] [] _
    refine XS.iloadN X0.here hx rfl (hb hby at_8) rfl ?_
    show Stp p e below s₁ m 9 #[.val (.int pi1), .val (.int pi2), .val (.int ((pi1 &&& (2147483647 : Int32)) % (9 : Int32))), .unset, .unset, .unset, .unset, .unset, .unset] [(.int pi2)] _
    refine XS.iconst X0.here hx rfl (hb hby at_9) ?_
    show Stp p e below s₁ m 10 #[.val (.int pi1), .val (.int pi2), .val (.int ((pi1 &&& (2147483647 : Int32)) % (9 : Int32))), .unset, .unset, .unset, .unset, .unset, .unset] [(.int (1 : Int32)), (.int pi2)] _
    refine XS.iand X0.here hx rfl (hb hby at_10) rfl ?_
    show Stp p e below s₁ m 11 #[.val (.int pi1), .val (.int pi2), .val (.int ((pi1 &&& (2147483647 : Int32)) % (9 : Int32))), .unset, .unset, .unset, .unset, .unset, .unset] [(.int (pi2 &&& (1 : Int32)))] _
    refine XS.ifYes X0.here hx rfl (pc0 := 11) (pc' := 18) rfl (hb hby at_11) rfl ((if0 _ _).trans (feq hc11_0).2) (by decide) (by decide) ?_
    show Stp p e below s₁ m 18 #[.val (.int pi1), .val (.int pi2), .val (.int ((pi1 &&& (2147483647 : Int32)) % (9 : Int32))), .unset, .unset, .unset, .unset, .unset, .unset] [] _
    refine XS.iconst X0.here hx rfl (hb hby at_18) ?_
    show Stp p e below s₁ m 19 #[.val (.int pi1), .val (.int pi2), .val (.int ((pi1 &&& (2147483647 : Int32)) % (9 : Int32))), .unset, .unset, .unset, .unset, .unset, .unset] [(.int (0 : Int32))] _
    refine XS.istoreN X0.here hx rfl (hb hby at_19) rfl (l' := #[.val (.int pi1), .val (.int pi2), .val (.int ((pi1 &&& (2147483647 : Int32)) % (9 : Int32))), .val (.int (0 : Int32)), .unset, .unset, .unset, .unset, .unset]) rfl ?_
    show Stp p e below s₁ m 20 #[.val (.int pi1), .val (.int pi2), .val (.int ((pi1 &&& (2147483647 : Int32)) % (9 : Int32))), .val (.int (0 : Int32)), .unset, .unset, .unset, .unset, .unset] [] _
    refine XS.iloadN X0.here hx rfl (hb hby at_20) rfl ?_
    show Stp p e below s₁ m 21 #[.val (.int pi1), .val (.int pi2), .val (.int ((pi1 &&& (2147483647 : Int32)) % (9 : Int32))), .val (.int (0 : Int32)), .unset, .unset, .unset, .unset, .unset] [(.int (0 : Int32))] _
    refine XS.ifYes X0.here hx rfl (pc0 := 21) (pc' := 30) rfl (hb hby at_21) rfl ((if0 _ _).trans (teq (rfl : (0 : Int32) = (0 : Int32))).1) (by decide) (by decide) ?_
    show Stp p e below s₁ m 30 #[.val (.int pi1), .val (.int pi2), .val (.int ((pi1 &&& (2147483647 : Int32)) % (9 : Int32))), .val (.int (0 : Int32)), .unset, .unset, .unset, .unset, .unset] [] _
    refine st1 _ ?_
    show Stp p e below T1 m 33 #[.val (.int pi1), .val (.int pi2), .val (.int ((pi1 &&& (2147483647 : Int32)) % (9 : Int32))), .val (.int (0 : Int32)), .unset, .unset, .unset, .unset, .unset] [(.ref w_DESC)] _
    refine XS.astore X1.here hx rfl (hb hby at_33) rfl rfl (l' := #[.val (.int pi1), .val (.int pi2), .val (.int ((pi1 &&& (2147483647 : Int32)) % (9 : Int32))), .val (.int (0 : Int32)), .val (.ref w_DESC), .unset, .unset, .unset, .unset]) rfl ?_
    show Stp p e below T1 m 35 #[.val (.int pi1), .val (.int pi2), .val (.int ((pi1 &&& (2147483647 : Int32)) % (9 : Int32))), .val (.int (0 : Int32)), .val (.ref w_DESC), .unset, .unset, .unset, .unset] [] _
    refine XS.iloadN X1.here hx rfl (hb hby at_35) rfl ?_
    show Stp p e below T1 m 36 #[.val (.int pi1), .val (.int pi2), .val (.int ((pi1 &&& (2147483647 : Int32)) % (9 : Int32))), .val (.int (0 : Int32)), .val (.ref w_DESC), .unset, .unset, .unset, .unset] [(.int ((pi1 &&& (2147483647 : Int32)) % (9 : Int32)))] _
    refine st2 _ ?_
    show Stp p e below T2 m 39 #[.val (.int pi1), .val (.int pi2), .val (.int ((pi1 &&& (2147483647 : Int32)) % (9 : Int32))), .val (.int (0 : Int32)), .val (.ref w_DESC), .unset, .unset, .unset, .unset] [(.ref w_H2)] _
    refine XS.astore X2.here hx rfl (hb hby at_39) rfl rfl (l' := #[.val (.int pi1), .val (.int pi2), .val (.int ((pi1 &&& (2147483647 : Int32)) % (9 : Int32))), .val (.int (0 : Int32)), .val (.ref w_DESC), .val (.ref w_H2), .unset, .unset, .unset]) rfl ?_
    show Stp p e below T2 m 41 #[.val (.int pi1), .val (.int pi2), .val (.int ((pi1 &&& (2147483647 : Int32)) % (9 : Int32))), .val (.int (0 : Int32)), .val (.ref w_DESC), .val (.ref w_H2), .unset, .unset, .unset] [] _
    refine XS.iloadN X2.here hx rfl (hb hby at_41) rfl ?_
    show Stp p e below T2 m 42 #[.val (.int pi1), .val (.int pi2), .val (.int ((pi1 &&& (2147483647 : Int32)) % (9 : Int32))), .val (.int (0 : Int32)), .val (.ref w_DESC), .val (.ref w_H2), .unset, .unset, .unset] [(.int ((pi1 &&& (2147483647 : Int32)) % (9 : Int32)))] _
    refine XS.ifNo X2.here hx rfl (hb hby at_42) rfl ((if0 _ _).trans (feq hc36_1).1) ?_
    show Stp p e below T2 m 45 #[.val (.int pi1), .val (.int pi2), .val (.int ((pi1 &&& (2147483647 : Int32)) % (9 : Int32))), .val (.int (0 : Int32)), .val (.ref w_DESC), .val (.ref w_H2), .unset, .unset, .unset] [] _
    refine XS.iloadN X2.here hx rfl (hb hby at_45) rfl ?_
    show Stp p e below T2 m 46 #[.val (.int pi1), .val (.int pi2), .val (.int ((pi1 &&& (2147483647 : Int32)) % (9 : Int32))), .val (.int (0 : Int32)), .val (.ref w_DESC), .val (.ref w_H2), .unset, .unset, .unset] [(.int ((pi1 &&& (2147483647 : Int32)) % (9 : Int32)))] _
    refine XS.iconst X2.here hx rfl (hb hby at_46) ?_
    show Stp p e below T2 m 47 #[.val (.int pi1), .val (.int pi2), .val (.int ((pi1 &&& (2147483647 : Int32)) % (9 : Int32))), .val (.int (0 : Int32)), .val (.ref w_DESC), .val (.ref w_H2), .unset, .unset, .unset] [(.int (5 : Int32)), (.int ((pi1 &&& (2147483647 : Int32)) % (9 : Int32)))] _
    refine XS.icmpNo X2.here hx rfl (hb hby at_47) rfl (feq (fun q => absurd (hc36_4.symm.trans q) (by decide))).1 ?_
    show Stp p e below T2 m 50 #[.val (.int pi1), .val (.int pi2), .val (.int ((pi1 &&& (2147483647 : Int32)) % (9 : Int32))), .val (.int (0 : Int32)), .val (.ref w_DESC), .val (.ref w_H2), .unset, .unset, .unset] [] _
    refine XS.iloadN X2.here hx rfl (hb hby at_50) rfl ?_
    show Stp p e below T2 m 51 #[.val (.int pi1), .val (.int pi2), .val (.int ((pi1 &&& (2147483647 : Int32)) % (9 : Int32))), .val (.int (0 : Int32)), .val (.ref w_DESC), .val (.ref w_H2), .unset, .unset, .unset] [(.int ((pi1 &&& (2147483647 : Int32)) % (9 : Int32)))] _
    refine XS.bipush X2.here hx rfl (hb hby at_51) ?_
    show Stp p e below T2 m 53 #[.val (.int pi1), .val (.int pi2), .val (.int ((pi1 &&& (2147483647 : Int32)) % (9 : Int32))), .val (.int (0 : Int32)), .val (.ref w_DESC), .val (.ref w_H2), .unset, .unset, .unset] [(.int (6 : Int32)), (.int ((pi1 &&& (2147483647 : Int32)) % (9 : Int32)))] _
    refine XS.icmpNo X2.here hx rfl (hb hby at_53) rfl (feq (fun q => absurd (hc36_4.symm.trans q) (by decide))).1 ?_
    show Stp p e below T2 m 56 #[.val (.int pi1), .val (.int pi2), .val (.int ((pi1 &&& (2147483647 : Int32)) % (9 : Int32))), .val (.int (0 : Int32)), .val (.ref w_DESC), .val (.ref w_H2), .unset, .unset, .unset] [] _
    refine XS.iloadN X2.here hx rfl (hb hby at_56) rfl ?_
    show Stp p e below T2 m 57 #[.val (.int pi1), .val (.int pi2), .val (.int ((pi1 &&& (2147483647 : Int32)) % (9 : Int32))), .val (.int (0 : Int32)), .val (.ref w_DESC), .val (.ref w_H2), .unset, .unset, .unset] [(.int ((pi1 &&& (2147483647 : Int32)) % (9 : Int32)))] _
    refine XS.bipush X2.here hx rfl (hb hby at_57) ?_
    show Stp p e below T2 m 59 #[.val (.int pi1), .val (.int pi2), .val (.int ((pi1 &&& (2147483647 : Int32)) % (9 : Int32))), .val (.int (0 : Int32)), .val (.ref w_DESC), .val (.ref w_H2), .unset, .unset, .unset] [(.int (8 : Int32)), (.int ((pi1 &&& (2147483647 : Int32)) % (9 : Int32)))] _
    refine XS.icmpYes X2.here hx rfl (pc0 := 59) (pc' := 66) rfl (hb hby at_59) rfl (feq (fun q => absurd (hc36_4.symm.trans q) (by decide))).2 (by decide) (by decide) ?_
    show Stp p e below T2 m 66 #[.val (.int pi1), .val (.int pi2), .val (.int ((pi1 &&& (2147483647 : Int32)) % (9 : Int32))), .val (.int (0 : Int32)), .val (.ref w_DESC), .val (.ref w_H2), .unset, .unset, .unset] [] _
    refine XS.iconst X2.here hx rfl (hb hby at_66) ?_
    show Stp p e below T2 m 67 #[.val (.int pi1), .val (.int pi2), .val (.int ((pi1 &&& (2147483647 : Int32)) % (9 : Int32))), .val (.int (0 : Int32)), .val (.ref w_DESC), .val (.ref w_H2), .unset, .unset, .unset] [(.int (0 : Int32))] _
    refine XS.istore X2.here hx rfl (hb hby at_67) rfl (l' := #[.val (.int pi1), .val (.int pi2), .val (.int ((pi1 &&& (2147483647 : Int32)) % (9 : Int32))), .val (.int (0 : Int32)), .val (.ref w_DESC), .val (.ref w_H2), .val (.int (0 : Int32)), .unset, .unset]) rfl ?_
    show Stp p e below T2 m 69 #[.val (.int pi1), .val (.int pi2), .val (.int ((pi1 &&& (2147483647 : Int32)) % (9 : Int32))), .val (.int (0 : Int32)), .val (.ref w_DESC), .val (.ref w_H2), .val (.int (0 : Int32)), .unset, .unset] [] _
    refine XS.iloadN X2.here hx rfl (hb hby at_69) rfl ?_
    show Stp p e below T2 m 70 #[.val (.int pi1), .val (.int pi2), .val (.int ((pi1 &&& (2147483647 : Int32)) % (9 : Int32))), .val (.int (0 : Int32)), .val (.ref w_DESC), .val (.ref w_H2), .val (.int (0 : Int32)), .unset, .unset] [(.int ((pi1 &&& (2147483647 : Int32)) % (9 : Int32)))] _
    refine XS.iconst X2.here hx rfl (hb hby at_70) ?_
    show Stp p e below T2 m 71 #[.val (.int pi1), .val (.int pi2), .val (.int ((pi1 &&& (2147483647 : Int32)) % (9 : Int32))), .val (.int (0 : Int32)), .val (.ref w_DESC), .val (.ref w_H2), .val (.int (0 : Int32)), .unset, .unset] [(.int (1 : Int32)), (.int ((pi1 &&& (2147483647 : Int32)) % (9 : Int32)))] _
    refine XS.icmpNo X2.here hx rfl (hb hby at_71) rfl (feq hc36_2).1 ?_
    show Stp p e below T2 m 74 #[.val (.int pi1), .val (.int pi2), .val (.int ((pi1 &&& (2147483647 : Int32)) % (9 : Int32))), .val (.int (0 : Int32)), .val (.ref w_DESC), .val (.ref w_H2), .val (.int (0 : Int32)), .unset, .unset] [] _
    refine XS.iloadN X2.here hx rfl (hb hby at_74) rfl ?_
    show Stp p e below T2 m 75 #[.val (.int pi1), .val (.int pi2), .val (.int ((pi1 &&& (2147483647 : Int32)) % (9 : Int32))), .val (.int (0 : Int32)), .val (.ref w_DESC), .val (.ref w_H2), .val (.int (0 : Int32)), .unset, .unset] [(.int ((pi1 &&& (2147483647 : Int32)) % (9 : Int32)))] _
    refine XS.iconst X2.here hx rfl (hb hby at_75) ?_
    show Stp p e below T2 m 76 #[.val (.int pi1), .val (.int pi2), .val (.int ((pi1 &&& (2147483647 : Int32)) % (9 : Int32))), .val (.int (0 : Int32)), .val (.ref w_DESC), .val (.ref w_H2), .val (.int (0 : Int32)), .unset, .unset] [(.int (2 : Int32)), (.int ((pi1 &&& (2147483647 : Int32)) % (9 : Int32)))] _
    refine XS.icmpNo X2.here hx rfl (hb hby at_76) rfl (feq hc36_3).1 ?_
    show Stp p e below T2 m 79 #[.val (.int pi1), .val (.int pi2), .val (.int ((pi1 &&& (2147483647 : Int32)) % (9 : Int32))), .val (.int (0 : Int32)), .val (.ref w_DESC), .val (.ref w_H2), .val (.int (0 : Int32)), .unset, .unset] [] _
    refine XS.iloadN X2.here hx rfl (hb hby at_79) rfl ?_
    show Stp p e below T2 m 80 #[.val (.int pi1), .val (.int pi2), .val (.int ((pi1 &&& (2147483647 : Int32)) % (9 : Int32))), .val (.int (0 : Int32)), .val (.ref w_DESC), .val (.ref w_H2), .val (.int (0 : Int32)), .unset, .unset] [(.int ((pi1 &&& (2147483647 : Int32)) % (9 : Int32)))] _
    refine XS.iconst X2.here hx rfl (hb hby at_80) ?_
    show Stp p e below T2 m 81 #[.val (.int pi1), .val (.int pi2), .val (.int ((pi1 &&& (2147483647 : Int32)) % (9 : Int32))), .val (.int (0 : Int32)), .val (.ref w_DESC), .val (.ref w_H2), .val (.int (0 : Int32)), .unset, .unset] [(.int (3 : Int32)), (.int ((pi1 &&& (2147483647 : Int32)) % (9 : Int32)))] _
    refine XS.icmpYes X2.here hx rfl (pc0 := 81) (pc' := 90) rfl (hb hby at_81) rfl (teq hc36_4).1 (by decide) (by decide) ?_
    show Stp p e below T2 m 90 #[.val (.int pi1), .val (.int pi2), .val (.int ((pi1 &&& (2147483647 : Int32)) % (9 : Int32))), .val (.int (0 : Int32)), .val (.ref w_DESC), .val (.ref w_H2), .val (.int (0 : Int32)), .unset, .unset] [] _
    refine XS.iconst X2.here hx rfl (hb hby at_90) ?_
    show Stp p e below T2 m 91 #[.val (.int pi1), .val (.int pi2), .val (.int ((pi1 &&& (2147483647 : Int32)) % (9 : Int32))), .val (.int (0 : Int32)), .val (.ref w_DESC), .val (.ref w_H2), .val (.int (0 : Int32)), .unset, .unset] [(.int (1 : Int32))] _
    refine XS.goto X2.here hx rfl (pc0 := 91) (pc' := 95) rfl (hb hby at_91) (by decide) (by decide) ?_
    show Stp p e below T2 m 95 #[.val (.int pi1), .val (.int pi2), .val (.int ((pi1 &&& (2147483647 : Int32)) % (9 : Int32))), .val (.int (0 : Int32)), .val (.ref w_DESC), .val (.ref w_H2), .val (.int (0 : Int32)), .unset, .unset] [(.int (1 : Int32))] _
    refine XS.istore X2.here hx rfl (hb hby at_95) rfl (l' := #[.val (.int pi1), .val (.int pi2), .val (.int ((pi1 &&& (2147483647 : Int32)) % (9 : Int32))), .val (.int (0 : Int32)), .val (.ref w_DESC), .val (.ref w_H2), .val (.int (0 : Int32)), .val (.int (1 : Int32)), .unset]) rfl ?_
    show Stp p e below T2 m 97 #[.val (.int pi1), .val (.int pi2), .val (.int ((pi1 &&& (2147483647 : Int32)) % (9 : Int32))), .val (.int (0 : Int32)), .val (.ref w_DESC), .val (.ref w_H2), .val (.int (0 : Int32)), .val (.int (1 : Int32)), .unset] [] _
    refine XS.iload X2.here hx rfl (hb hby at_97) rfl ?_
    show Stp p e below T2 m 99 #[.val (.int pi1), .val (.int pi2), .val (.int ((pi1 &&& (2147483647 : Int32)) % (9 : Int32))), .val (.int (0 : Int32)), .val (.ref w_DESC), .val (.ref w_H2), .val (.int (0 : Int32)), .val (.int (1 : Int32)), .unset] [(.int (0 : Int32))] _
    refine XS.ifYes X2.here hx rfl (pc0 := 99) (pc' := 108) rfl (hb hby at_99) rfl ((if0 _ _).trans (teq (rfl : (0 : Int32) = (0 : Int32))).1) (by decide) (by decide) ?_
    show Stp p e below T2 m 108 #[.val (.int pi1), .val (.int pi2), .val (.int ((pi1 &&& (2147483647 : Int32)) % (9 : Int32))), .val (.int (0 : Int32)), .val (.ref w_DESC), .val (.ref w_H2), .val (.int (0 : Int32)), .val (.int (1 : Int32)), .unset] [] _
    refine XS.iload X2.here hx rfl (hb hby at_108) rfl ?_
    show Stp p e below T2 m 110 #[.val (.int pi1), .val (.int pi2), .val (.int ((pi1 &&& (2147483647 : Int32)) % (9 : Int32))), .val (.int (0 : Int32)), .val (.ref w_DESC), .val (.ref w_H2), .val (.int (0 : Int32)), .val (.int (1 : Int32)), .unset] [(.int (1 : Int32))] _
    refine XS.ifNo X2.here hx rfl (hb hby at_110) rfl ((if0 _ _).trans (feq (by decide : ¬ ((1 : Int32) = (0 : Int32)))).1) ?_
    show Stp p e below T2 m 113 #[.val (.int pi1), .val (.int pi2), .val (.int ((pi1 &&& (2147483647 : Int32)) % (9 : Int32))), .val (.int (0 : Int32)), .val (.ref w_DESC), .val (.ref w_H2), .val (.int (0 : Int32)), .val (.int (1 : Int32)), .unset] [] _
    refine XS.iloadN X2.here hx rfl (hb hby at_113) rfl ?_
    show Stp p e below T2 m 114 #[.val (.int pi1), .val (.int pi2), .val (.int ((pi1 &&& (2147483647 : Int32)) % (9 : Int32))), .val (.int (0 : Int32)), .val (.ref w_DESC), .val (.ref w_H2), .val (.int (0 : Int32)), .val (.int (1 : Int32)), .unset] [(.int (0 : Int32))] _
    refine XS.ifNo X2.here hx rfl (hb hby at_114) rfl ((if0 _ _).trans (teq (rfl : (0 : Int32) = (0 : Int32))).2) ?_
    show Stp p e below T2 m 117 #[.val (.int pi1), .val (.int pi2), .val (.int ((pi1 &&& (2147483647 : Int32)) % (9 : Int32))), .val (.int (0 : Int32)), .val (.ref w_DESC), .val (.ref w_H2), .val (.int (0 : Int32)), .val (.int (1 : Int32)), .unset] [] _
    refine XS.iconst X2.here hx rfl (hb hby at_117) ?_
    show Stp p e below T2 m 118 #[.val (.int pi1), .val (.int pi2), .val (.int ((pi1 &&& (2147483647 : Int32)) % (9 : Int32))), .val (.int (0 : Int32)), .val (.ref w_DESC), .val (.ref w_H2), .val (.int (0 : Int32)), .val (.int (1 : Int32)), .unset] [(.int (1 : Int32))] _
    refine XS.goto X2.here hx rfl (pc0 := 118) (pc' := 122) rfl (hb hby at_118) (by decide) (by decide) ?_
    show Stp p e below T2 m 122 #[.val (.int pi1), .val (.int pi2), .val (.int ((pi1 &&& (2147483647 : Int32)) % (9 : Int32))), .val (.int (0 : Int32)), .val (.ref w_DESC), .val (.ref w_H2), .val (.int (0 : Int32)), .val (.int (1 : Int32)), .unset] [(.int (1 : Int32))] _
    refine XS.istore X2.here hx rfl (hb hby at_122) rfl (l' := #[.val (.int pi1), .val (.int pi2), .val (.int ((pi1 &&& (2147483647 : Int32)) % (9 : Int32))), .val (.int (0 : Int32)), .val (.ref w_DESC), .val (.ref w_H2), .val (.int (0 : Int32)), .val (.int (1 : Int32)), .val (.int (1 : Int32))]) rfl ?_
    show Stp p e below T2 m 124 #[.val (.int pi1), .val (.int pi2), .val (.int ((pi1 &&& (2147483647 : Int32)) % (9 : Int32))), .val (.int (0 : Int32)), .val (.ref w_DESC), .val (.ref w_H2), .val (.int (0 : Int32)), .val (.int (1 : Int32)), .val (.int (1 : Int32))] [] _
    refine XS.goto X2.here hx rfl (pc0 := 124) (pc' := 130) rfl (hb hby at_124) (by decide) (by decide) ?_
    show Stp p e below T2 m 130 #[.val (.int pi1), .val (.int pi2), .val (.int ((pi1 &&& (2147483647 : Int32)) % (9 : Int32))), .val (.int (0 : Int32)), .val (.ref w_DESC), .val (.ref w_H2), .val (.int (0 : Int32)), .val (.int (1 : Int32)), .val (.int (1 : Int32))] [] _
    refine XS.aload X2.here hx rfl (hb hby at_130) rfl rfl ?_
    show Stp p e below T2 m 132 #[.val (.int pi1), .val (.int pi2), .val (.int ((pi1 &&& (2147483647 : Int32)) % (9 : Int32))), .val (.int (0 : Int32)), .val (.ref w_DESC), .val (.ref w_H2), .val (.int (0 : Int32)), .val (.int (1 : Int32)), .val (.int (1 : Int32))] [(.ref w_H2)] _
    refine XS.aload X2.here hx rfl (hb hby at_132) rfl rfl ?_
    show Stp p e below T2 m 134 #[.val (.int pi1), .val (.int pi2), .val (.int ((pi1 &&& (2147483647 : Int32)) % (9 : Int32))), .val (.int (0 : Int32)), .val (.ref w_DESC), .val (.ref w_H2), .val (.int (0 : Int32)), .val (.int (1 : Int32)), .val (.int (1 : Int32))] [(.ref w_DESC), (.ref w_H2)] _
    refine st3.trans ?_
    show Stp p e below T3 m 137 #[.val (.int pi1), .val (.int pi2), .val (.int ((pi1 &&& (2147483647 : Int32)) % (9 : Int32))), .val (.int (0 : Int32)), .val (.ref w_DESC), .val (.ref w_H2), .val (.int (0 : Int32)), .val (.int (1 : Int32)), .val (.int (1 : Int32))] [(.int (1 : Int32))] _
    refine XS.iload X3.here hx rfl (hb hby at_137) rfl ?_
    show Stp p e below T3 m 139 #[.val (.int pi1), .val (.int pi2), .val (.int ((pi1 &&& (2147483647 : Int32)) % (9 : Int32))), .val (.int (0 : Int32)), .val (.ref w_DESC), .val (.ref w_H2), .val (.int (0 : Int32)), .val (.int (1 : Int32)), .val (.int (1 : Int32))] [(.int (1 : Int32)), (.int (1 : Int32))] _
    refine XS.icmpNo X3.here hx rfl (hb hby at_139) rfl (teq (rfl : (1 : Int32) = (1 : Int32))).2 ?_
    show Stp p e below T3 m 142 #[.val (.int pi1), .val (.int pi2), .val (.int ((pi1 &&& (2147483647 : Int32)) % (9 : Int32))), .val (.int (0 : Int32)), .val (.ref w_DESC), .val (.ref w_H2), .val (.int (0 : Int32)), .val (.int (1 : Int32)), .val (.int (1 : Int32))] [] _
    refine XS.iconst X3.here hx rfl (hb hby at_142) ?_
    show Stp p e below T3 m 143 #[.val (.int pi1), .val (.int pi2), .val (.int ((pi1 &&& (2147483647 : Int32)) % (9 : Int32))), .val (.int (0 : Int32)), .val (.ref w_DESC), .val (.ref w_H2), .val (.int (0 : Int32)), .val (.int (1 : Int32)), .val (.int (1 : Int32))] [(.int (1 : Int32))] _
    refine XS.goto X3.here hx rfl (pc0 := 143) (pc' := 147) rfl (hb hby at_143) (by decide) (by decide) ?_
    show Stp p e below T3 m 147 #[.val (.int pi1), .val (.int pi2), .val (.int ((pi1 &&& (2147483647 : Int32)) % (9 : Int32))), .val (.int (0 : Int32)), .val (.ref w_DESC), .val (.ref w_H2), .val (.int (0 : Int32)), .val (.int (1 : Int32)), .val (.int (1 : Int32))] [(.int (1 : Int32))] _
    exact retN X3 hx (t := .boolean) Bd.returns (by simp) (hb hby at_147) hr
  · exact ⟨rfl, N3⟩
set_option maxRecDepth 65536 in
set_option maxHeartbeats 40000000 in
theorem rm0_ffffft (l : Launch) (Z : State) (a0 : Array Value) (hw : ∀ d ∈ tables_1, d.before a0 Z = true) (ws : List Jvm.Cond) (pi1 : Int32) (pi2 : Int32) (w_HIGH : Addr) (w_LOW : Addr) (w_FIRST : Addr) (w_ASC : Addr) (w_DESC : Addr) (w_POSTGRESQL : Addr) (w_MARIADB : Addr) (w_SQLITE : Addr) (w_H2 : Addr) (w_HSQLDB : Addr) (w_DERBY : Addr) (w_ORACLE : Addr) (w_SQLSERVER : Addr) (w_DB2 : Addr) (h0 : Heap) (n0 : Nat) (Z0 : n0 ≤ h0.size) (O0 : Old Z n0 h0) (S_ASC : Sta Z Z.heap "com/example/leafcount/leafcount/Sort$Direction" "ASC" "Lcom/example/leafcount/leafcount/Sort$Direction;" (.ref w_ASC)) (S_DESC : Sta Z Z.heap "com/example/leafcount/leafcount/Sort$Direction" "DESC" "Lcom/example/leafcount/leafcount/Sort$Direction;" (.ref w_DESC)) (S_POSTGRESQL : Sta Z Z.heap "com/example/leafcount/leafcount/SqlSyntax" "POSTGRESQL" "Lcom/example/leafcount/leafcount/SqlSyntax;" (.ref w_POSTGRESQL)) (S_MARIADB : Sta Z Z.heap "com/example/leafcount/leafcount/SqlSyntax" "MARIADB" "Lcom/example/leafcount/leafcount/SqlSyntax;" (.ref w_MARIADB)) (S_SQLITE : Sta Z Z.heap "com/example/leafcount/leafcount/SqlSyntax" "SQLITE" "Lcom/example/leafcount/leafcount/SqlSyntax;" (.ref w_SQLITE)) (S_H2 : Sta Z Z.heap "com/example/leafcount/leafcount/SqlSyntax" "H2" "Lcom/example/leafcount/leafcount/SqlSyntax;" (.ref w_H2)) (S_HSQLDB : Sta Z Z.heap "com/example/leafcount/leafcount/SqlSyntax" "HSQLDB" "Lcom/example/leafcount/leafcount/SqlSyntax;" (.ref w_HSQLDB)) (S_DERBY : Sta Z Z.heap "com/example/leafcount/leafcount/SqlSyntax" "DERBY" "Lcom/example/leafcount/leafcount/SqlSyntax;" (.ref w_DERBY)) (S_ORACLE : Sta Z Z.heap "com/example/leafcount/leafcount/SqlSyntax" "ORACLE" "Lcom/example/leafcount/leafcount/SqlSyntax;" (.ref w_ORACLE)) (S_SQLSERVER : Sta Z Z.heap "com/example/leafcount/leafcount/SqlSyntax" "SQLSERVER" "Lcom/example/leafcount/leafcount/SqlSyntax;" (.ref w_SQLSERVER)) (S_DB2 : Sta Z Z.heap "com/example/leafcount/leafcount/SqlSyntax" "DB2" "Lcom/example/leafcount/leafcount/SqlSyntax;" (.ref w_DB2)) (E_w_POSTGRESQL : Exa Z Z.heap w_POSTGRESQL "com/example/leafcount/leafcount/SqlSyntax") (E_w_MARIADB : Exa Z Z.heap w_MARIADB "com/example/leafcount/leafcount/SqlSyntax") (E_w_SQLITE : Exa Z Z.heap w_SQLITE "com/example/leafcount/leafcount/SqlSyntax") (E_w_H2 : Exa Z Z.heap w_H2 "com/example/leafcount/leafcount/SqlSyntax") (E_w_HSQLDB : Exa Z Z.heap w_HSQLDB "com/example/leafcount/leafcount/SqlSyntax") (E_w_DERBY : Exa Z Z.heap w_DERBY "com/example/leafcount/leafcount/SqlSyntax") (E_w_ORACLE : Exa Z Z.heap w_ORACLE "com/example/leafcount/leafcount/SqlSyntax") (E_w_SQLSERVER : Exa Z Z.heap w_SQLSERVER "com/example/leafcount/leafcount/SqlSyntax") (E_w_DB2 : Exa Z Z.heap w_DB2 "com/example/leafcount/leafcount/SqlSyntax") (F_nullOrder_w_POSTGRESQL : Fld Z Z.heap w_POSTGRESQL "com/example/leafcount/leafcount/SqlSyntax" "nullOrder" "Lcom/example/leafcount/leafcount/SqlSyntax$NullOrder;" (.ref w_HIGH)) (F_nullOrder_w_MARIADB : Fld Z Z.heap w_MARIADB "com/example/leafcount/leafcount/SqlSyntax" "nullOrder" "Lcom/example/leafcount/leafcount/SqlSyntax$NullOrder;" (.ref w_LOW)) (F_nullOrder_w_SQLITE : Fld Z Z.heap w_SQLITE "com/example/leafcount/leafcount/SqlSyntax" "nullOrder" "Lcom/example/leafcount/leafcount/SqlSyntax$NullOrder;" (.ref w_LOW)) (F_nullOrder_w_H2 : Fld Z Z.heap w_H2 "com/example/leafcount/leafcount/SqlSyntax" "nullOrder" "Lcom/example/leafcount/leafcount/SqlSyntax$NullOrder;" (.ref w_LOW)) (F_nullOrder_w_HSQLDB : Fld Z Z.heap w_HSQLDB "com/example/leafcount/leafcount/SqlSyntax" "nullOrder" "Lcom/example/leafcount/leafcount/SqlSyntax$NullOrder;" (.ref w_FIRST)) (F_nullOrder_w_DERBY : Fld Z Z.heap w_DERBY "com/example/leafcount/leafcount/SqlSyntax" "nullOrder" "Lcom/example/leafcount/leafcount/SqlSyntax$NullOrder;" (.ref w_HIGH)) (F_nullOrder_w_ORACLE : Fld Z Z.heap w_ORACLE "com/example/leafcount/leafcount/SqlSyntax" "nullOrder" "Lcom/example/leafcount/leafcount/SqlSyntax$NullOrder;" (.ref w_HIGH)) (F_nullOrder_w_SQLSERVER : Fld Z Z.heap w_SQLSERVER "com/example/leafcount/leafcount/SqlSyntax" "nullOrder" "Lcom/example/leafcount/leafcount/SqlSyntax$NullOrder;" (.ref w_LOW)) (F_nullOrder_w_DB2 : Fld Z Z.heap w_DB2 "com/example/leafcount/leafcount/SqlSyntax" "nullOrder" "Lcom/example/leafcount/leafcount/SqlSyntax$NullOrder;" (.ref w_HIGH)) (F_last_w_HIGH : Fld Z Z.heap w_HIGH "com/example/leafcount/leafcount/SqlSyntax$NullOrder" "last" "Lcom/example/leafcount/leafcount/Sort$Direction;" (.ref w_ASC)) (F_last_w_LOW : Fld Z Z.heap w_LOW "com/example/leafcount/leafcount/SqlSyntax$NullOrder" "last" "Lcom/example/leafcount/leafcount/Sort$Direction;" (.ref w_DESC)) (F_last_w_FIRST : Fld Z Z.heap w_FIRST "com/example/leafcount/leafcount/SqlSyntax$NullOrder" "last" "Lcom/example/leafcount/leafcount/Sort$Direction;" .null) (hne : w_ASC ≠ w_DESC) (hc11_0 : ¬ ((pi2 &&& (1 : Int32)) = (0 : Int32))) (hc36_1 : ¬ (((pi1 &&& (2147483647 : Int32)) % (9 : Int32)) = (0 : Int32))) (hc36_2 : ¬ (((pi1 &&& (2147483647 : Int32)) % (9 : Int32)) = (1 : Int32))) (hc36_3 : ¬ (((pi1 &&& (2147483647 : Int32)) % (9 : Int32)) = (2 : Int32))) (hc36_4 : ¬ (((pi1 &&& (2147483647 : Int32)) % (9 : Int32)) = (3 : Int32))) (hc36_5 : ((pi1 &&& (2147483647 : Int32)) % (9 : Int32)) = (4 : Int32)) :
    MetFree l x (head1 (Jvm.Cond.code x code maxLocals ret :: ws) room_1) (fun a U => a = #[(.int pi1), (.int pi2)] ∧ Z.Warmed39 U.vm ∧ U.heap = h0) (fun _ _ _ _ _ => True) (fun _ U o U' => ∃ v L, o = .returned v ∧ Q0 v L n0 ∧ FrameEnd U o U' L room_1.cells room_1.slots) := by
  refine MetFree.of_bodySF (plainFor_of_name pn_0) hisR ?_
  intro p e s m args below meth c s₁ Bd hml0 hP hK
  obtain ⟨rfl, hZ, hh⟩ := hP
  have hx := Bd.exec
  have hby := Bd.bytes
  have hml : c.maxLocals = 9 := hml0
  have hown : s.vm.findClass "com/example/leafcount/leafcount/SqlSyntaxPutsNullLastPinLaw" = some m.cls := findClass_of_methodNamed Bd.named
  have hnm := (name_of_methodNamed Bd.named Bd.method).1
  have X0 : Stand p l e room_1 s m #[(.int pi1), (.int pi2)] below meth c s₁ [] 0 0 := Stand.of_body Bd
  have e0 : s₁.heap = h0 := by rw [← hh, Bd.state]; rfl
  have N0 := Fr.nil n0
  have pre0 : ∀ t, Steps p.tables e below (s₁.setTop (mkF m 0 #[.val (.int pi1), .val (.int pi2), .unset, .unset, .unset, .unset, .unset, .unset, .unset] [])) t → Steps p.tables e below (s₁.setTop (entryFrame m #[(.int pi1), (.int pi2)] maxLocals)) t := fun t k => castTop (ef_0 m pi1 pi2) k
  obtain ⟨T1, X1, e1, st1⟩ := getS2 X0 hx hZ hown (host := "") (Or.inl (own_W hw 1 rfl)) Via.refl e0 (S_DESC.ext O0.2) (g := (mkF m 30 #[.val (.int pi1), .val (.int pi2), .val (.int ((pi1 &&& (2147483647 : Int32)) % (9 : Int32))), .val (.int (0 : Int32)), .unset, .unset, .unset, .unset, .unset] [])) rfl (hb hby at_30)
  obtain ⟨_, _, ⟨T2, L2, k2, n2⟩, -, X2, ⟨Lc2, hQ2, l2, y2, z2⟩, st2⟩ := Jvm.LawKit.callS X1 hx (y := (⟨"com/example/leafcount/leafcount/SqlSyntaxPutsNullLastPinLaw", "pick", "(I)Lcom/example/leafcount/leafcount/SqlSyntax;"⟩ : MethodName)) hown (mvT hZ (own_W hw 4 rfl)) (mvT hZ (own_W hw 5 rfl)) (mvT hZ (own_W hw 6 rfl)) (mvT hZ (own_W hw 7 rfl)) (by decide) (backOf (W := 0) (rm1_4 l Z a0 hw [] ((pi1 &&& (2147483647 : Int32)) % (9 : Int32)) w_HSQLDB h0 n0 Z0 O0 S_HSQLDB hc36_1 hc36_2 hc36_3 hc36_4 hc36_5) hZ (own_W hw 7 rfl) (own_W hw 6 rfl) (by decide) (by decide)) (g := (mkF m 36 #[.val (.int pi1), .val (.int pi2), .val (.int ((pi1 &&& (2147483647 : Int32)) % (9 : Int32))), .val (.int (0 : Int32)), .val (.ref w_DESC), .unset, .unset, .unset, .unset] [(.int ((pi1 &&& (2147483647 : Int32)) % (9 : Int32)))])) rfl (by rw [hml]; rfl) (argsL := [(.int ((pi1 &&& (2147483647 : Int32)) % (9 : Int32)))]) (rest := []) (lenOf pd_0 rfl) rfl (by show 2 * 0 + _ ≤ _; exact Nat.le_of_eq rfl) (hb hby at_36) (fun _ _ => ⟨rfl, e1, (by decide : 0 + 0 ≤ _), (by decide : 0 + 0 ≤ _)⟩)
  dsimp only [Pt.U, Pt.locs, Pt.cells, Pt.slots] at X2 l2 y2 z2 st2 hQ2
  subst l2 y2 z2
  obtain ⟨rfl, N2q, eq2⟩ := hQ2
  have N2 := Fr.app N0 N2q
  obtain ⟨cq3, kq3, q3a, q3b, q3c⟩ := isOf hZ eq2 (E_w_HSQLDB.ext O0.2)
  obtain ⟨_, _, ⟨T3, L3, k3, n3⟩, -, X3, ⟨Lc3, hQ3, l3, y3, z3⟩, st3⟩ := X2.virtualBack hx (y := (⟨"com/example/leafcount/leafcount/SqlSyntax", "putsNullLast", "(Lcom/example/leafcount/leafcount/Sort$Direction;)Z"⟩ : MethodName)) (z := (⟨"com/example/leafcount/leafcount/SqlSyntax", "putsNullLast", "(Lcom/example/leafcount/leafcount/Sort$Direction;)Z"⟩ : MethodName)) hown (mvT hZ (own_W hw 11 rfl)) (mvT hZ (own_W hw 12 rfl)) (notFace_of_selects (args := #[]) (mvT hZ (own_W hw 14 rfl))) (mvT hZ (own_W hw 14 rfl)) (mvT hZ (own_W hw 13 rfl)) (by decide) (backOf (W := 0) (rm2_n l Z a0 hw [] w_HSQLDB w_DESC w_FIRST h0 n0 Z0 O0 (F_nullOrder_w_HSQLDB.ext O0.2) (F_last_w_FIRST.ext O0.2)) hZ (own_W hw 15 rfl) (own_W hw 9 rfl) (by decide) (by decide)) q3a q3c (g := (mkF m 134 #[.val (.int pi1), .val (.int pi2), .val (.int ((pi1 &&& (2147483647 : Int32)) % (9 : Int32))), .val (.int (0 : Int32)), .val (.ref w_DESC), .val (.ref w_HSQLDB), .val (.int (0 : Int32)), .val (.int (0 : Int32)), .val (.int (0 : Int32))] [(.ref w_DESC), (.ref w_HSQLDB)])) rfl (by rw [hml]; rfl) (Steps.refl _) (argsL := [(.ref w_DESC)]) (rest := []) (lenOf pd_1 rfl) rfl (by show 2 * 0 + _ ≤ _; exact Nat.le_of_eq rfl) (hb hby at_134) (fun _ _ => ⟨rfl, eq2, (by decide : 0 + 0 ≤ _), (by decide : 0 + 0 ≤ _)⟩)
  dsimp only [Pt.U, Pt.locs, Pt.cells, Pt.slots] at X3 l3 y3 z3 st3 hQ3
  subst l3 y3 z3
  obtain ⟨rfl, N3q, eq3⟩ := hQ3
  have N3 := Fr.app N2 N3q
  obtain ⟨fs, hr, hrun, hended, hW, hsame⟩ := X3.leave (v := some (.int (1 : Int32))) (fun h => by rw [Bd.returns] at h; cases h)
  refine ⟨_, _, pre0 _ ?_, hrun, hended, _, _, rfl, ?_, ⟨_, rfl⟩, hW, hsame.mono (by decide) (by decide)⟩
  · show Stp p e below s₁ m 0 #[.val (.int pi1), .val (.int pi2), .unset, .unset, .unset, .unset, .unset, .unset, .unset] [] _
    refine XS.iloadN X0.here hx rfl (hb hby at_0) rfl ?_
    show Stp p e below s₁ m 1 #[.val (.int pi1), .val (.int pi2), .unset, .unset, .unset, .unset, .unset, .unset, .unset] [(.int pi1)] _
    refine X0.ldcInt hx hown (mvT hZ (own_W hw 0 rfl)) (g := (mkF m 1 #[.val (.int pi1), .val (.int pi2), .unset, .unset, .unset, .unset, .unset, .unset, .unset] [(.int pi1)])) rfl (hb hby at_1) _ ?_
    show Stp p e below s₁ m 3 #[.val (.int pi1), .val (.int pi2), .unset, .unset, .unset, .unset, .unset, .unset, .unset] [(.int (2147483647 : Int32)), (.int pi1)] _
    refine XS.iand X0.here hx rfl (hb hby at_3) rfl ?_
    show Stp p e below s₁ m 4 #[.val (.int pi1), .val (.int pi2), .unset, .unset, .unset, .unset, .unset, .unset, .unset] [(.int (pi1 &&& (2147483647 : Int32)))] _
    refine XS.bipush X0.here hx rfl (hb hby at_4) ?_
    show Stp p e below s₁ m 6 #[.val (.int pi1), .val (.int pi2), .unset, .unset, .unset, .unset, .unset, .unset, .unset] [(.int (9 : Int32)), (.int (pi1 &&& (2147483647 : Int32)))] _
    refine iremM X0 hx rfl (hb hby at_6) rfl (by decide) ?_
    show Stp p e below s₁ m 7 #[.val (.int pi1), .val (.int pi2), .unset, .unset, .unset, .unset, .unset, .unset, .unset] [(.int ((pi1 &&& (2147483647 : Int32)) % (9 : Int32)))] _
    refine XS.istoreN X0.here hx rfl (hb hby at_7) rfl (l' := #[.val (.int pi1), .val (.int pi2), .val (.int ((pi1 &&& (2147483647 : Int32)) % (9 : Int32))), .unset, .unset, .unset, .unset, .unset, .unset]) rfl ?_
    show Stp p e below s₁ m 8 #[.val (.int pi1), .val (.int pi2), .val (.int ((pi1 &&& (2147483647 : Int32)) % (9 : Int32))), .unset, .unset, .unset, .unset, .unset, .unset] [] _
    refine XS.iloadN X0.here hx rfl (hb hby at_8) rfl ?_
    show Stp p e below s₁ m 9 #[.val (.int pi1), .val (.int pi2), .val (.int ((pi1 &&& (2147483647 : Int32)) % (9 : Int32))), .unset, .unset, .unset, .unset, .unset, .unset] [(.int pi2)] _
    refine XS.iconst X0.here hx rfl (hb hby at_9) ?_
    show Stp p e below s₁ m 10 #[.val (.int pi1), .val (.int pi2), .val (.int ((pi1 &&& (2147483647 : Int32)) % (9 : Int32))), .unset, .unset, .unset, .unset, .unset, .unset] [(.int (1 : Int32)), (.int pi2)] _
    refine XS.iand X0.here hx rfl (hb hby at_10) rfl ?_
    show Stp p e below s₁ m 11 #[.val (.int pi1), .val (.int pi2), .val (.int ((pi1 &&& (2147483647 : Int32)) % (9 : Int32))), .unset, .unset, .unset, .unset, .unset, .unset] [(.int (pi2 &&& (1 : Int32)))] _
    refine XS.ifYes X0.here hx rfl (pc0 := 11) (pc' := 18) rfl (hb hby at_11) rfl ((if0 _ _).trans (feq hc11_0).2) (by decide) (by decide) ?_
    show Stp p e below s₁ m 18 #[.val (.int pi1), .val (.int pi2), .val (.int ((pi1 &&& (2147483647 : Int32)) % (9 : Int32))), .unset, .unset, .unset, .unset, .unset, .unset] [] _
    refine XS.iconst X0.here hx rfl (hb hby at_18) ?_
    show Stp p e below s₁ m 19 #[.val (.int pi1), .val (.int pi2), .val (.int ((pi1 &&& (2147483647 : Int32)) % (9 : Int32))), .unset, .unset, .unset, .unset, .unset, .unset] [(.int (0 : Int32))] _
    refine XS.istoreN X0.here hx rfl (hb hby at_19) rfl (l' := #[.val (.int pi1), .val (.int pi2), .val (.int ((pi1 &&& (2147483647 : Int32)) % (9 : Int32))), .val (.int (0 : Int32)), .unset, .unset, .unset, .unset, .unset]) rfl ?_
    show Stp p e below s₁ m 20 #[.val (.int pi1), .val (.int pi2), .val (.int ((pi1 &&& (2147483647 : Int32)) % (9 : Int32))), .val (.int (0 : Int32)), .unset, .unset, .unset, .unset, .unset] [] _
    refine XS.iloadN X0.here hx rfl (hb hby at_20) rfl ?_
    show Stp p e below s₁ m 21 #[.val (.int pi1), .val (.int pi2), .val (.int ((pi1 &&& (2147483647 : Int32)) % (9 : Int32))), .val (.int (0 : Int32)), .unset, .unset, .unset, .unset, .unset] [(.int (0 : Int32))] _
    refine XS.ifYes X0.here hx rfl (pc0 := 21) (pc' := 30) rfl (hb hby at_21) rfl ((if0 _ _).trans (teq (rfl : (0 : Int32) = (0 : Int32))).1) (by decide) (by decide) ?_
    show Stp p e below s₁ m 30 #[.val (.int pi1), .val (.int pi2), .val (.int ((pi1 &&& (2147483647 : Int32)) % (9 : Int32))), .val (.int (0 : Int32)), .unset, .unset, .unset, .unset, .unset] [] _
    refine st1 _ ?_
    show Stp p e below T1 m 33 #[.val (.int pi1), .val (.int pi2), .val (.int ((pi1 &&& (2147483647 : Int32)) % (9 : Int32))), .val (.int (0 : Int32)), .unset, .unset, .unset, .unset, .unset] [(.ref w_DESC)] _
    refine XS.astore X1.here hx rfl (hb hby at_33) rfl rfl (l' := #[.val (.int pi1), .val (.int pi2), .val (.int ((pi1 &&& (2147483647 : Int32)) % (9 : Int32))), .val (.int (0 : Int32)), .val (.ref w_DESC), .unset, .unset, .unset, .unset]) rfl ?_
    show Stp p e below T1 m 35 #[.val (.int pi1), .val (.int pi2), .val (.int ((pi1 &&& (2147483647 : Int32)) % (9 : Int32))), .val (.int (0 : Int32)), .val (.ref w_DESC), .unset, .unset, .unset, .unset] [] _
    refine XS.iloadN X1.here hx rfl (hb hby at_35) rfl ?_
    show Stp p e below T1 m 36 #[.val (.int pi1), .val (.int pi2), .val (.int ((pi1 &&& (2147483647 : Int32)) % (9 : Int32))), .val (.int (0 : Int32)), .val (.ref w_DESC), .unset, .unset, .unset, .unset] [(.int ((pi1 &&& (2147483647 : Int32)) % (9 : Int32)))] _
    refine st2 _ ?_
    show Stp p e below T2 m 39 #[.val (.int pi1), .val (.int pi2), .val (.int ((pi1 &&& (2147483647 : Int32)) % (9 : Int32))), .val (.int (0 : Int32)), .val (.ref w_DESC), .unset, .unset, .unset, .unset] [(.ref w_HSQLDB)] _
    refine XS.astore X2.here hx rfl (hb hby at_39) rfl rfl (l' := #[.val (.int pi1), .val (.int pi2), .val (.int ((pi1 &&& (2147483647 : Int32)) % (9 : Int32))), .val (.int (0 : Int32)), .val (.ref w_DESC), .val (.ref w_HSQLDB), .unset, .unset, .unset]) rfl ?_
    show Stp p e below T2 m 41 #[.val (.int pi1), .val (.int pi2), .val (.int ((pi1 &&& (2147483647 : Int32)) % (9 : Int32))), .val (.int (0 : Int32)), .val (.ref w_DESC), .val (.ref w_HSQLDB), .unset, .unset, .unset] [] _
    refine XS.iloadN X2.here hx rfl (hb hby at_41) rfl ?_
    show Stp p e below T2 m 42 #[.val (.int pi1), .val (.int pi2), .val (.int ((pi1 &&& (2147483647 : Int32)) % (9 : Int32))), .val (.int (0 : Int32)), .val (.ref w_DESC), .val (.ref w_HSQLDB), .unset, .unset, .unset] [(.int ((pi1 &&& (2147483647 : Int32)) % (9 : Int32)))] _
    refine XS.ifNo X2.here hx rfl (hb hby at_42) rfl ((if0 _ _).trans (feq hc36_1).1) ?_
    show Stp p e below T2 m 45 #[.val (.int pi1), .val (.int pi2), .val (.int ((pi1 &&& (2147483647 : Int32)) % (9 : Int32))), .val (.int (0 : Int32)), .val (.ref w_DESC), .val (.ref w_HSQLDB), .unset, .unset, .unset] [] _
    refine XS.iloadN X2.here hx rfl (hb hby at_45) rfl ?_
    show Stp p e below T2 m 46 #[.val (.int pi1), .val (.int pi2), .val (.int ((pi1 &&& (2147483647 : Int32)) % (9 : Int32))), .val (.int (0 : Int32)), .val (.ref w_DESC), .val (.ref w_HSQLDB), .unset, .unset, .unset] [(.int ((pi1 &&& (2147483647 : Int32)) % (9 : Int32)))] _
    refine XS.iconst X2.here hx rfl (hb hby at_46) ?_
    show Stp p e below T2 m 47 #[.val (.int pi1), .val (.int pi2), .val (.int ((pi1 &&& (2147483647 : Int32)) % (9 : Int32))), .val (.int (0 : Int32)), .val (.ref w_DESC), .val (.ref w_HSQLDB), .unset, .unset, .unset] [(.int (5 : Int32)), (.int ((pi1 &&& (2147483647 : Int32)) % (9 : Int32)))] _
    refine XS.icmpNo X2.here hx rfl (hb hby at_47) rfl (feq (fun q => absurd (hc36_5.symm.trans q) (by decide))).1 ?_
    show Stp p e below T2 m 50 #[.val (.int pi1), .val (.int pi2), .val (.int ((pi1 &&& (2147483647 : Int32)) % (9 : Int32))), .val (.int (0 : Int32)), .val (.ref w_DESC), .val (.ref w_HSQLDB), .unset, .unset, .unset] [] _
    refine XS.iloadN X2.here hx rfl (hb hby at_50) rfl ?_
    show Stp p e below T2 m 51 #[.val (.int pi1), .val (.int pi2), .val (.int ((pi1 &&& (2147483647 : Int32)) % (9 : Int32))), .val (.int (0 : Int32)), .val (.ref w_DESC), .val (.ref w_HSQLDB), .unset, .unset, .unset] [(.int ((pi1 &&& (2147483647 : Int32)) % (9 : Int32)))] _
    refine XS.bipush X2.here hx rfl (hb hby at_51) ?_
    show Stp p e below T2 m 53 #[.val (.int pi1), .val (.int pi2), .val (.int ((pi1 &&& (2147483647 : Int32)) % (9 : Int32))), .val (.int (0 : Int32)), .val (.ref w_DESC), .val (.ref w_HSQLDB), .unset, .unset, .unset] [(.int (6 : Int32)), (.int ((pi1 &&& (2147483647 : Int32)) % (9 : Int32)))] _
    refine XS.icmpNo X2.here hx rfl (hb hby at_53) rfl (feq (fun q => absurd (hc36_5.symm.trans q) (by decide))).1 ?_
    show Stp p e below T2 m 56 #[.val (.int pi1), .val (.int pi2), .val (.int ((pi1 &&& (2147483647 : Int32)) % (9 : Int32))), .val (.int (0 : Int32)), .val (.ref w_DESC), .val (.ref w_HSQLDB), .unset, .unset, .unset] [] _
    refine XS.iloadN X2.here hx rfl (hb hby at_56) rfl ?_
    show Stp p e below T2 m 57 #[.val (.int pi1), .val (.int pi2), .val (.int ((pi1 &&& (2147483647 : Int32)) % (9 : Int32))), .val (.int (0 : Int32)), .val (.ref w_DESC), .val (.ref w_HSQLDB), .unset, .unset, .unset] [(.int ((pi1 &&& (2147483647 : Int32)) % (9 : Int32)))] _
    refine XS.bipush X2.here hx rfl (hb hby at_57) ?_
    show Stp p e below T2 m 59 #[.val (.int pi1), .val (.int pi2), .val (.int ((pi1 &&& (2147483647 : Int32)) % (9 : Int32))), .val (.int (0 : Int32)), .val (.ref w_DESC), .val (.ref w_HSQLDB), .unset, .unset, .unset] [(.int (8 : Int32)), (.int ((pi1 &&& (2147483647 : Int32)) % (9 : Int32)))] _
    refine XS.icmpYes X2.here hx rfl (pc0 := 59) (pc' := 66) rfl (hb hby at_59) rfl (feq (fun q => absurd (hc36_5.symm.trans q) (by decide))).2 (by decide) (by decide) ?_
    show Stp p e below T2 m 66 #[.val (.int pi1), .val (.int pi2), .val (.int ((pi1 &&& (2147483647 : Int32)) % (9 : Int32))), .val (.int (0 : Int32)), .val (.ref w_DESC), .val (.ref w_HSQLDB), .unset, .unset, .unset] [] _
    refine XS.iconst X2.here hx rfl (hb hby at_66) ?_
    show Stp p e below T2 m 67 #[.val (.int pi1), .val (.int pi2), .val (.int ((pi1 &&& (2147483647 : Int32)) % (9 : Int32))), .val (.int (0 : Int32)), .val (.ref w_DESC), .val (.ref w_HSQLDB), .unset, .unset, .unset] [(.int (0 : Int32))] _
    refine XS.istore X2.here hx rfl (hb hby at_67) rfl (l' := #[.val (.int pi1), .val (.int pi2), .val (.int ((pi1 &&& (2147483647 : Int32)) % (9 : Int32))), .val (.int (0 : Int32)), .val (.ref w_DESC), .val (.ref w_HSQLDB), .val (.int (0 : Int32)), .unset, .unset]) rfl ?_
    show Stp p e below T2 m 69 #[.val (.int pi1), .val (.int pi2), .val (.int ((pi1 &&& (2147483647 : Int32)) % (9 : Int32))), .val (.int (0 : Int32)), .val (.ref w_DESC), .val (.ref w_HSQLDB), .val (.int (0 : Int32)), .unset, .unset] [] _
    refine XS.iloadN X2.here hx rfl (hb hby at_69) rfl ?_
    show Stp p e below T2 m 70 #[.val (.int pi1), .val (.int pi2), .val (.int ((pi1 &&& (2147483647 : Int32)) % (9 : Int32))), .val (.int (0 : Int32)), .val (.ref w_DESC), .val (.ref w_HSQLDB), .val (.int (0 : Int32)), .unset, .unset] [(.int ((pi1 &&& (2147483647 : Int32)) % (9 : Int32)))] _
    refine XS.iconst X2.here hx rfl (hb hby at_70) ?_
    show Stp p e below T2 m 71 #[.val (.int pi1), .val (.int pi2), .val (.int ((pi1 &&& (2147483647 : Int32)) % (9 : Int32))), .val (.int (0 : Int32)), .val (.ref w_DESC), .val (.ref w_HSQLDB), .val (.int (0 : Int32)), .unset, .unset] [(.int (1 : Int32)), (.int ((pi1 &&& (2147483647 : Int32)) % (9 : Int32)))] _
    refine XS.icmpNo X2.here hx rfl (hb hby at_71) rfl (feq hc36_2).1 ?_
    show Stp p e below T2 m 74 #[.val (.int pi1), .val (.int pi2), .val (.int ((pi1 &&& (2147483647 : Int32)) % (9 : Int32))), .val (.int (0 : Int32)), .val (.ref w_DESC), .val (.ref w_HSQLDB), .val (.int (0 : Int32)), .unset, .unset] [] _
    refine XS.iloadN X2.here hx rfl (hb hby at_74) rfl ?_
    show Stp p e below T2 m 75 #[.val (.int pi1), .val (.int pi2), .val (.int ((pi1 &&& (2147483647 : Int32)) % (9 : Int32))), .val (.int (0 : Int32)), .val (.ref w_DESC), .val (.ref w_HSQLDB), .val (.int (0 : Int32)), .unset, .unset] [(.int ((pi1 &&& (2147483647 : Int32)) % (9 : Int32)))] _
    refine XS.iconst X2.here hx rfl (hb hby at_75) ?_
    show Stp p e below T2 m 76 #[.val (.int pi1), .val (.int pi2), .val (.int ((pi1 &&& (2147483647 : Int32)) % (9 : Int32))), .val (.int (0 : Int32)), .val (.ref w_DESC), .val (.ref w_HSQLDB), .val (.int (0 : Int32)), .unset, .unset] [(.int (2 : Int32)), (.int ((pi1 &&& (2147483647 : Int32)) % (9 : Int32)))] _
    refine XS.icmpNo X2.here hx rfl (hb hby at_76) rfl (feq hc36_3).1 ?_
    show Stp p e below T2 m 79 #[.val (.int pi1), .val (.int pi2), .val (.int ((pi1 &&& (2147483647 : Int32)) % (9 : Int32))), .val (.int (0 : Int32)), .val (.ref w_DESC), .val (.ref w_HSQLDB), .val (.int (0 : Int32)), .unset, .unset] [] _
    refine XS.iloadN X2.here hx rfl (hb hby at_79) rfl ?_
    show Stp p e below T2 m 80 #[.val (.int pi1), .val (.int pi2), .val (.int ((pi1 &&& (2147483647 : Int32)) % (9 : Int32))), .val (.int (0 : Int32)), .val (.ref w_DESC), .val (.ref w_HSQLDB), .val (.int (0 : Int32)), .unset, .unset] [(.int ((pi1 &&& (2147483647 : Int32)) % (9 : Int32)))] _
    refine XS.iconst X2.here hx rfl (hb hby at_80) ?_
    show Stp p e below T2 m 81 #[.val (.int pi1), .val (.int pi2), .val (.int ((pi1 &&& (2147483647 : Int32)) % (9 : Int32))), .val (.int (0 : Int32)), .val (.ref w_DESC), .val (.ref w_HSQLDB), .val (.int (0 : Int32)), .unset, .unset] [(.int (3 : Int32)), (.int ((pi1 &&& (2147483647 : Int32)) % (9 : Int32)))] _
    refine XS.icmpNo X2.here hx rfl (hb hby at_81) rfl (feq hc36_4).1 ?_
    show Stp p e below T2 m 84 #[.val (.int pi1), .val (.int pi2), .val (.int ((pi1 &&& (2147483647 : Int32)) % (9 : Int32))), .val (.int (0 : Int32)), .val (.ref w_DESC), .val (.ref w_HSQLDB), .val (.int (0 : Int32)), .unset, .unset] [] _
    refine XS.iloadN X2.here hx rfl (hb hby at_84) rfl ?_
    show Stp p e below T2 m 85 #[.val (.int pi1), .val (.int pi2), .val (.int ((pi1 &&& (2147483647 : Int32)) % (9 : Int32))), .val (.int (0 : Int32)), .val (.ref w_DESC), .val (.ref w_HSQLDB), .val (.int (0 : Int32)), .unset, .unset] [(.int ((pi1 &&& (2147483647 : Int32)) % (9 : Int32)))] _
    refine XS.bipush X2.here hx rfl (hb hby at_85) ?_
    show Stp p e below T2 m 87 #[.val (.int pi1), .val (.int pi2), .val (.int ((pi1 &&& (2147483647 : Int32)) % (9 : Int32))), .val (.int (0 : Int32)), .val (.ref w_DESC), .val (.ref w_HSQLDB), .val (.int (0 : Int32)), .unset, .unset] [(.int (7 : Int32)), (.int ((pi1 &&& (2147483647 : Int32)) % (9 : Int32)))] _
    refine XS.icmpYes X2.here hx rfl (pc0 := 87) (pc' := 94) rfl (hb hby at_87) rfl (feq (fun q => absurd (hc36_5.symm.trans q) (by decide))).2 (by decide) (by decide) ?_
    show Stp p e below T2 m 94 #[.val (.int pi1), .val (.int pi2), .val (.int ((pi1 &&& (2147483647 : Int32)) % (9 : Int32))), .val (.int (0 : Int32)), .val (.ref w_DESC), .val (.ref w_HSQLDB), .val (.int (0 : Int32)), .unset, .unset] [] _
    refine XS.iconst X2.here hx rfl (hb hby at_94) ?_
    show Stp p e below T2 m 95 #[.val (.int pi1), .val (.int pi2), .val (.int ((pi1 &&& (2147483647 : Int32)) % (9 : Int32))), .val (.int (0 : Int32)), .val (.ref w_DESC), .val (.ref w_HSQLDB), .val (.int (0 : Int32)), .unset, .unset] [(.int (0 : Int32))] _
    refine XS.istore X2.here hx rfl (hb hby at_95) rfl (l' := #[.val (.int pi1), .val (.int pi2), .val (.int ((pi1 &&& (2147483647 : Int32)) % (9 : Int32))), .val (.int (0 : Int32)), .val (.ref w_DESC), .val (.ref w_HSQLDB), .val (.int (0 : Int32)), .val (.int (0 : Int32)), .unset]) rfl ?_
    show Stp p e below T2 m 97 #[.val (.int pi1), .val (.int pi2), .val (.int ((pi1 &&& (2147483647 : Int32)) % (9 : Int32))), .val (.int (0 : Int32)), .val (.ref w_DESC), .val (.ref w_HSQLDB), .val (.int (0 : Int32)), .val (.int (0 : Int32)), .unset] [] _
    refine XS.iload X2.here hx rfl (hb hby at_97) rfl ?_
    show Stp p e below T2 m 99 #[.val (.int pi1), .val (.int pi2), .val (.int ((pi1 &&& (2147483647 : Int32)) % (9 : Int32))), .val (.int (0 : Int32)), .val (.ref w_DESC), .val (.ref w_HSQLDB), .val (.int (0 : Int32)), .val (.int (0 : Int32)), .unset] [(.int (0 : Int32))] _
    refine XS.ifYes X2.here hx rfl (pc0 := 99) (pc' := 108) rfl (hb hby at_99) rfl ((if0 _ _).trans (teq (rfl : (0 : Int32) = (0 : Int32))).1) (by decide) (by decide) ?_
    show Stp p e below T2 m 108 #[.val (.int pi1), .val (.int pi2), .val (.int ((pi1 &&& (2147483647 : Int32)) % (9 : Int32))), .val (.int (0 : Int32)), .val (.ref w_DESC), .val (.ref w_HSQLDB), .val (.int (0 : Int32)), .val (.int (0 : Int32)), .unset] [] _
    refine XS.iload X2.here hx rfl (hb hby at_108) rfl ?_
    show Stp p e below T2 m 110 #[.val (.int pi1), .val (.int pi2), .val (.int ((pi1 &&& (2147483647 : Int32)) % (9 : Int32))), .val (.int (0 : Int32)), .val (.ref w_DESC), .val (.ref w_HSQLDB), .val (.int (0 : Int32)), .val (.int (0 : Int32)), .unset] [(.int (0 : Int32))] _
    refine XS.ifYes X2.here hx rfl (pc0 := 110) (pc' := 127) rfl (hb hby at_110) rfl ((if0 _ _).trans (teq (rfl : (0 : Int32) = (0 : Int32))).1) (by decide) (by decide) ?_
    show Stp p e below T2 m 127 #[.val (.int pi1), .val (.int pi2), .val (.int ((pi1 &&& (2147483647 : Int32)) % (9 : Int32))), .val (.int (0 : Int32)), .val (.ref w_DESC), .val (.ref w_HSQLDB), .val (.int (0 : Int32)), .val (.int (0 : Int32)), .unset] [] _
    refine XS.iconst X2.here hx rfl (hb hby at_127) ?_
    show Stp p e below T2 m 128 #[.val (.int pi1), .val (.int pi2), .val (.int ((pi1 &&& (2147483647 : Int32)) % (9 : Int32))), .val (.int (0 : Int32)), .val (.ref w_DESC), .val (.ref w_HSQLDB), .val (.int (0 : Int32)), .val (.int (0 : Int32)), .unset] [(.int (0 : Int32))] _
    refine XS.istore X2.here hx rfl (hb hby at_128) rfl (l' := #[.val (.int pi1), .val (.int pi2), .val (.int ((pi1 &&& (2147483647 : Int32)) % (9 : Int32))), .val (.int (0 : Int32)), .val (.ref w_DESC), .val (.ref w_HSQLDB), .val (.int (0 : Int32)), .val (.int (0 : Int32)), .val (.int (0 : Int32))]) rfl ?_
    show Stp p e below T2 m 130 #[.val (.int pi1), .val (.int pi2), .val (.int ((pi1 &&& (2147483647 : Int32)) % (9 : Int32))), .val (.int (0 : Int32)), .val (.ref w_DESC), .val (.ref w_HSQLDB), .val (.int (0 : Int32)), .val (.int (0 : Int32)), .val (.int (0 : Int32))] [] _
    refine XS.aload X2.here hx rfl (hb hby at_130) rfl rfl ?_
    show Stp p e below T2 m 132 #[.val (.int pi1), .val (.int pi2), .val (.int ((pi1 &&& (2147483647 : Int32)) % (9 : Int32))), .val (.int (0 : Int32)), .val (.ref w_DESC), .val (.ref w_HSQLDB), .val (.int (0 : Int32)), .val (.int (0 : Int32)), .val (.int (0 : Int32))] [(.ref w_HSQLDB)] _
    refine XS.aload X2.here hx rfl (hb hby at_132) rfl rfl ?_
    show Stp p e below T2 m 134 #[.val (.int pi1), .val (.int pi2), .val (.int ((pi1 &&& (2147483647 : Int32)) % (9 : Int32))), .val (.int (0 : Int32)), .val (.ref w_DESC), .val (.ref w_HSQLDB), .val (.int (0 : Int32)), .val (.int (0 : Int32)), .val (.int (0 : Int32))] [(.ref w_DESC), (.ref w_HSQLDB)] _
    refine st3.trans ?_
    show Stp p e below T3 m 137 #[.val (.int pi1), .val (.int pi2), .val (.int ((pi1 &&& (2147483647 : Int32)) % (9 : Int32))), .val (.int (0 : Int32)), .val (.ref w_DESC), .val (.ref w_HSQLDB), .val (.int (0 : Int32)), .val (.int (0 : Int32)), .val (.int (0 : Int32))] [(.int (0 : Int32))] _
    refine XS.iload X3.here hx rfl (hb hby at_137) rfl ?_
    show Stp p e below T3 m 139 #[.val (.int pi1), .val (.int pi2), .val (.int ((pi1 &&& (2147483647 : Int32)) % (9 : Int32))), .val (.int (0 : Int32)), .val (.ref w_DESC), .val (.ref w_HSQLDB), .val (.int (0 : Int32)), .val (.int (0 : Int32)), .val (.int (0 : Int32))] [(.int (0 : Int32)), (.int (0 : Int32))] _
    refine XS.icmpNo X3.here hx rfl (hb hby at_139) rfl (teq (rfl : (0 : Int32) = (0 : Int32))).2 ?_
    show Stp p e below T3 m 142 #[.val (.int pi1), .val (.int pi2), .val (.int ((pi1 &&& (2147483647 : Int32)) % (9 : Int32))), .val (.int (0 : Int32)), .val (.ref w_DESC), .val (.ref w_HSQLDB), .val (.int (0 : Int32)), .val (.int (0 : Int32)), .val (.int (0 : Int32))] [] _
    refine XS.iconst X3.here hx rfl (hb hby at_142) ?_
    show Stp p e below T3 m 143 #[.val (.int pi1), .val (.int pi2), .val (.int ((pi1 &&& (2147483647 : Int32)) % (9 : Int32))), .val (.int (0 : Int32)), .val (.ref w_DESC), .val (.ref w_HSQLDB), .val (.int (0 : Int32)), .val (.int (0 : Int32)), .val (.int (0 : Int32))] [(.int (1 : Int32))] _
    refine XS.goto X3.here hx rfl (pc0 := 143) (pc' := 147) rfl (hb hby at_143) (by decide) (by decide) ?_
    show Stp p e below T3 m 147 #[.val (.int pi1), .val (.int pi2), .val (.int ((pi1 &&& (2147483647 : Int32)) % (9 : Int32))), .val (.int (0 : Int32)), .val (.ref w_DESC), .val (.ref w_HSQLDB), .val (.int (0 : Int32)), .val (.int (0 : Int32)), .val (.int (0 : Int32))] [(.int (1 : Int32))] _
    exact retN X3 hx (t := .boolean) Bd.returns (by simp) (hb hby at_147) hr
  · exact ⟨rfl, N3⟩
set_option maxRecDepth 65536 in
set_option maxHeartbeats 40000000 in
theorem rm0_fffffft (l : Launch) (Z : State) (a0 : Array Value) (hw : ∀ d ∈ tables_1, d.before a0 Z = true) (ws : List Jvm.Cond) (pi1 : Int32) (pi2 : Int32) (w_HIGH : Addr) (w_LOW : Addr) (w_FIRST : Addr) (w_ASC : Addr) (w_DESC : Addr) (w_POSTGRESQL : Addr) (w_MARIADB : Addr) (w_SQLITE : Addr) (w_H2 : Addr) (w_HSQLDB : Addr) (w_DERBY : Addr) (w_ORACLE : Addr) (w_SQLSERVER : Addr) (w_DB2 : Addr) (h0 : Heap) (n0 : Nat) (Z0 : n0 ≤ h0.size) (O0 : Old Z n0 h0) (S_ASC : Sta Z Z.heap "com/example/leafcount/leafcount/Sort$Direction" "ASC" "Lcom/example/leafcount/leafcount/Sort$Direction;" (.ref w_ASC)) (S_DESC : Sta Z Z.heap "com/example/leafcount/leafcount/Sort$Direction" "DESC" "Lcom/example/leafcount/leafcount/Sort$Direction;" (.ref w_DESC)) (S_POSTGRESQL : Sta Z Z.heap "com/example/leafcount/leafcount/SqlSyntax" "POSTGRESQL" "Lcom/example/leafcount/leafcount/SqlSyntax;" (.ref w_POSTGRESQL)) (S_MARIADB : Sta Z Z.heap "com/example/leafcount/leafcount/SqlSyntax" "MARIADB" "Lcom/example/leafcount/leafcount/SqlSyntax;" (.ref w_MARIADB)) (S_SQLITE : Sta Z Z.heap "com/example/leafcount/leafcount/SqlSyntax" "SQLITE" "Lcom/example/leafcount/leafcount/SqlSyntax;" (.ref w_SQLITE)) (S_H2 : Sta Z Z.heap "com/example/leafcount/leafcount/SqlSyntax" "H2" "Lcom/example/leafcount/leafcount/SqlSyntax;" (.ref w_H2)) (S_HSQLDB : Sta Z Z.heap "com/example/leafcount/leafcount/SqlSyntax" "HSQLDB" "Lcom/example/leafcount/leafcount/SqlSyntax;" (.ref w_HSQLDB)) (S_DERBY : Sta Z Z.heap "com/example/leafcount/leafcount/SqlSyntax" "DERBY" "Lcom/example/leafcount/leafcount/SqlSyntax;" (.ref w_DERBY)) (S_ORACLE : Sta Z Z.heap "com/example/leafcount/leafcount/SqlSyntax" "ORACLE" "Lcom/example/leafcount/leafcount/SqlSyntax;" (.ref w_ORACLE)) (S_SQLSERVER : Sta Z Z.heap "com/example/leafcount/leafcount/SqlSyntax" "SQLSERVER" "Lcom/example/leafcount/leafcount/SqlSyntax;" (.ref w_SQLSERVER)) (S_DB2 : Sta Z Z.heap "com/example/leafcount/leafcount/SqlSyntax" "DB2" "Lcom/example/leafcount/leafcount/SqlSyntax;" (.ref w_DB2)) (E_w_POSTGRESQL : Exa Z Z.heap w_POSTGRESQL "com/example/leafcount/leafcount/SqlSyntax") (E_w_MARIADB : Exa Z Z.heap w_MARIADB "com/example/leafcount/leafcount/SqlSyntax") (E_w_SQLITE : Exa Z Z.heap w_SQLITE "com/example/leafcount/leafcount/SqlSyntax") (E_w_H2 : Exa Z Z.heap w_H2 "com/example/leafcount/leafcount/SqlSyntax") (E_w_HSQLDB : Exa Z Z.heap w_HSQLDB "com/example/leafcount/leafcount/SqlSyntax") (E_w_DERBY : Exa Z Z.heap w_DERBY "com/example/leafcount/leafcount/SqlSyntax") (E_w_ORACLE : Exa Z Z.heap w_ORACLE "com/example/leafcount/leafcount/SqlSyntax") (E_w_SQLSERVER : Exa Z Z.heap w_SQLSERVER "com/example/leafcount/leafcount/SqlSyntax") (E_w_DB2 : Exa Z Z.heap w_DB2 "com/example/leafcount/leafcount/SqlSyntax") (F_nullOrder_w_POSTGRESQL : Fld Z Z.heap w_POSTGRESQL "com/example/leafcount/leafcount/SqlSyntax" "nullOrder" "Lcom/example/leafcount/leafcount/SqlSyntax$NullOrder;" (.ref w_HIGH)) (F_nullOrder_w_MARIADB : Fld Z Z.heap w_MARIADB "com/example/leafcount/leafcount/SqlSyntax" "nullOrder" "Lcom/example/leafcount/leafcount/SqlSyntax$NullOrder;" (.ref w_LOW)) (F_nullOrder_w_SQLITE : Fld Z Z.heap w_SQLITE "com/example/leafcount/leafcount/SqlSyntax" "nullOrder" "Lcom/example/leafcount/leafcount/SqlSyntax$NullOrder;" (.ref w_LOW)) (F_nullOrder_w_H2 : Fld Z Z.heap w_H2 "com/example/leafcount/leafcount/SqlSyntax" "nullOrder" "Lcom/example/leafcount/leafcount/SqlSyntax$NullOrder;" (.ref w_LOW)) (F_nullOrder_w_HSQLDB : Fld Z Z.heap w_HSQLDB "com/example/leafcount/leafcount/SqlSyntax" "nullOrder" "Lcom/example/leafcount/leafcount/SqlSyntax$NullOrder;" (.ref w_FIRST)) (F_nullOrder_w_DERBY : Fld Z Z.heap w_DERBY "com/example/leafcount/leafcount/SqlSyntax" "nullOrder" "Lcom/example/leafcount/leafcount/SqlSyntax$NullOrder;" (.ref w_HIGH)) (F_nullOrder_w_ORACLE : Fld Z Z.heap w_ORACLE "com/example/leafcount/leafcount/SqlSyntax" "nullOrder" "Lcom/example/leafcount/leafcount/SqlSyntax$NullOrder;" (.ref w_HIGH)) (F_nullOrder_w_SQLSERVER : Fld Z Z.heap w_SQLSERVER "com/example/leafcount/leafcount/SqlSyntax" "nullOrder" "Lcom/example/leafcount/leafcount/SqlSyntax$NullOrder;" (.ref w_LOW)) (F_nullOrder_w_DB2 : Fld Z Z.heap w_DB2 "com/example/leafcount/leafcount/SqlSyntax" "nullOrder" "Lcom/example/leafcount/leafcount/SqlSyntax$NullOrder;" (.ref w_HIGH)) (F_last_w_HIGH : Fld Z Z.heap w_HIGH "com/example/leafcount/leafcount/SqlSyntax$NullOrder" "last" "Lcom/example/leafcount/leafcount/Sort$Direction;" (.ref w_ASC)) (F_last_w_LOW : Fld Z Z.heap w_LOW "com/example/leafcount/leafcount/SqlSyntax$NullOrder" "last" "Lcom/example/leafcount/leafcount/Sort$Direction;" (.ref w_DESC)) (F_last_w_FIRST : Fld Z Z.heap w_FIRST "com/example/leafcount/leafcount/SqlSyntax$NullOrder" "last" "Lcom/example/leafcount/leafcount/Sort$Direction;" .null) (hne : w_ASC ≠ w_DESC) (hc11_0 : ¬ ((pi2 &&& (1 : Int32)) = (0 : Int32))) (hc36_1 : ¬ (((pi1 &&& (2147483647 : Int32)) % (9 : Int32)) = (0 : Int32))) (hc36_2 : ¬ (((pi1 &&& (2147483647 : Int32)) % (9 : Int32)) = (1 : Int32))) (hc36_3 : ¬ (((pi1 &&& (2147483647 : Int32)) % (9 : Int32)) = (2 : Int32))) (hc36_4 : ¬ (((pi1 &&& (2147483647 : Int32)) % (9 : Int32)) = (3 : Int32))) (hc36_5 : ¬ (((pi1 &&& (2147483647 : Int32)) % (9 : Int32)) = (4 : Int32))) (hc36_6 : ((pi1 &&& (2147483647 : Int32)) % (9 : Int32)) = (5 : Int32)) :
    MetFree l x (head1 (Jvm.Cond.code x code maxLocals ret :: ws) room_1) (fun a U => a = #[(.int pi1), (.int pi2)] ∧ Z.Warmed39 U.vm ∧ U.heap = h0) (fun _ _ _ _ _ => True) (fun _ U o U' => ∃ v L, o = .returned v ∧ Q0 v L n0 ∧ FrameEnd U o U' L room_1.cells room_1.slots) := by
  refine MetFree.of_bodySF (plainFor_of_name pn_0) hisR ?_
  intro p e s m args below meth c s₁ Bd hml0 hP hK
  obtain ⟨rfl, hZ, hh⟩ := hP
  have hx := Bd.exec
  have hby := Bd.bytes
  have hml : c.maxLocals = 9 := hml0
  have hown : s.vm.findClass "com/example/leafcount/leafcount/SqlSyntaxPutsNullLastPinLaw" = some m.cls := findClass_of_methodNamed Bd.named
  have hnm := (name_of_methodNamed Bd.named Bd.method).1
  have X0 : Stand p l e room_1 s m #[(.int pi1), (.int pi2)] below meth c s₁ [] 0 0 := Stand.of_body Bd
  have e0 : s₁.heap = h0 := by rw [← hh, Bd.state]; rfl
  have N0 := Fr.nil n0
  have pre0 : ∀ t, Steps p.tables e below (s₁.setTop (mkF m 0 #[.val (.int pi1), .val (.int pi2), .unset, .unset, .unset, .unset, .unset, .unset, .unset] [])) t → Steps p.tables e below (s₁.setTop (entryFrame m #[(.int pi1), (.int pi2)] maxLocals)) t := fun t k => castTop (ef_0 m pi1 pi2) k
  obtain ⟨T1, X1, e1, st1⟩ := getS2 X0 hx hZ hown (host := "") (Or.inl (own_W hw 1 rfl)) Via.refl e0 (S_DESC.ext O0.2) (g := (mkF m 30 #[.val (.int pi1), .val (.int pi2), .val (.int ((pi1 &&& (2147483647 : Int32)) % (9 : Int32))), .val (.int (0 : Int32)), .unset, .unset, .unset, .unset, .unset] [])) rfl (hb hby at_30)
  obtain ⟨_, _, ⟨T2, L2, k2, n2⟩, -, X2, ⟨Lc2, hQ2, l2, y2, z2⟩, st2⟩ := Jvm.LawKit.callS X1 hx (y := (⟨"com/example/leafcount/leafcount/SqlSyntaxPutsNullLastPinLaw", "pick", "(I)Lcom/example/leafcount/leafcount/SqlSyntax;"⟩ : MethodName)) hown (mvT hZ (own_W hw 4 rfl)) (mvT hZ (own_W hw 5 rfl)) (mvT hZ (own_W hw 6 rfl)) (mvT hZ (own_W hw 7 rfl)) (by decide) (backOf (W := 0) (rm1_5 l Z a0 hw [] ((pi1 &&& (2147483647 : Int32)) % (9 : Int32)) w_DERBY h0 n0 Z0 O0 S_DERBY hc36_1 hc36_2 hc36_3 hc36_4 hc36_5 hc36_6) hZ (own_W hw 7 rfl) (own_W hw 6 rfl) (by decide) (by decide)) (g := (mkF m 36 #[.val (.int pi1), .val (.int pi2), .val (.int ((pi1 &&& (2147483647 : Int32)) % (9 : Int32))), .val (.int (0 : Int32)), .val (.ref w_DESC), .unset, .unset, .unset, .unset] [(.int ((pi1 &&& (2147483647 : Int32)) % (9 : Int32)))])) rfl (by rw [hml]; rfl) (argsL := [(.int ((pi1 &&& (2147483647 : Int32)) % (9 : Int32)))]) (rest := []) (lenOf pd_0 rfl) rfl (by show 2 * 0 + _ ≤ _; exact Nat.le_of_eq rfl) (hb hby at_36) (fun _ _ => ⟨rfl, e1, (by decide : 0 + 0 ≤ _), (by decide : 0 + 0 ≤ _)⟩)
  dsimp only [Pt.U, Pt.locs, Pt.cells, Pt.slots] at X2 l2 y2 z2 st2 hQ2
  subst l2 y2 z2
  obtain ⟨rfl, N2q, eq2⟩ := hQ2
  have N2 := Fr.app N0 N2q
  obtain ⟨cq3, kq3, q3a, q3b, q3c⟩ := isOf hZ eq2 (E_w_DERBY.ext O0.2)
  obtain ⟨_, _, ⟨T3, L3, k3, n3⟩, -, X3, ⟨Lc3, hQ3, l3, y3, z3⟩, st3⟩ := X2.virtualBack hx (y := (⟨"com/example/leafcount/leafcount/SqlSyntax", "putsNullLast", "(Lcom/example/leafcount/leafcount/Sort$Direction;)Z"⟩ : MethodName)) (z := (⟨"com/example/leafcount/leafcount/SqlSyntax", "putsNullLast", "(Lcom/example/leafcount/leafcount/Sort$Direction;)Z"⟩ : MethodName)) hown (mvT hZ (own_W hw 11 rfl)) (mvT hZ (own_W hw 12 rfl)) (notFace_of_selects (args := #[]) (mvT hZ (own_W hw 14 rfl))) (mvT hZ (own_W hw 14 rfl)) (mvT hZ (own_W hw 13 rfl)) (by decide) (backOf (W := 0) (rm2_f l Z a0 hw [] w_DERBY w_DESC w_HIGH w_ASC h0 n0 Z0 O0 (F_nullOrder_w_DERBY.ext O0.2) (F_last_w_HIGH.ext O0.2) hne) hZ (own_W hw 15 rfl) (own_W hw 9 rfl) (by decide) (by decide)) q3a q3c (g := (mkF m 134 #[.val (.int pi1), .val (.int pi2), .val (.int ((pi1 &&& (2147483647 : Int32)) % (9 : Int32))), .val (.int (0 : Int32)), .val (.ref w_DESC), .val (.ref w_DERBY), .val (.int (1 : Int32)), .val (.int (0 : Int32)), .val (.int (0 : Int32))] [(.ref w_DESC), (.ref w_DERBY)])) rfl (by rw [hml]; rfl) (Steps.refl _) (argsL := [(.ref w_DESC)]) (rest := []) (lenOf pd_1 rfl) rfl (by show 2 * 0 + _ ≤ _; exact Nat.le_of_eq rfl) (hb hby at_134) (fun _ _ => ⟨rfl, eq2, (by decide : 0 + 0 ≤ _), (by decide : 0 + 0 ≤ _)⟩)
  dsimp only [Pt.U, Pt.locs, Pt.cells, Pt.slots] at X3 l3 y3 z3 st3 hQ3
  subst l3 y3 z3
  obtain ⟨rfl, N3q, eq3⟩ := hQ3
  have N3 := Fr.app N2 N3q
  obtain ⟨fs, hr, hrun, hended, hW, hsame⟩ := X3.leave (v := some (.int (1 : Int32))) (fun h => by rw [Bd.returns] at h; cases h)
  refine ⟨_, _, pre0 _ ?_, hrun, hended, _, _, rfl, ?_, ⟨_, rfl⟩, hW, hsame.mono (by decide) (by decide)⟩
  · show Stp p e below s₁ m 0 #[.val (.int pi1), .val (.int pi2), .unset, .unset, .unset, .unset, .unset, .unset, .unset] [] _
    refine XS.iloadN X0.here hx rfl (hb hby at_0) rfl ?_
    show Stp p e below s₁ m 1 #[.val (.int pi1), .val (.int pi2), .unset, .unset, .unset, .unset, .unset, .unset, .unset] [(.int pi1)] _
    refine X0.ldcInt hx hown (mvT hZ (own_W hw 0 rfl)) (g := (mkF m 1 #[.val (.int pi1), .val (.int pi2), .unset, .unset, .unset, .unset, .unset, .unset, .unset] [(.int pi1)])) rfl (hb hby at_1) _ ?_
    show Stp p e below s₁ m 3 #[.val (.int pi1), .val (.int pi2), .unset, .unset, .unset, .unset, .unset, .unset, .unset] [(.int (2147483647 : Int32)), (.int pi1)] _
    refine XS.iand X0.here hx rfl (hb hby at_3) rfl ?_
    show Stp p e below s₁ m 4 #[.val (.int pi1), .val (.int pi2), .unset, .unset, .unset, .unset, .unset, .unset, .unset] [(.int (pi1 &&& (2147483647 : Int32)))] _
    refine XS.bipush X0.here hx rfl (hb hby at_4) ?_
    show Stp p e below s₁ m 6 #[.val (.int pi1), .val (.int pi2), .unset, .unset, .unset, .unset, .unset, .unset, .unset] [(.int (9 : Int32)), (.int (pi1 &&& (2147483647 : Int32)))] _
    refine iremM X0 hx rfl (hb hby at_6) rfl (by decide) ?_
    show Stp p e below s₁ m 7 #[.val (.int pi1), .val (.int pi2), .unset, .unset, .unset, .unset, .unset, .unset, .unset] [(.int ((pi1 &&& (2147483647 : Int32)) % (9 : Int32)))] _
    refine XS.istoreN X0.here hx rfl (hb hby at_7) rfl (l' := #[.val (.int pi1), .val (.int pi2), .val (.int ((pi1 &&& (2147483647 : Int32)) % (9 : Int32))), .unset, .unset, .unset, .unset, .unset, .unset]) rfl ?_
    show Stp p e below s₁ m 8 #[.val (.int pi1), .val (.int pi2), .val (.int ((pi1 &&& (2147483647 : Int32)) % (9 : Int32))), .unset, .unset, .unset, .unset, .unset, .unset] [] _
    refine XS.iloadN X0.here hx rfl (hb hby at_8) rfl ?_
    show Stp p e below s₁ m 9 #[.val (.int pi1), .val (.int pi2), .val (.int ((pi1 &&& (2147483647 : Int32)) % (9 : Int32))), .unset, .unset, .unset, .unset, .unset, .unset] [(.int pi2)] _
    refine XS.iconst X0.here hx rfl (hb hby at_9) ?_
    show Stp p e below s₁ m 10 #[.val (.int pi1), .val (.int pi2), .val (.int ((pi1 &&& (2147483647 : Int32)) % (9 : Int32))), .unset, .unset, .unset, .unset, .unset, .unset] [(.int (1 : Int32)), (.int pi2)] _
    refine XS.iand X0.here hx rfl (hb hby at_10) rfl ?_
    show Stp p e below s₁ m 11 #[.val (.int pi1), .val (.int pi2), .val (.int ((pi1 &&& (2147483647 : Int32)) % (9 : Int32))), .unset, .unset, .unset, .unset, .unset, .unset] [(.int (pi2 &&& (1 : Int32)))] _
    refine XS.ifYes X0.here hx rfl (pc0 := 11) (pc' := 18) rfl (hb hby at_11) rfl ((if0 _ _).trans (feq hc11_0).2) (by decide) (by decide) ?_
    show Stp p e below s₁ m 18 #[.val (.int pi1), .val (.int pi2), .val (.int ((pi1 &&& (2147483647 : Int32)) % (9 : Int32))), .unset, .unset, .unset, .unset, .unset, .unset] [] _
    refine XS.iconst X0.here hx rfl (hb hby at_18) ?_
    show Stp p e below s₁ m 19 #[.val (.int pi1), .val (.int pi2), .val (.int ((pi1 &&& (2147483647 : Int32)) % (9 : Int32))), .unset, .unset, .unset, .unset, .unset, .unset] [(.int (0 : Int32))] _
    refine XS.istoreN X0.here hx rfl (hb hby at_19) rfl (l' := #[.val (.int pi1), .val (.int pi2), .val (.int ((pi1 &&& (2147483647 : Int32)) % (9 : Int32))), .val (.int (0 : Int32)), .unset, .unset, .unset, .unset, .unset]) rfl ?_
    show Stp p e below s₁ m 20 #[.val (.int pi1), .val (.int pi2), .val (.int ((pi1 &&& (2147483647 : Int32)) % (9 : Int32))), .val (.int (0 : Int32)), .unset, .unset, .unset, .unset, .unset] [] _
    refine XS.iloadN X0.here hx rfl (hb hby at_20) rfl ?_
    show Stp p e below s₁ m 21 #[.val (.int pi1), .val (.int pi2), .val (.int ((pi1 &&& (2147483647 : Int32)) % (9 : Int32))), .val (.int (0 : Int32)), .unset, .unset, .unset, .unset, .unset] [(.int (0 : Int32))] _
    refine XS.ifYes X0.here hx rfl (pc0 := 21) (pc' := 30) rfl (hb hby at_21) rfl ((if0 _ _).trans (teq (rfl : (0 : Int32) = (0 : Int32))).1) (by decide) (by decide) ?_
    show Stp p e below s₁ m 30 #[.val (.int pi1), .val (.int pi2), .val (.int ((pi1 &&& (2147483647 : Int32)) % (9 : Int32))), .val (.int (0 : Int32)), .unset, .unset, .unset, .unset, .unset] [] _
    refine st1 _ ?_
    show Stp p e below T1 m 33 #[.val (.int pi1), .val (.int pi2), .val (.int ((pi1 &&& (2147483647 : Int32)) % (9 : Int32))), .val (.int (0 : Int32)), .unset, .unset, .unset, .unset, .unset] [(.ref w_DESC)] _
    refine XS.astore X1.here hx rfl (hb hby at_33) rfl rfl (l' := #[.val (.int pi1), .val (.int pi2), .val (.int ((pi1 &&& (2147483647 : Int32)) % (9 : Int32))), .val (.int (0 : Int32)), .val (.ref w_DESC), .unset, .unset, .unset, .unset]) rfl ?_
    show Stp p e below T1 m 35 #[.val (.int pi1), .val (.int pi2), .val (.int ((pi1 &&& (2147483647 : Int32)) % (9 : Int32))), .val (.int (0 : Int32)), .val (.ref w_DESC), .unset, .unset, .unset, .unset] [] _
    refine XS.iloadN X1.here hx rfl (hb hby at_35) rfl ?_
    show Stp p e below T1 m 36 #[.val (.int pi1), .val (.int pi2), .val (.int ((pi1 &&& (2147483647 : Int32)) % (9 : Int32))), .val (.int (0 : Int32)), .val (.ref w_DESC), .unset, .unset, .unset, .unset] [(.int ((pi1 &&& (2147483647 : Int32)) % (9 : Int32)))] _
    refine st2 _ ?_
    show Stp p e below T2 m 39 #[.val (.int pi1), .val (.int pi2), .val (.int ((pi1 &&& (2147483647 : Int32)) % (9 : Int32))), .val (.int (0 : Int32)), .val (.ref w_DESC), .unset, .unset, .unset, .unset] [(.ref w_DERBY)] _
    refine XS.astore X2.here hx rfl (hb hby at_39) rfl rfl (l' := #[.val (.int pi1), .val (.int pi2), .val (.int ((pi1 &&& (2147483647 : Int32)) % (9 : Int32))), .val (.int (0 : Int32)), .val (.ref w_DESC), .val (.ref w_DERBY), .unset, .unset, .unset]) rfl ?_
    show Stp p e below T2 m 41 #[.val (.int pi1), .val (.int pi2), .val (.int ((pi1 &&& (2147483647 : Int32)) % (9 : Int32))), .val (.int (0 : Int32)), .val (.ref w_DESC), .val (.ref w_DERBY), .unset, .unset, .unset] [] _
    refine XS.iloadN X2.here hx rfl (hb hby at_41) rfl ?_
    show Stp p e below T2 m 42 #[.val (.int pi1), .val (.int pi2), .val (.int ((pi1 &&& (2147483647 : Int32)) % (9 : Int32))), .val (.int (0 : Int32)), .val (.ref w_DESC), .val (.ref w_DERBY), .unset, .unset, .unset] [(.int ((pi1 &&& (2147483647 : Int32)) % (9 : Int32)))] _
    refine XS.ifNo X2.here hx rfl (hb hby at_42) rfl ((if0 _ _).trans (feq hc36_1).1) ?_
    show Stp p e below T2 m 45 #[.val (.int pi1), .val (.int pi2), .val (.int ((pi1 &&& (2147483647 : Int32)) % (9 : Int32))), .val (.int (0 : Int32)), .val (.ref w_DESC), .val (.ref w_DERBY), .unset, .unset, .unset] [] _
    refine XS.iloadN X2.here hx rfl (hb hby at_45) rfl ?_
    show Stp p e below T2 m 46 #[.val (.int pi1), .val (.int pi2), .val (.int ((pi1 &&& (2147483647 : Int32)) % (9 : Int32))), .val (.int (0 : Int32)), .val (.ref w_DESC), .val (.ref w_DERBY), .unset, .unset, .unset] [(.int ((pi1 &&& (2147483647 : Int32)) % (9 : Int32)))] _
    refine XS.iconst X2.here hx rfl (hb hby at_46) ?_
    show Stp p e below T2 m 47 #[.val (.int pi1), .val (.int pi2), .val (.int ((pi1 &&& (2147483647 : Int32)) % (9 : Int32))), .val (.int (0 : Int32)), .val (.ref w_DESC), .val (.ref w_DERBY), .unset, .unset, .unset] [(.int (5 : Int32)), (.int ((pi1 &&& (2147483647 : Int32)) % (9 : Int32)))] _
    refine XS.icmpYes X2.here hx rfl (pc0 := 47) (pc' := 62) rfl (hb hby at_47) rfl (teq hc36_6).1 (by decide) (by decide) ?_
    show Stp p e below T2 m 62 #[.val (.int pi1), .val (.int pi2), .val (.int ((pi1 &&& (2147483647 : Int32)) % (9 : Int32))), .val (.int (0 : Int32)), .val (.ref w_DESC), .val (.ref w_DERBY), .unset, .unset, .unset] [] _
    refine XS.iconst X2.here hx rfl (hb hby at_62) ?_
    show Stp p e below T2 m 63 #[.val (.int pi1), .val (.int pi2), .val (.int ((pi1 &&& (2147483647 : Int32)) % (9 : Int32))), .val (.int (0 : Int32)), .val (.ref w_DESC), .val (.ref w_DERBY), .unset, .unset, .unset] [(.int (1 : Int32))] _
    refine XS.goto X2.here hx rfl (pc0 := 63) (pc' := 67) rfl (hb hby at_63) (by decide) (by decide) ?_
    show Stp p e below T2 m 67 #[.val (.int pi1), .val (.int pi2), .val (.int ((pi1 &&& (2147483647 : Int32)) % (9 : Int32))), .val (.int (0 : Int32)), .val (.ref w_DESC), .val (.ref w_DERBY), .unset, .unset, .unset] [(.int (1 : Int32))] _
    refine XS.istore X2.here hx rfl (hb hby at_67) rfl (l' := #[.val (.int pi1), .val (.int pi2), .val (.int ((pi1 &&& (2147483647 : Int32)) % (9 : Int32))), .val (.int (0 : Int32)), .val (.ref w_DESC), .val (.ref w_DERBY), .val (.int (1 : Int32)), .unset, .unset]) rfl ?_
    show Stp p e below T2 m 69 #[.val (.int pi1), .val (.int pi2), .val (.int ((pi1 &&& (2147483647 : Int32)) % (9 : Int32))), .val (.int (0 : Int32)), .val (.ref w_DESC), .val (.ref w_DERBY), .val (.int (1 : Int32)), .unset, .unset] [] _
    refine XS.iloadN X2.here hx rfl (hb hby at_69) rfl ?_
    show Stp p e below T2 m 70 #[.val (.int pi1), .val (.int pi2), .val (.int ((pi1 &&& (2147483647 : Int32)) % (9 : Int32))), .val (.int (0 : Int32)), .val (.ref w_DESC), .val (.ref w_DERBY), .val (.int (1 : Int32)), .unset, .unset] [(.int ((pi1 &&& (2147483647 : Int32)) % (9 : Int32)))] _
    refine XS.iconst X2.here hx rfl (hb hby at_70) ?_
    show Stp p e below T2 m 71 #[.val (.int pi1), .val (.int pi2), .val (.int ((pi1 &&& (2147483647 : Int32)) % (9 : Int32))), .val (.int (0 : Int32)), .val (.ref w_DESC), .val (.ref w_DERBY), .val (.int (1 : Int32)), .unset, .unset] [(.int (1 : Int32)), (.int ((pi1 &&& (2147483647 : Int32)) % (9 : Int32)))] _
    refine XS.icmpNo X2.here hx rfl (hb hby at_71) rfl (feq hc36_2).1 ?_
    show Stp p e below T2 m 74 #[.val (.int pi1), .val (.int pi2), .val (.int ((pi1 &&& (2147483647 : Int32)) % (9 : Int32))), .val (.int (0 : Int32)), .val (.ref w_DESC), .val (.ref w_DERBY), .val (.int (1 : Int32)), .unset, .unset] [] _
    refine XS.iloadN X2.here hx rfl (hb hby at_74) rfl ?_
    show Stp p e below T2 m 75 #[.val (.int pi1), .val (.int pi2), .val (.int ((pi1 &&& (2147483647 : Int32)) % (9 : Int32))), .val (.int (0 : Int32)), .val (.ref w_DESC), .val (.ref w_DERBY), .val (.int (1 : Int32)), .unset, .unset] [(.int ((pi1 &&& (2147483647 : Int32)) % (9 : Int32)))] _
    refine XS.iconst X2.here hx rfl (hb hby at_75) ?_
    show Stp p e below T2 m 76 #[.val (.int pi1), .val (.int pi2), .val (.int ((pi1 &&& (2147483647 : Int32)) % (9 : Int32))), .val (.int (0 : Int32)), .val (.ref w_DESC), .val (.ref w_DERBY), .val (.int (1 : Int32)), .unset, .unset] [(.int (2 : Int32)), (.int ((pi1 &&& (2147483647 : Int32)) % (9 : Int32)))] _
    refine XS.icmpNo X2.here hx rfl (hb hby at_76) rfl (feq hc36_3).1 ?_
    show Stp p e below T2 m 79 #[.val (.int pi1), .val (.int pi2), .val (.int ((pi1 &&& (2147483647 : Int32)) % (9 : Int32))), .val (.int (0 : Int32)), .val (.ref w_DESC), .val (.ref w_DERBY), .val (.int (1 : Int32)), .unset, .unset] [] _
    refine XS.iloadN X2.here hx rfl (hb hby at_79) rfl ?_
    show Stp p e below T2 m 80 #[.val (.int pi1), .val (.int pi2), .val (.int ((pi1 &&& (2147483647 : Int32)) % (9 : Int32))), .val (.int (0 : Int32)), .val (.ref w_DESC), .val (.ref w_DERBY), .val (.int (1 : Int32)), .unset, .unset] [(.int ((pi1 &&& (2147483647 : Int32)) % (9 : Int32)))] _
    refine XS.iconst X2.here hx rfl (hb hby at_80) ?_
    show Stp p e below T2 m 81 #[.val (.int pi1), .val (.int pi2), .val (.int ((pi1 &&& (2147483647 : Int32)) % (9 : Int32))), .val (.int (0 : Int32)), .val (.ref w_DESC), .val (.ref w_DERBY), .val (.int (1 : Int32)), .unset, .unset] [(.int (3 : Int32)), (.int ((pi1 &&& (2147483647 : Int32)) % (9 : Int32)))] _
    refine XS.icmpNo X2.here hx rfl (hb hby at_81) rfl (feq hc36_4).1 ?_
    show Stp p e below T2 m 84 #[.val (.int pi1), .val (.int pi2), .val (.int ((pi1 &&& (2147483647 : Int32)) % (9 : Int32))), .val (.int (0 : Int32)), .val (.ref w_DESC), .val (.ref w_DERBY), .val (.int (1 : Int32)), .unset, .unset] [] _
    refine XS.iloadN X2.here hx rfl (hb hby at_84) rfl ?_
    show Stp p e below T2 m 85 #[.val (.int pi1), .val (.int pi2), .val (.int ((pi1 &&& (2147483647 : Int32)) % (9 : Int32))), .val (.int (0 : Int32)), .val (.ref w_DESC), .val (.ref w_DERBY), .val (.int (1 : Int32)), .unset, .unset] [(.int ((pi1 &&& (2147483647 : Int32)) % (9 : Int32)))] _
    refine XS.bipush X2.here hx rfl (hb hby at_85) ?_
    show Stp p e below T2 m 87 #[.val (.int pi1), .val (.int pi2), .val (.int ((pi1 &&& (2147483647 : Int32)) % (9 : Int32))), .val (.int (0 : Int32)), .val (.ref w_DESC), .val (.ref w_DERBY), .val (.int (1 : Int32)), .unset, .unset] [(.int (7 : Int32)), (.int ((pi1 &&& (2147483647 : Int32)) % (9 : Int32)))] _
    refine XS.icmpYes X2.here hx rfl (pc0 := 87) (pc' := 94) rfl (hb hby at_87) rfl (feq (fun q => absurd (hc36_6.symm.trans q) (by decide))).2 (by decide) (by decide) ?_
    show Stp p e below T2 m 94 #[.val (.int pi1), .val (.int pi2), .val (.int ((pi1 &&& (2147483647 : Int32)) % (9 : Int32))), .val (.int (0 : Int32)), .val (.ref w_DESC), .val (.ref w_DERBY), .val (.int (1 : Int32)), .unset, .unset] [] _
    refine XS.iconst X2.here hx rfl (hb hby at_94) ?_
    show Stp p e below T2 m 95 #[.val (.int pi1), .val (.int pi2), .val (.int ((pi1 &&& (2147483647 : Int32)) % (9 : Int32))), .val (.int (0 : Int32)), .val (.ref w_DESC), .val (.ref w_DERBY), .val (.int (1 : Int32)), .unset, .unset] [(.int (0 : Int32))] _
    refine XS.istore X2.here hx rfl (hb hby at_95) rfl (l' := #[.val (.int pi1), .val (.int pi2), .val (.int ((pi1 &&& (2147483647 : Int32)) % (9 : Int32))), .val (.int (0 : Int32)), .val (.ref w_DESC), .val (.ref w_DERBY), .val (.int (1 : Int32)), .val (.int (0 : Int32)), .unset]) rfl ?_
    show Stp p e below T2 m 97 #[.val (.int pi1), .val (.int pi2), .val (.int ((pi1 &&& (2147483647 : Int32)) % (9 : Int32))), .val (.int (0 : Int32)), .val (.ref w_DESC), .val (.ref w_DERBY), .val (.int (1 : Int32)), .val (.int (0 : Int32)), .unset] [] _
    refine XS.iload X2.here hx rfl (hb hby at_97) rfl ?_
    show Stp p e below T2 m 99 #[.val (.int pi1), .val (.int pi2), .val (.int ((pi1 &&& (2147483647 : Int32)) % (9 : Int32))), .val (.int (0 : Int32)), .val (.ref w_DESC), .val (.ref w_DERBY), .val (.int (1 : Int32)), .val (.int (0 : Int32)), .unset] [(.int (1 : Int32))] _
    refine XS.ifNo X2.here hx rfl (hb hby at_99) rfl ((if0 _ _).trans (feq (by decide : ¬ ((1 : Int32) = (0 : Int32)))).1) ?_
    show Stp p e below T2 m 102 #[.val (.int pi1), .val (.int pi2), .val (.int ((pi1 &&& (2147483647 : Int32)) % (9 : Int32))), .val (.int (0 : Int32)), .val (.ref w_DESC), .val (.ref w_DERBY), .val (.int (1 : Int32)), .val (.int (0 : Int32)), .unset] [] _
    refine XS.iloadN X2.here hx rfl (hb hby at_102) rfl ?_
    show Stp p e below T2 m 103 #[.val (.int pi1), .val (.int pi2), .val (.int ((pi1 &&& (2147483647 : Int32)) % (9 : Int32))), .val (.int (0 : Int32)), .val (.ref w_DESC), .val (.ref w_DERBY), .val (.int (1 : Int32)), .val (.int (0 : Int32)), .unset] [(.int (0 : Int32))] _
    refine XS.istore X2.here hx rfl (hb hby at_103) rfl (l' := #[.val (.int pi1), .val (.int pi2), .val (.int ((pi1 &&& (2147483647 : Int32)) % (9 : Int32))), .val (.int (0 : Int32)), .val (.ref w_DESC), .val (.ref w_DERBY), .val (.int (1 : Int32)), .val (.int (0 : Int32)), .val (.int (0 : Int32))]) rfl ?_
    show Stp p e below T2 m 105 #[.val (.int pi1), .val (.int pi2), .val (.int ((pi1 &&& (2147483647 : Int32)) % (9 : Int32))), .val (.int (0 : Int32)), .val (.ref w_DESC), .val (.ref w_DERBY), .val (.int (1 : Int32)), .val (.int (0 : Int32)), .val (.int (0 : Int32))] [] _
    refine XS.goto X2.here hx rfl (pc0 := 105) (pc' := 130) rfl (hb hby at_105) (by decide) (by decide) ?_
    show Stp p e below T2 m 130 #[.val (.int pi1), .val (.int pi2), .val (.int ((pi1 &&& (2147483647 : Int32)) % (9 : Int32))), .val (.int (0 : Int32)), .val (.ref w_DESC), .val (.ref w_DERBY), .val (.int (1 : Int32)), .val (.int (0 : Int32)), .val (.int (0 : Int32))] [] _
    refine XS.aload X2.here hx rfl (hb hby at_130) rfl rfl ?_
    show Stp p e below T2 m 132 #[.val (.int pi1), .val (.int pi2), .val (.int ((pi1 &&& (2147483647 : Int32)) % (9 : Int32))), .val (.int (0 : Int32)), .val (.ref w_DESC), .val (.ref w_DERBY), .val (.int (1 : Int32)), .val (.int (0 : Int32)), .val (.int (0 : Int32))] [(.ref w_DERBY)] _
    refine XS.aload X2.here hx rfl (hb hby at_132) rfl rfl ?_
    show Stp p e below T2 m 134 #[.val (.int pi1), .val (.int pi2), .val (.int ((pi1 &&& (2147483647 : Int32)) % (9 : Int32))), .val (.int (0 : Int32)), .val (.ref w_DESC), .val (.ref w_DERBY), .val (.int (1 : Int32)), .val (.int (0 : Int32)), .val (.int (0 : Int32))] [(.ref w_DESC), (.ref w_DERBY)] _
    refine st3.trans ?_
    show Stp p e below T3 m 137 #[.val (.int pi1), .val (.int pi2), .val (.int ((pi1 &&& (2147483647 : Int32)) % (9 : Int32))), .val (.int (0 : Int32)), .val (.ref w_DESC), .val (.ref w_DERBY), .val (.int (1 : Int32)), .val (.int (0 : Int32)), .val (.int (0 : Int32))] [(.int (0 : Int32))] _
    refine XS.iload X3.here hx rfl (hb hby at_137) rfl ?_
    show Stp p e below T3 m 139 #[.val (.int pi1), .val (.int pi2), .val (.int ((pi1 &&& (2147483647 : Int32)) % (9 : Int32))), .val (.int (0 : Int32)), .val (.ref w_DESC), .val (.ref w_DERBY), .val (.int (1 : Int32)), .val (.int (0 : Int32)), .val (.int (0 : Int32))] [(.int (0 : Int32)), (.int (0 : Int32))] _
    refine XS.icmpNo X3.here hx rfl (hb hby at_139) rfl (teq (rfl : (0 : Int32) = (0 : Int32))).2 ?_
    show Stp p e below T3 m 142 #[.val (.int pi1), .val (.int pi2), .val (.int ((pi1 &&& (2147483647 : Int32)) % (9 : Int32))), .val (.int (0 : Int32)), .val (.ref w_DESC), .val (.ref w_DERBY), .val (.int (1 : Int32)), .val (.int (0 : Int32)), .val (.int (0 : Int32))] [] _
    refine XS.iconst X3.here hx rfl (hb hby at_142) ?_
    show Stp p e below T3 m 143 #[.val (.int pi1), .val (.int pi2), .val (.int ((pi1 &&& (2147483647 : Int32)) % (9 : Int32))), .val (.int (0 : Int32)), .val (.ref w_DESC), .val (.ref w_DERBY), .val (.int (1 : Int32)), .val (.int (0 : Int32)), .val (.int (0 : Int32))] [(.int (1 : Int32))] _
    refine XS.goto X3.here hx rfl (pc0 := 143) (pc' := 147) rfl (hb hby at_143) (by decide) (by decide) ?_
    show Stp p e below T3 m 147 #[.val (.int pi1), .val (.int pi2), .val (.int ((pi1 &&& (2147483647 : Int32)) % (9 : Int32))), .val (.int (0 : Int32)), .val (.ref w_DESC), .val (.ref w_DERBY), .val (.int (1 : Int32)), .val (.int (0 : Int32)), .val (.int (0 : Int32))] [(.int (1 : Int32))] _
    exact retN X3 hx (t := .boolean) Bd.returns (by simp) (hb hby at_147) hr
  · exact ⟨rfl, N3⟩
set_option maxRecDepth 65536 in
set_option maxHeartbeats 40000000 in
theorem rm0_ffffffft (l : Launch) (Z : State) (a0 : Array Value) (hw : ∀ d ∈ tables_1, d.before a0 Z = true) (ws : List Jvm.Cond) (pi1 : Int32) (pi2 : Int32) (w_HIGH : Addr) (w_LOW : Addr) (w_FIRST : Addr) (w_ASC : Addr) (w_DESC : Addr) (w_POSTGRESQL : Addr) (w_MARIADB : Addr) (w_SQLITE : Addr) (w_H2 : Addr) (w_HSQLDB : Addr) (w_DERBY : Addr) (w_ORACLE : Addr) (w_SQLSERVER : Addr) (w_DB2 : Addr) (h0 : Heap) (n0 : Nat) (Z0 : n0 ≤ h0.size) (O0 : Old Z n0 h0) (S_ASC : Sta Z Z.heap "com/example/leafcount/leafcount/Sort$Direction" "ASC" "Lcom/example/leafcount/leafcount/Sort$Direction;" (.ref w_ASC)) (S_DESC : Sta Z Z.heap "com/example/leafcount/leafcount/Sort$Direction" "DESC" "Lcom/example/leafcount/leafcount/Sort$Direction;" (.ref w_DESC)) (S_POSTGRESQL : Sta Z Z.heap "com/example/leafcount/leafcount/SqlSyntax" "POSTGRESQL" "Lcom/example/leafcount/leafcount/SqlSyntax;" (.ref w_POSTGRESQL)) (S_MARIADB : Sta Z Z.heap "com/example/leafcount/leafcount/SqlSyntax" "MARIADB" "Lcom/example/leafcount/leafcount/SqlSyntax;" (.ref w_MARIADB)) (S_SQLITE : Sta Z Z.heap "com/example/leafcount/leafcount/SqlSyntax" "SQLITE" "Lcom/example/leafcount/leafcount/SqlSyntax;" (.ref w_SQLITE)) (S_H2 : Sta Z Z.heap "com/example/leafcount/leafcount/SqlSyntax" "H2" "Lcom/example/leafcount/leafcount/SqlSyntax;" (.ref w_H2)) (S_HSQLDB : Sta Z Z.heap "com/example/leafcount/leafcount/SqlSyntax" "HSQLDB" "Lcom/example/leafcount/leafcount/SqlSyntax;" (.ref w_HSQLDB)) (S_DERBY : Sta Z Z.heap "com/example/leafcount/leafcount/SqlSyntax" "DERBY" "Lcom/example/leafcount/leafcount/SqlSyntax;" (.ref w_DERBY)) (S_ORACLE : Sta Z Z.heap "com/example/leafcount/leafcount/SqlSyntax" "ORACLE" "Lcom/example/leafcount/leafcount/SqlSyntax;" (.ref w_ORACLE)) (S_SQLSERVER : Sta Z Z.heap "com/example/leafcount/leafcount/SqlSyntax" "SQLSERVER" "Lcom/example/leafcount/leafcount/SqlSyntax;" (.ref w_SQLSERVER)) (S_DB2 : Sta Z Z.heap "com/example/leafcount/leafcount/SqlSyntax" "DB2" "Lcom/example/leafcount/leafcount/SqlSyntax;" (.ref w_DB2)) (E_w_POSTGRESQL : Exa Z Z.heap w_POSTGRESQL "com/example/leafcount/leafcount/SqlSyntax") (E_w_MARIADB : Exa Z Z.heap w_MARIADB "com/example/leafcount/leafcount/SqlSyntax") (E_w_SQLITE : Exa Z Z.heap w_SQLITE "com/example/leafcount/leafcount/SqlSyntax") (E_w_H2 : Exa Z Z.heap w_H2 "com/example/leafcount/leafcount/SqlSyntax") (E_w_HSQLDB : Exa Z Z.heap w_HSQLDB "com/example/leafcount/leafcount/SqlSyntax") (E_w_DERBY : Exa Z Z.heap w_DERBY "com/example/leafcount/leafcount/SqlSyntax") (E_w_ORACLE : Exa Z Z.heap w_ORACLE "com/example/leafcount/leafcount/SqlSyntax") (E_w_SQLSERVER : Exa Z Z.heap w_SQLSERVER "com/example/leafcount/leafcount/SqlSyntax") (E_w_DB2 : Exa Z Z.heap w_DB2 "com/example/leafcount/leafcount/SqlSyntax") (F_nullOrder_w_POSTGRESQL : Fld Z Z.heap w_POSTGRESQL "com/example/leafcount/leafcount/SqlSyntax" "nullOrder" "Lcom/example/leafcount/leafcount/SqlSyntax$NullOrder;" (.ref w_HIGH)) (F_nullOrder_w_MARIADB : Fld Z Z.heap w_MARIADB "com/example/leafcount/leafcount/SqlSyntax" "nullOrder" "Lcom/example/leafcount/leafcount/SqlSyntax$NullOrder;" (.ref w_LOW)) (F_nullOrder_w_SQLITE : Fld Z Z.heap w_SQLITE "com/example/leafcount/leafcount/SqlSyntax" "nullOrder" "Lcom/example/leafcount/leafcount/SqlSyntax$NullOrder;" (.ref w_LOW)) (F_nullOrder_w_H2 : Fld Z Z.heap w_H2 "com/example/leafcount/leafcount/SqlSyntax" "nullOrder" "Lcom/example/leafcount/leafcount/SqlSyntax$NullOrder;" (.ref w_LOW)) (F_nullOrder_w_HSQLDB : Fld Z Z.heap w_HSQLDB "com/example/leafcount/leafcount/SqlSyntax" "nullOrder" "Lcom/example/leafcount/leafcount/SqlSyntax$NullOrder;" (.ref w_FIRST)) (F_nullOrder_w_DERBY : Fld Z Z.heap w_DERBY "com/example/leafcount/leafcount/SqlSyntax" "nullOrder" "Lcom/example/leafcount/leafcount/SqlSyntax$NullOrder;" (.ref w_HIGH)) (F_nullOrder_w_ORACLE : Fld Z Z.heap w_ORACLE "com/example/leafcount/leafcount/SqlSyntax" "nullOrder" "Lcom/example/leafcount/leafcount/SqlSyntax$NullOrder;" (.ref w_HIGH)) (F_nullOrder_w_SQLSERVER : Fld Z Z.heap w_SQLSERVER "com/example/leafcount/leafcount/SqlSyntax" "nullOrder" "Lcom/example/leafcount/leafcount/SqlSyntax$NullOrder;" (.ref w_LOW)) (F_nullOrder_w_DB2 : Fld Z Z.heap w_DB2 "com/example/leafcount/leafcount/SqlSyntax" "nullOrder" "Lcom/example/leafcount/leafcount/SqlSyntax$NullOrder;" (.ref w_HIGH)) (F_last_w_HIGH : Fld Z Z.heap w_HIGH "com/example/leafcount/leafcount/SqlSyntax$NullOrder" "last" "Lcom/example/leafcount/leafcount/Sort$Direction;" (.ref w_ASC)) (F_last_w_LOW : Fld Z Z.heap w_LOW "com/example/leafcount/leafcount/SqlSyntax$NullOrder" "last" "Lcom/example/leafcount/leafcount/Sort$Direction;" (.ref w_DESC)) (F_last_w_FIRST : Fld Z Z.heap w_FIRST "com/example/leafcount/leafcount/SqlSyntax$NullOrder" "last" "Lcom/example/leafcount/leafcount/Sort$Direction;" .null) (hne : w_ASC ≠ w_DESC) (hc11_0 : ¬ ((pi2 &&& (1 : Int32)) = (0 : Int32))) (hc36_1 : ¬ (((pi1 &&& (2147483647 : Int32)) % (9 : Int32)) = (0 : Int32))) (hc36_2 : ¬ (((pi1 &&& (2147483647 : Int32)) % (9 : Int32)) = (1 : Int32))) (hc36_3 : ¬ (((pi1 &&& (2147483647 : Int32)) % (9 : Int32)) = (2 : Int32))) (hc36_4 : ¬ (((pi1 &&& (2147483647 : Int32)) % (9 : Int32)) = (3 : Int32))) (hc36_5 : ¬ (((pi1 &&& (2147483647 : Int32)) % (9 : Int32)) = (4 : Int32))) (hc36_6 : ¬ (((pi1 &&& (2147483647 : Int32)) % (9 : Int32)) = (5 : Int32))) (hc36_7 : ((pi1 &&& (2147483647 : Int32)) % (9 : Int32)) = (6 : Int32)) :
    MetFree l x (head1 (Jvm.Cond.code x code maxLocals ret :: ws) room_1) (fun a U => a = #[(.int pi1), (.int pi2)] ∧ Z.Warmed39 U.vm ∧ U.heap = h0) (fun _ _ _ _ _ => True) (fun _ U o U' => ∃ v L, o = .returned v ∧ Q0 v L n0 ∧ FrameEnd U o U' L room_1.cells room_1.slots) := by
  refine MetFree.of_bodySF (plainFor_of_name pn_0) hisR ?_
  intro p e s m args below meth c s₁ Bd hml0 hP hK
  obtain ⟨rfl, hZ, hh⟩ := hP
  have hx := Bd.exec
  have hby := Bd.bytes
  have hml : c.maxLocals = 9 := hml0
  have hown : s.vm.findClass "com/example/leafcount/leafcount/SqlSyntaxPutsNullLastPinLaw" = some m.cls := findClass_of_methodNamed Bd.named
  have hnm := (name_of_methodNamed Bd.named Bd.method).1
  have X0 : Stand p l e room_1 s m #[(.int pi1), (.int pi2)] below meth c s₁ [] 0 0 := Stand.of_body Bd
  have e0 : s₁.heap = h0 := by rw [← hh, Bd.state]; rfl
  have N0 := Fr.nil n0
  have pre0 : ∀ t, Steps p.tables e below (s₁.setTop (mkF m 0 #[.val (.int pi1), .val (.int pi2), .unset, .unset, .unset, .unset, .unset, .unset, .unset] [])) t → Steps p.tables e below (s₁.setTop (entryFrame m #[(.int pi1), (.int pi2)] maxLocals)) t := fun t k => castTop (ef_0 m pi1 pi2) k
  obtain ⟨T1, X1, e1, st1⟩ := getS2 X0 hx hZ hown (host := "") (Or.inl (own_W hw 1 rfl)) Via.refl e0 (S_DESC.ext O0.2) (g := (mkF m 30 #[.val (.int pi1), .val (.int pi2), .val (.int ((pi1 &&& (2147483647 : Int32)) % (9 : Int32))), .val (.int (0 : Int32)), .unset, .unset, .unset, .unset, .unset] [])) rfl (hb hby at_30)
  obtain ⟨_, _, ⟨T2, L2, k2, n2⟩, -, X2, ⟨Lc2, hQ2, l2, y2, z2⟩, st2⟩ := Jvm.LawKit.callS X1 hx (y := (⟨"com/example/leafcount/leafcount/SqlSyntaxPutsNullLastPinLaw", "pick", "(I)Lcom/example/leafcount/leafcount/SqlSyntax;"⟩ : MethodName)) hown (mvT hZ (own_W hw 4 rfl)) (mvT hZ (own_W hw 5 rfl)) (mvT hZ (own_W hw 6 rfl)) (mvT hZ (own_W hw 7 rfl)) (by decide) (backOf (W := 0) (rm1_6 l Z a0 hw [] ((pi1 &&& (2147483647 : Int32)) % (9 : Int32)) w_ORACLE h0 n0 Z0 O0 S_ORACLE hc36_1 hc36_2 hc36_3 hc36_4 hc36_5 hc36_6 hc36_7) hZ (own_W hw 7 rfl) (own_W hw 6 rfl) (by decide) (by decide)) (g := (mkF m 36 #[.val (.int pi1), .val (.int pi2), .val (.int ((pi1 &&& (2147483647 : Int32)) % (9 : Int32))), .val (.int (0 : Int32)), .val (.ref w_DESC), .unset, .unset, .unset, .unset] [(.int ((pi1 &&& (2147483647 : Int32)) % (9 : Int32)))])) rfl (by rw [hml]; rfl) (argsL := [(.int ((pi1 &&& (2147483647 : Int32)) % (9 : Int32)))]) (rest := []) (lenOf pd_0 rfl) rfl (by show 2 * 0 + _ ≤ _; exact Nat.le_of_eq rfl) (hb hby at_36) (fun _ _ => ⟨rfl, e1, (by decide : 0 + 0 ≤ _), (by decide : 0 + 0 ≤ _)⟩)
  dsimp only [Pt.U, Pt.locs, Pt.cells, Pt.slots] at X2 l2 y2 z2 st2 hQ2
  subst l2 y2 z2
  obtain ⟨rfl, N2q, eq2⟩ := hQ2
  have N2 := Fr.app N0 N2q
  obtain ⟨cq3, kq3, q3a, q3b, q3c⟩ := isOf hZ eq2 (E_w_ORACLE.ext O0.2)
  obtain ⟨_, _, ⟨T3, L3, k3, n3⟩, -, X3, ⟨Lc3, hQ3, l3, y3, z3⟩, st3⟩ := X2.virtualBack hx (y := (⟨"com/example/leafcount/leafcount/SqlSyntax", "putsNullLast", "(Lcom/example/leafcount/leafcount/Sort$Direction;)Z"⟩ : MethodName)) (z := (⟨"com/example/leafcount/leafcount/SqlSyntax", "putsNullLast", "(Lcom/example/leafcount/leafcount/Sort$Direction;)Z"⟩ : MethodName)) hown (mvT hZ (own_W hw 11 rfl)) (mvT hZ (own_W hw 12 rfl)) (notFace_of_selects (args := #[]) (mvT hZ (own_W hw 14 rfl))) (mvT hZ (own_W hw 14 rfl)) (mvT hZ (own_W hw 13 rfl)) (by decide) (backOf (W := 0) (rm2_f l Z a0 hw [] w_ORACLE w_DESC w_HIGH w_ASC h0 n0 Z0 O0 (F_nullOrder_w_ORACLE.ext O0.2) (F_last_w_HIGH.ext O0.2) hne) hZ (own_W hw 15 rfl) (own_W hw 9 rfl) (by decide) (by decide)) q3a q3c (g := (mkF m 134 #[.val (.int pi1), .val (.int pi2), .val (.int ((pi1 &&& (2147483647 : Int32)) % (9 : Int32))), .val (.int (0 : Int32)), .val (.ref w_DESC), .val (.ref w_ORACLE), .val (.int (1 : Int32)), .val (.int (0 : Int32)), .val (.int (0 : Int32))] [(.ref w_DESC), (.ref w_ORACLE)])) rfl (by rw [hml]; rfl) (Steps.refl _) (argsL := [(.ref w_DESC)]) (rest := []) (lenOf pd_1 rfl) rfl (by show 2 * 0 + _ ≤ _; exact Nat.le_of_eq rfl) (hb hby at_134) (fun _ _ => ⟨rfl, eq2, (by decide : 0 + 0 ≤ _), (by decide : 0 + 0 ≤ _)⟩)
  dsimp only [Pt.U, Pt.locs, Pt.cells, Pt.slots] at X3 l3 y3 z3 st3 hQ3
  subst l3 y3 z3
  obtain ⟨rfl, N3q, eq3⟩ := hQ3
  have N3 := Fr.app N2 N3q
  obtain ⟨fs, hr, hrun, hended, hW, hsame⟩ := X3.leave (v := some (.int (1 : Int32))) (fun h => by rw [Bd.returns] at h; cases h)
  refine ⟨_, _, pre0 _ ?_, hrun, hended, _, _, rfl, ?_, ⟨_, rfl⟩, hW, hsame.mono (by decide) (by decide)⟩
  · show Stp p e below s₁ m 0 #[.val (.int pi1), .val (.int pi2), .unset, .unset, .unset, .unset, .unset, .unset, .unset] [] _
    refine XS.iloadN X0.here hx rfl (hb hby at_0) rfl ?_
    show Stp p e below s₁ m 1 #[.val (.int pi1), .val (.int pi2), .unset, .unset, .unset, .unset, .unset, .unset, .unset] [(.int pi1)] _
    refine X0.ldcInt hx hown (mvT hZ (own_W hw 0 rfl)) (g := (mkF m 1 #[.val (.int pi1), .val (.int pi2), .unset, .unset, .unset, .unset, .unset, .unset, .unset] [(.int pi1)])) rfl (hb hby at_1) _ ?_
    show Stp p e below s₁ m 3 #[.val (.int pi1), .val (.int pi2), .unset, .unset, .unset, .unset, .unset, .unset, .unset] [(.int (2147483647 : Int32)), (.int pi1)] _
    refine XS.iand X0.here hx rfl (hb hby at_3) rfl ?_
    show Stp p e below s₁ m 4 #[.val (.int pi1), .val (.int pi2), .unset, .unset, .unset, .unset, .unset, .unset, .unset] [(.int (pi1 &&& (2147483647 : Int32)))] _
    refine XS.bipush X0.here hx rfl (hb hby at_4) ?_
    show Stp p e below s₁ m 6 #[.val (.int pi1), .val (.int pi2), .unset, .unset, .unset, .unset, .unset, .unset, .unset] [(.int (9 : Int32)), (.int (pi1 &&& (2147483647 : Int32)))] _
    refine iremM X0 hx rfl (hb hby at_6) rfl (by decide) ?_
    show Stp p e below s₁ m 7 #[.val (.int pi1), .val (.int pi2), .unset, .unset, .unset, .unset, .unset, .unset, .unset] [(.int ((pi1 &&& (2147483647 : Int32)) % (9 : Int32)))] _
    refine XS.istoreN X0.here hx rfl (hb hby at_7) rfl (l' := #[.val (.int pi1), .val (.int pi2), .val (.int ((pi1 &&& (2147483647 : Int32)) % (9 : Int32))), .unset, .unset, .unset, .unset, .unset, .unset]) rfl ?_
    show Stp p e below s₁ m 8 #[.val (.int pi1), .val (.int pi2), .val (.int ((pi1 &&& (2147483647 : Int32)) % (9 : Int32))), .unset, .unset, .unset, .unset, .unset, .unset] [] _
    refine XS.iloadN X0.here hx rfl (hb hby at_8) rfl ?_
    show Stp p e below s₁ m 9 #[.val (.int pi1), .val (.int pi2), .val (.int ((pi1 &&& (2147483647 : Int32)) % (9 : Int32))), .unset, .unset, .unset, .unset, .unset, .unset] [(.int pi2)] _
    refine XS.iconst X0.here hx rfl (hb hby at_9) ?_
    show Stp p e below s₁ m 10 #[.val (.int pi1), .val (.int pi2), .val (.int ((pi1 &&& (2147483647 : Int32)) % (9 : Int32))), .unset, .unset, .unset, .unset, .unset, .unset] [(.int (1 : Int32)), (.int pi2)] _
    refine XS.iand X0.here hx rfl (hb hby at_10) rfl ?_
    show Stp p e below s₁ m 11 #[.val (.int pi1), .val (.int pi2), .val (.int ((pi1 &&& (2147483647 : Int32)) % (9 : Int32))), .unset, .unset, .unset, .unset, .unset, .unset] [(.int (pi2 &&& (1 : Int32)))] _
    refine XS.ifYes X0.here hx rfl (pc0 := 11) (pc' := 18) rfl (hb hby at_11) rfl ((if0 _ _).trans (feq hc11_0).2) (by decide) (by decide) ?_
    show Stp p e below s₁ m 18 #[.val (.int pi1), .val (.int pi2), .val (.int ((pi1 &&& (2147483647 : Int32)) % (9 : Int32))), .unset, .unset, .unset, .unset, .unset, .unset] [] _
    refine XS.iconst X0.here hx rfl (hb hby at_18) ?_
    show Stp p e below s₁ m 19 #[.val (.int pi1), .val (.int pi2), .val (.int ((pi1 &&& (2147483647 : Int32)) % (9 : Int32))), .unset, .unset, .unset, .unset, .unset, .unset] [(.int (0 : Int32))] _
    refine XS.istoreN X0.here hx rfl (hb hby at_19) rfl (l' := #[.val (.int pi1), .val (.int pi2), .val (.int ((pi1 &&& (2147483647 : Int32)) % (9 : Int32))), .val (.int (0 : Int32)), .unset, .unset, .unset, .unset, .unset]) rfl ?_
    show Stp p e below s₁ m 20 #[.val (.int pi1), .val (.int pi2), .val (.int ((pi1 &&& (2147483647 : Int32)) % (9 : Int32))), .val (.int (0 : Int32)), .unset, .unset, .unset, .unset, .unset] [] _
    refine XS.iloadN X0.here hx rfl (hb hby at_20) rfl ?_
    show Stp p e below s₁ m 21 #[.val (.int pi1), .val (.int pi2), .val (.int ((pi1 &&& (2147483647 : Int32)) % (9 : Int32))), .val (.int (0 : Int32)), .unset, .unset, .unset, .unset, .unset] [(.int (0 : Int32))] _
    refine XS.ifYes X0.here hx rfl (pc0 := 21) (pc' := 30) rfl (hb hby at_21) rfl ((if0 _ _).trans (teq (rfl : (0 : Int32) = (0 : Int32))).1) (by decide) (by decide) ?_
    show Stp p e below s₁ m 30 #[.val (.int pi1), .val (.int pi2), .val (.int ((pi1 &&& (2147483647 : Int32)) % (9 : Int32))), .val (.int (0 : Int32)), .unset, .unset, .unset, .unset, .unset] [] _
    refine st1 _ ?_
    show Stp p e below T1 m 33 #[.val (.int pi1), .val (.int pi2), .val (.int ((pi1 &&& (2147483647 : Int32)) % (9 : Int32))), .val (.int (0 : Int32)), .unset, .unset, .unset, .unset, .unset] [(.ref w_DESC)] _
    refine XS.astore X1.here hx rfl (hb hby at_33) rfl rfl (l' := #[.val (.int pi1), .val (.int pi2), .val (.int ((pi1 &&& (2147483647 : Int32)) % (9 : Int32))), .val (.int (0 : Int32)), .val (.ref w_DESC), .unset, .unset, .unset, .unset]) rfl ?_
    show Stp p e below T1 m 35 #[.val (.int pi1), .val (.int pi2), .val (.int ((pi1 &&& (2147483647 : Int32)) % (9 : Int32))), .val (.int (0 : Int32)), .val (.ref w_DESC), .unset, .unset, .unset, .unset] [] _
    refine XS.iloadN X1.here hx rfl (hb hby at_35) rfl ?_
    show Stp p e below T1 m 36 #[.val (.int pi1), .val (.int pi2), .val (.int ((pi1 &&& (2147483647 : Int32)) % (9 : Int32))), .val (.int (0 : Int32)), .val (.ref w_DESC), .unset, .unset, .unset, .unset] [(.int ((pi1 &&& (2147483647 : Int32)) % (9 : Int32)))] _
    refine st2 _ ?_
    show Stp p e below T2 m 39 #[.val (.int pi1), .val (.int pi2), .val (.int ((pi1 &&& (2147483647 : Int32)) % (9 : Int32))), .val (.int (0 : Int32)), .val (.ref w_DESC), .unset, .unset, .unset, .unset] [(.ref w_ORACLE)] _
    refine XS.astore X2.here hx rfl (hb hby at_39) rfl rfl (l' := #[.val (.int pi1), .val (.int pi2), .val (.int ((pi1 &&& (2147483647 : Int32)) % (9 : Int32))), .val (.int (0 : Int32)), .val (.ref w_DESC), .val (.ref w_ORACLE), .unset, .unset, .unset]) rfl ?_
    show Stp p e below T2 m 41 #[.val (.int pi1), .val (.int pi2), .val (.int ((pi1 &&& (2147483647 : Int32)) % (9 : Int32))), .val (.int (0 : Int32)), .val (.ref w_DESC), .val (.ref w_ORACLE), .unset, .unset, .unset] [] _
    refine XS.iloadN X2.here hx rfl (hb hby at_41) rfl ?_
    show Stp p e below T2 m 42 #[.val (.int pi1), .val (.int pi2), .val (.int ((pi1 &&& (2147483647 : Int32)) % (9 : Int32))), .val (.int (0 : Int32)), .val (.ref w_DESC), .val (.ref w_ORACLE), .unset, .unset, .unset] [(.int ((pi1 &&& (2147483647 : Int32)) % (9 : Int32)))] _
    refine XS.ifNo X2.here hx rfl (hb hby at_42) rfl ((if0 _ _).trans (feq hc36_1).1) ?_
    show Stp p e below T2 m 45 #[.val (.int pi1), .val (.int pi2), .val (.int ((pi1 &&& (2147483647 : Int32)) % (9 : Int32))), .val (.int (0 : Int32)), .val (.ref w_DESC), .val (.ref w_ORACLE), .unset, .unset, .unset] [] _
    refine XS.iloadN X2.here hx rfl (hb hby at_45) rfl ?_
    show Stp p e below T2 m 46 #[.val (.int pi1), .val (.int pi2), .val (.int ((pi1 &&& (2147483647 : Int32)) % (9 : Int32))), .val (.int (0 : Int32)), .val (.ref w_DESC), .val (.ref w_ORACLE), .unset, .unset, .unset] [(.int ((pi1 &&& (2147483647 : Int32)) % (9 : Int32)))] _
    refine XS.iconst X2.here hx rfl (hb hby at_46) ?_
    show Stp p e below T2 m 47 #[.val (.int pi1), .val (.int pi2), .val (.int ((pi1 &&& (2147483647 : Int32)) % (9 : Int32))), .val (.int (0 : Int32)), .val (.ref w_DESC), .val (.ref w_ORACLE), .unset, .unset, .unset] [(.int (5 : Int32)), (.int ((pi1 &&& (2147483647 : Int32)) % (9 : Int32)))] _
    refine XS.icmpNo X2.here hx rfl (hb hby at_47) rfl (feq hc36_6).1 ?_
    show Stp p e below T2 m 50 #[.val (.int pi1), .val (.int pi2), .val (.int ((pi1 &&& (2147483647 : Int32)) % (9 : Int32))), .val (.int (0 : Int32)), .val (.ref w_DESC), .val (.ref w_ORACLE), .unset, .unset, .unset] [] _
    refine XS.iloadN X2.here hx rfl (hb hby at_50) rfl ?_
    show Stp p e below T2 m 51 #[.val (.int pi1), .val (.int pi2), .val (.int ((pi1 &&& (2147483647 : Int32)) % (9 : Int32))), .val (.int (0 : Int32)), .val (.ref w_DESC), .val (.ref w_ORACLE), .unset, .unset, .unset] [(.int ((pi1 &&& (2147483647 : Int32)) % (9 : Int32)))] _
    refine XS.bipush X2.here hx rfl (hb hby at_51) ?_
    show Stp p e below T2 m 53 #[.val (.int pi1), .val (.int pi2), .val (.int ((pi1 &&& (2147483647 : Int32)) % (9 : Int32))), .val (.int (0 : Int32)), .val (.ref w_DESC), .val (.ref w_ORACLE), .unset, .unset, .unset] [(.int (6 : Int32)), (.int ((pi1 &&& (2147483647 : Int32)) % (9 : Int32)))] _
    refine XS.icmpYes X2.here hx rfl (pc0 := 53) (pc' := 62) rfl (hb hby at_53) rfl (teq hc36_7).1 (by decide) (by decide) ?_
    show Stp p e below T2 m 62 #[.val (.int pi1), .val (.int pi2), .val (.int ((pi1 &&& (2147483647 : Int32)) % (9 : Int32))), .val (.int (0 : Int32)), .val (.ref w_DESC), .val (.ref w_ORACLE), .unset, .unset, .unset] [] _
    refine XS.iconst X2.here hx rfl (hb hby at_62) ?_
    show Stp p e below T2 m 63 #[.val (.int pi1), .val (.int pi2), .val (.int ((pi1 &&& (2147483647 : Int32)) % (9 : Int32))), .val (.int (0 : Int32)), .val (.ref w_DESC), .val (.ref w_ORACLE), .unset, .unset, .unset] [(.int (1 : Int32))] _
    refine XS.goto X2.here hx rfl (pc0 := 63) (pc' := 67) rfl (hb hby at_63) (by decide) (by decide) ?_
    show Stp p e below T2 m 67 #[.val (.int pi1), .val (.int pi2), .val (.int ((pi1 &&& (2147483647 : Int32)) % (9 : Int32))), .val (.int (0 : Int32)), .val (.ref w_DESC), .val (.ref w_ORACLE), .unset, .unset, .unset] [(.int (1 : Int32))] _
    refine XS.istore X2.here hx rfl (hb hby at_67) rfl (l' := #[.val (.int pi1), .val (.int pi2), .val (.int ((pi1 &&& (2147483647 : Int32)) % (9 : Int32))), .val (.int (0 : Int32)), .val (.ref w_DESC), .val (.ref w_ORACLE), .val (.int (1 : Int32)), .unset, .unset]) rfl ?_
    show Stp p e below T2 m 69 #[.val (.int pi1), .val (.int pi2), .val (.int ((pi1 &&& (2147483647 : Int32)) % (9 : Int32))), .val (.int (0 : Int32)), .val (.ref w_DESC), .val (.ref w_ORACLE), .val (.int (1 : Int32)), .unset, .unset] [] _
    refine XS.iloadN X2.here hx rfl (hb hby at_69) rfl ?_
    show Stp p e below T2 m 70 #[.val (.int pi1), .val (.int pi2), .val (.int ((pi1 &&& (2147483647 : Int32)) % (9 : Int32))), .val (.int (0 : Int32)), .val (.ref w_DESC), .val (.ref w_ORACLE), .val (.int (1 : Int32)), .unset, .unset] [(.int ((pi1 &&& (2147483647 : Int32)) % (9 : Int32)))] _
    refine XS.iconst X2.here hx rfl (hb hby at_70) ?_
    show Stp p e below T2 m 71 #[.val (.int pi1), .val (.int pi2), .val (.int ((pi1 &&& (2147483647 : Int32)) % (9 : Int32))), .val (.int (0 : Int32)), .val (.ref w_DESC), .val (.ref w_ORACLE), .val (.int (1 : Int32)), .unset, .unset] [(.int (1 : Int32)), (.int ((pi1 &&& (2147483647 : Int32)) % (9 : Int32)))] _
    refine XS.icmpNo X2.here hx rfl (hb hby at_71) rfl (feq hc36_2).1 ?_
    show Stp p e below T2 m 74 #[.val (.int pi1), .val (.int pi2), .val (.int ((pi1 &&& (2147483647 : Int32)) % (9 : Int32))), .val (.int (0 : Int32)), .val (.ref w_DESC), .val (.ref w_ORACLE), .val (.int (1 : Int32)), .unset, .unset] [] _
    refine XS.iloadN X2.here hx rfl (hb hby at_74) rfl ?_
    show Stp p e below T2 m 75 #[.val (.int pi1), .val (.int pi2), .val (.int ((pi1 &&& (2147483647 : Int32)) % (9 : Int32))), .val (.int (0 : Int32)), .val (.ref w_DESC), .val (.ref w_ORACLE), .val (.int (1 : Int32)), .unset, .unset] [(.int ((pi1 &&& (2147483647 : Int32)) % (9 : Int32)))] _
    refine XS.iconst X2.here hx rfl (hb hby at_75) ?_
    show Stp p e below T2 m 76 #[.val (.int pi1), .val (.int pi2), .val (.int ((pi1 &&& (2147483647 : Int32)) % (9 : Int32))), .val (.int (0 : Int32)), .val (.ref w_DESC), .val (.ref w_ORACLE), .val (.int (1 : Int32)), .unset, .unset] [(.int (2 : Int32)), (.int ((pi1 &&& (2147483647 : Int32)) % (9 : Int32)))] _
    refine XS.icmpNo X2.here hx rfl (hb hby at_76) rfl (feq hc36_3).1 ?_
    show Stp p e below T2 m 79 #[.val (.int pi1), .val (.int pi2), .val (.int ((pi1 &&& (2147483647 : Int32)) % (9 : Int32))), .val (.int (0 : Int32)), .val (.ref w_DESC), .val (.ref w_ORACLE), .val (.int (1 : Int32)), .unset, .unset] [] _
    refine XS.iloadN X2.here hx rfl (hb hby at_79) rfl ?_
    show Stp p e below T2 m 80 #[.val (.int pi1), .val (.int pi2), .val (.int ((pi1 &&& (2147483647 : Int32)) % (9 : Int32))), .val (.int (0 : Int32)), .val (.ref w_DESC), .val (.ref w_ORACLE), .val (.int (1 : Int32)), .unset, .unset] [(.int ((pi1 &&& (2147483647 : Int32)) % (9 : Int32)))] _
    refine XS.iconst X2.here hx rfl (hb hby at_80) ?_
    show Stp p e below T2 m 81 #[.val (.int pi1), .val (.int pi2), .val (.int ((pi1 &&& (2147483647 : Int32)) % (9 : Int32))), .val (.int (0 : Int32)), .val (.ref w_DESC), .val (.ref w_ORACLE), .val (.int (1 : Int32)), .unset, .unset] [(.int (3 : Int32)), (.int ((pi1 &&& (2147483647 : Int32)) % (9 : Int32)))] _
    refine XS.icmpNo X2.here hx rfl (hb hby at_81) rfl (feq hc36_4).1 ?_
    show Stp p e below T2 m 84 #[.val (.int pi1), .val (.int pi2), .val (.int ((pi1 &&& (2147483647 : Int32)) % (9 : Int32))), .val (.int (0 : Int32)), .val (.ref w_DESC), .val (.ref w_ORACLE), .val (.int (1 : Int32)), .unset, .unset] [] _
    refine XS.iloadN X2.here hx rfl (hb hby at_84) rfl ?_
    show Stp p e below T2 m 85 #[.val (.int pi1), .val (.int pi2), .val (.int ((pi1 &&& (2147483647 : Int32)) % (9 : Int32))), .val (.int (0 : Int32)), .val (.ref w_DESC), .val (.ref w_ORACLE), .val (.int (1 : Int32)), .unset, .unset] [(.int ((pi1 &&& (2147483647 : Int32)) % (9 : Int32)))] _
    refine XS.bipush X2.here hx rfl (hb hby at_85) ?_
    show Stp p e below T2 m 87 #[.val (.int pi1), .val (.int pi2), .val (.int ((pi1 &&& (2147483647 : Int32)) % (9 : Int32))), .val (.int (0 : Int32)), .val (.ref w_DESC), .val (.ref w_ORACLE), .val (.int (1 : Int32)), .unset, .unset] [(.int (7 : Int32)), (.int ((pi1 &&& (2147483647 : Int32)) % (9 : Int32)))] _
    refine XS.icmpYes X2.here hx rfl (pc0 := 87) (pc' := 94) rfl (hb hby at_87) rfl (feq (fun q => absurd (hc36_7.symm.trans q) (by decide))).2 (by decide) (by decide) ?_
    show Stp p e below T2 m 94 #[.val (.int pi1), .val (.int pi2), .val (.int ((pi1 &&& (2147483647 : Int32)) % (9 : Int32))), .val (.int (0 : Int32)), .val (.ref w_DESC), .val (.ref w_ORACLE), .val (.int (1 : Int32)), .unset, .unset] [] _
    refine XS.iconst X2.here hx rfl (hb hby at_94) ?_
    show Stp p e below T2 m 95 #[.val (.int pi1), .val (.int pi2), .val (.int ((pi1 &&& (2147483647 : Int32)) % (9 : Int32))), .val (.int (0 : Int32)), .val (.ref w_DESC), .val (.ref w_ORACLE), .val (.int (1 : Int32)), .unset, .unset] [(.int (0 : Int32))] _
    refine XS.istore X2.here hx rfl (hb hby at_95) rfl (l' := #[.val (.int pi1), .val (.int pi2), .val (.int ((pi1 &&& (2147483647 : Int32)) % (9 : Int32))), .val (.int (0 : Int32)), .val (.ref w_DESC), .val (.ref w_ORACLE), .val (.int (1 : Int32)), .val (.int (0 : Int32)), .unset]) rfl ?_
    show Stp p e below T2 m 97 #[.val (.int pi1), .val (.int pi2), .val (.int ((pi1 &&& (2147483647 : Int32)) % (9 : Int32))), .val (.int (0 : Int32)), .val (.ref w_DESC), .val (.ref w_ORACLE), .val (.int (1 : Int32)), .val (.int (0 : Int32)), .unset] [] _
    refine XS.iload X2.here hx rfl (hb hby at_97) rfl ?_
    show Stp p e below T2 m 99 #[.val (.int pi1), .val (.int pi2), .val (.int ((pi1 &&& (2147483647 : Int32)) % (9 : Int32))), .val (.int (0 : Int32)), .val (.ref w_DESC), .val (.ref w_ORACLE), .val (.int (1 : Int32)), .val (.int (0 : Int32)), .unset] [(.int (1 : Int32))] _
    refine XS.ifNo X2.here hx rfl (hb hby at_99) rfl ((if0 _ _).trans (feq (by decide : ¬ ((1 : Int32) = (0 : Int32)))).1) ?_
    show Stp p e below T2 m 102 #[.val (.int pi1), .val (.int pi2), .val (.int ((pi1 &&& (2147483647 : Int32)) % (9 : Int32))), .val (.int (0 : Int32)), .val (.ref w_DESC), .val (.ref w_ORACLE), .val (.int (1 : Int32)), .val (.int (0 : Int32)), .unset] [] _
    refine XS.iloadN X2.here hx rfl (hb hby at_102) rfl ?_
    show Stp p e below T2 m 103 #[.val (.int pi1), .val (.int pi2), .val (.int ((pi1 &&& (2147483647 : Int32)) % (9 : Int32))), .val (.int (0 : Int32)), .val (.ref w_DESC), .val (.ref w_ORACLE), .val (.int (1 : Int32)), .val (.int (0 : Int32)), .unset] [(.int (0 : Int32))] _
    refine XS.istore X2.here hx rfl (hb hby at_103) rfl (l' := #[.val (.int pi1), .val (.int pi2), .val (.int ((pi1 &&& (2147483647 : Int32)) % (9 : Int32))), .val (.int (0 : Int32)), .val (.ref w_DESC), .val (.ref w_ORACLE), .val (.int (1 : Int32)), .val (.int (0 : Int32)), .val (.int (0 : Int32))]) rfl ?_
    show Stp p e below T2 m 105 #[.val (.int pi1), .val (.int pi2), .val (.int ((pi1 &&& (2147483647 : Int32)) % (9 : Int32))), .val (.int (0 : Int32)), .val (.ref w_DESC), .val (.ref w_ORACLE), .val (.int (1 : Int32)), .val (.int (0 : Int32)), .val (.int (0 : Int32))] [] _
    refine XS.goto X2.here hx rfl (pc0 := 105) (pc' := 130) rfl (hb hby at_105) (by decide) (by decide) ?_
    show Stp p e below T2 m 130 #[.val (.int pi1), .val (.int pi2), .val (.int ((pi1 &&& (2147483647 : Int32)) % (9 : Int32))), .val (.int (0 : Int32)), .val (.ref w_DESC), .val (.ref w_ORACLE), .val (.int (1 : Int32)), .val (.int (0 : Int32)), .val (.int (0 : Int32))] [] _
    refine XS.aload X2.here hx rfl (hb hby at_130) rfl rfl ?_
    show Stp p e below T2 m 132 #[.val (.int pi1), .val (.int pi2), .val (.int ((pi1 &&& (2147483647 : Int32)) % (9 : Int32))), .val (.int (0 : Int32)), .val (.ref w_DESC), .val (.ref w_ORACLE), .val (.int (1 : Int32)), .val (.int (0 : Int32)), .val (.int (0 : Int32))] [(.ref w_ORACLE)] _
    refine XS.aload X2.here hx rfl (hb hby at_132) rfl rfl ?_
    show Stp p e below T2 m 134 #[.val (.int pi1), .val (.int pi2), .val (.int ((pi1 &&& (2147483647 : Int32)) % (9 : Int32))), .val (.int (0 : Int32)), .val (.ref w_DESC), .val (.ref w_ORACLE), .val (.int (1 : Int32)), .val (.int (0 : Int32)), .val (.int (0 : Int32))] [(.ref w_DESC), (.ref w_ORACLE)] _
    refine st3.trans ?_
    show Stp p e below T3 m 137 #[.val (.int pi1), .val (.int pi2), .val (.int ((pi1 &&& (2147483647 : Int32)) % (9 : Int32))), .val (.int (0 : Int32)), .val (.ref w_DESC), .val (.ref w_ORACLE), .val (.int (1 : Int32)), .val (.int (0 : Int32)), .val (.int (0 : Int32))] [(.int (0 : Int32))] _
    refine XS.iload X3.here hx rfl (hb hby at_137) rfl ?_
    show Stp p e below T3 m 139 #[.val (.int pi1), .val (.int pi2), .val (.int ((pi1 &&& (2147483647 : Int32)) % (9 : Int32))), .val (.int (0 : Int32)), .val (.ref w_DESC), .val (.ref w_ORACLE), .val (.int (1 : Int32)), .val (.int (0 : Int32)), .val (.int (0 : Int32))] [(.int (0 : Int32)), (.int (0 : Int32))] _
    refine XS.icmpNo X3.here hx rfl (hb hby at_139) rfl (teq (rfl : (0 : Int32) = (0 : Int32))).2 ?_
    show Stp p e below T3 m 142 #[.val (.int pi1), .val (.int pi2), .val (.int ((pi1 &&& (2147483647 : Int32)) % (9 : Int32))), .val (.int (0 : Int32)), .val (.ref w_DESC), .val (.ref w_ORACLE), .val (.int (1 : Int32)), .val (.int (0 : Int32)), .val (.int (0 : Int32))] [] _
    refine XS.iconst X3.here hx rfl (hb hby at_142) ?_
    show Stp p e below T3 m 143 #[.val (.int pi1), .val (.int pi2), .val (.int ((pi1 &&& (2147483647 : Int32)) % (9 : Int32))), .val (.int (0 : Int32)), .val (.ref w_DESC), .val (.ref w_ORACLE), .val (.int (1 : Int32)), .val (.int (0 : Int32)), .val (.int (0 : Int32))] [(.int (1 : Int32))] _
    refine XS.goto X3.here hx rfl (pc0 := 143) (pc' := 147) rfl (hb hby at_143) (by decide) (by decide) ?_
    show Stp p e below T3 m 147 #[.val (.int pi1), .val (.int pi2), .val (.int ((pi1 &&& (2147483647 : Int32)) % (9 : Int32))), .val (.int (0 : Int32)), .val (.ref w_DESC), .val (.ref w_ORACLE), .val (.int (1 : Int32)), .val (.int (0 : Int32)), .val (.int (0 : Int32))] [(.int (1 : Int32))] _
    exact retN X3 hx (t := .boolean) Bd.returns (by simp) (hb hby at_147) hr
  · exact ⟨rfl, N3⟩
set_option maxRecDepth 65536 in
set_option maxHeartbeats 40000000 in
theorem rm0_fffffffft (l : Launch) (Z : State) (a0 : Array Value) (hw : ∀ d ∈ tables_1, d.before a0 Z = true) (ws : List Jvm.Cond) (pi1 : Int32) (pi2 : Int32) (w_HIGH : Addr) (w_LOW : Addr) (w_FIRST : Addr) (w_ASC : Addr) (w_DESC : Addr) (w_POSTGRESQL : Addr) (w_MARIADB : Addr) (w_SQLITE : Addr) (w_H2 : Addr) (w_HSQLDB : Addr) (w_DERBY : Addr) (w_ORACLE : Addr) (w_SQLSERVER : Addr) (w_DB2 : Addr) (h0 : Heap) (n0 : Nat) (Z0 : n0 ≤ h0.size) (O0 : Old Z n0 h0) (S_ASC : Sta Z Z.heap "com/example/leafcount/leafcount/Sort$Direction" "ASC" "Lcom/example/leafcount/leafcount/Sort$Direction;" (.ref w_ASC)) (S_DESC : Sta Z Z.heap "com/example/leafcount/leafcount/Sort$Direction" "DESC" "Lcom/example/leafcount/leafcount/Sort$Direction;" (.ref w_DESC)) (S_POSTGRESQL : Sta Z Z.heap "com/example/leafcount/leafcount/SqlSyntax" "POSTGRESQL" "Lcom/example/leafcount/leafcount/SqlSyntax;" (.ref w_POSTGRESQL)) (S_MARIADB : Sta Z Z.heap "com/example/leafcount/leafcount/SqlSyntax" "MARIADB" "Lcom/example/leafcount/leafcount/SqlSyntax;" (.ref w_MARIADB)) (S_SQLITE : Sta Z Z.heap "com/example/leafcount/leafcount/SqlSyntax" "SQLITE" "Lcom/example/leafcount/leafcount/SqlSyntax;" (.ref w_SQLITE)) (S_H2 : Sta Z Z.heap "com/example/leafcount/leafcount/SqlSyntax" "H2" "Lcom/example/leafcount/leafcount/SqlSyntax;" (.ref w_H2)) (S_HSQLDB : Sta Z Z.heap "com/example/leafcount/leafcount/SqlSyntax" "HSQLDB" "Lcom/example/leafcount/leafcount/SqlSyntax;" (.ref w_HSQLDB)) (S_DERBY : Sta Z Z.heap "com/example/leafcount/leafcount/SqlSyntax" "DERBY" "Lcom/example/leafcount/leafcount/SqlSyntax;" (.ref w_DERBY)) (S_ORACLE : Sta Z Z.heap "com/example/leafcount/leafcount/SqlSyntax" "ORACLE" "Lcom/example/leafcount/leafcount/SqlSyntax;" (.ref w_ORACLE)) (S_SQLSERVER : Sta Z Z.heap "com/example/leafcount/leafcount/SqlSyntax" "SQLSERVER" "Lcom/example/leafcount/leafcount/SqlSyntax;" (.ref w_SQLSERVER)) (S_DB2 : Sta Z Z.heap "com/example/leafcount/leafcount/SqlSyntax" "DB2" "Lcom/example/leafcount/leafcount/SqlSyntax;" (.ref w_DB2)) (E_w_POSTGRESQL : Exa Z Z.heap w_POSTGRESQL "com/example/leafcount/leafcount/SqlSyntax") (E_w_MARIADB : Exa Z Z.heap w_MARIADB "com/example/leafcount/leafcount/SqlSyntax") (E_w_SQLITE : Exa Z Z.heap w_SQLITE "com/example/leafcount/leafcount/SqlSyntax") (E_w_H2 : Exa Z Z.heap w_H2 "com/example/leafcount/leafcount/SqlSyntax") (E_w_HSQLDB : Exa Z Z.heap w_HSQLDB "com/example/leafcount/leafcount/SqlSyntax") (E_w_DERBY : Exa Z Z.heap w_DERBY "com/example/leafcount/leafcount/SqlSyntax") (E_w_ORACLE : Exa Z Z.heap w_ORACLE "com/example/leafcount/leafcount/SqlSyntax") (E_w_SQLSERVER : Exa Z Z.heap w_SQLSERVER "com/example/leafcount/leafcount/SqlSyntax") (E_w_DB2 : Exa Z Z.heap w_DB2 "com/example/leafcount/leafcount/SqlSyntax") (F_nullOrder_w_POSTGRESQL : Fld Z Z.heap w_POSTGRESQL "com/example/leafcount/leafcount/SqlSyntax" "nullOrder" "Lcom/example/leafcount/leafcount/SqlSyntax$NullOrder;" (.ref w_HIGH)) (F_nullOrder_w_MARIADB : Fld Z Z.heap w_MARIADB "com/example/leafcount/leafcount/SqlSyntax" "nullOrder" "Lcom/example/leafcount/leafcount/SqlSyntax$NullOrder;" (.ref w_LOW)) (F_nullOrder_w_SQLITE : Fld Z Z.heap w_SQLITE "com/example/leafcount/leafcount/SqlSyntax" "nullOrder" "Lcom/example/leafcount/leafcount/SqlSyntax$NullOrder;" (.ref w_LOW)) (F_nullOrder_w_H2 : Fld Z Z.heap w_H2 "com/example/leafcount/leafcount/SqlSyntax" "nullOrder" "Lcom/example/leafcount/leafcount/SqlSyntax$NullOrder;" (.ref w_LOW)) (F_nullOrder_w_HSQLDB : Fld Z Z.heap w_HSQLDB "com/example/leafcount/leafcount/SqlSyntax" "nullOrder" "Lcom/example/leafcount/leafcount/SqlSyntax$NullOrder;" (.ref w_FIRST)) (F_nullOrder_w_DERBY : Fld Z Z.heap w_DERBY "com/example/leafcount/leafcount/SqlSyntax" "nullOrder" "Lcom/example/leafcount/leafcount/SqlSyntax$NullOrder;" (.ref w_HIGH)) (F_nullOrder_w_ORACLE : Fld Z Z.heap w_ORACLE "com/example/leafcount/leafcount/SqlSyntax" "nullOrder" "Lcom/example/leafcount/leafcount/SqlSyntax$NullOrder;" (.ref w_HIGH)) (F_nullOrder_w_SQLSERVER : Fld Z Z.heap w_SQLSERVER "com/example/leafcount/leafcount/SqlSyntax" "nullOrder" "Lcom/example/leafcount/leafcount/SqlSyntax$NullOrder;" (.ref w_LOW)) (F_nullOrder_w_DB2 : Fld Z Z.heap w_DB2 "com/example/leafcount/leafcount/SqlSyntax" "nullOrder" "Lcom/example/leafcount/leafcount/SqlSyntax$NullOrder;" (.ref w_HIGH)) (F_last_w_HIGH : Fld Z Z.heap w_HIGH "com/example/leafcount/leafcount/SqlSyntax$NullOrder" "last" "Lcom/example/leafcount/leafcount/Sort$Direction;" (.ref w_ASC)) (F_last_w_LOW : Fld Z Z.heap w_LOW "com/example/leafcount/leafcount/SqlSyntax$NullOrder" "last" "Lcom/example/leafcount/leafcount/Sort$Direction;" (.ref w_DESC)) (F_last_w_FIRST : Fld Z Z.heap w_FIRST "com/example/leafcount/leafcount/SqlSyntax$NullOrder" "last" "Lcom/example/leafcount/leafcount/Sort$Direction;" .null) (hne : w_ASC ≠ w_DESC) (hc11_0 : ¬ ((pi2 &&& (1 : Int32)) = (0 : Int32))) (hc36_1 : ¬ (((pi1 &&& (2147483647 : Int32)) % (9 : Int32)) = (0 : Int32))) (hc36_2 : ¬ (((pi1 &&& (2147483647 : Int32)) % (9 : Int32)) = (1 : Int32))) (hc36_3 : ¬ (((pi1 &&& (2147483647 : Int32)) % (9 : Int32)) = (2 : Int32))) (hc36_4 : ¬ (((pi1 &&& (2147483647 : Int32)) % (9 : Int32)) = (3 : Int32))) (hc36_5 : ¬ (((pi1 &&& (2147483647 : Int32)) % (9 : Int32)) = (4 : Int32))) (hc36_6 : ¬ (((pi1 &&& (2147483647 : Int32)) % (9 : Int32)) = (5 : Int32))) (hc36_7 : ¬ (((pi1 &&& (2147483647 : Int32)) % (9 : Int32)) = (6 : Int32))) (hc36_8 : ((pi1 &&& (2147483647 : Int32)) % (9 : Int32)) = (7 : Int32)) :
    MetFree l x (head1 (Jvm.Cond.code x code maxLocals ret :: ws) room_1) (fun a U => a = #[(.int pi1), (.int pi2)] ∧ Z.Warmed39 U.vm ∧ U.heap = h0) (fun _ _ _ _ _ => True) (fun _ U o U' => ∃ v L, o = .returned v ∧ Q0 v L n0 ∧ FrameEnd U o U' L room_1.cells room_1.slots) := by
  refine MetFree.of_bodySF (plainFor_of_name pn_0) hisR ?_
  intro p e s m args below meth c s₁ Bd hml0 hP hK
  obtain ⟨rfl, hZ, hh⟩ := hP
  have hx := Bd.exec
  have hby := Bd.bytes
  have hml : c.maxLocals = 9 := hml0
  have hown : s.vm.findClass "com/example/leafcount/leafcount/SqlSyntaxPutsNullLastPinLaw" = some m.cls := findClass_of_methodNamed Bd.named
  have hnm := (name_of_methodNamed Bd.named Bd.method).1
  have X0 : Stand p l e room_1 s m #[(.int pi1), (.int pi2)] below meth c s₁ [] 0 0 := Stand.of_body Bd
  have e0 : s₁.heap = h0 := by rw [← hh, Bd.state]; rfl
  have N0 := Fr.nil n0
  have pre0 : ∀ t, Steps p.tables e below (s₁.setTop (mkF m 0 #[.val (.int pi1), .val (.int pi2), .unset, .unset, .unset, .unset, .unset, .unset, .unset] [])) t → Steps p.tables e below (s₁.setTop (entryFrame m #[(.int pi1), (.int pi2)] maxLocals)) t := fun t k => castTop (ef_0 m pi1 pi2) k
  obtain ⟨T1, X1, e1, st1⟩ := getS2 X0 hx hZ hown (host := "") (Or.inl (own_W hw 1 rfl)) Via.refl e0 (S_DESC.ext O0.2) (g := (mkF m 30 #[.val (.int pi1), .val (.int pi2), .val (.int ((pi1 &&& (2147483647 : Int32)) % (9 : Int32))), .val (.int (0 : Int32)), .unset, .unset, .unset, .unset, .unset] [])) rfl (hb hby at_30)
  obtain ⟨_, _, ⟨T2, L2, k2, n2⟩, -, X2, ⟨Lc2, hQ2, l2, y2, z2⟩, st2⟩ := Jvm.LawKit.callS X1 hx (y := (⟨"com/example/leafcount/leafcount/SqlSyntaxPutsNullLastPinLaw", "pick", "(I)Lcom/example/leafcount/leafcount/SqlSyntax;"⟩ : MethodName)) hown (mvT hZ (own_W hw 4 rfl)) (mvT hZ (own_W hw 5 rfl)) (mvT hZ (own_W hw 6 rfl)) (mvT hZ (own_W hw 7 rfl)) (by decide) (backOf (W := 0) (rm1_7 l Z a0 hw [] ((pi1 &&& (2147483647 : Int32)) % (9 : Int32)) w_SQLSERVER h0 n0 Z0 O0 S_SQLSERVER hc36_1 hc36_2 hc36_3 hc36_4 hc36_5 hc36_6 hc36_7 hc36_8) hZ (own_W hw 7 rfl) (own_W hw 6 rfl) (by decide) (by decide)) (g := (mkF m 36 #[.val (.int pi1), .val (.int pi2), .val (.int ((pi1 &&& (2147483647 : Int32)) % (9 : Int32))), .val (.int (0 : Int32)), .val (.ref w_DESC), .unset, .unset, .unset, .unset] [(.int ((pi1 &&& (2147483647 : Int32)) % (9 : Int32)))])) rfl (by rw [hml]; rfl) (argsL := [(.int ((pi1 &&& (2147483647 : Int32)) % (9 : Int32)))]) (rest := []) (lenOf pd_0 rfl) rfl (by show 2 * 0 + _ ≤ _; exact Nat.le_of_eq rfl) (hb hby at_36) (fun _ _ => ⟨rfl, e1, (by decide : 0 + 0 ≤ _), (by decide : 0 + 0 ≤ _)⟩)
  dsimp only [Pt.U, Pt.locs, Pt.cells, Pt.slots] at X2 l2 y2 z2 st2 hQ2
  subst l2 y2 z2
  obtain ⟨rfl, N2q, eq2⟩ := hQ2
  have N2 := Fr.app N0 N2q
  obtain ⟨cq3, kq3, q3a, q3b, q3c⟩ := isOf hZ eq2 (E_w_SQLSERVER.ext O0.2)
  obtain ⟨_, _, ⟨T3, L3, k3, n3⟩, -, X3, ⟨Lc3, hQ3, l3, y3, z3⟩, st3⟩ := X2.virtualBack hx (y := (⟨"com/example/leafcount/leafcount/SqlSyntax", "putsNullLast", "(Lcom/example/leafcount/leafcount/Sort$Direction;)Z"⟩ : MethodName)) (z := (⟨"com/example/leafcount/leafcount/SqlSyntax", "putsNullLast", "(Lcom/example/leafcount/leafcount/Sort$Direction;)Z"⟩ : MethodName)) hown (mvT hZ (own_W hw 11 rfl)) (mvT hZ (own_W hw 12 rfl)) (notFace_of_selects (args := #[]) (mvT hZ (own_W hw 14 rfl))) (mvT hZ (own_W hw 14 rfl)) (mvT hZ (own_W hw 13 rfl)) (by decide) (backOf (W := 0) (rm2_t l Z a0 hw [] w_SQLSERVER w_DESC w_LOW w_DESC h0 n0 Z0 O0 (F_nullOrder_w_SQLSERVER.ext O0.2) (F_last_w_LOW.ext O0.2) rfl) hZ (own_W hw 15 rfl) (own_W hw 9 rfl) (by decide) (by decide)) q3a q3c (g := (mkF m 134 #[.val (.int pi1), .val (.int pi2), .val (.int ((pi1 &&& (2147483647 : Int32)) % (9 : Int32))), .val (.int (0 : Int32)), .val (.ref w_DESC), .val (.ref w_SQLSERVER), .val (.int (0 : Int32)), .val (.int (1 : Int32)), .val (.int (1 : Int32))] [(.ref w_DESC), (.ref w_SQLSERVER)])) rfl (by rw [hml]; rfl) (Steps.refl _) (argsL := [(.ref w_DESC)]) (rest := []) (lenOf pd_1 rfl) rfl (by show 2 * 0 + _ ≤ _; exact Nat.le_of_eq rfl) (hb hby at_134) (fun _ _ => ⟨rfl, eq2, (by decide : 0 + 0 ≤ _), (by decide : 0 + 0 ≤ _)⟩)
  dsimp only [Pt.U, Pt.locs, Pt.cells, Pt.slots] at X3 l3 y3 z3 st3 hQ3
  subst l3 y3 z3
  obtain ⟨rfl, N3q, eq3⟩ := hQ3
  have N3 := Fr.app N2 N3q
  obtain ⟨fs, hr, hrun, hended, hW, hsame⟩ := X3.leave (v := some (.int (1 : Int32))) (fun h => by rw [Bd.returns] at h; cases h)
  refine ⟨_, _, pre0 _ ?_, hrun, hended, _, _, rfl, ?_, ⟨_, rfl⟩, hW, hsame.mono (by decide) (by decide)⟩
  · show Stp p e below s₁ m 0 #[.val (.int pi1), .val (.int pi2), .unset, .unset, .unset, .unset, .unset, .unset, .unset] [] _
    refine XS.iloadN X0.here hx rfl (hb hby at_0) rfl ?_
    show Stp p e below s₁ m 1 #[.val (.int pi1), .val (.int pi2), .unset, .unset, .unset, .unset, .unset, .unset, .unset] [(.int pi1)] _
    refine X0.ldcInt hx hown (mvT hZ (own_W hw 0 rfl)) (g := (mkF m 1 #[.val (.int pi1), .val (.int pi2), .unset, .unset, .unset, .unset, .unset, .unset, .unset] [(.int pi1)])) rfl (hb hby at_1) _ ?_
    show Stp p e below s₁ m 3 #[.val (.int pi1), .val (.int pi2), .unset, .unset, .unset, .unset, .unset, .unset, .unset] [(.int (2147483647 : Int32)), (.int pi1)] _
    refine XS.iand X0.here hx rfl (hb hby at_3) rfl ?_
    show Stp p e below s₁ m 4 #[.val (.int pi1), .val (.int pi2), .unset, .unset, .unset, .unset, .unset, .unset, .unset] [(.int (pi1 &&& (2147483647 : Int32)))] _
    refine XS.bipush X0.here hx rfl (hb hby at_4) ?_
    show Stp p e below s₁ m 6 #[.val (.int pi1), .val (.int pi2), .unset, .unset, .unset, .unset, .unset, .unset, .unset] [(.int (9 : Int32)), (.int (pi1 &&& (2147483647 : Int32)))] _
    refine iremM X0 hx rfl (hb hby at_6) rfl (by decide) ?_
    show Stp p e below s₁ m 7 #[.val (.int pi1), .val (.int pi2), .unset, .unset, .unset, .unset, .unset, .unset, .unset] [(.int ((pi1 &&& (2147483647 : Int32)) % (9 : Int32)))] _
    refine XS.istoreN X0.here hx rfl (hb hby at_7) rfl (l' := #[.val (.int pi1), .val (.int pi2), .val (.int ((pi1 &&& (2147483647 : Int32)) % (9 : Int32))), .unset, .unset, .unset, .unset, .unset, .unset]) rfl ?_
    show Stp p e below s₁ m 8 #[.val (.int pi1), .val (.int pi2), .val (.int ((pi1 &&& (2147483647 : Int32)) % (9 : Int32))), .unset, .unset, .unset, .unset, .unset, .unset] [] _
    refine XS.iloadN X0.here hx rfl (hb hby at_8) rfl ?_
    show Stp p e below s₁ m 9 #[.val (.int pi1), .val (.int pi2), .val (.int ((pi1 &&& (2147483647 : Int32)) % (9 : Int32))), .unset, .unset, .unset, .unset, .unset, .unset] [(.int pi2)] _
    refine XS.iconst X0.here hx rfl (hb hby at_9) ?_
    show Stp p e below s₁ m 10 #[.val (.int pi1), .val (.int pi2), .val (.int ((pi1 &&& (2147483647 : Int32)) % (9 : Int32))), .unset, .unset, .unset, .unset, .unset, .unset] [(.int (1 : Int32)), (.int pi2)] _
    refine XS.iand X0.here hx rfl (hb hby at_10) rfl ?_
    show Stp p e below s₁ m 11 #[.val (.int pi1), .val (.int pi2), .val (.int ((pi1 &&& (2147483647 : Int32)) % (9 : Int32))), .unset, .unset, .unset, .unset, .unset, .unset] [(.int (pi2 &&& (1 : Int32)))] _
    refine XS.ifYes X0.here hx rfl (pc0 := 11) (pc' := 18) rfl (hb hby at_11) rfl ((if0 _ _).trans (feq hc11_0).2) (by decide) (by decide) ?_
    show Stp p e below s₁ m 18 #[.val (.int pi1), .val (.int pi2), .val (.int ((pi1 &&& (2147483647 : Int32)) % (9 : Int32))), .unset, .unset, .unset, .unset, .unset, .unset] [] _
    refine XS.iconst X0.here hx rfl (hb hby at_18) ?_
    show Stp p e below s₁ m 19 #[.val (.int pi1), .val (.int pi2), .val (.int ((pi1 &&& (2147483647 : Int32)) % (9 : Int32))), .unset, .unset, .unset, .unset, .unset, .unset] [(.int (0 : Int32))] _
    refine XS.istoreN X0.here hx rfl (hb hby at_19) rfl (l' := #[.val (.int pi1), .val (.int pi2), .val (.int ((pi1 &&& (2147483647 : Int32)) % (9 : Int32))), .val (.int (0 : Int32)), .unset, .unset, .unset, .unset, .unset]) rfl ?_
    show Stp p e below s₁ m 20 #[.val (.int pi1), .val (.int pi2), .val (.int ((pi1 &&& (2147483647 : Int32)) % (9 : Int32))), .val (.int (0 : Int32)), .unset, .unset, .unset, .unset, .unset] [] _
    refine XS.iloadN X0.here hx rfl (hb hby at_20) rfl ?_
    show Stp p e below s₁ m 21 #[.val (.int pi1), .val (.int pi2), .val (.int ((pi1 &&& (2147483647 : Int32)) % (9 : Int32))), .val (.int (0 : Int32)), .unset, .unset, .unset, .unset, .unset] [(.int (0 : Int32))] _
    refine XS.ifYes X0.here hx rfl (pc0 := 21) (pc' := 30) rfl (hb hby at_21) rfl ((if0 _ _).trans (teq (rfl : (0 : Int32) = (0 : Int32))).1) (by decide) (by decide) ?_
    show Stp p e below s₁ m 30 #[.val (.int pi1), .val (.int pi2), .val (.int ((pi1 &&& (2147483647 : Int32)) % (9 : Int32))), .val (.int (0 : Int32)), .unset, .unset, .unset, .unset, .unset] [] _
    refine st1 _ ?_
    show Stp p e below T1 m 33 #[.val (.int pi1), .val (.int pi2), .val (.int ((pi1 &&& (2147483647 : Int32)) % (9 : Int32))), .val (.int (0 : Int32)), .unset, .unset, .unset, .unset, .unset] [(.ref w_DESC)] _
    refine XS.astore X1.here hx rfl (hb hby at_33) rfl rfl (l' := #[.val (.int pi1), .val (.int pi2), .val (.int ((pi1 &&& (2147483647 : Int32)) % (9 : Int32))), .val (.int (0 : Int32)), .val (.ref w_DESC), .unset, .unset, .unset, .unset]) rfl ?_
    show Stp p e below T1 m 35 #[.val (.int pi1), .val (.int pi2), .val (.int ((pi1 &&& (2147483647 : Int32)) % (9 : Int32))), .val (.int (0 : Int32)), .val (.ref w_DESC), .unset, .unset, .unset, .unset] [] _
    refine XS.iloadN X1.here hx rfl (hb hby at_35) rfl ?_
    show Stp p e below T1 m 36 #[.val (.int pi1), .val (.int pi2), .val (.int ((pi1 &&& (2147483647 : Int32)) % (9 : Int32))), .val (.int (0 : Int32)), .val (.ref w_DESC), .unset, .unset, .unset, .unset] [(.int ((pi1 &&& (2147483647 : Int32)) % (9 : Int32)))] _
    refine st2 _ ?_
    show Stp p e below T2 m 39 #[.val (.int pi1), .val (.int pi2), .val (.int ((pi1 &&& (2147483647 : Int32)) % (9 : Int32))), .val (.int (0 : Int32)), .val (.ref w_DESC), .unset, .unset, .unset, .unset] [(.ref w_SQLSERVER)] _
    refine XS.astore X2.here hx rfl (hb hby at_39) rfl rfl (l' := #[.val (.int pi1), .val (.int pi2), .val (.int ((pi1 &&& (2147483647 : Int32)) % (9 : Int32))), .val (.int (0 : Int32)), .val (.ref w_DESC), .val (.ref w_SQLSERVER), .unset, .unset, .unset]) rfl ?_
    show Stp p e below T2 m 41 #[.val (.int pi1), .val (.int pi2), .val (.int ((pi1 &&& (2147483647 : Int32)) % (9 : Int32))), .val (.int (0 : Int32)), .val (.ref w_DESC), .val (.ref w_SQLSERVER), .unset, .unset, .unset] [] _
    refine XS.iloadN X2.here hx rfl (hb hby at_41) rfl ?_
    show Stp p e below T2 m 42 #[.val (.int pi1), .val (.int pi2), .val (.int ((pi1 &&& (2147483647 : Int32)) % (9 : Int32))), .val (.int (0 : Int32)), .val (.ref w_DESC), .val (.ref w_SQLSERVER), .unset, .unset, .unset] [(.int ((pi1 &&& (2147483647 : Int32)) % (9 : Int32)))] _
    refine XS.ifNo X2.here hx rfl (hb hby at_42) rfl ((if0 _ _).trans (feq hc36_1).1) ?_
    show Stp p e below T2 m 45 #[.val (.int pi1), .val (.int pi2), .val (.int ((pi1 &&& (2147483647 : Int32)) % (9 : Int32))), .val (.int (0 : Int32)), .val (.ref w_DESC), .val (.ref w_SQLSERVER), .unset, .unset, .unset] [] _
    refine XS.iloadN X2.here hx rfl (hb hby at_45) rfl ?_
    show Stp p e below T2 m 46 #[.val (.int pi1), .val (.int pi2), .val (.int ((pi1 &&& (2147483647 : Int32)) % (9 : Int32))), .val (.int (0 : Int32)), .val (.ref w_DESC), .val (.ref w_SQLSERVER), .unset, .unset, .unset] [(.int ((pi1 &&& (2147483647 : Int32)) % (9 : Int32)))] _
    refine XS.iconst X2.here hx rfl (hb hby at_46) ?_
    show Stp p e below T2 m 47 #[.val (.int pi1), .val (.int pi2), .val (.int ((pi1 &&& (2147483647 : Int32)) % (9 : Int32))), .val (.int (0 : Int32)), .val (.ref w_DESC), .val (.ref w_SQLSERVER), .unset, .unset, .unset] [(.int (5 : Int32)), (.int ((pi1 &&& (2147483647 : Int32)) % (9 : Int32)))] _
    refine XS.icmpNo X2.here hx rfl (hb hby at_47) rfl (feq hc36_6).1 ?_
    show Stp p e below T2 m 50 #[.val (.int pi1), .val (.int pi2), .val (.int ((pi1 &&& (2147483647 : Int32)) % (9 : Int32))), .val (.int (0 : Int32)), .val (.ref w_DESC), .val (.ref w_SQLSERVER), .unset, .unset, .unset] [] _
    refine XS.iloadN X2.here hx rfl (hb hby at_50) rfl ?_
    show Stp p e below T2 m 51 #[.val (.int pi1), .val (.int pi2), .val (.int ((pi1 &&& (2147483647 : Int32)) % (9 : Int32))), .val (.int (0 : Int32)), .val (.ref w_DESC), .val (.ref w_SQLSERVER), .unset, .unset, .unset] [(.int ((pi1 &&& (2147483647 : Int32)) % (9 : Int32)))] _
    refine XS.bipush X2.here hx rfl (hb hby at_51) ?_
    show Stp p e below T2 m 53 #[.val (.int pi1), .val (.int pi2), .val (.int ((pi1 &&& (2147483647 : Int32)) % (9 : Int32))), .val (.int (0 : Int32)), .val (.ref w_DESC), .val (.ref w_SQLSERVER), .unset, .unset, .unset] [(.int (6 : Int32)), (.int ((pi1 &&& (2147483647 : Int32)) % (9 : Int32)))] _
    refine XS.icmpNo X2.here hx rfl (hb hby at_53) rfl (feq hc36_7).1 ?_
    show Stp p e below T2 m 56 #[.val (.int pi1), .val (.int pi2), .val (.int ((pi1 &&& (2147483647 : Int32)) % (9 : Int32))), .val (.int (0 : Int32)), .val (.ref w_DESC), .val (.ref w_SQLSERVER), .unset, .unset, .unset] [] _
    refine XS.iloadN X2.here hx rfl (hb hby at_56) rfl ?_
    show Stp p e below T2 m 57 #[.val (.int pi1), .val (.int pi2), .val (.int ((pi1 &&& (2147483647 : Int32)) % (9 : Int32))), .val (.int (0 : Int32)), .val (.ref w_DESC), .val (.ref w_SQLSERVER), .unset, .unset, .unset] [(.int ((pi1 &&& (2147483647 : Int32)) % (9 : Int32)))] _
    refine XS.bipush X2.here hx rfl (hb hby at_57) ?_
    show Stp p e below T2 m 59 #[.val (.int pi1), .val (.int pi2), .val (.int ((pi1 &&& (2147483647 : Int32)) % (9 : Int32))), .val (.int (0 : Int32)), .val (.ref w_DESC), .val (.ref w_SQLSERVER), .unset, .unset, .unset] [(.int (8 : Int32)), (.int ((pi1 &&& (2147483647 : Int32)) % (9 : Int32)))] _
    refine XS.icmpYes X2.here hx rfl (pc0 := 59) (pc' := 66) rfl (hb hby at_59) rfl (feq (fun q => absurd (hc36_8.symm.trans q) (by decide))).2 (by decide) (by decide) ?_
    show Stp p e below T2 m 66 #[.val (.int pi1), .val (.int pi2), .val (.int ((pi1 &&& (2147483647 : Int32)) % (9 : Int32))), .val (.int (0 : Int32)), .val (.ref w_DESC), .val (.ref w_SQLSERVER), .unset, .unset, .unset] [] _
    refine XS.iconst X2.here hx rfl (hb hby at_66) ?_
    show Stp p e below T2 m 67 #[.val (.int pi1), .val (.int pi2), .val (.int ((pi1 &&& (2147483647 : Int32)) % (9 : Int32))), .val (.int (0 : Int32)), .val (.ref w_DESC), .val (.ref w_SQLSERVER), .unset, .unset, .unset] [(.int (0 : Int32))] _
    refine XS.istore X2.here hx rfl (hb hby at_67) rfl (l' := #[.val (.int pi1), .val (.int pi2), .val (.int ((pi1 &&& (2147483647 : Int32)) % (9 : Int32))), .val (.int (0 : Int32)), .val (.ref w_DESC), .val (.ref w_SQLSERVER), .val (.int (0 : Int32)), .unset, .unset]) rfl ?_
    show Stp p e below T2 m 69 #[.val (.int pi1), .val (.int pi2), .val (.int ((pi1 &&& (2147483647 : Int32)) % (9 : Int32))), .val (.int (0 : Int32)), .val (.ref w_DESC), .val (.ref w_SQLSERVER), .val (.int (0 : Int32)), .unset, .unset] [] _
    refine XS.iloadN X2.here hx rfl (hb hby at_69) rfl ?_
    show Stp p e below T2 m 70 #[.val (.int pi1), .val (.int pi2), .val (.int ((pi1 &&& (2147483647 : Int32)) % (9 : Int32))), .val (.int (0 : Int32)), .val (.ref w_DESC), .val (.ref w_SQLSERVER), .val (.int (0 : Int32)), .unset, .unset] [(.int ((pi1 &&& (2147483647 : Int32)) % (9 : Int32)))] _
    refine XS.iconst X2.here hx rfl (hb hby at_70) ?_
    show Stp p e below T2 m 71 #[.val (.int pi1), .val (.int pi2), .val (.int ((pi1 &&& (2147483647 : Int32)) % (9 : Int32))), .val (.int (0 : Int32)), .val (.ref w_DESC), .val (.ref w_SQLSERVER), .val (.int (0 : Int32)), .unset, .unset] [(.int (1 : Int32)), (.int ((pi1 &&& (2147483647 : Int32)) % (9 : Int32)))] _
    refine XS.icmpNo X2.here hx rfl (hb hby at_71) rfl (feq hc36_2).1 ?_
    show Stp p e below T2 m 74 #[.val (.int pi1), .val (.int pi2), .val (.int ((pi1 &&& (2147483647 : Int32)) % (9 : Int32))), .val (.int (0 : Int32)), .val (.ref w_DESC), .val (.ref w_SQLSERVER), .val (.int (0 : Int32)), .unset, .unset] [] _
    refine XS.iloadN X2.here hx rfl (hb hby at_74) rfl ?_
    show Stp p e below T2 m 75 #[.val (.int pi1), .val (.int pi2), .val (.int ((pi1 &&& (2147483647 : Int32)) % (9 : Int32))), .val (.int (0 : Int32)), .val (.ref w_DESC), .val (.ref w_SQLSERVER), .val (.int (0 : Int32)), .unset, .unset] [(.int ((pi1 &&& (2147483647 : Int32)) % (9 : Int32)))] _
    refine XS.iconst X2.here hx rfl (hb hby at_75) ?_
    show Stp p e below T2 m 76 #[.val (.int pi1), .val (.int pi2), .val (.int ((pi1 &&& (2147483647 : Int32)) % (9 : Int32))), .val (.int (0 : Int32)), .val (.ref w_DESC), .val (.ref w_SQLSERVER), .val (.int (0 : Int32)), .unset, .unset] [(.int (2 : Int32)), (.int ((pi1 &&& (2147483647 : Int32)) % (9 : Int32)))] _
    refine XS.icmpNo X2.here hx rfl (hb hby at_76) rfl (feq hc36_3).1 ?_
    show Stp p e below T2 m 79 #[.val (.int pi1), .val (.int pi2), .val (.int ((pi1 &&& (2147483647 : Int32)) % (9 : Int32))), .val (.int (0 : Int32)), .val (.ref w_DESC), .val (.ref w_SQLSERVER), .val (.int (0 : Int32)), .unset, .unset] [] _
    refine XS.iloadN X2.here hx rfl (hb hby at_79) rfl ?_
    show Stp p e below T2 m 80 #[.val (.int pi1), .val (.int pi2), .val (.int ((pi1 &&& (2147483647 : Int32)) % (9 : Int32))), .val (.int (0 : Int32)), .val (.ref w_DESC), .val (.ref w_SQLSERVER), .val (.int (0 : Int32)), .unset, .unset] [(.int ((pi1 &&& (2147483647 : Int32)) % (9 : Int32)))] _
    refine XS.iconst X2.here hx rfl (hb hby at_80) ?_
    show Stp p e below T2 m 81 #[.val (.int pi1), .val (.int pi2), .val (.int ((pi1 &&& (2147483647 : Int32)) % (9 : Int32))), .val (.int (0 : Int32)), .val (.ref w_DESC), .val (.ref w_SQLSERVER), .val (.int (0 : Int32)), .unset, .unset] [(.int (3 : Int32)), (.int ((pi1 &&& (2147483647 : Int32)) % (9 : Int32)))] _
    refine XS.icmpNo X2.here hx rfl (hb hby at_81) rfl (feq hc36_4).1 ?_
    show Stp p e below T2 m 84 #[.val (.int pi1), .val (.int pi2), .val (.int ((pi1 &&& (2147483647 : Int32)) % (9 : Int32))), .val (.int (0 : Int32)), .val (.ref w_DESC), .val (.ref w_SQLSERVER), .val (.int (0 : Int32)), .unset, .unset] [] _
    refine XS.iloadN X2.here hx rfl (hb hby at_84) rfl ?_
    show Stp p e below T2 m 85 #[.val (.int pi1), .val (.int pi2), .val (.int ((pi1 &&& (2147483647 : Int32)) % (9 : Int32))), .val (.int (0 : Int32)), .val (.ref w_DESC), .val (.ref w_SQLSERVER), .val (.int (0 : Int32)), .unset, .unset] [(.int ((pi1 &&& (2147483647 : Int32)) % (9 : Int32)))] _
    refine XS.bipush X2.here hx rfl (hb hby at_85) ?_
    show Stp p e below T2 m 87 #[.val (.int pi1), .val (.int pi2), .val (.int ((pi1 &&& (2147483647 : Int32)) % (9 : Int32))), .val (.int (0 : Int32)), .val (.ref w_DESC), .val (.ref w_SQLSERVER), .val (.int (0 : Int32)), .unset, .unset] [(.int (7 : Int32)), (.int ((pi1 &&& (2147483647 : Int32)) % (9 : Int32)))] _
    refine XS.icmpNo X2.here hx rfl (hb hby at_87) rfl (teq hc36_8).2 ?_
    show Stp p e below T2 m 90 #[.val (.int pi1), .val (.int pi2), .val (.int ((pi1 &&& (2147483647 : Int32)) % (9 : Int32))), .val (.int (0 : Int32)), .val (.ref w_DESC), .val (.ref w_SQLSERVER), .val (.int (0 : Int32)), .unset, .unset] [] _
    refine XS.iconst X2.here hx rfl (hb hby at_90) ?_
    show Stp p e below T2 m 91 #[.val (.int pi1), .val (.int pi2), .val (.int ((pi1 &&& (2147483647 : Int32)) % (9 : Int32))), .val (.int (0 : Int32)), .val (.ref w_DESC), .val (.ref w_SQLSERVER), .val (.int (0 : Int32)), .unset, .unset] [(.int (1 : Int32))] _
    refine XS.goto X2.here hx rfl (pc0 := 91) (pc' := 95) rfl (hb hby at_91) (by decide) (by decide) ?_
    show Stp p e below T2 m 95 #[.val (.int pi1), .val (.int pi2), .val (.int ((pi1 &&& (2147483647 : Int32)) % (9 : Int32))), .val (.int (0 : Int32)), .val (.ref w_DESC), .val (.ref w_SQLSERVER), .val (.int (0 : Int32)), .unset, .unset] [(.int (1 : Int32))] _
    refine XS.istore X2.here hx rfl (hb hby at_95) rfl (l' := #[.val (.int pi1), .val (.int pi2), .val (.int ((pi1 &&& (2147483647 : Int32)) % (9 : Int32))), .val (.int (0 : Int32)), .val (.ref w_DESC), .val (.ref w_SQLSERVER), .val (.int (0 : Int32)), .val (.int (1 : Int32)), .unset]) rfl ?_
    show Stp p e below T2 m 97 #[.val (.int pi1), .val (.int pi2), .val (.int ((pi1 &&& (2147483647 : Int32)) % (9 : Int32))), .val (.int (0 : Int32)), .val (.ref w_DESC), .val (.ref w_SQLSERVER), .val (.int (0 : Int32)), .val (.int (1 : Int32)), .unset] [] _
    refine XS.iload X2.here hx rfl (hb hby at_97) rfl ?_
    show Stp p e below T2 m 99 #[.val (.int pi1), .val (.int pi2), .val (.int ((pi1 &&& (2147483647 : Int32)) % (9 : Int32))), .val (.int (0 : Int32)), .val (.ref w_DESC), .val (.ref w_SQLSERVER), .val (.int (0 : Int32)), .val (.int (1 : Int32)), .unset] [(.int (0 : Int32))] _
    refine XS.ifYes X2.here hx rfl (pc0 := 99) (pc' := 108) rfl (hb hby at_99) rfl ((if0 _ _).trans (teq (rfl : (0 : Int32) = (0 : Int32))).1) (by decide) (by decide) ?_
    show Stp p e below T2 m 108 #[.val (.int pi1), .val (.int pi2), .val (.int ((pi1 &&& (2147483647 : Int32)) % (9 : Int32))), .val (.int (0 : Int32)), .val (.ref w_DESC), .val (.ref w_SQLSERVER), .val (.int (0 : Int32)), .val (.int (1 : Int32)), .unset] [] _
    refine XS.iload X2.here hx rfl (hb hby at_108) rfl ?_
    show Stp p e below T2 m 110 #[.val (.int pi1), .val (.int pi2), .val (.int ((pi1 &&& (2147483647 : Int32)) % (9 : Int32))), .val (.int (0 : Int32)), .val (.ref w_DESC), .val (.ref w_SQLSERVER), .val (.int (0 : Int32)), .val (.int (1 : Int32)), .unset] [(.int (1 : Int32))] _
    refine XS.ifNo X2.here hx rfl (hb hby at_110) rfl ((if0 _ _).trans (feq (by decide : ¬ ((1 : Int32) = (0 : Int32)))).1) ?_
    show Stp p e below T2 m 113 #[.val (.int pi1), .val (.int pi2), .val (.int ((pi1 &&& (2147483647 : Int32)) % (9 : Int32))), .val (.int (0 : Int32)), .val (.ref w_DESC), .val (.ref w_SQLSERVER), .val (.int (0 : Int32)), .val (.int (1 : Int32)), .unset] [] _
    refine XS.iloadN X2.here hx rfl (hb hby at_113) rfl ?_
    show Stp p e below T2 m 114 #[.val (.int pi1), .val (.int pi2), .val (.int ((pi1 &&& (2147483647 : Int32)) % (9 : Int32))), .val (.int (0 : Int32)), .val (.ref w_DESC), .val (.ref w_SQLSERVER), .val (.int (0 : Int32)), .val (.int (1 : Int32)), .unset] [(.int (0 : Int32))] _
    refine XS.ifNo X2.here hx rfl (hb hby at_114) rfl ((if0 _ _).trans (teq (rfl : (0 : Int32) = (0 : Int32))).2) ?_
    show Stp p e below T2 m 117 #[.val (.int pi1), .val (.int pi2), .val (.int ((pi1 &&& (2147483647 : Int32)) % (9 : Int32))), .val (.int (0 : Int32)), .val (.ref w_DESC), .val (.ref w_SQLSERVER), .val (.int (0 : Int32)), .val (.int (1 : Int32)), .unset] [] _
    refine XS.iconst X2.here hx rfl (hb hby at_117) ?_
    show Stp p e below T2 m 118 #[.val (.int pi1), .val (.int pi2), .val (.int ((pi1 &&& (2147483647 : Int32)) % (9 : Int32))), .val (.int (0 : Int32)), .val (.ref w_DESC), .val (.ref w_SQLSERVER), .val (.int (0 : Int32)), .val (.int (1 : Int32)), .unset] [(.int (1 : Int32))] _
    refine XS.goto X2.here hx rfl (pc0 := 118) (pc' := 122) rfl (hb hby at_118) (by decide) (by decide) ?_
    show Stp p e below T2 m 122 #[.val (.int pi1), .val (.int pi2), .val (.int ((pi1 &&& (2147483647 : Int32)) % (9 : Int32))), .val (.int (0 : Int32)), .val (.ref w_DESC), .val (.ref w_SQLSERVER), .val (.int (0 : Int32)), .val (.int (1 : Int32)), .unset] [(.int (1 : Int32))] _
    refine XS.istore X2.here hx rfl (hb hby at_122) rfl (l' := #[.val (.int pi1), .val (.int pi2), .val (.int ((pi1 &&& (2147483647 : Int32)) % (9 : Int32))), .val (.int (0 : Int32)), .val (.ref w_DESC), .val (.ref w_SQLSERVER), .val (.int (0 : Int32)), .val (.int (1 : Int32)), .val (.int (1 : Int32))]) rfl ?_
    show Stp p e below T2 m 124 #[.val (.int pi1), .val (.int pi2), .val (.int ((pi1 &&& (2147483647 : Int32)) % (9 : Int32))), .val (.int (0 : Int32)), .val (.ref w_DESC), .val (.ref w_SQLSERVER), .val (.int (0 : Int32)), .val (.int (1 : Int32)), .val (.int (1 : Int32))] [] _
    refine XS.goto X2.here hx rfl (pc0 := 124) (pc' := 130) rfl (hb hby at_124) (by decide) (by decide) ?_
    show Stp p e below T2 m 130 #[.val (.int pi1), .val (.int pi2), .val (.int ((pi1 &&& (2147483647 : Int32)) % (9 : Int32))), .val (.int (0 : Int32)), .val (.ref w_DESC), .val (.ref w_SQLSERVER), .val (.int (0 : Int32)), .val (.int (1 : Int32)), .val (.int (1 : Int32))] [] _
    refine XS.aload X2.here hx rfl (hb hby at_130) rfl rfl ?_
    show Stp p e below T2 m 132 #[.val (.int pi1), .val (.int pi2), .val (.int ((pi1 &&& (2147483647 : Int32)) % (9 : Int32))), .val (.int (0 : Int32)), .val (.ref w_DESC), .val (.ref w_SQLSERVER), .val (.int (0 : Int32)), .val (.int (1 : Int32)), .val (.int (1 : Int32))] [(.ref w_SQLSERVER)] _
    refine XS.aload X2.here hx rfl (hb hby at_132) rfl rfl ?_
    show Stp p e below T2 m 134 #[.val (.int pi1), .val (.int pi2), .val (.int ((pi1 &&& (2147483647 : Int32)) % (9 : Int32))), .val (.int (0 : Int32)), .val (.ref w_DESC), .val (.ref w_SQLSERVER), .val (.int (0 : Int32)), .val (.int (1 : Int32)), .val (.int (1 : Int32))] [(.ref w_DESC), (.ref w_SQLSERVER)] _
    refine st3.trans ?_
    show Stp p e below T3 m 137 #[.val (.int pi1), .val (.int pi2), .val (.int ((pi1 &&& (2147483647 : Int32)) % (9 : Int32))), .val (.int (0 : Int32)), .val (.ref w_DESC), .val (.ref w_SQLSERVER), .val (.int (0 : Int32)), .val (.int (1 : Int32)), .val (.int (1 : Int32))] [(.int (1 : Int32))] _
    refine XS.iload X3.here hx rfl (hb hby at_137) rfl ?_
    show Stp p e below T3 m 139 #[.val (.int pi1), .val (.int pi2), .val (.int ((pi1 &&& (2147483647 : Int32)) % (9 : Int32))), .val (.int (0 : Int32)), .val (.ref w_DESC), .val (.ref w_SQLSERVER), .val (.int (0 : Int32)), .val (.int (1 : Int32)), .val (.int (1 : Int32))] [(.int (1 : Int32)), (.int (1 : Int32))] _
    refine XS.icmpNo X3.here hx rfl (hb hby at_139) rfl (teq (rfl : (1 : Int32) = (1 : Int32))).2 ?_
    show Stp p e below T3 m 142 #[.val (.int pi1), .val (.int pi2), .val (.int ((pi1 &&& (2147483647 : Int32)) % (9 : Int32))), .val (.int (0 : Int32)), .val (.ref w_DESC), .val (.ref w_SQLSERVER), .val (.int (0 : Int32)), .val (.int (1 : Int32)), .val (.int (1 : Int32))] [] _
    refine XS.iconst X3.here hx rfl (hb hby at_142) ?_
    show Stp p e below T3 m 143 #[.val (.int pi1), .val (.int pi2), .val (.int ((pi1 &&& (2147483647 : Int32)) % (9 : Int32))), .val (.int (0 : Int32)), .val (.ref w_DESC), .val (.ref w_SQLSERVER), .val (.int (0 : Int32)), .val (.int (1 : Int32)), .val (.int (1 : Int32))] [(.int (1 : Int32))] _
    refine XS.goto X3.here hx rfl (pc0 := 143) (pc' := 147) rfl (hb hby at_143) (by decide) (by decide) ?_
    show Stp p e below T3 m 147 #[.val (.int pi1), .val (.int pi2), .val (.int ((pi1 &&& (2147483647 : Int32)) % (9 : Int32))), .val (.int (0 : Int32)), .val (.ref w_DESC), .val (.ref w_SQLSERVER), .val (.int (0 : Int32)), .val (.int (1 : Int32)), .val (.int (1 : Int32))] [(.int (1 : Int32))] _
    exact retN X3 hx (t := .boolean) Bd.returns (by simp) (hb hby at_147) hr
  · exact ⟨rfl, N3⟩
set_option maxRecDepth 65536 in
set_option maxHeartbeats 40000000 in
theorem rm0_fffffffff (l : Launch) (Z : State) (a0 : Array Value) (hw : ∀ d ∈ tables_1, d.before a0 Z = true) (ws : List Jvm.Cond) (pi1 : Int32) (pi2 : Int32) (w_HIGH : Addr) (w_LOW : Addr) (w_FIRST : Addr) (w_ASC : Addr) (w_DESC : Addr) (w_POSTGRESQL : Addr) (w_MARIADB : Addr) (w_SQLITE : Addr) (w_H2 : Addr) (w_HSQLDB : Addr) (w_DERBY : Addr) (w_ORACLE : Addr) (w_SQLSERVER : Addr) (w_DB2 : Addr) (h0 : Heap) (n0 : Nat) (Z0 : n0 ≤ h0.size) (O0 : Old Z n0 h0) (S_ASC : Sta Z Z.heap "com/example/leafcount/leafcount/Sort$Direction" "ASC" "Lcom/example/leafcount/leafcount/Sort$Direction;" (.ref w_ASC)) (S_DESC : Sta Z Z.heap "com/example/leafcount/leafcount/Sort$Direction" "DESC" "Lcom/example/leafcount/leafcount/Sort$Direction;" (.ref w_DESC)) (S_POSTGRESQL : Sta Z Z.heap "com/example/leafcount/leafcount/SqlSyntax" "POSTGRESQL" "Lcom/example/leafcount/leafcount/SqlSyntax;" (.ref w_POSTGRESQL)) (S_MARIADB : Sta Z Z.heap "com/example/leafcount/leafcount/SqlSyntax" "MARIADB" "Lcom/example/leafcount/leafcount/SqlSyntax;" (.ref w_MARIADB)) (S_SQLITE : Sta Z Z.heap "com/example/leafcount/leafcount/SqlSyntax" "SQLITE" "Lcom/example/leafcount/leafcount/SqlSyntax;" (.ref w_SQLITE)) (S_H2 : Sta Z Z.heap "com/example/leafcount/leafcount/SqlSyntax" "H2" "Lcom/example/leafcount/leafcount/SqlSyntax;" (.ref w_H2)) (S_HSQLDB : Sta Z Z.heap "com/example/leafcount/leafcount/SqlSyntax" "HSQLDB" "Lcom/example/leafcount/leafcount/SqlSyntax;" (.ref w_HSQLDB)) (S_DERBY : Sta Z Z.heap "com/example/leafcount/leafcount/SqlSyntax" "DERBY" "Lcom/example/leafcount/leafcount/SqlSyntax;" (.ref w_DERBY)) (S_ORACLE : Sta Z Z.heap "com/example/leafcount/leafcount/SqlSyntax" "ORACLE" "Lcom/example/leafcount/leafcount/SqlSyntax;" (.ref w_ORACLE)) (S_SQLSERVER : Sta Z Z.heap "com/example/leafcount/leafcount/SqlSyntax" "SQLSERVER" "Lcom/example/leafcount/leafcount/SqlSyntax;" (.ref w_SQLSERVER)) (S_DB2 : Sta Z Z.heap "com/example/leafcount/leafcount/SqlSyntax" "DB2" "Lcom/example/leafcount/leafcount/SqlSyntax;" (.ref w_DB2)) (E_w_POSTGRESQL : Exa Z Z.heap w_POSTGRESQL "com/example/leafcount/leafcount/SqlSyntax") (E_w_MARIADB : Exa Z Z.heap w_MARIADB "com/example/leafcount/leafcount/SqlSyntax") (E_w_SQLITE : Exa Z Z.heap w_SQLITE "com/example/leafcount/leafcount/SqlSyntax") (E_w_H2 : Exa Z Z.heap w_H2 "com/example/leafcount/leafcount/SqlSyntax") (E_w_HSQLDB : Exa Z Z.heap w_HSQLDB "com/example/leafcount/leafcount/SqlSyntax") (E_w_DERBY : Exa Z Z.heap w_DERBY "com/example/leafcount/leafcount/SqlSyntax") (E_w_ORACLE : Exa Z Z.heap w_ORACLE "com/example/leafcount/leafcount/SqlSyntax") (E_w_SQLSERVER : Exa Z Z.heap w_SQLSERVER "com/example/leafcount/leafcount/SqlSyntax") (E_w_DB2 : Exa Z Z.heap w_DB2 "com/example/leafcount/leafcount/SqlSyntax") (F_nullOrder_w_POSTGRESQL : Fld Z Z.heap w_POSTGRESQL "com/example/leafcount/leafcount/SqlSyntax" "nullOrder" "Lcom/example/leafcount/leafcount/SqlSyntax$NullOrder;" (.ref w_HIGH)) (F_nullOrder_w_MARIADB : Fld Z Z.heap w_MARIADB "com/example/leafcount/leafcount/SqlSyntax" "nullOrder" "Lcom/example/leafcount/leafcount/SqlSyntax$NullOrder;" (.ref w_LOW)) (F_nullOrder_w_SQLITE : Fld Z Z.heap w_SQLITE "com/example/leafcount/leafcount/SqlSyntax" "nullOrder" "Lcom/example/leafcount/leafcount/SqlSyntax$NullOrder;" (.ref w_LOW)) (F_nullOrder_w_H2 : Fld Z Z.heap w_H2 "com/example/leafcount/leafcount/SqlSyntax" "nullOrder" "Lcom/example/leafcount/leafcount/SqlSyntax$NullOrder;" (.ref w_LOW)) (F_nullOrder_w_HSQLDB : Fld Z Z.heap w_HSQLDB "com/example/leafcount/leafcount/SqlSyntax" "nullOrder" "Lcom/example/leafcount/leafcount/SqlSyntax$NullOrder;" (.ref w_FIRST)) (F_nullOrder_w_DERBY : Fld Z Z.heap w_DERBY "com/example/leafcount/leafcount/SqlSyntax" "nullOrder" "Lcom/example/leafcount/leafcount/SqlSyntax$NullOrder;" (.ref w_HIGH)) (F_nullOrder_w_ORACLE : Fld Z Z.heap w_ORACLE "com/example/leafcount/leafcount/SqlSyntax" "nullOrder" "Lcom/example/leafcount/leafcount/SqlSyntax$NullOrder;" (.ref w_HIGH)) (F_nullOrder_w_SQLSERVER : Fld Z Z.heap w_SQLSERVER "com/example/leafcount/leafcount/SqlSyntax" "nullOrder" "Lcom/example/leafcount/leafcount/SqlSyntax$NullOrder;" (.ref w_LOW)) (F_nullOrder_w_DB2 : Fld Z Z.heap w_DB2 "com/example/leafcount/leafcount/SqlSyntax" "nullOrder" "Lcom/example/leafcount/leafcount/SqlSyntax$NullOrder;" (.ref w_HIGH)) (F_last_w_HIGH : Fld Z Z.heap w_HIGH "com/example/leafcount/leafcount/SqlSyntax$NullOrder" "last" "Lcom/example/leafcount/leafcount/Sort$Direction;" (.ref w_ASC)) (F_last_w_LOW : Fld Z Z.heap w_LOW "com/example/leafcount/leafcount/SqlSyntax$NullOrder" "last" "Lcom/example/leafcount/leafcount/Sort$Direction;" (.ref w_DESC)) (F_last_w_FIRST : Fld Z Z.heap w_FIRST "com/example/leafcount/leafcount/SqlSyntax$NullOrder" "last" "Lcom/example/leafcount/leafcount/Sort$Direction;" .null) (hne : w_ASC ≠ w_DESC) (hc11_0 : ¬ ((pi2 &&& (1 : Int32)) = (0 : Int32))) (hc36_1 : ¬ (((pi1 &&& (2147483647 : Int32)) % (9 : Int32)) = (0 : Int32))) (hc36_2 : ¬ (((pi1 &&& (2147483647 : Int32)) % (9 : Int32)) = (1 : Int32))) (hc36_3 : ¬ (((pi1 &&& (2147483647 : Int32)) % (9 : Int32)) = (2 : Int32))) (hc36_4 : ¬ (((pi1 &&& (2147483647 : Int32)) % (9 : Int32)) = (3 : Int32))) (hc36_5 : ¬ (((pi1 &&& (2147483647 : Int32)) % (9 : Int32)) = (4 : Int32))) (hc36_6 : ¬ (((pi1 &&& (2147483647 : Int32)) % (9 : Int32)) = (5 : Int32))) (hc36_7 : ¬ (((pi1 &&& (2147483647 : Int32)) % (9 : Int32)) = (6 : Int32))) (hc36_8 : ¬ (((pi1 &&& (2147483647 : Int32)) % (9 : Int32)) = (7 : Int32))) :
    MetFree l x (head1 (Jvm.Cond.code x code maxLocals ret :: ws) room_1) (fun a U => a = #[(.int pi1), (.int pi2)] ∧ Z.Warmed39 U.vm ∧ U.heap = h0) (fun _ _ _ _ _ => True) (fun _ U o U' => ∃ v L, o = .returned v ∧ Q0 v L n0 ∧ FrameEnd U o U' L room_1.cells room_1.slots) := by
  refine MetFree.of_bodySF (plainFor_of_name pn_0) hisR ?_
  intro p e s m args below meth c s₁ Bd hml0 hP hK
  obtain ⟨rfl, hZ, hh⟩ := hP
  have hx := Bd.exec
  have hby := Bd.bytes
  have hml : c.maxLocals = 9 := hml0
  have hown : s.vm.findClass "com/example/leafcount/leafcount/SqlSyntaxPutsNullLastPinLaw" = some m.cls := findClass_of_methodNamed Bd.named
  have hnm := (name_of_methodNamed Bd.named Bd.method).1
  have X0 : Stand p l e room_1 s m #[(.int pi1), (.int pi2)] below meth c s₁ [] 0 0 := Stand.of_body Bd
  have e0 : s₁.heap = h0 := by rw [← hh, Bd.state]; rfl
  have N0 := Fr.nil n0
  have pre0 : ∀ t, Steps p.tables e below (s₁.setTop (mkF m 0 #[.val (.int pi1), .val (.int pi2), .unset, .unset, .unset, .unset, .unset, .unset, .unset] [])) t → Steps p.tables e below (s₁.setTop (entryFrame m #[(.int pi1), (.int pi2)] maxLocals)) t := fun t k => castTop (ef_0 m pi1 pi2) k
  obtain ⟨T1, X1, e1, st1⟩ := getS2 X0 hx hZ hown (host := "") (Or.inl (own_W hw 1 rfl)) Via.refl e0 (S_DESC.ext O0.2) (g := (mkF m 30 #[.val (.int pi1), .val (.int pi2), .val (.int ((pi1 &&& (2147483647 : Int32)) % (9 : Int32))), .val (.int (0 : Int32)), .unset, .unset, .unset, .unset, .unset] [])) rfl (hb hby at_30)
  obtain ⟨_, _, ⟨T2, L2, k2, n2⟩, -, X2, ⟨Lc2, hQ2, l2, y2, z2⟩, st2⟩ := Jvm.LawKit.callS X1 hx (y := (⟨"com/example/leafcount/leafcount/SqlSyntaxPutsNullLastPinLaw", "pick", "(I)Lcom/example/leafcount/leafcount/SqlSyntax;"⟩ : MethodName)) hown (mvT hZ (own_W hw 4 rfl)) (mvT hZ (own_W hw 5 rfl)) (mvT hZ (own_W hw 6 rfl)) (mvT hZ (own_W hw 7 rfl)) (by decide) (backOf (W := 0) (rm1_8 l Z a0 hw [] ((pi1 &&& (2147483647 : Int32)) % (9 : Int32)) w_DB2 h0 n0 Z0 O0 S_DB2 hc36_1 hc36_2 hc36_3 hc36_4 hc36_5 hc36_6 hc36_7 hc36_8) hZ (own_W hw 7 rfl) (own_W hw 6 rfl) (by decide) (by decide)) (g := (mkF m 36 #[.val (.int pi1), .val (.int pi2), .val (.int ((pi1 &&& (2147483647 : Int32)) % (9 : Int32))), .val (.int (0 : Int32)), .val (.ref w_DESC), .unset, .unset, .unset, .unset] [(.int ((pi1 &&& (2147483647 : Int32)) % (9 : Int32)))])) rfl (by rw [hml]; rfl) (argsL := [(.int ((pi1 &&& (2147483647 : Int32)) % (9 : Int32)))]) (rest := []) (lenOf pd_0 rfl) rfl (by show 2 * 0 + _ ≤ _; exact Nat.le_of_eq rfl) (hb hby at_36) (fun _ _ => ⟨rfl, e1, (by decide : 0 + 0 ≤ _), (by decide : 0 + 0 ≤ _)⟩)
  dsimp only [Pt.U, Pt.locs, Pt.cells, Pt.slots] at X2 l2 y2 z2 st2 hQ2
  subst l2 y2 z2
  obtain ⟨rfl, N2q, eq2⟩ := hQ2
  have N2 := Fr.app N0 N2q
  obtain ⟨cq3, kq3, q3a, q3b, q3c⟩ := isOf hZ eq2 (E_w_DB2.ext O0.2)
  obtain ⟨_, _, ⟨T3, L3, k3, n3⟩, -, X3, ⟨Lc3, hQ3, l3, y3, z3⟩, st3⟩ := X2.virtualBack hx (y := (⟨"com/example/leafcount/leafcount/SqlSyntax", "putsNullLast", "(Lcom/example/leafcount/leafcount/Sort$Direction;)Z"⟩ : MethodName)) (z := (⟨"com/example/leafcount/leafcount/SqlSyntax", "putsNullLast", "(Lcom/example/leafcount/leafcount/Sort$Direction;)Z"⟩ : MethodName)) hown (mvT hZ (own_W hw 11 rfl)) (mvT hZ (own_W hw 12 rfl)) (notFace_of_selects (args := #[]) (mvT hZ (own_W hw 14 rfl))) (mvT hZ (own_W hw 14 rfl)) (mvT hZ (own_W hw 13 rfl)) (by decide) (backOf (W := 0) (rm2_f l Z a0 hw [] w_DB2 w_DESC w_HIGH w_ASC h0 n0 Z0 O0 (F_nullOrder_w_DB2.ext O0.2) (F_last_w_HIGH.ext O0.2) hne) hZ (own_W hw 15 rfl) (own_W hw 9 rfl) (by decide) (by decide)) q3a q3c (g := (mkF m 134 #[.val (.int pi1), .val (.int pi2), .val (.int ((pi1 &&& (2147483647 : Int32)) % (9 : Int32))), .val (.int (0 : Int32)), .val (.ref w_DESC), .val (.ref w_DB2), .val (.int (1 : Int32)), .val (.int (0 : Int32)), .val (.int (0 : Int32))] [(.ref w_DESC), (.ref w_DB2)])) rfl (by rw [hml]; rfl) (Steps.refl _) (argsL := [(.ref w_DESC)]) (rest := []) (lenOf pd_1 rfl) rfl (by show 2 * 0 + _ ≤ _; exact Nat.le_of_eq rfl) (hb hby at_134) (fun _ _ => ⟨rfl, eq2, (by decide : 0 + 0 ≤ _), (by decide : 0 + 0 ≤ _)⟩)
  dsimp only [Pt.U, Pt.locs, Pt.cells, Pt.slots] at X3 l3 y3 z3 st3 hQ3
  subst l3 y3 z3
  obtain ⟨rfl, N3q, eq3⟩ := hQ3
  have N3 := Fr.app N2 N3q
  obtain ⟨fs, hr, hrun, hended, hW, hsame⟩ := X3.leave (v := some (.int (1 : Int32))) (fun h => by rw [Bd.returns] at h; cases h)
  refine ⟨_, _, pre0 _ ?_, hrun, hended, _, _, rfl, ?_, ⟨_, rfl⟩, hW, hsame.mono (by decide) (by decide)⟩
  · show Stp p e below s₁ m 0 #[.val (.int pi1), .val (.int pi2), .unset, .unset, .unset, .unset, .unset, .unset, .unset] [] _
    refine XS.iloadN X0.here hx rfl (hb hby at_0) rfl ?_
    show Stp p e below s₁ m 1 #[.val (.int pi1), .val (.int pi2), .unset, .unset, .unset, .unset, .unset, .unset, .unset] [(.int pi1)] _
    refine X0.ldcInt hx hown (mvT hZ (own_W hw 0 rfl)) (g := (mkF m 1 #[.val (.int pi1), .val (.int pi2), .unset, .unset, .unset, .unset, .unset, .unset, .unset] [(.int pi1)])) rfl (hb hby at_1) _ ?_
    show Stp p e below s₁ m 3 #[.val (.int pi1), .val (.int pi2), .unset, .unset, .unset, .unset, .unset, .unset, .unset] [(.int (2147483647 : Int32)), (.int pi1)] _
    refine XS.iand X0.here hx rfl (hb hby at_3) rfl ?_
    show Stp p e below s₁ m 4 #[.val (.int pi1), .val (.int pi2), .unset, .unset, .unset, .unset, .unset, .unset, .unset] [(.int (pi1 &&& (2147483647 : Int32)))] _
    refine XS.bipush X0.here hx rfl (hb hby at_4) ?_
    show Stp p e below s₁ m 6 #[.val (.int pi1), .val (.int pi2), .unset, .unset, .unset, .unset, .unset, .unset, .unset] [(.int (9 : Int32)), (.int (pi1 &&& (2147483647 : Int32)))] _
    refine iremM X0 hx rfl (hb hby at_6) rfl (by decide) ?_
    show Stp p e below s₁ m 7 #[.val (.int pi1), .val (.int pi2), .unset, .unset, .unset, .unset, .unset, .unset, .unset] [(.int ((pi1 &&& (2147483647 : Int32)) % (9 : Int32)))] _
    refine XS.istoreN X0.here hx rfl (hb hby at_7) rfl (l' := #[.val (.int pi1), .val (.int pi2), .val (.int ((pi1 &&& (2147483647 : Int32)) % (9 : Int32))), .unset, .unset, .unset, .unset, .unset, .unset]) rfl ?_
    show Stp p e below s₁ m 8 #[.val (.int pi1), .val (.int pi2), .val (.int ((pi1 &&& (2147483647 : Int32)) % (9 : Int32))), .unset, .unset, .unset, .unset, .unset, .unset] [] _
    refine XS.iloadN X0.here hx rfl (hb hby at_8) rfl ?_
    show Stp p e below s₁ m 9 #[.val (.int pi1), .val (.int pi2), .val (.int ((pi1 &&& (2147483647 : Int32)) % (9 : Int32))), .unset, .unset, .unset, .unset, .unset, .unset] [(.int pi2)] _
    refine XS.iconst X0.here hx rfl (hb hby at_9) ?_
    show Stp p e below s₁ m 10 #[.val (.int pi1), .val (.int pi2), .val (.int ((pi1 &&& (2147483647 : Int32)) % (9 : Int32))), .unset, .unset, .unset, .unset, .unset, .unset] [(.int (1 : Int32)), (.int pi2)] _
    refine XS.iand X0.here hx rfl (hb hby at_10) rfl ?_
    show Stp p e below s₁ m 11 #[.val (.int pi1), .val (.int pi2), .val (.int ((pi1 &&& (2147483647 : Int32)) % (9 : Int32))), .unset, .unset, .unset, .unset, .unset, .unset] [(.int (pi2 &&& (1 : Int32)))] _
    refine XS.ifYes X0.here hx rfl (pc0 := 11) (pc' := 18) rfl (hb hby at_11) rfl ((if0 _ _).trans (feq hc11_0).2) (by decide) (by decide) ?_
    show Stp p e below s₁ m 18 #[.val (.int pi1), .val (.int pi2), .val (.int ((pi1 &&& (2147483647 : Int32)) % (9 : Int32))), .unset, .unset, .unset, .unset, .unset, .unset] [] _
    refine XS.iconst X0.here hx rfl (hb hby at_18) ?_
    show Stp p e below s₁ m 19 #[.val (.int pi1), .val (.int pi2), .val (.int ((pi1 &&& (2147483647 : Int32)) % (9 : Int32))), .unset, .unset, .unset, .unset, .unset, .unset] [(.int (0 : Int32))] _
    refine XS.istoreN X0.here hx rfl (hb hby at_19) rfl (l' := #[.val (.int pi1), .val (.int pi2), .val (.int ((pi1 &&& (2147483647 : Int32)) % (9 : Int32))), .val (.int (0 : Int32)), .unset, .unset, .unset, .unset, .unset]) rfl ?_
    show Stp p e below s₁ m 20 #[.val (.int pi1), .val (.int pi2), .val (.int ((pi1 &&& (2147483647 : Int32)) % (9 : Int32))), .val (.int (0 : Int32)), .unset, .unset, .unset, .unset, .unset] [] _
    refine XS.iloadN X0.here hx rfl (hb hby at_20) rfl ?_
    show Stp p e below s₁ m 21 #[.val (.int pi1), .val (.int pi2), .val (.int ((pi1 &&& (2147483647 : Int32)) % (9 : Int32))), .val (.int (0 : Int32)), .unset, .unset, .unset, .unset, .unset] [(.int (0 : Int32))] _
    refine XS.ifYes X0.here hx rfl (pc0 := 21) (pc' := 30) rfl (hb hby at_21) rfl ((if0 _ _).trans (teq (rfl : (0 : Int32) = (0 : Int32))).1) (by decide) (by decide) ?_
    show Stp p e below s₁ m 30 #[.val (.int pi1), .val (.int pi2), .val (.int ((pi1 &&& (2147483647 : Int32)) % (9 : Int32))), .val (.int (0 : Int32)), .unset, .unset, .unset, .unset, .unset] [] _
    refine st1 _ ?_
    show Stp p e below T1 m 33 #[.val (.int pi1), .val (.int pi2), .val (.int ((pi1 &&& (2147483647 : Int32)) % (9 : Int32))), .val (.int (0 : Int32)), .unset, .unset, .unset, .unset, .unset] [(.ref w_DESC)] _
    refine XS.astore X1.here hx rfl (hb hby at_33) rfl rfl (l' := #[.val (.int pi1), .val (.int pi2), .val (.int ((pi1 &&& (2147483647 : Int32)) % (9 : Int32))), .val (.int (0 : Int32)), .val (.ref w_DESC), .unset, .unset, .unset, .unset]) rfl ?_
    show Stp p e below T1 m 35 #[.val (.int pi1), .val (.int pi2), .val (.int ((pi1 &&& (2147483647 : Int32)) % (9 : Int32))), .val (.int (0 : Int32)), .val (.ref w_DESC), .unset, .unset, .unset, .unset] [] _
    refine XS.iloadN X1.here hx rfl (hb hby at_35) rfl ?_
    show Stp p e below T1 m 36 #[.val (.int pi1), .val (.int pi2), .val (.int ((pi1 &&& (2147483647 : Int32)) % (9 : Int32))), .val (.int (0 : Int32)), .val (.ref w_DESC), .unset, .unset, .unset, .unset] [(.int ((pi1 &&& (2147483647 : Int32)) % (9 : Int32)))] _
    refine st2 _ ?_
    show Stp p e below T2 m 39 #[.val (.int pi1), .val (.int pi2), .val (.int ((pi1 &&& (2147483647 : Int32)) % (9 : Int32))), .val (.int (0 : Int32)), .val (.ref w_DESC), .unset, .unset, .unset, .unset] [(.ref w_DB2)] _
    refine XS.astore X2.here hx rfl (hb hby at_39) rfl rfl (l' := #[.val (.int pi1), .val (.int pi2), .val (.int ((pi1 &&& (2147483647 : Int32)) % (9 : Int32))), .val (.int (0 : Int32)), .val (.ref w_DESC), .val (.ref w_DB2), .unset, .unset, .unset]) rfl ?_
    show Stp p e below T2 m 41 #[.val (.int pi1), .val (.int pi2), .val (.int ((pi1 &&& (2147483647 : Int32)) % (9 : Int32))), .val (.int (0 : Int32)), .val (.ref w_DESC), .val (.ref w_DB2), .unset, .unset, .unset] [] _
    refine XS.iloadN X2.here hx rfl (hb hby at_41) rfl ?_
    show Stp p e below T2 m 42 #[.val (.int pi1), .val (.int pi2), .val (.int ((pi1 &&& (2147483647 : Int32)) % (9 : Int32))), .val (.int (0 : Int32)), .val (.ref w_DESC), .val (.ref w_DB2), .unset, .unset, .unset] [(.int ((pi1 &&& (2147483647 : Int32)) % (9 : Int32)))] _
    refine XS.ifNo X2.here hx rfl (hb hby at_42) rfl ((if0 _ _).trans (feq hc36_1).1) ?_
    show Stp p e below T2 m 45 #[.val (.int pi1), .val (.int pi2), .val (.int ((pi1 &&& (2147483647 : Int32)) % (9 : Int32))), .val (.int (0 : Int32)), .val (.ref w_DESC), .val (.ref w_DB2), .unset, .unset, .unset] [] _
    refine XS.iloadN X2.here hx rfl (hb hby at_45) rfl ?_
    show Stp p e below T2 m 46 #[.val (.int pi1), .val (.int pi2), .val (.int ((pi1 &&& (2147483647 : Int32)) % (9 : Int32))), .val (.int (0 : Int32)), .val (.ref w_DESC), .val (.ref w_DB2), .unset, .unset, .unset] [(.int ((pi1 &&& (2147483647 : Int32)) % (9 : Int32)))] _
    refine XS.iconst X2.here hx rfl (hb hby at_46) ?_
    show Stp p e below T2 m 47 #[.val (.int pi1), .val (.int pi2), .val (.int ((pi1 &&& (2147483647 : Int32)) % (9 : Int32))), .val (.int (0 : Int32)), .val (.ref w_DESC), .val (.ref w_DB2), .unset, .unset, .unset] [(.int (5 : Int32)), (.int ((pi1 &&& (2147483647 : Int32)) % (9 : Int32)))] _
    refine XS.icmpNo X2.here hx rfl (hb hby at_47) rfl (feq hc36_6).1 ?_
    show Stp p e below T2 m 50 #[.val (.int pi1), .val (.int pi2), .val (.int ((pi1 &&& (2147483647 : Int32)) % (9 : Int32))), .val (.int (0 : Int32)), .val (.ref w_DESC), .val (.ref w_DB2), .unset, .unset, .unset] [] _
    refine XS.iloadN X2.here hx rfl (hb hby at_50) rfl ?_
    show Stp p e below T2 m 51 #[.val (.int pi1), .val (.int pi2), .val (.int ((pi1 &&& (2147483647 : Int32)) % (9 : Int32))), .val (.int (0 : Int32)), .val (.ref w_DESC), .val (.ref w_DB2), .unset, .unset, .unset] [(.int ((pi1 &&& (2147483647 : Int32)) % (9 : Int32)))] _
    refine XS.bipush X2.here hx rfl (hb hby at_51) ?_
    show Stp p e below T2 m 53 #[.val (.int pi1), .val (.int pi2), .val (.int ((pi1 &&& (2147483647 : Int32)) % (9 : Int32))), .val (.int (0 : Int32)), .val (.ref w_DESC), .val (.ref w_DB2), .unset, .unset, .unset] [(.int (6 : Int32)), (.int ((pi1 &&& (2147483647 : Int32)) % (9 : Int32)))] _
    refine XS.icmpNo X2.here hx rfl (hb hby at_53) rfl (feq hc36_7).1 ?_
    show Stp p e below T2 m 56 #[.val (.int pi1), .val (.int pi2), .val (.int ((pi1 &&& (2147483647 : Int32)) % (9 : Int32))), .val (.int (0 : Int32)), .val (.ref w_DESC), .val (.ref w_DB2), .unset, .unset, .unset] [] _
    refine XS.iloadN X2.here hx rfl (hb hby at_56) rfl ?_
    show Stp p e below T2 m 57 #[.val (.int pi1), .val (.int pi2), .val (.int ((pi1 &&& (2147483647 : Int32)) % (9 : Int32))), .val (.int (0 : Int32)), .val (.ref w_DESC), .val (.ref w_DB2), .unset, .unset, .unset] [(.int ((pi1 &&& (2147483647 : Int32)) % (9 : Int32)))] _
    refine XS.bipush X2.here hx rfl (hb hby at_57) ?_
    show Stp p e below T2 m 59 #[.val (.int pi1), .val (.int pi2), .val (.int ((pi1 &&& (2147483647 : Int32)) % (9 : Int32))), .val (.int (0 : Int32)), .val (.ref w_DESC), .val (.ref w_DB2), .unset, .unset, .unset] [(.int (8 : Int32)), (.int ((pi1 &&& (2147483647 : Int32)) % (9 : Int32)))] _
    refine XS.icmpNo X2.here hx rfl (hb hby at_59) rfl (teq (own_k8 _ hc36_1 hc36_2 hc36_3 hc36_4 hc36_5 hc36_6 hc36_7 hc36_8)).2 ?_
    show Stp p e below T2 m 62 #[.val (.int pi1), .val (.int pi2), .val (.int ((pi1 &&& (2147483647 : Int32)) % (9 : Int32))), .val (.int (0 : Int32)), .val (.ref w_DESC), .val (.ref w_DB2), .unset, .unset, .unset] [] _
    refine XS.iconst X2.here hx rfl (hb hby at_62) ?_
    show Stp p e below T2 m 63 #[.val (.int pi1), .val (.int pi2), .val (.int ((pi1 &&& (2147483647 : Int32)) % (9 : Int32))), .val (.int (0 : Int32)), .val (.ref w_DESC), .val (.ref w_DB2), .unset, .unset, .unset] [(.int (1 : Int32))] _
    refine XS.goto X2.here hx rfl (pc0 := 63) (pc' := 67) rfl (hb hby at_63) (by decide) (by decide) ?_
    show Stp p e below T2 m 67 #[.val (.int pi1), .val (.int pi2), .val (.int ((pi1 &&& (2147483647 : Int32)) % (9 : Int32))), .val (.int (0 : Int32)), .val (.ref w_DESC), .val (.ref w_DB2), .unset, .unset, .unset] [(.int (1 : Int32))] _
    refine XS.istore X2.here hx rfl (hb hby at_67) rfl (l' := #[.val (.int pi1), .val (.int pi2), .val (.int ((pi1 &&& (2147483647 : Int32)) % (9 : Int32))), .val (.int (0 : Int32)), .val (.ref w_DESC), .val (.ref w_DB2), .val (.int (1 : Int32)), .unset, .unset]) rfl ?_
    show Stp p e below T2 m 69 #[.val (.int pi1), .val (.int pi2), .val (.int ((pi1 &&& (2147483647 : Int32)) % (9 : Int32))), .val (.int (0 : Int32)), .val (.ref w_DESC), .val (.ref w_DB2), .val (.int (1 : Int32)), .unset, .unset] [] _
    refine XS.iloadN X2.here hx rfl (hb hby at_69) rfl ?_
    show Stp p e below T2 m 70 #[.val (.int pi1), .val (.int pi2), .val (.int ((pi1 &&& (2147483647 : Int32)) % (9 : Int32))), .val (.int (0 : Int32)), .val (.ref w_DESC), .val (.ref w_DB2), .val (.int (1 : Int32)), .unset, .unset] [(.int ((pi1 &&& (2147483647 : Int32)) % (9 : Int32)))] _
    refine XS.iconst X2.here hx rfl (hb hby at_70) ?_
    show Stp p e below T2 m 71 #[.val (.int pi1), .val (.int pi2), .val (.int ((pi1 &&& (2147483647 : Int32)) % (9 : Int32))), .val (.int (0 : Int32)), .val (.ref w_DESC), .val (.ref w_DB2), .val (.int (1 : Int32)), .unset, .unset] [(.int (1 : Int32)), (.int ((pi1 &&& (2147483647 : Int32)) % (9 : Int32)))] _
    refine XS.icmpNo X2.here hx rfl (hb hby at_71) rfl (feq hc36_2).1 ?_
    show Stp p e below T2 m 74 #[.val (.int pi1), .val (.int pi2), .val (.int ((pi1 &&& (2147483647 : Int32)) % (9 : Int32))), .val (.int (0 : Int32)), .val (.ref w_DESC), .val (.ref w_DB2), .val (.int (1 : Int32)), .unset, .unset] [] _
    refine XS.iloadN X2.here hx rfl (hb hby at_74) rfl ?_
    show Stp p e below T2 m 75 #[.val (.int pi1), .val (.int pi2), .val (.int ((pi1 &&& (2147483647 : Int32)) % (9 : Int32))), .val (.int (0 : Int32)), .val (.ref w_DESC), .val (.ref w_DB2), .val (.int (1 : Int32)), .unset, .unset] [(.int ((pi1 &&& (2147483647 : Int32)) % (9 : Int32)))] _
    refine XS.iconst X2.here hx rfl (hb hby at_75) ?_
    show Stp p e below T2 m 76 #[.val (.int pi1), .val (.int pi2), .val (.int ((pi1 &&& (2147483647 : Int32)) % (9 : Int32))), .val (.int (0 : Int32)), .val (.ref w_DESC), .val (.ref w_DB2), .val (.int (1 : Int32)), .unset, .unset] [(.int (2 : Int32)), (.int ((pi1 &&& (2147483647 : Int32)) % (9 : Int32)))] _
    refine XS.icmpNo X2.here hx rfl (hb hby at_76) rfl (feq hc36_3).1 ?_
    show Stp p e below T2 m 79 #[.val (.int pi1), .val (.int pi2), .val (.int ((pi1 &&& (2147483647 : Int32)) % (9 : Int32))), .val (.int (0 : Int32)), .val (.ref w_DESC), .val (.ref w_DB2), .val (.int (1 : Int32)), .unset, .unset] [] _
    refine XS.iloadN X2.here hx rfl (hb hby at_79) rfl ?_
    show Stp p e below T2 m 80 #[.val (.int pi1), .val (.int pi2), .val (.int ((pi1 &&& (2147483647 : Int32)) % (9 : Int32))), .val (.int (0 : Int32)), .val (.ref w_DESC), .val (.ref w_DB2), .val (.int (1 : Int32)), .unset, .unset] [(.int ((pi1 &&& (2147483647 : Int32)) % (9 : Int32)))] _
    refine XS.iconst X2.here hx rfl (hb hby at_80) ?_
    show Stp p e below T2 m 81 #[.val (.int pi1), .val (.int pi2), .val (.int ((pi1 &&& (2147483647 : Int32)) % (9 : Int32))), .val (.int (0 : Int32)), .val (.ref w_DESC), .val (.ref w_DB2), .val (.int (1 : Int32)), .unset, .unset] [(.int (3 : Int32)), (.int ((pi1 &&& (2147483647 : Int32)) % (9 : Int32)))] _
    refine XS.icmpNo X2.here hx rfl (hb hby at_81) rfl (feq hc36_4).1 ?_
    show Stp p e below T2 m 84 #[.val (.int pi1), .val (.int pi2), .val (.int ((pi1 &&& (2147483647 : Int32)) % (9 : Int32))), .val (.int (0 : Int32)), .val (.ref w_DESC), .val (.ref w_DB2), .val (.int (1 : Int32)), .unset, .unset] [] _
    refine XS.iloadN X2.here hx rfl (hb hby at_84) rfl ?_
    show Stp p e below T2 m 85 #[.val (.int pi1), .val (.int pi2), .val (.int ((pi1 &&& (2147483647 : Int32)) % (9 : Int32))), .val (.int (0 : Int32)), .val (.ref w_DESC), .val (.ref w_DB2), .val (.int (1 : Int32)), .unset, .unset] [(.int ((pi1 &&& (2147483647 : Int32)) % (9 : Int32)))] _
    refine XS.bipush X2.here hx rfl (hb hby at_85) ?_
    show Stp p e below T2 m 87 #[.val (.int pi1), .val (.int pi2), .val (.int ((pi1 &&& (2147483647 : Int32)) % (9 : Int32))), .val (.int (0 : Int32)), .val (.ref w_DESC), .val (.ref w_DB2), .val (.int (1 : Int32)), .unset, .unset] [(.int (7 : Int32)), (.int ((pi1 &&& (2147483647 : Int32)) % (9 : Int32)))] _
    refine XS.icmpYes X2.here hx rfl (pc0 := 87) (pc' := 94) rfl (hb hby at_87) rfl (feq hc36_8).2 (by decide) (by decide) ?_
    show Stp p e below T2 m 94 #[.val (.int pi1), .val (.int pi2), .val (.int ((pi1 &&& (2147483647 : Int32)) % (9 : Int32))), .val (.int (0 : Int32)), .val (.ref w_DESC), .val (.ref w_DB2), .val (.int (1 : Int32)), .unset, .unset] [] _
    refine XS.iconst X2.here hx rfl (hb hby at_94) ?_
    show Stp p e below T2 m 95 #[.val (.int pi1), .val (.int pi2), .val (.int ((pi1 &&& (2147483647 : Int32)) % (9 : Int32))), .val (.int (0 : Int32)), .val (.ref w_DESC), .val (.ref w_DB2), .val (.int (1 : Int32)), .unset, .unset] [(.int (0 : Int32))] _
    refine XS.istore X2.here hx rfl (hb hby at_95) rfl (l' := #[.val (.int pi1), .val (.int pi2), .val (.int ((pi1 &&& (2147483647 : Int32)) % (9 : Int32))), .val (.int (0 : Int32)), .val (.ref w_DESC), .val (.ref w_DB2), .val (.int (1 : Int32)), .val (.int (0 : Int32)), .unset]) rfl ?_
    show Stp p e below T2 m 97 #[.val (.int pi1), .val (.int pi2), .val (.int ((pi1 &&& (2147483647 : Int32)) % (9 : Int32))), .val (.int (0 : Int32)), .val (.ref w_DESC), .val (.ref w_DB2), .val (.int (1 : Int32)), .val (.int (0 : Int32)), .unset] [] _
    refine XS.iload X2.here hx rfl (hb hby at_97) rfl ?_
    show Stp p e below T2 m 99 #[.val (.int pi1), .val (.int pi2), .val (.int ((pi1 &&& (2147483647 : Int32)) % (9 : Int32))), .val (.int (0 : Int32)), .val (.ref w_DESC), .val (.ref w_DB2), .val (.int (1 : Int32)), .val (.int (0 : Int32)), .unset] [(.int (1 : Int32))] _
    refine XS.ifNo X2.here hx rfl (hb hby at_99) rfl ((if0 _ _).trans (feq (by decide : ¬ ((1 : Int32) = (0 : Int32)))).1) ?_
    show Stp p e below T2 m 102 #[.val (.int pi1), .val (.int pi2), .val (.int ((pi1 &&& (2147483647 : Int32)) % (9 : Int32))), .val (.int (0 : Int32)), .val (.ref w_DESC), .val (.ref w_DB2), .val (.int (1 : Int32)), .val (.int (0 : Int32)), .unset] [] _
    refine XS.iloadN X2.here hx rfl (hb hby at_102) rfl ?_
    show Stp p e below T2 m 103 #[.val (.int pi1), .val (.int pi2), .val (.int ((pi1 &&& (2147483647 : Int32)) % (9 : Int32))), .val (.int (0 : Int32)), .val (.ref w_DESC), .val (.ref w_DB2), .val (.int (1 : Int32)), .val (.int (0 : Int32)), .unset] [(.int (0 : Int32))] _
    refine XS.istore X2.here hx rfl (hb hby at_103) rfl (l' := #[.val (.int pi1), .val (.int pi2), .val (.int ((pi1 &&& (2147483647 : Int32)) % (9 : Int32))), .val (.int (0 : Int32)), .val (.ref w_DESC), .val (.ref w_DB2), .val (.int (1 : Int32)), .val (.int (0 : Int32)), .val (.int (0 : Int32))]) rfl ?_
    show Stp p e below T2 m 105 #[.val (.int pi1), .val (.int pi2), .val (.int ((pi1 &&& (2147483647 : Int32)) % (9 : Int32))), .val (.int (0 : Int32)), .val (.ref w_DESC), .val (.ref w_DB2), .val (.int (1 : Int32)), .val (.int (0 : Int32)), .val (.int (0 : Int32))] [] _
    refine XS.goto X2.here hx rfl (pc0 := 105) (pc' := 130) rfl (hb hby at_105) (by decide) (by decide) ?_
    show Stp p e below T2 m 130 #[.val (.int pi1), .val (.int pi2), .val (.int ((pi1 &&& (2147483647 : Int32)) % (9 : Int32))), .val (.int (0 : Int32)), .val (.ref w_DESC), .val (.ref w_DB2), .val (.int (1 : Int32)), .val (.int (0 : Int32)), .val (.int (0 : Int32))] [] _
    refine XS.aload X2.here hx rfl (hb hby at_130) rfl rfl ?_
    show Stp p e below T2 m 132 #[.val (.int pi1), .val (.int pi2), .val (.int ((pi1 &&& (2147483647 : Int32)) % (9 : Int32))), .val (.int (0 : Int32)), .val (.ref w_DESC), .val (.ref w_DB2), .val (.int (1 : Int32)), .val (.int (0 : Int32)), .val (.int (0 : Int32))] [(.ref w_DB2)] _
    refine XS.aload X2.here hx rfl (hb hby at_132) rfl rfl ?_
    show Stp p e below T2 m 134 #[.val (.int pi1), .val (.int pi2), .val (.int ((pi1 &&& (2147483647 : Int32)) % (9 : Int32))), .val (.int (0 : Int32)), .val (.ref w_DESC), .val (.ref w_DB2), .val (.int (1 : Int32)), .val (.int (0 : Int32)), .val (.int (0 : Int32))] [(.ref w_DESC), (.ref w_DB2)] _
    refine st3.trans ?_
    show Stp p e below T3 m 137 #[.val (.int pi1), .val (.int pi2), .val (.int ((pi1 &&& (2147483647 : Int32)) % (9 : Int32))), .val (.int (0 : Int32)), .val (.ref w_DESC), .val (.ref w_DB2), .val (.int (1 : Int32)), .val (.int (0 : Int32)), .val (.int (0 : Int32))] [(.int (0 : Int32))] _
    refine XS.iload X3.here hx rfl (hb hby at_137) rfl ?_
    show Stp p e below T3 m 139 #[.val (.int pi1), .val (.int pi2), .val (.int ((pi1 &&& (2147483647 : Int32)) % (9 : Int32))), .val (.int (0 : Int32)), .val (.ref w_DESC), .val (.ref w_DB2), .val (.int (1 : Int32)), .val (.int (0 : Int32)), .val (.int (0 : Int32))] [(.int (0 : Int32)), (.int (0 : Int32))] _
    refine XS.icmpNo X3.here hx rfl (hb hby at_139) rfl (teq (rfl : (0 : Int32) = (0 : Int32))).2 ?_
    show Stp p e below T3 m 142 #[.val (.int pi1), .val (.int pi2), .val (.int ((pi1 &&& (2147483647 : Int32)) % (9 : Int32))), .val (.int (0 : Int32)), .val (.ref w_DESC), .val (.ref w_DB2), .val (.int (1 : Int32)), .val (.int (0 : Int32)), .val (.int (0 : Int32))] [] _
    refine XS.iconst X3.here hx rfl (hb hby at_142) ?_
    show Stp p e below T3 m 143 #[.val (.int pi1), .val (.int pi2), .val (.int ((pi1 &&& (2147483647 : Int32)) % (9 : Int32))), .val (.int (0 : Int32)), .val (.ref w_DESC), .val (.ref w_DB2), .val (.int (1 : Int32)), .val (.int (0 : Int32)), .val (.int (0 : Int32))] [(.int (1 : Int32))] _
    refine XS.goto X3.here hx rfl (pc0 := 143) (pc' := 147) rfl (hb hby at_143) (by decide) (by decide) ?_
    show Stp p e below T3 m 147 #[.val (.int pi1), .val (.int pi2), .val (.int ((pi1 &&& (2147483647 : Int32)) % (9 : Int32))), .val (.int (0 : Int32)), .val (.ref w_DESC), .val (.ref w_DB2), .val (.int (1 : Int32)), .val (.int (0 : Int32)), .val (.int (0 : Int32))] [(.int (1 : Int32))] _
    exact retN X3 hx (t := .boolean) Bd.returns (by simp) (hb hby at_147) hr
  · exact ⟨rfl, N3⟩
set_option maxRecDepth 65536 in
set_option maxHeartbeats 40000000 in
theorem rm0 (l : Launch) (Z : State) (a0 : Array Value) (hw : ∀ d ∈ tables_1, d.before a0 Z = true) (ws : List Jvm.Cond) (pi1 : Int32) (pi2 : Int32) (w_HIGH : Addr) (w_LOW : Addr) (w_FIRST : Addr) (w_ASC : Addr) (w_DESC : Addr) (w_POSTGRESQL : Addr) (w_MARIADB : Addr) (w_SQLITE : Addr) (w_H2 : Addr) (w_HSQLDB : Addr) (w_DERBY : Addr) (w_ORACLE : Addr) (w_SQLSERVER : Addr) (w_DB2 : Addr) (h0 : Heap) (n0 : Nat) (Z0 : n0 ≤ h0.size) (O0 : Old Z n0 h0) (S_ASC : Sta Z Z.heap "com/example/leafcount/leafcount/Sort$Direction" "ASC" "Lcom/example/leafcount/leafcount/Sort$Direction;" (.ref w_ASC)) (S_DESC : Sta Z Z.heap "com/example/leafcount/leafcount/Sort$Direction" "DESC" "Lcom/example/leafcount/leafcount/Sort$Direction;" (.ref w_DESC)) (S_POSTGRESQL : Sta Z Z.heap "com/example/leafcount/leafcount/SqlSyntax" "POSTGRESQL" "Lcom/example/leafcount/leafcount/SqlSyntax;" (.ref w_POSTGRESQL)) (S_MARIADB : Sta Z Z.heap "com/example/leafcount/leafcount/SqlSyntax" "MARIADB" "Lcom/example/leafcount/leafcount/SqlSyntax;" (.ref w_MARIADB)) (S_SQLITE : Sta Z Z.heap "com/example/leafcount/leafcount/SqlSyntax" "SQLITE" "Lcom/example/leafcount/leafcount/SqlSyntax;" (.ref w_SQLITE)) (S_H2 : Sta Z Z.heap "com/example/leafcount/leafcount/SqlSyntax" "H2" "Lcom/example/leafcount/leafcount/SqlSyntax;" (.ref w_H2)) (S_HSQLDB : Sta Z Z.heap "com/example/leafcount/leafcount/SqlSyntax" "HSQLDB" "Lcom/example/leafcount/leafcount/SqlSyntax;" (.ref w_HSQLDB)) (S_DERBY : Sta Z Z.heap "com/example/leafcount/leafcount/SqlSyntax" "DERBY" "Lcom/example/leafcount/leafcount/SqlSyntax;" (.ref w_DERBY)) (S_ORACLE : Sta Z Z.heap "com/example/leafcount/leafcount/SqlSyntax" "ORACLE" "Lcom/example/leafcount/leafcount/SqlSyntax;" (.ref w_ORACLE)) (S_SQLSERVER : Sta Z Z.heap "com/example/leafcount/leafcount/SqlSyntax" "SQLSERVER" "Lcom/example/leafcount/leafcount/SqlSyntax;" (.ref w_SQLSERVER)) (S_DB2 : Sta Z Z.heap "com/example/leafcount/leafcount/SqlSyntax" "DB2" "Lcom/example/leafcount/leafcount/SqlSyntax;" (.ref w_DB2)) (E_w_POSTGRESQL : Exa Z Z.heap w_POSTGRESQL "com/example/leafcount/leafcount/SqlSyntax") (E_w_MARIADB : Exa Z Z.heap w_MARIADB "com/example/leafcount/leafcount/SqlSyntax") (E_w_SQLITE : Exa Z Z.heap w_SQLITE "com/example/leafcount/leafcount/SqlSyntax") (E_w_H2 : Exa Z Z.heap w_H2 "com/example/leafcount/leafcount/SqlSyntax") (E_w_HSQLDB : Exa Z Z.heap w_HSQLDB "com/example/leafcount/leafcount/SqlSyntax") (E_w_DERBY : Exa Z Z.heap w_DERBY "com/example/leafcount/leafcount/SqlSyntax") (E_w_ORACLE : Exa Z Z.heap w_ORACLE "com/example/leafcount/leafcount/SqlSyntax") (E_w_SQLSERVER : Exa Z Z.heap w_SQLSERVER "com/example/leafcount/leafcount/SqlSyntax") (E_w_DB2 : Exa Z Z.heap w_DB2 "com/example/leafcount/leafcount/SqlSyntax") (F_nullOrder_w_POSTGRESQL : Fld Z Z.heap w_POSTGRESQL "com/example/leafcount/leafcount/SqlSyntax" "nullOrder" "Lcom/example/leafcount/leafcount/SqlSyntax$NullOrder;" (.ref w_HIGH)) (F_nullOrder_w_MARIADB : Fld Z Z.heap w_MARIADB "com/example/leafcount/leafcount/SqlSyntax" "nullOrder" "Lcom/example/leafcount/leafcount/SqlSyntax$NullOrder;" (.ref w_LOW)) (F_nullOrder_w_SQLITE : Fld Z Z.heap w_SQLITE "com/example/leafcount/leafcount/SqlSyntax" "nullOrder" "Lcom/example/leafcount/leafcount/SqlSyntax$NullOrder;" (.ref w_LOW)) (F_nullOrder_w_H2 : Fld Z Z.heap w_H2 "com/example/leafcount/leafcount/SqlSyntax" "nullOrder" "Lcom/example/leafcount/leafcount/SqlSyntax$NullOrder;" (.ref w_LOW)) (F_nullOrder_w_HSQLDB : Fld Z Z.heap w_HSQLDB "com/example/leafcount/leafcount/SqlSyntax" "nullOrder" "Lcom/example/leafcount/leafcount/SqlSyntax$NullOrder;" (.ref w_FIRST)) (F_nullOrder_w_DERBY : Fld Z Z.heap w_DERBY "com/example/leafcount/leafcount/SqlSyntax" "nullOrder" "Lcom/example/leafcount/leafcount/SqlSyntax$NullOrder;" (.ref w_HIGH)) (F_nullOrder_w_ORACLE : Fld Z Z.heap w_ORACLE "com/example/leafcount/leafcount/SqlSyntax" "nullOrder" "Lcom/example/leafcount/leafcount/SqlSyntax$NullOrder;" (.ref w_HIGH)) (F_nullOrder_w_SQLSERVER : Fld Z Z.heap w_SQLSERVER "com/example/leafcount/leafcount/SqlSyntax" "nullOrder" "Lcom/example/leafcount/leafcount/SqlSyntax$NullOrder;" (.ref w_LOW)) (F_nullOrder_w_DB2 : Fld Z Z.heap w_DB2 "com/example/leafcount/leafcount/SqlSyntax" "nullOrder" "Lcom/example/leafcount/leafcount/SqlSyntax$NullOrder;" (.ref w_HIGH)) (F_last_w_HIGH : Fld Z Z.heap w_HIGH "com/example/leafcount/leafcount/SqlSyntax$NullOrder" "last" "Lcom/example/leafcount/leafcount/Sort$Direction;" (.ref w_ASC)) (F_last_w_LOW : Fld Z Z.heap w_LOW "com/example/leafcount/leafcount/SqlSyntax$NullOrder" "last" "Lcom/example/leafcount/leafcount/Sort$Direction;" (.ref w_DESC)) (F_last_w_FIRST : Fld Z Z.heap w_FIRST "com/example/leafcount/leafcount/SqlSyntax$NullOrder" "last" "Lcom/example/leafcount/leafcount/Sort$Direction;" .null) (hne : w_ASC ≠ w_DESC) :
    MetFree l x (head1 (Jvm.Cond.code x code maxLocals ret :: ws) room_1) (fun a U => a = #[(.int pi1), (.int pi2)] ∧ Z.Warmed39 U.vm ∧ U.heap = h0) (fun _ _ _ _ _ => True) (fun _ U o U' => ∃ v L, o = .returned v ∧ Q0 v L n0 ∧ FrameEnd U o U' L room_1.cells room_1.slots) := by
  by_cases H1 : (pi2 &&& (1 : Int32)) = (0 : Int32)
  · by_cases H2 : ((pi1 &&& (2147483647 : Int32)) % (9 : Int32)) = (0 : Int32)
    · exact rm0_tt l Z a0 hw ws pi1 pi2 w_HIGH w_LOW w_FIRST w_ASC w_DESC w_POSTGRESQL w_MARIADB w_SQLITE w_H2 w_HSQLDB w_DERBY w_ORACLE w_SQLSERVER w_DB2 h0 n0 Z0 O0 S_ASC S_DESC S_POSTGRESQL S_MARIADB S_SQLITE S_H2 S_HSQLDB S_DERBY S_ORACLE S_SQLSERVER S_DB2 E_w_POSTGRESQL E_w_MARIADB E_w_SQLITE E_w_H2 E_w_HSQLDB E_w_DERBY E_w_ORACLE E_w_SQLSERVER E_w_DB2 F_nullOrder_w_POSTGRESQL F_nullOrder_w_MARIADB F_nullOrder_w_SQLITE F_nullOrder_w_H2 F_nullOrder_w_HSQLDB F_nullOrder_w_DERBY F_nullOrder_w_ORACLE F_nullOrder_w_SQLSERVER F_nullOrder_w_DB2 F_last_w_HIGH F_last_w_LOW F_last_w_FIRST hne H1 H2
    · by_cases H3 : ((pi1 &&& (2147483647 : Int32)) % (9 : Int32)) = (1 : Int32)
      · exact rm0_tft l Z a0 hw ws pi1 pi2 w_HIGH w_LOW w_FIRST w_ASC w_DESC w_POSTGRESQL w_MARIADB w_SQLITE w_H2 w_HSQLDB w_DERBY w_ORACLE w_SQLSERVER w_DB2 h0 n0 Z0 O0 S_ASC S_DESC S_POSTGRESQL S_MARIADB S_SQLITE S_H2 S_HSQLDB S_DERBY S_ORACLE S_SQLSERVER S_DB2 E_w_POSTGRESQL E_w_MARIADB E_w_SQLITE E_w_H2 E_w_HSQLDB E_w_DERBY E_w_ORACLE E_w_SQLSERVER E_w_DB2 F_nullOrder_w_POSTGRESQL F_nullOrder_w_MARIADB F_nullOrder_w_SQLITE F_nullOrder_w_H2 F_nullOrder_w_HSQLDB F_nullOrder_w_DERBY F_nullOrder_w_ORACLE F_nullOrder_w_SQLSERVER F_nullOrder_w_DB2 F_last_w_HIGH F_last_w_LOW F_last_w_FIRST hne H1 H2 H3
      · by_cases H4 : ((pi1 &&& (2147483647 : Int32)) % (9 : Int32)) = (2 : Int32)
        · exact rm0_tfft l Z a0 hw ws pi1 pi2 w_HIGH w_LOW w_FIRST w_ASC w_DESC w_POSTGRESQL w_MARIADB w_SQLITE w_H2 w_HSQLDB w_DERBY w_ORACLE w_SQLSERVER w_DB2 h0 n0 Z0 O0 S_ASC S_DESC S_POSTGRESQL S_MARIADB S_SQLITE S_H2 S_HSQLDB S_DERBY S_ORACLE S_SQLSERVER S_DB2 E_w_POSTGRESQL E_w_MARIADB E_w_SQLITE E_w_H2 E_w_HSQLDB E_w_DERBY E_w_ORACLE E_w_SQLSERVER E_w_DB2 F_nullOrder_w_POSTGRESQL F_nullOrder_w_MARIADB F_nullOrder_w_SQLITE F_nullOrder_w_H2 F_nullOrder_w_HSQLDB F_nullOrder_w_DERBY F_nullOrder_w_ORACLE F_nullOrder_w_SQLSERVER F_nullOrder_w_DB2 F_last_w_HIGH F_last_w_LOW F_last_w_FIRST hne H1 H2 H3 H4
        · by_cases H5 : ((pi1 &&& (2147483647 : Int32)) % (9 : Int32)) = (3 : Int32)
          · exact rm0_tffft l Z a0 hw ws pi1 pi2 w_HIGH w_LOW w_FIRST w_ASC w_DESC w_POSTGRESQL w_MARIADB w_SQLITE w_H2 w_HSQLDB w_DERBY w_ORACLE w_SQLSERVER w_DB2 h0 n0 Z0 O0 S_ASC S_DESC S_POSTGRESQL S_MARIADB S_SQLITE S_H2 S_HSQLDB S_DERBY S_ORACLE S_SQLSERVER S_DB2 E_w_POSTGRESQL E_w_MARIADB E_w_SQLITE E_w_H2 E_w_HSQLDB E_w_DERBY E_w_ORACLE E_w_SQLSERVER E_w_DB2 F_nullOrder_w_POSTGRESQL F_nullOrder_w_MARIADB F_nullOrder_w_SQLITE F_nullOrder_w_H2 F_nullOrder_w_HSQLDB F_nullOrder_w_DERBY F_nullOrder_w_ORACLE F_nullOrder_w_SQLSERVER F_nullOrder_w_DB2 F_last_w_HIGH F_last_w_LOW F_last_w_FIRST hne H1 H2 H3 H4 H5
          · by_cases H6 : ((pi1 &&& (2147483647 : Int32)) % (9 : Int32)) = (4 : Int32)
            · exact rm0_tfffft l Z a0 hw ws pi1 pi2 w_HIGH w_LOW w_FIRST w_ASC w_DESC w_POSTGRESQL w_MARIADB w_SQLITE w_H2 w_HSQLDB w_DERBY w_ORACLE w_SQLSERVER w_DB2 h0 n0 Z0 O0 S_ASC S_DESC S_POSTGRESQL S_MARIADB S_SQLITE S_H2 S_HSQLDB S_DERBY S_ORACLE S_SQLSERVER S_DB2 E_w_POSTGRESQL E_w_MARIADB E_w_SQLITE E_w_H2 E_w_HSQLDB E_w_DERBY E_w_ORACLE E_w_SQLSERVER E_w_DB2 F_nullOrder_w_POSTGRESQL F_nullOrder_w_MARIADB F_nullOrder_w_SQLITE F_nullOrder_w_H2 F_nullOrder_w_HSQLDB F_nullOrder_w_DERBY F_nullOrder_w_ORACLE F_nullOrder_w_SQLSERVER F_nullOrder_w_DB2 F_last_w_HIGH F_last_w_LOW F_last_w_FIRST hne H1 H2 H3 H4 H5 H6
            · by_cases H7 : ((pi1 &&& (2147483647 : Int32)) % (9 : Int32)) = (5 : Int32)
              · exact rm0_tffffft l Z a0 hw ws pi1 pi2 w_HIGH w_LOW w_FIRST w_ASC w_DESC w_POSTGRESQL w_MARIADB w_SQLITE w_H2 w_HSQLDB w_DERBY w_ORACLE w_SQLSERVER w_DB2 h0 n0 Z0 O0 S_ASC S_DESC S_POSTGRESQL S_MARIADB S_SQLITE S_H2 S_HSQLDB S_DERBY S_ORACLE S_SQLSERVER S_DB2 E_w_POSTGRESQL E_w_MARIADB E_w_SQLITE E_w_H2 E_w_HSQLDB E_w_DERBY E_w_ORACLE E_w_SQLSERVER E_w_DB2 F_nullOrder_w_POSTGRESQL F_nullOrder_w_MARIADB F_nullOrder_w_SQLITE F_nullOrder_w_H2 F_nullOrder_w_HSQLDB F_nullOrder_w_DERBY F_nullOrder_w_ORACLE F_nullOrder_w_SQLSERVER F_nullOrder_w_DB2 F_last_w_HIGH F_last_w_LOW F_last_w_FIRST hne H1 H2 H3 H4 H5 H6 H7
              · by_cases H8 : ((pi1 &&& (2147483647 : Int32)) % (9 : Int32)) = (6 : Int32)
                · exact rm0_tfffffft l Z a0 hw ws pi1 pi2 w_HIGH w_LOW w_FIRST w_ASC w_DESC w_POSTGRESQL w_MARIADB w_SQLITE w_H2 w_HSQLDB w_DERBY w_ORACLE w_SQLSERVER w_DB2 h0 n0 Z0 O0 S_ASC S_DESC S_POSTGRESQL S_MARIADB S_SQLITE S_H2 S_HSQLDB S_DERBY S_ORACLE S_SQLSERVER S_DB2 E_w_POSTGRESQL E_w_MARIADB E_w_SQLITE E_w_H2 E_w_HSQLDB E_w_DERBY E_w_ORACLE E_w_SQLSERVER E_w_DB2 F_nullOrder_w_POSTGRESQL F_nullOrder_w_MARIADB F_nullOrder_w_SQLITE F_nullOrder_w_H2 F_nullOrder_w_HSQLDB F_nullOrder_w_DERBY F_nullOrder_w_ORACLE F_nullOrder_w_SQLSERVER F_nullOrder_w_DB2 F_last_w_HIGH F_last_w_LOW F_last_w_FIRST hne H1 H2 H3 H4 H5 H6 H7 H8
                · by_cases H9 : ((pi1 &&& (2147483647 : Int32)) % (9 : Int32)) = (7 : Int32)
                  · exact rm0_tffffffft l Z a0 hw ws pi1 pi2 w_HIGH w_LOW w_FIRST w_ASC w_DESC w_POSTGRESQL w_MARIADB w_SQLITE w_H2 w_HSQLDB w_DERBY w_ORACLE w_SQLSERVER w_DB2 h0 n0 Z0 O0 S_ASC S_DESC S_POSTGRESQL S_MARIADB S_SQLITE S_H2 S_HSQLDB S_DERBY S_ORACLE S_SQLSERVER S_DB2 E_w_POSTGRESQL E_w_MARIADB E_w_SQLITE E_w_H2 E_w_HSQLDB E_w_DERBY E_w_ORACLE E_w_SQLSERVER E_w_DB2 F_nullOrder_w_POSTGRESQL F_nullOrder_w_MARIADB F_nullOrder_w_SQLITE F_nullOrder_w_H2 F_nullOrder_w_HSQLDB F_nullOrder_w_DERBY F_nullOrder_w_ORACLE F_nullOrder_w_SQLSERVER F_nullOrder_w_DB2 F_last_w_HIGH F_last_w_LOW F_last_w_FIRST hne H1 H2 H3 H4 H5 H6 H7 H8 H9
                  · exact rm0_tffffffff l Z a0 hw ws pi1 pi2 w_HIGH w_LOW w_FIRST w_ASC w_DESC w_POSTGRESQL w_MARIADB w_SQLITE w_H2 w_HSQLDB w_DERBY w_ORACLE w_SQLSERVER w_DB2 h0 n0 Z0 O0 S_ASC S_DESC S_POSTGRESQL S_MARIADB S_SQLITE S_H2 S_HSQLDB S_DERBY S_ORACLE S_SQLSERVER S_DB2 E_w_POSTGRESQL E_w_MARIADB E_w_SQLITE E_w_H2 E_w_HSQLDB E_w_DERBY E_w_ORACLE E_w_SQLSERVER E_w_DB2 F_nullOrder_w_POSTGRESQL F_nullOrder_w_MARIADB F_nullOrder_w_SQLITE F_nullOrder_w_H2 F_nullOrder_w_HSQLDB F_nullOrder_w_DERBY F_nullOrder_w_ORACLE F_nullOrder_w_SQLSERVER F_nullOrder_w_DB2 F_last_w_HIGH F_last_w_LOW F_last_w_FIRST hne H1 H2 H3 H4 H5 H6 H7 H8 H9
  · by_cases H10 : ((pi1 &&& (2147483647 : Int32)) % (9 : Int32)) = (0 : Int32)
    · exact rm0_ft l Z a0 hw ws pi1 pi2 w_HIGH w_LOW w_FIRST w_ASC w_DESC w_POSTGRESQL w_MARIADB w_SQLITE w_H2 w_HSQLDB w_DERBY w_ORACLE w_SQLSERVER w_DB2 h0 n0 Z0 O0 S_ASC S_DESC S_POSTGRESQL S_MARIADB S_SQLITE S_H2 S_HSQLDB S_DERBY S_ORACLE S_SQLSERVER S_DB2 E_w_POSTGRESQL E_w_MARIADB E_w_SQLITE E_w_H2 E_w_HSQLDB E_w_DERBY E_w_ORACLE E_w_SQLSERVER E_w_DB2 F_nullOrder_w_POSTGRESQL F_nullOrder_w_MARIADB F_nullOrder_w_SQLITE F_nullOrder_w_H2 F_nullOrder_w_HSQLDB F_nullOrder_w_DERBY F_nullOrder_w_ORACLE F_nullOrder_w_SQLSERVER F_nullOrder_w_DB2 F_last_w_HIGH F_last_w_LOW F_last_w_FIRST hne H1 H10
    · by_cases H11 : ((pi1 &&& (2147483647 : Int32)) % (9 : Int32)) = (1 : Int32)
      · exact rm0_fft l Z a0 hw ws pi1 pi2 w_HIGH w_LOW w_FIRST w_ASC w_DESC w_POSTGRESQL w_MARIADB w_SQLITE w_H2 w_HSQLDB w_DERBY w_ORACLE w_SQLSERVER w_DB2 h0 n0 Z0 O0 S_ASC S_DESC S_POSTGRESQL S_MARIADB S_SQLITE S_H2 S_HSQLDB S_DERBY S_ORACLE S_SQLSERVER S_DB2 E_w_POSTGRESQL E_w_MARIADB E_w_SQLITE E_w_H2 E_w_HSQLDB E_w_DERBY E_w_ORACLE E_w_SQLSERVER E_w_DB2 F_nullOrder_w_POSTGRESQL F_nullOrder_w_MARIADB F_nullOrder_w_SQLITE F_nullOrder_w_H2 F_nullOrder_w_HSQLDB F_nullOrder_w_DERBY F_nullOrder_w_ORACLE F_nullOrder_w_SQLSERVER F_nullOrder_w_DB2 F_last_w_HIGH F_last_w_LOW F_last_w_FIRST hne H1 H10 H11
      · by_cases H12 : ((pi1 &&& (2147483647 : Int32)) % (9 : Int32)) = (2 : Int32)
        · exact rm0_ffft l Z a0 hw ws pi1 pi2 w_HIGH w_LOW w_FIRST w_ASC w_DESC w_POSTGRESQL w_MARIADB w_SQLITE w_H2 w_HSQLDB w_DERBY w_ORACLE w_SQLSERVER w_DB2 h0 n0 Z0 O0 S_ASC S_DESC S_POSTGRESQL S_MARIADB S_SQLITE S_H2 S_HSQLDB S_DERBY S_ORACLE S_SQLSERVER S_DB2 E_w_POSTGRESQL E_w_MARIADB E_w_SQLITE E_w_H2 E_w_HSQLDB E_w_DERBY E_w_ORACLE E_w_SQLSERVER E_w_DB2 F_nullOrder_w_POSTGRESQL F_nullOrder_w_MARIADB F_nullOrder_w_SQLITE F_nullOrder_w_H2 F_nullOrder_w_HSQLDB F_nullOrder_w_DERBY F_nullOrder_w_ORACLE F_nullOrder_w_SQLSERVER F_nullOrder_w_DB2 F_last_w_HIGH F_last_w_LOW F_last_w_FIRST hne H1 H10 H11 H12
        · by_cases H13 : ((pi1 &&& (2147483647 : Int32)) % (9 : Int32)) = (3 : Int32)
          · exact rm0_fffft l Z a0 hw ws pi1 pi2 w_HIGH w_LOW w_FIRST w_ASC w_DESC w_POSTGRESQL w_MARIADB w_SQLITE w_H2 w_HSQLDB w_DERBY w_ORACLE w_SQLSERVER w_DB2 h0 n0 Z0 O0 S_ASC S_DESC S_POSTGRESQL S_MARIADB S_SQLITE S_H2 S_HSQLDB S_DERBY S_ORACLE S_SQLSERVER S_DB2 E_w_POSTGRESQL E_w_MARIADB E_w_SQLITE E_w_H2 E_w_HSQLDB E_w_DERBY E_w_ORACLE E_w_SQLSERVER E_w_DB2 F_nullOrder_w_POSTGRESQL F_nullOrder_w_MARIADB F_nullOrder_w_SQLITE F_nullOrder_w_H2 F_nullOrder_w_HSQLDB F_nullOrder_w_DERBY F_nullOrder_w_ORACLE F_nullOrder_w_SQLSERVER F_nullOrder_w_DB2 F_last_w_HIGH F_last_w_LOW F_last_w_FIRST hne H1 H10 H11 H12 H13
          · by_cases H14 : ((pi1 &&& (2147483647 : Int32)) % (9 : Int32)) = (4 : Int32)
            · exact rm0_ffffft l Z a0 hw ws pi1 pi2 w_HIGH w_LOW w_FIRST w_ASC w_DESC w_POSTGRESQL w_MARIADB w_SQLITE w_H2 w_HSQLDB w_DERBY w_ORACLE w_SQLSERVER w_DB2 h0 n0 Z0 O0 S_ASC S_DESC S_POSTGRESQL S_MARIADB S_SQLITE S_H2 S_HSQLDB S_DERBY S_ORACLE S_SQLSERVER S_DB2 E_w_POSTGRESQL E_w_MARIADB E_w_SQLITE E_w_H2 E_w_HSQLDB E_w_DERBY E_w_ORACLE E_w_SQLSERVER E_w_DB2 F_nullOrder_w_POSTGRESQL F_nullOrder_w_MARIADB F_nullOrder_w_SQLITE F_nullOrder_w_H2 F_nullOrder_w_HSQLDB F_nullOrder_w_DERBY F_nullOrder_w_ORACLE F_nullOrder_w_SQLSERVER F_nullOrder_w_DB2 F_last_w_HIGH F_last_w_LOW F_last_w_FIRST hne H1 H10 H11 H12 H13 H14
            · by_cases H15 : ((pi1 &&& (2147483647 : Int32)) % (9 : Int32)) = (5 : Int32)
              · exact rm0_fffffft l Z a0 hw ws pi1 pi2 w_HIGH w_LOW w_FIRST w_ASC w_DESC w_POSTGRESQL w_MARIADB w_SQLITE w_H2 w_HSQLDB w_DERBY w_ORACLE w_SQLSERVER w_DB2 h0 n0 Z0 O0 S_ASC S_DESC S_POSTGRESQL S_MARIADB S_SQLITE S_H2 S_HSQLDB S_DERBY S_ORACLE S_SQLSERVER S_DB2 E_w_POSTGRESQL E_w_MARIADB E_w_SQLITE E_w_H2 E_w_HSQLDB E_w_DERBY E_w_ORACLE E_w_SQLSERVER E_w_DB2 F_nullOrder_w_POSTGRESQL F_nullOrder_w_MARIADB F_nullOrder_w_SQLITE F_nullOrder_w_H2 F_nullOrder_w_HSQLDB F_nullOrder_w_DERBY F_nullOrder_w_ORACLE F_nullOrder_w_SQLSERVER F_nullOrder_w_DB2 F_last_w_HIGH F_last_w_LOW F_last_w_FIRST hne H1 H10 H11 H12 H13 H14 H15
              · by_cases H16 : ((pi1 &&& (2147483647 : Int32)) % (9 : Int32)) = (6 : Int32)
                · exact rm0_ffffffft l Z a0 hw ws pi1 pi2 w_HIGH w_LOW w_FIRST w_ASC w_DESC w_POSTGRESQL w_MARIADB w_SQLITE w_H2 w_HSQLDB w_DERBY w_ORACLE w_SQLSERVER w_DB2 h0 n0 Z0 O0 S_ASC S_DESC S_POSTGRESQL S_MARIADB S_SQLITE S_H2 S_HSQLDB S_DERBY S_ORACLE S_SQLSERVER S_DB2 E_w_POSTGRESQL E_w_MARIADB E_w_SQLITE E_w_H2 E_w_HSQLDB E_w_DERBY E_w_ORACLE E_w_SQLSERVER E_w_DB2 F_nullOrder_w_POSTGRESQL F_nullOrder_w_MARIADB F_nullOrder_w_SQLITE F_nullOrder_w_H2 F_nullOrder_w_HSQLDB F_nullOrder_w_DERBY F_nullOrder_w_ORACLE F_nullOrder_w_SQLSERVER F_nullOrder_w_DB2 F_last_w_HIGH F_last_w_LOW F_last_w_FIRST hne H1 H10 H11 H12 H13 H14 H15 H16
                · by_cases H17 : ((pi1 &&& (2147483647 : Int32)) % (9 : Int32)) = (7 : Int32)
                  · exact rm0_fffffffft l Z a0 hw ws pi1 pi2 w_HIGH w_LOW w_FIRST w_ASC w_DESC w_POSTGRESQL w_MARIADB w_SQLITE w_H2 w_HSQLDB w_DERBY w_ORACLE w_SQLSERVER w_DB2 h0 n0 Z0 O0 S_ASC S_DESC S_POSTGRESQL S_MARIADB S_SQLITE S_H2 S_HSQLDB S_DERBY S_ORACLE S_SQLSERVER S_DB2 E_w_POSTGRESQL E_w_MARIADB E_w_SQLITE E_w_H2 E_w_HSQLDB E_w_DERBY E_w_ORACLE E_w_SQLSERVER E_w_DB2 F_nullOrder_w_POSTGRESQL F_nullOrder_w_MARIADB F_nullOrder_w_SQLITE F_nullOrder_w_H2 F_nullOrder_w_HSQLDB F_nullOrder_w_DERBY F_nullOrder_w_ORACLE F_nullOrder_w_SQLSERVER F_nullOrder_w_DB2 F_last_w_HIGH F_last_w_LOW F_last_w_FIRST hne H1 H10 H11 H12 H13 H14 H15 H16 H17
                  · exact rm0_fffffffff l Z a0 hw ws pi1 pi2 w_HIGH w_LOW w_FIRST w_ASC w_DESC w_POSTGRESQL w_MARIADB w_SQLITE w_H2 w_HSQLDB w_DERBY w_ORACLE w_SQLSERVER w_DB2 h0 n0 Z0 O0 S_ASC S_DESC S_POSTGRESQL S_MARIADB S_SQLITE S_H2 S_HSQLDB S_DERBY S_ORACLE S_SQLSERVER S_DB2 E_w_POSTGRESQL E_w_MARIADB E_w_SQLITE E_w_H2 E_w_HSQLDB E_w_DERBY E_w_ORACLE E_w_SQLSERVER E_w_DB2 F_nullOrder_w_POSTGRESQL F_nullOrder_w_MARIADB F_nullOrder_w_SQLITE F_nullOrder_w_H2 F_nullOrder_w_HSQLDB F_nullOrder_w_DERBY F_nullOrder_w_ORACLE F_nullOrder_w_SQLSERVER F_nullOrder_w_DB2 F_last_w_HIGH F_last_w_LOW F_last_w_FIRST hne H1 H10 H11 H12 H13 H14 H15 H16 H17
set_option maxRecDepth 65536 in
set_option maxHeartbeats 40000000 in
theorem comes_1 {Post : Tables → Env → Array Value → State → Outcome → State → Prop} (hpost : ∀ tb e args s v u, (limb_1_1.after args s (.returned v) u = true ∧ limb_1_2.after args s (.returned v) u = true ∧ True) → FrameEnd s (.returned v) u (Jvm.fieldLocs frame_1_writes args s ++ Jvm.arrayLocs frame_1_arrays args s ++ Jvm.staticLocs frame_1_statics s) 0 0 → Post tb e args s (.returned v) u) :
    ArmFor flags0 classFile x code maxLocals ret World_1 tables_1 room_1 Calls_1 rest_1 Pre_1 Post := by
  intro l hfl _ _ p e ha hc hk s m args below hf hA hF happ hP
  obtain ⟨hcalls, hrest, hpre⟩ := hP
  obtain ⟨-, -, -, hnamed, -, -, -, hat⟩ := (Spec.applies_iff hf).mp happ
  obtain ⟨hg, hn⟩ := and_e (Cond.before_iff.mp (show (Jvm.Cond.and given_1 narrow_1).before args s = true from hpre))
  obtain ⟨g1, g2⟩ := and_e hg
  obtain ⟨g3, g4⟩ := and_e g2
  obtain ⟨w0, w1, rfl⟩ : ∃ w0 w1 : Value, args = #[w0, w1] := by
    have hs : args.size = 2 := by simpa [Cond.value, given_1] using g1
    obtain ⟨L⟩ := args
    match L, hs with
    | [w0, w1], _ => exact ⟨w0, w1, rfl⟩
  have hw := fun d (hd : d ∈ tables_1) => atoms_spec (ws := Jvm.Cond.code x code maxLocals ret :: tables_1) hat d (List.mem_cons_of_mem _ hd)
  have hfit : Fit s := fun {y c} hc i hi => by
    obtain ⟨ha, rfl⟩ := Array.getElem?_eq_some_iff.mp hc
    have q := List.all_eq_true.mp ((Array.all_eq_true_iff_forall_mem.mp hF) _ (Array.getElem_mem ha)) i (List.mem_range.mpr hi)
    simpa [Array.getElem?_eq_getElem hi] using q
  obtain ⟨i0, ei0⟩ := is_v g3
  obtain rfl : w0 = (.int i0) := Option.some.inj ei0
  obtain ⟨i1, ei1⟩ := is_v g4
  obtain rfl : w1 = (.int i1) := Option.some.inj ei1
  obtain ⟨nn1, nr1⟩ := and_e hn
  obtain ⟨nn2, nr2⟩ := and_e nr1
  obtain ⟨nn3, nr3⟩ := and_e nr2
  obtain ⟨nn4, nr4⟩ := and_e nr3
  obtain ⟨nn5, nr5⟩ := and_e nr4
  obtain ⟨nn6, nr6⟩ := and_e nr5
  obtain ⟨nn7, nr7⟩ := and_e nr6
  obtain ⟨nn8, nr8⟩ := and_e nr7
  obtain ⟨nn9, nr9⟩ := and_e nr8
  obtain ⟨nn10, nr10⟩ := and_e nr9
  obtain ⟨nn11, nr11⟩ := and_e nr10
  obtain ⟨nn12, nr12⟩ := and_e nr11
  obtain ⟨nn13, nr13⟩ := and_e nr12
  obtain ⟨nn14, nr14⟩ := and_e nr13
  obtain ⟨nn15, nr15⟩ := and_e nr14
  obtain ⟨nn16, nr16⟩ := and_e nr15
  obtain ⟨nn17, nr17⟩ := and_e nr16
  obtain ⟨nn18, nr18⟩ := and_e nr17
  obtain ⟨nn19, nr19⟩ := and_e nr18
  obtain ⟨nn20, nr20⟩ := and_e nr19
  obtain ⟨nn21, nr21⟩ := and_e nr20
  obtain ⟨nn22, nr22⟩ := and_e nr21
  obtain ⟨nn23, nr23⟩ := and_e nr22
  obtain ⟨nn24, nr24⟩ := and_e nr23
  obtain ⟨nn25, nr25⟩ := and_e nr24
  obtain ⟨nn26, nr26⟩ := and_e nr25
  obtain ⟨nn27, nr27⟩ := and_e nr26
  obtain ⟨w_DESC, ev_DESC⟩ := exa_v nn1
  have S_DESC : Sta s s.heap "com/example/leafcount/leafcount/Sort$Direction" "DESC" "Lcom/example/leafcount/leafcount/Sort$Direction;" (.ref w_DESC) := Sta.start ev_DESC (Or.inr ⟨(own_W hw 2 rfl), (own_W hw 3 rfl)⟩)
  have E_w_DESC : Exa s s.heap w_DESC "com/example/leafcount/leafcount/Sort$Direction" := Exa.start ev_DESC nn1
  obtain ⟨w_POSTGRESQL, ev_POSTGRESQL⟩ := exa_v nn2
  have S_POSTGRESQL : Sta s s.heap "com/example/leafcount/leafcount/SqlSyntax" "POSTGRESQL" "Lcom/example/leafcount/leafcount/SqlSyntax;" (.ref w_POSTGRESQL) := Sta.start ev_POSTGRESQL (Or.inr ⟨(own_W hw 9 rfl), (own_W hw 10 rfl)⟩)
  have E_w_POSTGRESQL : Exa s s.heap w_POSTGRESQL "com/example/leafcount/leafcount/SqlSyntax" := Exa.start ev_POSTGRESQL nn2
  obtain ⟨w_HIGH, ev_HIGH⟩ := exa_v nn3
  have S_HIGH : Sta s s.heap "com/example/leafcount/leafcount/SqlSyntax$NullOrder" "HIGH" "Lcom/example/leafcount/leafcount/SqlSyntax$NullOrder;" (.ref w_HIGH) := Sta.start ev_HIGH (Or.inr ⟨(own_W hw 18 rfl), (own_W hw 19 rfl)⟩)
  have E_w_HIGH : Exa s s.heap w_HIGH "com/example/leafcount/leafcount/SqlSyntax$NullOrder" := Exa.start ev_HIGH nn3
  obtain ⟨w_ASC, ev_ASC⟩ := exa_v nn5
  have S_ASC : Sta s s.heap "com/example/leafcount/leafcount/Sort$Direction" "ASC" "Lcom/example/leafcount/leafcount/Sort$Direction;" (.ref w_ASC) := Sta.start ev_ASC (Or.inr ⟨(own_W hw 2 rfl), (own_W hw 22 rfl)⟩)
  have E_w_ASC : Exa s s.heap w_ASC "com/example/leafcount/leafcount/Sort$Direction" := Exa.start ev_ASC nn5
  obtain ⟨w_DERBY, ev_DERBY⟩ := exa_v nn9
  have S_DERBY : Sta s s.heap "com/example/leafcount/leafcount/SqlSyntax" "DERBY" "Lcom/example/leafcount/leafcount/SqlSyntax;" (.ref w_DERBY) := Sta.start ev_DERBY (Or.inr ⟨(own_W hw 9 rfl), (own_W hw 24 rfl)⟩)
  have E_w_DERBY : Exa s s.heap w_DERBY "com/example/leafcount/leafcount/SqlSyntax" := Exa.start ev_DERBY nn9
  obtain ⟨w_HSQLDB, ev_HSQLDB⟩ := exa_v nn11
  have S_HSQLDB : Sta s s.heap "com/example/leafcount/leafcount/SqlSyntax" "HSQLDB" "Lcom/example/leafcount/leafcount/SqlSyntax;" (.ref w_HSQLDB) := Sta.start ev_HSQLDB (Or.inr ⟨(own_W hw 9 rfl), (own_W hw 27 rfl)⟩)
  have E_w_HSQLDB : Exa s s.heap w_HSQLDB "com/example/leafcount/leafcount/SqlSyntax" := Exa.start ev_HSQLDB nn11
  obtain ⟨w_FIRST, ev_FIRST⟩ := exa_v nn12
  have S_FIRST : Sta s s.heap "com/example/leafcount/leafcount/SqlSyntax$NullOrder" "FIRST" "Lcom/example/leafcount/leafcount/SqlSyntax$NullOrder;" (.ref w_FIRST) := Sta.start ev_FIRST (Or.inr ⟨(own_W hw 18 rfl), (own_W hw 28 rfl)⟩)
  have E_w_FIRST : Exa s s.heap w_FIRST "com/example/leafcount/leafcount/SqlSyntax$NullOrder" := Exa.start ev_FIRST nn12
  obtain ⟨w_MARIADB, ev_MARIADB⟩ := exa_v nn15
  have S_MARIADB : Sta s s.heap "com/example/leafcount/leafcount/SqlSyntax" "MARIADB" "Lcom/example/leafcount/leafcount/SqlSyntax;" (.ref w_MARIADB) := Sta.start ev_MARIADB (Or.inr ⟨(own_W hw 9 rfl), (own_W hw 30 rfl)⟩)
  have E_w_MARIADB : Exa s s.heap w_MARIADB "com/example/leafcount/leafcount/SqlSyntax" := Exa.start ev_MARIADB nn15
  obtain ⟨w_LOW, ev_LOW⟩ := exa_v nn16
  have S_LOW : Sta s s.heap "com/example/leafcount/leafcount/SqlSyntax$NullOrder" "LOW" "Lcom/example/leafcount/leafcount/SqlSyntax$NullOrder;" (.ref w_LOW) := Sta.start ev_LOW (Or.inr ⟨(own_W hw 18 rfl), (own_W hw 31 rfl)⟩)
  have E_w_LOW : Exa s s.heap w_LOW "com/example/leafcount/leafcount/SqlSyntax$NullOrder" := Exa.start ev_LOW nn16
  obtain ⟨w_ORACLE, ev_ORACLE⟩ := exa_v nn19
  have S_ORACLE : Sta s s.heap "com/example/leafcount/leafcount/SqlSyntax" "ORACLE" "Lcom/example/leafcount/leafcount/SqlSyntax;" (.ref w_ORACLE) := Sta.start ev_ORACLE (Or.inr ⟨(own_W hw 9 rfl), (own_W hw 33 rfl)⟩)
  have E_w_ORACLE : Exa s s.heap w_ORACLE "com/example/leafcount/leafcount/SqlSyntax" := Exa.start ev_ORACLE nn19
  obtain ⟨w_DB2, ev_DB2⟩ := exa_v nn21
  have S_DB2 : Sta s s.heap "com/example/leafcount/leafcount/SqlSyntax" "DB2" "Lcom/example/leafcount/leafcount/SqlSyntax;" (.ref w_DB2) := Sta.start ev_DB2 (Or.inr ⟨(own_W hw 9 rfl), (own_W hw 35 rfl)⟩)
  have E_w_DB2 : Exa s s.heap w_DB2 "com/example/leafcount/leafcount/SqlSyntax" := Exa.start ev_DB2 nn21
  obtain ⟨w_H2, ev_H2⟩ := exa_v nn23
  have S_H2 : Sta s s.heap "com/example/leafcount/leafcount/SqlSyntax" "H2" "Lcom/example/leafcount/leafcount/SqlSyntax;" (.ref w_H2) := Sta.start ev_H2 (Or.inr ⟨(own_W hw 9 rfl), (own_W hw 37 rfl)⟩)
  have E_w_H2 : Exa s s.heap w_H2 "com/example/leafcount/leafcount/SqlSyntax" := Exa.start ev_H2 nn23
  obtain ⟨w_SQLITE, ev_SQLITE⟩ := exa_v nn25
  have S_SQLITE : Sta s s.heap "com/example/leafcount/leafcount/SqlSyntax" "SQLITE" "Lcom/example/leafcount/leafcount/SqlSyntax;" (.ref w_SQLITE) := Sta.start ev_SQLITE (Or.inr ⟨(own_W hw 9 rfl), (own_W hw 39 rfl)⟩)
  have E_w_SQLITE : Exa s s.heap w_SQLITE "com/example/leafcount/leafcount/SqlSyntax" := Exa.start ev_SQLITE nn25
  obtain ⟨w_SQLSERVER, ev_SQLSERVER⟩ := exa_v nn27
  have S_SQLSERVER : Sta s s.heap "com/example/leafcount/leafcount/SqlSyntax" "SQLSERVER" "Lcom/example/leafcount/leafcount/SqlSyntax;" (.ref w_SQLSERVER) := Sta.start ev_SQLSERVER (Or.inr ⟨(own_W hw 9 rfl), (own_W hw 41 rfl)⟩)
  have E_w_SQLSERVER : Exa s s.heap w_SQLSERVER "com/example/leafcount/leafcount/SqlSyntax" := Exa.start ev_SQLSERVER nn27
  have F_nullOrder_w_POSTGRESQL : Fld s s.heap w_POSTGRESQL "com/example/leafcount/leafcount/SqlSyntax" "nullOrder" "Lcom/example/leafcount/leafcount/SqlSyntax$NullOrder;" (.ref w_HIGH) := Fld.start ((fld_at ev_POSTGRESQL).symm.trans (own_eqv nn4 ev_HIGH))
  have F_last_w_HIGH : Fld s s.heap w_HIGH "com/example/leafcount/leafcount/SqlSyntax$NullOrder" "last" "Lcom/example/leafcount/leafcount/Sort$Direction;" (.ref w_ASC) := Fld.start ((fld_at ev_HIGH).symm.trans (own_eqv nn6 ev_ASC))
  have F_ordinal_w_ASC : Fld s s.heap w_ASC "java/lang/Enum" "ordinal" "I" (.int (0 : Int32)) := Fld.start ((fld_at ev_ASC).symm.trans (own_eqv nn7 (Term.int_eval (0))))
  have F_ordinal_w_DESC : Fld s s.heap w_DESC "java/lang/Enum" "ordinal" "I" (.int (1 : Int32)) := Fld.start ((fld_at ev_DESC).symm.trans (own_eqv nn8 (Term.int_eval (1))))
  have F_nullOrder_w_DERBY : Fld s s.heap w_DERBY "com/example/leafcount/leafcount/SqlSyntax" "nullOrder" "Lcom/example/leafcount/leafcount/SqlSyntax$NullOrder;" (.ref w_HIGH) := Fld.start ((fld_at ev_DERBY).symm.trans (own_eqv nn10 ev_HIGH))
  have F_nullOrder_w_HSQLDB : Fld s s.heap w_HSQLDB "com/example/leafcount/leafcount/SqlSyntax" "nullOrder" "Lcom/example/leafcount/leafcount/SqlSyntax$NullOrder;" (.ref w_FIRST) := Fld.start ((fld_at ev_HSQLDB).symm.trans (own_eqv nn13 ev_FIRST))
  have F_last_w_FIRST : Fld s s.heap w_FIRST "com/example/leafcount/leafcount/SqlSyntax$NullOrder" "last" "Lcom/example/leafcount/leafcount/Sort$Direction;" .null := Fld.start ((fld_at ev_FIRST).symm.trans (own_eqv nn14 null_at))
  have F_nullOrder_w_MARIADB : Fld s s.heap w_MARIADB "com/example/leafcount/leafcount/SqlSyntax" "nullOrder" "Lcom/example/leafcount/leafcount/SqlSyntax$NullOrder;" (.ref w_LOW) := Fld.start ((fld_at ev_MARIADB).symm.trans (own_eqv nn17 ev_LOW))
  have F_last_w_LOW : Fld s s.heap w_LOW "com/example/leafcount/leafcount/SqlSyntax$NullOrder" "last" "Lcom/example/leafcount/leafcount/Sort$Direction;" (.ref w_DESC) := Fld.start ((fld_at ev_LOW).symm.trans (own_eqv nn18 ev_DESC))
  have F_nullOrder_w_ORACLE : Fld s s.heap w_ORACLE "com/example/leafcount/leafcount/SqlSyntax" "nullOrder" "Lcom/example/leafcount/leafcount/SqlSyntax$NullOrder;" (.ref w_HIGH) := Fld.start ((fld_at ev_ORACLE).symm.trans (own_eqv nn20 ev_HIGH))
  have F_nullOrder_w_DB2 : Fld s s.heap w_DB2 "com/example/leafcount/leafcount/SqlSyntax" "nullOrder" "Lcom/example/leafcount/leafcount/SqlSyntax$NullOrder;" (.ref w_HIGH) := Fld.start ((fld_at ev_DB2).symm.trans (own_eqv nn22 ev_HIGH))
  have F_nullOrder_w_H2 : Fld s s.heap w_H2 "com/example/leafcount/leafcount/SqlSyntax" "nullOrder" "Lcom/example/leafcount/leafcount/SqlSyntax$NullOrder;" (.ref w_LOW) := Fld.start ((fld_at ev_H2).symm.trans (own_eqv nn24 ev_LOW))
  have F_nullOrder_w_SQLITE : Fld s s.heap w_SQLITE "com/example/leafcount/leafcount/SqlSyntax" "nullOrder" "Lcom/example/leafcount/leafcount/SqlSyntax$NullOrder;" (.ref w_LOW) := Fld.start ((fld_at ev_SQLITE).symm.trans (own_eqv nn26 ev_LOW))
  have F_nullOrder_w_SQLSERVER : Fld s s.heap w_SQLSERVER "com/example/leafcount/leafcount/SqlSyntax" "nullOrder" "Lcom/example/leafcount/leafcount/SqlSyntax$NullOrder;" (.ref w_LOW) := Fld.start ((fld_at ev_SQLSERVER).symm.trans (own_eqv nr27 ev_LOW))
  have hne : w_ASC ≠ w_DESC := Fld.ne F_ordinal_w_ASC F_ordinal_w_DESC (by decide)
  obtain ⟨n, o, h1, h2, h3, _, L, rfl, ⟨rfl, N⟩, hq⟩ := rm0 l s _ hw tables_1 i0 i1 w_HIGH w_LOW w_FIRST w_ASC w_DESC w_POSTGRESQL w_MARIADB w_SQLITE w_H2 w_HSQLDB w_DERBY w_ORACLE w_SQLSERVER w_DB2 s.heap s.heap.size (Nat.le_refl _) (Old.start s) S_ASC S_DESC S_POSTGRESQL S_MARIADB S_SQLITE S_H2 S_HSQLDB S_DERBY S_ORACLE S_SQLSERVER S_DB2 E_w_POSTGRESQL E_w_MARIADB E_w_SQLITE E_w_H2 E_w_HSQLDB E_w_DERBY E_w_ORACLE E_w_SQLSERVER E_w_DB2 F_nullOrder_w_POSTGRESQL F_nullOrder_w_MARIADB F_nullOrder_w_SQLITE F_nullOrder_w_H2 F_nullOrder_w_HSQLDB F_nullOrder_w_DERBY F_nullOrder_w_ORACLE F_nullOrder_w_SQLSERVER F_nullOrder_w_DB2 F_last_w_HIGH F_last_w_LOW F_last_w_FIRST hne p e ha hc hk s m _ below hf ((Spec.applies_iff_loose hf).mp happ).1 ⟨rfl, State.Warmed39.refl s, rfl⟩ trivial
  refine ⟨n, _, h1, h2, h3, hpost _ _ _ _ _ _ ⟨Cond.after_iff.mpr rfl, Cond.after_iff.mpr (eq_i res_at (Term.int_eval (1)) rfl), trivial⟩ ⟨hq.1, hq.2.1, (hq.2.2.sift fun y hy => Or.inr (N y hy)).mono (by decide) (by decide)⟩⟩
theorem main_1_1 : Claimed_1_1 := comes_1 fun _ _ _ _ _ _ h hF => ⟨h.1, hF⟩
theorem main_1_2 : Claimed_1_2 := comes_1 fun _ _ _ _ _ _ h hF => ⟨h.2.1, hF⟩
end Jvm.Pilot.@@N@@
namespace Jvm.Pilot.@@N@@
open Jvm Jvm.ClassFile Sem Op Lib Jvm.Free Jvm.Stand Jvm.Pilot.@@N@@.Jvm.D
/-! MADE BY PROGRAM (witnessworld.py) out of the Statement's table words and the real class files: 14 classes; the members and pool entries that the words name. The judged class is class 1, her method 2. -/
namespace start1
open Jvm.ClassFile
def u (s : String) : CpInfo := .utf8 (stringToUtf16 s)
/-- a pool by its gaps: so many unusable entries, then the entry; so many at the end -/
def gap : Nat → List CpInfo → List CpInfo
  | 0, r => r
  | n + 1, r => .unusable :: gap n r
def poolList (es : List (Nat × CpInfo)) (last : Nat) : List CpInfo := es.foldr (fun e r => gap e.1 (e.2 :: r)) (gap last [])
def pool (es : List (Nat × CpInfo)) (last : Nat) : Array CpInfo := ⟨poolList es last⟩
def fileOf (pool : Array CpInfo) (this : Nat) (attrs : Array Attribute := #[]) (ms : Array MethodInfo := #[]) (fl : Nat := 33) (sup : Nat := 0) (ifs : Array Nat := #[]) (fds : Array FieldInfo := #[]) : ClassFile where
  minorVersion := 0
  majorVersion := 65
  constantPool := pool
  accessFlags := fl
  thisClass := this
  superClass := sup
  interfaces := ifs
  fields := fds
  methods := ms
  attributes := attrs
def plain (name : String) (sup : Option ClassId) : Class where
  name := name
  kind := .ordinary
  loader := none
  accessFlags := 33
  super := sup
  interfaces := #[]
  cf := none
  fields := #[]
  methods := #[]
  instanceTypes := #[]
  staticTypes := #[]
  resolved := #[]
  callSites := []
  init := .initialized
  statics := none
  mirror := none

def pool0 : Array CpInfo := pool [(5, u "<init>"), (0, u "()V"), (1, .class_ 10), (1, u "java/lang/Object")] 113

def k0m0 : Method := { name := "<init>", desc := "()V", sig := { parameters := [], returnType := none }, accessFlags := 1, code := none }
/-- java/lang/Object -/
def k0 : Class := { plain "java/lang/Object" none with
  accessFlags := 33
  interfaces := #[]
  cf := some (fileOf pool0 8 #[] #[{ accessFlags := 1, nameIndex := 5, descriptorIndex := 6, attributes := #[] }] 33 0 #[] #[])
  fields := #[]
  methods := #[k0m0]
  instanceTypes := #[]
  staticTypes := #[]
  resolved := Array.replicate 124 none
  statics := none }

def pool1 : Array CpInfo := pool [(2, .class_ 4), (1, u "java/lang/Object"), (0, u "<init>"), (0, u "()V"), (0, .fieldref 8 9), (0, .class_ 10), (0, .nameAndType 11 12), (0, u "com/example/leafcount/leafcount/SqlSyntax"), (0, u "POSTGRESQL"), (0, u "Lcom/example/leafcount/leafcount/SqlSyntax;"), (0, .fieldref 8 14), (0, .nameAndType 15 12), (0, u "MARIADB"), (0, .fieldref 8 17), (0, .nameAndType 18 12), (0, u "SQLITE"), (0, .fieldref 8 20), (0, .nameAndType 21 12), (0, u "H2"), (0, .fieldref 8 23), (0, .nameAndType 24 12), (0, u "HSQLDB"), (0, .fieldref 8 26), (0, .nameAndType 27 12), (0, u "DERBY"), (0, .fieldref 8 29), (0, .nameAndType 30 12), (0, u "ORACLE"), (0, .fieldref 8 32), (0, .nameAndType 33 12), (0, u "SQLSERVER"), (0, .fieldref 8 35), (0, .nameAndType 36 12), (0, u "DB2"), (0, .integer 2147483647), (0, .fieldref 39 40), (0, .class_ 41), (0, .nameAndType 42 43), (0, u "com/example/leafcount/leafcount/Sort$Direction"), (0, u "ASC"), (0, u "Lcom/example/leafcount/leafcount/Sort$Direction;"), (0, .fieldref 39 45), (0, .nameAndType 46 43), (0, u "DESC"), (0, .methodref 48 49), (0, .class_ 50), (0, .nameAndType 51 52), (0, u "com/example/leafcount/leafcount/SqlSyntaxPutsNullLastPinLaw"), (0, u "pick"), (0, u "(I)Lcom/example/leafcount/leafcount/SqlSyntax;"), (0, .methodref 8 54), (0, .nameAndType 55 56), (0, u "putsNullLast"), (0, u "(Lcom/example/leafcount/leafcount/Sort$Direction;)Z"), (3, u "law"), (0, u "(II)Z")] 6

def k1m0 : Method := { name := "<init>", desc := "()V", sig := { parameters := [], returnType := none }, accessFlags := 2, code := none }
def k1c1 : Code := { maxStack := 2, maxLocals := 1, code := method_2_code, exceptionTable := #[], attributes := #[] }
def k1m1 : Method := { name := "pick", desc := "(I)Lcom/example/leafcount/leafcount/SqlSyntax;", sig := { parameters := [.int], returnType := some (.object "com/example/leafcount/leafcount/SqlSyntax") }, accessFlags := 10, code := some k1c1 }
def k1c2 : Code := { maxStack := 2, maxLocals := 9, code := code, exceptionTable := #[], attributes := #[] }
def k1m2 : Method := { name := "law", desc := "(II)Z", sig := { parameters := [.int, .int], returnType := some .boolean }, accessFlags := 9, code := some k1c2 }
/-- com/example/leafcount/leafcount/SqlSyntaxPutsNullLastPinLaw -/
def k1 : Class := { plain "com/example/leafcount/leafcount/SqlSyntaxPutsNullLastPinLaw" (some 0) with
  accessFlags := 49
  interfaces := #[]
  cf := some (fileOf pool1 48 #[] #[{ accessFlags := 2, nameIndex := 5, descriptorIndex := 6, attributes := #[] }, { accessFlags := 10, nameIndex := 51, descriptorIndex := 52, attributes := #[] }, { accessFlags := 9, nameIndex := 60, descriptorIndex := 61, attributes := #[] }] 49 2 #[] #[])
  fields := #[]
  methods := #[k1m0, k1m1, k1m2]
  instanceTypes := #[]
  staticTypes := #[]
  resolved := Array.replicate 68 none
  statics := none }

def pool2 : Array CpInfo := pool [(1, .class_ 2), (0, u "java/lang/constant/Constable"), (0, .class_ 4), (0, u "java/lang/Object")] 6

/-- java/lang/constant/Constable -/
def k2 : Class := { plain "java/lang/constant/Constable" (some 0) with
  accessFlags := 1537
  interfaces := #[]
  cf := some (fileOf pool2 1 #[] #[] 1537 3 #[] #[])
  fields := #[]
  methods := #[]
  instanceTypes := #[]
  staticTypes := #[]
  resolved := Array.replicate 11 none
  statics := none }

def pool3 : Array CpInfo := pool [(1, .class_ 2), (0, u "java/lang/Comparable"), (0, .class_ 4), (0, u "java/lang/Object")] 7

/-- java/lang/Comparable -/
def k3 : Class := { plain "java/lang/Comparable" (some 0) with
  accessFlags := 1537
  interfaces := #[]
  cf := some (fileOf pool3 1 #[] #[] 1537 3 #[] #[])
  fields := #[]
  methods := #[]
  instanceTypes := #[]
  staticTypes := #[]
  resolved := Array.replicate 12 none
  statics := none }

def pool4 : Array CpInfo := pool [(1, .class_ 2), (0, u "java/io/Serializable"), (0, .class_ 4), (0, u "java/lang/Object")] 2

/-- java/io/Serializable -/
def k4 : Class := { plain "java/io/Serializable" (some 0) with
  accessFlags := 1537
  interfaces := #[]
  cf := some (fileOf pool4 1 #[] #[] 1537 3 #[] #[])
  fields := #[]
  methods := #[]
  instanceTypes := #[]
  staticTypes := #[]
  resolved := Array.replicate 7 none
  statics := none }

def pool5 : Array CpInfo := pool [(2, .class_ 4), (1, u "java/lang/Enum"), (0, u "name"), (0, u "Ljava/lang/String;"), (2, u "ordinal"), (0, u "I"), (1, .class_ 14), (1, u "java/lang/Object"), (4, u "hash"), (86, .class_ 108), (1, u "java/lang/Enum$EnumDesc"), (2, .class_ 112), (0, u "java/lang/constant/Constable"), (0, .class_ 114), (0, u "java/lang/Comparable"), (0, .class_ 116), (0, u "java/io/Serializable")] 87

/-- java/lang/Enum -/
def k5 : Class := { plain "java/lang/Enum" (some 0) with
  accessFlags := 1057
  interfaces := #[2, 3, 4]
  cf := some (fileOf pool5 2 #[.nestMembers #[106]] #[] 1057 12 #[111, 113, 115] #[{ accessFlags := 18, nameIndex := 5, descriptorIndex := 6, attributes := #[] }, { accessFlags := 18, nameIndex := 9, descriptorIndex := 10, attributes := #[] }, { accessFlags := 2, nameIndex := 19, descriptorIndex := 10, attributes := #[] }])
  fields := #[{ name := "name", type := (.object "java/lang/String"), accessFlags := 18, slot := 0, constantValue := 0 }, { name := "ordinal", type := .int, accessFlags := 18, slot := 1, constantValue := 0 }, { name := "hash", type := .int, accessFlags := 2, slot := 2, constantValue := 0 }]
  methods := #[]
  instanceTypes := #[(.object "java/lang/String"), .int, .int]
  staticTypes := #[]
  resolved := Array.replicate 204 none
  statics := none }

def pool6 : Array CpInfo := pool [(1, .class_ 2), (0, u "com/example/leafcount/leafcount/Sort$Direction"), (2, u "ASC"), (0, u "Lcom/example/leafcount/leafcount/Sort$Direction;"), (2, u "DESC"), (2, u "$VALUES"), (0, u "[Lcom/example/leafcount/leafcount/Sort$Direction;"), (6, .class_ 22), (1, u "java/lang/Enum"), (42, .class_ 66), (0, u "com/example/leafcount/leafcount/Sort")] 2

/-- com/example/leafcount/leafcount/Sort$Direction -/
def k6 : Class := { plain "com/example/leafcount/leafcount/Sort$Direction" (some 5) with
  accessFlags := 16432
  interfaces := #[]
  cf := some (fileOf pool6 1 #[.nestHost 65] #[] 16432 20 #[] #[{ accessFlags := 16409, nameIndex := 5, descriptorIndex := 6, attributes := #[] }, { accessFlags := 16409, nameIndex := 9, descriptorIndex := 6, attributes := #[] }, { accessFlags := 4122, nameIndex := 12, descriptorIndex := 13, attributes := #[] }])
  fields := #[{ name := "ASC", type := (.object "com/example/leafcount/leafcount/Sort$Direction"), accessFlags := 16409, slot := 0, constantValue := 0 }, { name := "DESC", type := (.object "com/example/leafcount/leafcount/Sort$Direction"), accessFlags := 16409, slot := 1, constantValue := 0 }, { name := "$VALUES", type := (.array (.object "com/example/leafcount/leafcount/Sort$Direction")), accessFlags := 4122, slot := 2, constantValue := 0 }]
  methods := #[]
  instanceTypes := #[(.object "java/lang/String"), .int, .int]
  staticTypes := #[(.object "com/example/leafcount/leafcount/Sort$Direction"), (.object "com/example/leafcount/leafcount/Sort$Direction"), (.array (.object "com/example/leafcount/leafcount/Sort$Direction"))]
  resolved := Array.replicate 69 none
  statics := some 0 }

def pool7 : Array CpInfo := pool [(1, .class_ 2), (0, u "com/example/leafcount/leafcount/SqlSyntax"), (2, u "POSTGRESQL"), (0, u "Lcom/example/leafcount/leafcount/SqlSyntax;"), (2, u "MARIADB"), (2, u "SQLITE"), (2, u "H2"), (2, u "HSQLDB"), (2, u "DERBY"), (2, u "ORACLE"), (2, u "SQLSERVER"), (2, u "DB2"), (2, u "$VALUES"), (0, u "[Lcom/example/leafcount/leafcount/SqlSyntax;"), (6, .class_ 43), (1, u "java/lang/Enum"), (6, .fieldref 1 51), (0, .nameAndType 52 53), (0, u "nullOrder"), (0, u "Lcom/example/leafcount/leafcount/SqlSyntax$NullOrder;"), (0, .class_ 55), (0, u "com/example/leafcount/leafcount/SqlSyntax$Rule"), (8, u "rules"), (0, u "Ljava/util/Set;"), (16, .fieldref 83 84), (0, .class_ 85), (0, .nameAndType 86 87), (0, u "com/example/leafcount/leafcount/SqlSyntax$NullOrder"), (0, u "last"), (0, u "Lcom/example/leafcount/leafcount/Sort$Direction;"), (99, u "putsNullLast"), (0, u "(Lcom/example/leafcount/leafcount/Sort$Direction;)Z")] 15

def k7c0 : Code := { maxStack := 2, maxLocals := 2, code := prog_41_method_5_code, exceptionTable := #[], attributes := #[] }
def k7m0 : Method := { name := "putsNullLast", desc := "(Lcom/example/leafcount/leafcount/Sort$Direction;)Z", sig := { parameters := [(.object "com/example/leafcount/leafcount/Sort$Direction")], returnType := some .boolean }, accessFlags := 0, code := some k7c0 }
/-- com/example/leafcount/leafcount/SqlSyntax -/
def k7 : Class := { plain "com/example/leafcount/leafcount/SqlSyntax" (some 5) with
  accessFlags := 16432
  interfaces := #[]
  cf := some (fileOf pool7 1 #[.nestMembers #[83, 54]] #[{ accessFlags := 0, nameIndex := 187, descriptorIndex := 188, attributes := #[] }] 16432 41 #[] #[{ accessFlags := 16409, nameIndex := 5, descriptorIndex := 6, attributes := #[] }, { accessFlags := 16409, nameIndex := 9, descriptorIndex := 6, attributes := #[] }, { accessFlags := 16409, nameIndex := 12, descriptorIndex := 6, attributes := #[] }, { accessFlags := 16409, nameIndex := 15, descriptorIndex := 6, attributes := #[] }, { accessFlags := 16409, nameIndex := 18, descriptorIndex := 6, attributes := #[] }, { accessFlags := 16409, nameIndex := 21, descriptorIndex := 6, attributes := #[] }, { accessFlags := 16409, nameIndex := 24, descriptorIndex := 6, attributes := #[] }, { accessFlags := 16409, nameIndex := 27, descriptorIndex := 6, attributes := #[] }, { accessFlags := 16409, nameIndex := 30, descriptorIndex := 6, attributes := #[] }, { accessFlags := 18, nameIndex := 52, descriptorIndex := 53, attributes := #[] }, { accessFlags := 18, nameIndex := 64, descriptorIndex := 65, attributes := #[] }, { accessFlags := 4122, nameIndex := 33, descriptorIndex := 34, attributes := #[] }])
  fields := #[{ name := "POSTGRESQL", type := (.object "com/example/leafcount/leafcount/SqlSyntax"), accessFlags := 16409, slot := 0, constantValue := 0 }, { name := "MARIADB", type := (.object "com/example/leafcount/leafcount/SqlSyntax"), accessFlags := 16409, slot := 1, constantValue := 0 }, { name := "SQLITE", type := (.object "com/example/leafcount/leafcount/SqlSyntax"), accessFlags := 16409, slot := 2, constantValue := 0 }, { name := "H2", type := (.object "com/example/leafcount/leafcount/SqlSyntax"), accessFlags := 16409, slot := 3, constantValue := 0 }, { name := "HSQLDB", type := (.object "com/example/leafcount/leafcount/SqlSyntax"), accessFlags := 16409, slot := 4, constantValue := 0 }, { name := "DERBY", type := (.object "com/example/leafcount/leafcount/SqlSyntax"), accessFlags := 16409, slot := 5, constantValue := 0 }, { name := "ORACLE", type := (.object "com/example/leafcount/leafcount/SqlSyntax"), accessFlags := 16409, slot := 6, constantValue := 0 }, { name := "SQLSERVER", type := (.object "com/example/leafcount/leafcount/SqlSyntax"), accessFlags := 16409, slot := 7, constantValue := 0 }, { name := "DB2", type := (.object "com/example/leafcount/leafcount/SqlSyntax"), accessFlags := 16409, slot := 8, constantValue := 0 }, { name := "nullOrder", type := (.object "com/example/leafcount/leafcount/SqlSyntax$NullOrder"), accessFlags := 18, slot := 3, constantValue := 0 }, { name := "rules", type := (.object "java/util/Set"), accessFlags := 18, slot := 4, constantValue := 0 }, { name := "$VALUES", type := (.array (.object "com/example/leafcount/leafcount/SqlSyntax")), accessFlags := 4122, slot := 9, constantValue := 0 }]
  methods := #[k7m0]
  instanceTypes := #[(.object "java/lang/String"), .int, .int, (.object "com/example/leafcount/leafcount/SqlSyntax$NullOrder"), (.object "java/util/Set")]
  staticTypes := #[(.object "com/example/leafcount/leafcount/SqlSyntax"), (.object "com/example/leafcount/leafcount/SqlSyntax"), (.object "com/example/leafcount/leafcount/SqlSyntax"), (.object "com/example/leafcount/leafcount/SqlSyntax"), (.object "com/example/leafcount/leafcount/SqlSyntax"), (.object "com/example/leafcount/leafcount/SqlSyntax"), (.object "com/example/leafcount/leafcount/SqlSyntax"), (.object "com/example/leafcount/leafcount/SqlSyntax"), (.object "com/example/leafcount/leafcount/SqlSyntax"), (.array (.object "com/example/leafcount/leafcount/SqlSyntax"))]
  resolved := (Array.replicate 204 none).setIfInBounds 82 (some (.field 8 3))
  statics := some 1 }

def pool8 : Array CpInfo := pool [(1, .class_ 2), (0, u "com/example/leafcount/leafcount/SqlSyntax$NullOrder"), (2, u "HIGH"), (0, u "Lcom/example/leafcount/leafcount/SqlSyntax$NullOrder;"), (2, u "LOW"), (2, u "FIRST"), (2, u "$VALUES"), (0, u "[Lcom/example/leafcount/leafcount/SqlSyntax$NullOrder;"), (6, .class_ 25), (1, u "java/lang/Enum"), (8, u "last"), (0, u "Lcom/example/leafcount/leafcount/Sort$Direction;"), (31, .class_ 68), (0, u "com/example/leafcount/leafcount/SqlSyntax")] 5

/-- com/example/leafcount/leafcount/SqlSyntax$NullOrder -/
def k8 : Class := { plain "com/example/leafcount/leafcount/SqlSyntax$NullOrder" (some 5) with
  accessFlags := 16432
  interfaces := #[]
  cf := some (fileOf pool8 1 #[.nestHost 67] #[] 16432 23 #[] #[{ accessFlags := 16409, nameIndex := 5, descriptorIndex := 6, attributes := #[] }, { accessFlags := 16409, nameIndex := 9, descriptorIndex := 6, attributes := #[] }, { accessFlags := 16409, nameIndex := 12, descriptorIndex := 6, attributes := #[] }, { accessFlags := 18, nameIndex := 34, descriptorIndex := 35, attributes := #[] }, { accessFlags := 4122, nameIndex := 15, descriptorIndex := 16, attributes := #[] }])
  fields := #[{ name := "HIGH", type := (.object "com/example/leafcount/leafcount/SqlSyntax$NullOrder"), accessFlags := 16409, slot := 0, constantValue := 0 }, { name := "LOW", type := (.object "com/example/leafcount/leafcount/SqlSyntax$NullOrder"), accessFlags := 16409, slot := 1, constantValue := 0 }, { name := "FIRST", type := (.object "com/example/leafcount/leafcount/SqlSyntax$NullOrder"), accessFlags := 16409, slot := 2, constantValue := 0 }, { name := "last", type := (.object "com/example/leafcount/leafcount/Sort$Direction"), accessFlags := 18, slot := 3, constantValue := 0 }, { name := "$VALUES", type := (.array (.object "com/example/leafcount/leafcount/SqlSyntax$NullOrder")), accessFlags := 4122, slot := 3, constantValue := 0 }]
  methods := #[]
  instanceTypes := #[(.object "java/lang/String"), .int, .int, (.object "com/example/leafcount/leafcount/Sort$Direction")]
  staticTypes := #[(.object "com/example/leafcount/leafcount/SqlSyntax$NullOrder"), (.object "com/example/leafcount/leafcount/SqlSyntax$NullOrder"), (.object "com/example/leafcount/leafcount/SqlSyntax$NullOrder"), (.array (.object "com/example/leafcount/leafcount/SqlSyntax$NullOrder"))]
  resolved := Array.replicate 74 none
  statics := some 2 }

def pool9 : Array CpInfo := pool [(1, u "java/lang/Cloneable"), (0, .class_ 1), (0, u "java/lang/Object"), (0, .class_ 3)] 3

/-- java/lang/Cloneable -/
def k9 : Class := { plain "java/lang/Cloneable" (some 0) with
  accessFlags := 1537
  interfaces := #[]
  cf := some (fileOf pool9 2 #[] #[] 1537 4 #[] #[])
  fields := #[]
  methods := #[]
  instanceTypes := #[]
  staticTypes := #[]
  resolved := Array.replicate 8 none
  statics := none }

/-- the primitive byte -/
def k10 : Class := { plain "byte" none with kind := .primitive 'B', accessFlags := 0x411 }
/-- [B -/
def k11 : Class := { plain "[B" (some 0) with kind := .array 10 .byte, interfaces := #[9, 4], accessFlags := 1041 }

/-- the primitive int -/
def k12 : Class := { plain "int" none with kind := .primitive 'I', accessFlags := 0x411 }
/-- [I -/
def k13 : Class := { plain "[I" (some 0) with kind := .array 12 .int, interfaces := #[9, 4], accessFlags := 1041 }

def heap : Heap := #[{ cls := 6, slots := #[.ref 3, .ref 4, .null], vm := .statics 6 },
  { cls := 7, slots := #[.ref 8, .ref 9, .ref 10, .ref 11, .ref 12, .ref 13, .ref 14, .ref 15, .ref 16, .null], vm := .statics 7 },
  { cls := 8, slots := #[.ref 5, .ref 6, .ref 7, .null], vm := .statics 8 },
  { cls := 6, slots := #[.null, .int 0, .int 0], vm := .none },
  { cls := 6, slots := #[.null, .int 1, .int 0], vm := .none },
  { cls := 8, slots := #[.null, .int 0, .int 0, .ref 3], vm := .none },
  { cls := 8, slots := #[.null, .int 0, .int 0, .ref 4], vm := .none },
  { cls := 8, slots := #[.null, .int 0, .int 0, .null], vm := .none },
  { cls := 7, slots := #[.null, .int 0, .int 0, .ref 5, .null], vm := .none },
  { cls := 7, slots := #[.null, .int 0, .int 0, .ref 6, .null], vm := .none },
  { cls := 7, slots := #[.null, .int 0, .int 0, .ref 6, .null], vm := .none },
  { cls := 7, slots := #[.null, .int 0, .int 0, .ref 6, .null], vm := .none },
  { cls := 7, slots := #[.null, .int 0, .int 0, .ref 7, .null], vm := .none },
  { cls := 7, slots := #[.null, .int 0, .int 0, .ref 5, .null], vm := .none },
  { cls := 7, slots := #[.null, .int 0, .int 0, .ref 5, .null], vm := .none },
  { cls := 7, slots := #[.null, .int 0, .int 0, .ref 6, .null], vm := .none },
  { cls := 7, slots := #[.null, .int 0, .int 0, .ref 5, .null], vm := .none }]
def classes : Array Class := #[k0, k1, k2, k3, k4, k5, k6, k7, k8, k9, k10, k11, k12, k13]
def interned : List (Array UInt16 × Addr) := []
def slotsUsed : Nat := 80
def theMethod : MethodId := ⟨1, 2⟩
def args0 : Array Value := #[.int 3, .int 4]
def aboutOver (below : List Frame) : State where
  vm := { classes := classes, interned := interned.toArray }
  heap := heap
  slotsUsed := slotsUsed
  threads := #[{ frames := .invoking theMethod args0 :: below }]
def below0 : List Frame := [.native { method := ⟨0, 0⟩, args := #[] }]
def about1 : State := aboutOver below0
def p0 : Program := .bare "" "" ""
def e0 : Env := launch0.env 0 0 0
theorem w_frames : about1.frames = Frame.invoking theMethod args0 :: below0 := rfl
set_option maxRecDepth 65536 in
theorem w_args : argsFit about1.vm theMethod args0 = true := by decide +kernel
set_option maxRecDepth 65536 in
theorem w_heap : heapFits about1 = true := by decide +kernel
set_option maxRecDepth 65536 in
theorem w_runnable : about1.curStatus? = some .runnable := by decide +kernel
set_option maxRecDepth 65536 in
theorem w_alone : about1.alone = true := by decide +kernel
set_option maxRecDepth 65536 in
theorem w_named : about1.methodNamed? x = some theMethod := by decide +kernel
set_option maxRecDepth 65536 in
theorem w_hears : about1.hears theMethod below0 = true := by decide +kernel
set_option maxRecDepth 65536 in
theorem w_ripe : about1.ripe theMethod args0 below0 = true := by decide +kernel
theorem w_running : about1.status = .running := rfl
set_option maxRecDepth 65536 in
theorem w_room : about1.hasRoom e0.platform room_1 = true :=
  launch0.hasRoom_least _ room_1 (by decide +kernel) (by decide +kernel) (by decide +kernel) (by decide +kernel) (by decide +kernel) (by decide +kernel)
theorem allAtoms_all (ts : List Jvm.Cond) (a : Array Jvm.Value) (st : Jvm.State) : (allAtoms ts).before a st = ts.all (fun c => c.before a st) := by
  induction ts with
  | nil => rfl
  | cons c t ih =>
    show (Jvm.Cond.and c (allAtoms t)).before a st = _
    rw [Jvm.Cond.before_and, ih, List.all_cons]
def words1 : List Jvm.Cond := Jvm.Cond.code x code maxLocals ret :: tables_1
/-- a 'code' word, met by the world's own term for the bytes: nothing is compared byte by byte -/
theorem code_word {y : MethodName} {bytes : ByteArray} {mx : Nat} {rt : Option FieldType} {a : Array Value} {s : State} {m : MethodId} {meth : Method} {c : Code} (h1 : s.methodNamed? y = some m) (h2 : s.vm.method? m = some meth) (h3 : meth.code = some c) (h4 : c.code = bytes)
    (h5 : (c.maxLocals == mx && c.exceptionTable.isEmpty && decide (c.maxStack ≤ mostOperands) && decide (meth.sig.returnType = rt) && !meth.locks && decide (parseMethodDescriptor y.desc = some meth.sig)) = true) : (Jvm.Cond.code y bytes mx rt).before a s = true := by
  simp only [Bool.and_eq_true, beq_iff_eq, Bool.not_eq_true', decide_eq_true_eq] at h5
  obtain ⟨⟨⟨⟨⟨g1, g2⟩, g3⟩, g4⟩, g5⟩, g6⟩ := h5
  simp [Cond.before, Cond.holds, Cond.value, h1, h2, h3, h4, g1, g2, g3, g4, g5, g6]
def isCode : Jvm.Cond → Bool
  | .code _ _ _ _ => true
  | _ => false
theorem all_split {L : List Jvm.Cond} {P : Jvm.Cond → Bool} (h1 : L.all (fun c => isCode c || P c) = true) (h2 : ∀ c ∈ L.filter isCode, P c = true) : L.all P = true := by
  refine List.all_eq_true.mpr fun c hc => ?_
  have h := List.all_eq_true.mp h1 c hc
  rcases Bool.eq_false_or_eq_true (isCode c) with hi | hi
  · exact h2 c (List.mem_filter.mpr ⟨hc, hi⟩)
  · simpa [hi] using h
set_option maxRecDepth 65536 in
theorem w_c0 : (Jvm.Cond.code x code maxLocals ret).before args0 about1 = true := code_word (m := ⟨1, 2⟩) (meth := k1m2) (c := k1c2) (by decide +kernel) rfl rfl rfl (by decide +kernel)
set_option maxRecDepth 65536 in
theorem w_c1 : (Jvm.Cond.code ({ cls := "com/example/leafcount/leafcount/SqlSyntaxPutsNullLastPinLaw", name := "pick", desc := "(I)Lcom/example/leafcount/leafcount/SqlSyntax;" } : Jvm.MethodName) method_2_code (1 : Nat) (Option.some (Jvm.ClassFile.FieldType.object "com/example/leafcount/leafcount/SqlSyntax"))).before args0 about1 = true := code_word (m := ⟨1, 1⟩) (meth := k1m1) (c := k1c1) (by decide +kernel) rfl rfl rfl (by decide +kernel)
set_option maxRecDepth 65536 in
theorem w_c2 : (Jvm.Cond.code ({ cls := "com/example/leafcount/leafcount/SqlSyntax", name := "putsNullLast", desc := "(Lcom/example/leafcount/leafcount/Sort$Direction;)Z" } : Jvm.MethodName) prog_41_method_5_code (2 : Nat) (Option.some Jvm.ClassFile.FieldType.boolean)).before args0 about1 = true := code_word (m := ⟨7, 0⟩) (meth := k7m0) (c := k7c0) (by decide +kernel) rfl rfl rfl (by decide +kernel)
def codes1 : List Jvm.Cond := [Jvm.Cond.code x code maxLocals ret, Jvm.Cond.code ({ cls := "com/example/leafcount/leafcount/SqlSyntaxPutsNullLastPinLaw", name := "pick", desc := "(I)Lcom/example/leafcount/leafcount/SqlSyntax;" } : Jvm.MethodName) method_2_code (1 : Nat) (Option.some (Jvm.ClassFile.FieldType.object "com/example/leafcount/leafcount/SqlSyntax")), Jvm.Cond.code ({ cls := "com/example/leafcount/leafcount/SqlSyntax", name := "putsNullLast", desc := "(Lcom/example/leafcount/leafcount/Sort$Direction;)Z" } : Jvm.MethodName) prog_41_method_5_code (2 : Nat) (Option.some Jvm.ClassFile.FieldType.boolean)]
set_option maxRecDepth 65536 in
theorem codes_eq : words1.filter isCode = codes1 := rfl
theorem w_codes : ∀ c ∈ words1.filter isCode, c.before args0 about1 = true := by
  rw [codes_eq]
  intro c hc
  simp only [codes1, List.mem_cons, List.not_mem_nil, or_false] at hc
  rcases hc with rfl | rfl | rfl
  · exact w_c0
  · exact w_c1
  · exact w_c2
set_option maxRecDepth 65536 in
theorem w_t1 : (words1.take 24).all (fun c => isCode c || c.before args0 about1) = true := by decide +kernel
set_option maxRecDepth 65536 in
theorem w_t2 : (words1.drop 24).all (fun c => isCode c || c.before args0 about1) = true := by decide +kernel
theorem w_tables : (allAtoms (Jvm.Cond.code x code maxLocals ret :: tables_1)).before args0 about1 = true := by
  rw [allAtoms_all]
  show words1.all (fun c => c.before args0 about1) = true
  refine all_split ?_ w_codes
  rw [← List.take_append_drop 24 words1, List.all_append, w_t1, w_t2]
  rfl
set_option maxRecDepth 65536 in
theorem w_case : (Jvm.Cond.and given_1 narrow_1).before args0 about1 = true := by decide +kernel
theorem w_applies : (headSpec (Jvm.Cond.code x code maxLocals ret :: tables_1) room_1).applies x e0.platform about1 = true :=
  (Spec.applies_iff w_frames).mpr ⟨w_running, w_runnable, w_alone, w_named, w_hears, w_ripe, w_room, w_tables⟩
theorem atStart : AtStart classFile x code maxLocals ret World_1 tables_1 room_1 Calls_1 rest_1 Pre_1 launch0 p0 e0 about1 theMethod args0 below0 :=
  ⟨lists_1, trivial, launch0.admits_env _ _ _, launch0.least_env, fairChoices_fair.cas, fairChoices_fair.clock, w_frames, w_args, w_heap, w_applies, trivial, trivial, w_case⟩
end start1
theorem witness_1 : WitnessClaimed_1 := ⟨start1.p0, start1.e0, start1.about1, start1.theMethod, start1.args0, start1.below0, start1.atStart⟩
end Jvm.Pilot.@@N@@
