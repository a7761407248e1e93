import JvmDerived
import JvmDerived.Pilot.@@N@@Statement
import JvmDerived.Pilot.@@N@@Code
set_option linter.unusedVariables false
set_option linter.unusedSimpArgs false
namespace Jvm.RoadKit
open Sem ClassFile Op Lib Jvm.Stand Jvm.Free Jvm.LawKit
section New
variable {p : Program} {l : Launch} {e : Env} {R : Room} {s : State} {m : MethodId} {args : Array Value} {below : List Frame} {meth : Method} {c : Code} {T : State} {locs : List Loc} {cells slots : Nat}
theorem retI (X : Stand p l e R s m args below meth c T locs cells slots) (hx : p.tables.exec = Jvm.exec) {pc : Nat} {Ls : Array Slot} {z : Int32} {rest : List Value} (hret : meth.sig.returnType = some .int) (hd : decode c.code pc = .ok (.ireturn, 1)) {fs : List Frame}
    (hl : ∀ (f : JFrame) (acts : List Action), f.method = m → f.locked = none → f.entered = [] → (doReturn e (T.setTop f) acts (some (.int z))).1 = T.setFrames fs) : Steps p.tables e below (T.setTop (mkF m pc Ls (.int z :: rest))) (T.setFrames fs) := by
  have hm' : T.vm.method? m = some meth := X.method'
  have hn : narrow .int (.int z) = .int z := rfl
  show Steps p.tables e below (T.setTop { method := m, pc := pc, locals := Ls, stack := _ :: rest, locked := none }) _
  jvm_step X.here [X.here.top, hx, hd, hm', hret, hn]
  first | (intro acts; rw [hl _ acts rfl rfl rfl]) | rw [hl _ _ rfl rfl rfl]
  exact Steps.refl _
theorem own_dia {c : Prop} [Decidable c] {tb : Tables} {S tgt : State} {F : Int32 → State} {A B : Int32} (hy : c → ∀ t, Steps tb e below (F A) t → Steps tb e below S t) (hn : ¬ c → ∀ t, Steps tb e below (F B) t → Steps tb e below S t) (k : Steps tb e below (F (if c then A else B)) tgt) : Steps tb e below S tgt := by
  by_cases q : c
  · rw [if_pos q] at k; exact hy q _ k
  · rw [if_neg q] at k; exact hn q _ k
end New
end Jvm.RoadKit
namespace Jvm.RoadKit
section OwnFp
open Jvm.FP.Core
theorem own_v1 : val64 (4368491638549381120 : UInt64) = .fin false (2 ^ 52) (-105) := by decide +kernel
theorem own_v2 : val64 (4845873199050653696 : UInt64) = .fin false (2 ^ 52) 1 := by decide +kernel
theorem own_shape {t : Int64} (h0 : 0 < t.toInt) (h1 : t.toInt < 9007199254740992) : ∃ (c : Nat) (q : Int), val64 (FP.l2d t) = .fin false c q ∧ c < 2 ^ 53 ∧ 2 ^ 52 ≤ c ∧ -52 ≤ q ∧ q ≤ 0 ∧ c = t.toInt.toNat * 2 ^ (-q).toNat := by
  obtain ⟨c, q, e⟩ := l2d_shape t
  have hw := l2d_whole (a := t) ⟨by omega, h1⟩
  have hf := val64_fits (FP.l2d t)
  have e' : val64 (FP.l2d t) = .fin false c q := by
    have : decide (t.toInt < 0) = false := by simp; omega
    rw [← this]; exact e
  have e2 : val64 (l2d t) = .fin false c q := e'
  rw [e2] at hw
  rw [e'] at hf
  obtain ⟨hc, hq1, hq2, hq3⟩ := hf
  have hc : c < 2 ^ 53 := hc
  have hw : (c * 2 ^ q.toNat : Nat) = t.toInt * ((2 ^ (-q).toNat : Nat) : Int) := hw
  have eq1 : b64.qmin = -1074 := by decide
  have et : b64.tails = 2 ^ 52 := by decide
  rw [eq1] at hq1 hq3
  rw [et] at hq3
  obtain ⟨n, hn⟩ : ∃ n : Nat, t.toInt = n := ⟨t.toInt.toNat, by omega⟩
  rw [hn] at hw h0 h1 ⊢
  have hwn : c * 2 ^ q.toNat = n * 2 ^ (-q).toNat := by exact_mod_cast hw
  have hn0 : 0 < n := by omega
  have hn1 : n < 2 ^ 53 := by omega
  by_cases hq : q ≤ 0
  · have z : q.toNat = 0 := by omega
    rw [z, Nat.pow_zero, Nat.mul_one] at hwn
    obtain ⟨j, hj⟩ : ∃ j, j = (-q).toNat := ⟨_, rfl⟩
    rw [← hj] at hwn
    have hlt : 2 ^ j < 2 ^ 53 := by
      refine Nat.lt_of_le_of_lt ?_ (hwn ▸ hc)
      exact Nat.le_mul_of_pos_left _ hn0
    have hj53 : j < 53 := (Nat.pow_lt_pow_iff_right (by decide)).mp hlt
    refine ⟨c, q, e', hc, ?_, by omega, hq, ?_⟩
    · rcases hq3 with hq3 | hq3
      · omega
      · exact hq3
    · rw [← hj]; simpa using hwn
  · exfalso
    have z : (-q).toNat = 0 := by omega
    rw [z, Nat.pow_zero, Nat.mul_one] at hwn
    have hc2 : 2 ^ 52 ≤ c := by
      rcases hq3 with hq3 | hq3
      · omega
      · exact hq3
    obtain ⟨j, hj⟩ : ∃ j, q.toNat = j + 1 := ⟨q.toNat - 1, by omega⟩
    rw [hj, Nat.pow_succ] at hwn
    have hp : 0 < 2 ^ j := Nat.two_pow_pos j
    have : 2 ^ 52 * (2 ^ j * 2) ≤ c * (2 ^ j * 2) := Nat.mul_le_mul_right _ hc2
    have h3 : 2 ^ 52 * 2 ≤ 2 ^ 52 * (2 ^ j * 2) := Nat.mul_le_mul_left _ (by omega)
    omega
theorem own_mul1 {x : UInt64} {c : Nat} {q : Int} (hx : val64 x = .fin false c q) (h1 : c < 2 ^ 53) (h2 : 2 ^ 52 ≤ c) (h3 : -52 ≤ q) (h4 : q ≤ 0) : val64 (FP.dmul x (4368491638549381120 : UInt64)) = .fin false c (q - 53) := by
  show val64 (dmul x (4368491638549381120 : UInt64)) = _
  rw [val64_dmul, hx, own_v1]
  show roundRatio b64 false (c * 2 ^ 52) 1 (q + -105) = _
  have eq1 : b64.qmin = -1074 := by decide
  have eq2 : b64.qmax = 971 := by decide
  have et : b64.tails = 2 ^ 52 := by decide
  refine roundRatio_exact good_b64 (by decide) ⟨h1, by rw [eq1]; omega, by rw [eq2]; omega, Or.inr (by rw [et]; exact h2)⟩ ?_
  rw [show (q + -105 - (q - 53)).toNat = 0 by omega, show (q - 53 - (q + -105)).toNat = 52 by omega]
  simp
theorem own_mul2 {x : UInt64} {c : Nat} {q : Int} (hx : val64 x = .fin false c (q - 53)) (h1 : c < 2 ^ 53) (h2 : 2 ^ 52 ≤ c) (h3 : -52 ≤ q) (h4 : q ≤ 0) : val64 (FP.dmul x (4845873199050653696 : UInt64)) = .fin false c q := by
  show val64 (dmul x (4845873199050653696 : UInt64)) = _
  rw [val64_dmul, hx, own_v2]
  show roundRatio b64 false (c * 2 ^ 52) 1 (q - 53 + 1) = _
  have eq1 : b64.qmin = -1074 := by decide
  have eq2 : b64.qmax = 971 := by decide
  have et : b64.tails = 2 ^ 52 := by decide
  refine roundRatio_exact good_b64 (by decide) ⟨h1, by rw [eq1]; omega, by rw [eq2]; omega, Or.inr (by rw [et]; exact h2)⟩ ?_
  rw [show (q - 53 + 1 - q).toNat = 0 by omega, show (q - (q - 53 + 1)).toNat = 52 by omega]
  simp
def own_dd (t : Int64) : UInt64 := FP.dmul (FP.l2d t) (4368491638549381120 : UInt64)
theorem own_d2 {t : Int64} (h0 : 0 ≤ t.toInt) (h1 : t.toInt < 9007199254740992) : FP.dmul (own_dd t) (4845873199050653696 : UInt64) = FP.l2d t := by
  by_cases z : t = 0
  · subst z; decide +kernel
  · have hp : 0 < t.toInt := by
      rcases Int.lt_or_eq_of_le h0 with h | h
      · exact h
      · exact absurd (Int64.toInt_inj.mp h.symm) z
    obtain ⟨c, q, e, k1, k2, k3, k4, -⟩ := own_shape hp h1
    have a : val64 (FP.dmul (own_dd t) (4845873199050653696 : UInt64)) = .fin false c q := own_mul2 (own_mul1 e k1 k2 k3 k4) k1 k2 k3 k4
    exact val64_inj (by rw [a]; simp) (a.trans e.symm)
theorem own_lt1 {t : Int64} (h0 : 0 ≤ t.toInt) (h1 : t.toInt < 9007199254740992) : FP.dcmp (own_dd t) FP.dconst1 = some .lt ∧ (FP.dcmp FP.dconst0 (own_dd t) = some .lt ∨ FP.dcmp FP.dconst0 (own_dd t) = some .eq) := by
  by_cases z : t = 0
  · subst z; decide +kernel
  · have hp : 0 < t.toInt := by
      rcases Int.lt_or_eq_of_le h0 with h | h
      · exact h
      · exact absurd (Int64.toInt_inj.mp h.symm) z
    obtain ⟨c, q, e, k1, k2, k3, k4, k5⟩ := own_shape hp h1
    have a := own_mul1 e k1 k2 k3 k4
    constructor
    · show order (val64 (own_dd t)) (val64 dconst1) = _
      rw [show val64 (own_dd t) = _ from a, val64_dconst1]
      show some (compare ((c * 2 ^ (q - 53 - min (q - 53) (-52)).toNat : Nat) : Int) ((2 ^ 52 * 2 ^ (-52 - min (q - 53) (-52)).toNat : Nat) : Int)) = _
      rw [show (q - 53 - min (q - 53) (-52)).toNat = 0 by omega, show (-52 - min (q - 53) (-52)).toNat = (-q).toNat + 1 by omega]
      congr 1
      rw [compare_lt_iff]
      have p1 : t.toInt.toNat * 2 ^ (-q).toNat < 2 ^ 53 * 2 ^ (-q).toNat := Nat.mul_lt_mul_of_pos_right (by omega) (Nat.two_pow_pos _)
      have : c * 2 ^ 0 < 2 ^ 52 * 2 ^ ((-q).toNat + 1) := by rw [Nat.pow_succ]; omega
      exact_mod_cast this
    · left
      show order (val64 dconst0) (val64 (own_dd t)) = _
      rw [show val64 (own_dd t) = _ from a, val64_dconst0]
      show some (compare ((0 * 2 ^ (b64.qmin - min b64.qmin (q - 53)).toNat : Nat) : Int) ((c * 2 ^ (q - 53 - min b64.qmin (q - 53)).toNat : Nat) : Int)) = _
      congr 1
      rw [compare_lt_iff]
      have p1 : 0 < c * 2 ^ (q - 53 - min b64.qmin (q - 53)).toNat := Nat.mul_pos (by omega) (Nat.two_pow_pos _)
      rw [Nat.zero_mul]
      exact_mod_cast p1
end OwnFp
end Jvm.RoadKit
namespace Jvm.Pilot.@@N@@
open Jvm Jvm.ClassFile Sem Op Lib Jvm.Free Jvm.Stand Jvm.LawKit Jvm.RoadKit Bundle Jvm.Pilot.@@N@@.Jvm.D
def own_sh (z : Int64) (k : Int32) : Int64 := (z.toUInt64 >>> (k &&& 0x3f).toInt64.toUInt64).toInt64
def own_mx (k : Int32) (z : Int64) : Int64 := z ^^^ own_sh z k
def own_un (k k2 : Int32) (z : Int64) : Int64 := (z ^^^ own_sh z k) ^^^ own_sh z k2
def own_s1 (w : Int64) : Int64 := own_mx (30 : Int32) (w + (-7046029254386353131 : Int64)) * (-4658895280553007687 : Int64)
def own_s2 (w : Int64) : Int64 := own_mx (27 : Int32) (own_s1 w) * (-7723592293110705685 : Int64)
def own_nl (w : Int64) : Int64 := own_mx (31 : Int32) (own_s2 w)
theorem own_top (w : Int64) : 0 ≤ (((own_nl w).toUInt64 >>> ((11 : Int32) &&& 0x3f).toInt64.toUInt64).toInt64).toInt ∧ (((own_nl w).toUInt64 >>> ((11 : Int32) &&& 0x3f).toInt64.toUInt64).toInt64).toInt < 9007199254740992 := by
  rw [c_lushr (own_nl w) 11 11 (by decide) (by decide)]
  have h : (2 ^ 11 : Nat) = 2048 := by decide
  rw [h]
  omega
def own_nd (w : Int64) : UInt64 := own_dd (((own_nl w).toUInt64 >>> ((11 : Int32) &&& 0x3f).toInt64.toUInt64).toInt64)
theorem own_g0 {t : Int64} (h : 0 ≤ t.toInt ∧ t.toInt < 9007199254740992) : ¬ (0 : Int32) < (cmpValue (FP.dcmp FP.dconst0 (own_dd t)) .g) := by
  rw [cmpV_g]; rcases (own_lt1 h.1 h.2).2 with q | q <;> rw [q] <;> decide
theorem own_g1 {t : Int64} (h : 0 ≤ t.toInt ∧ t.toInt < 9007199254740992) : (cmpValue (FP.dcmp (own_dd t) FP.dconst1) .g) < (0 : Int32) := by
  rw [cmpV_g, (own_lt1 h.1 h.2).1]; decide
theorem own_g2 {t : Int64} (h : 0 ≤ t.toInt ∧ t.toInt < 9007199254740992) : (cmpValue (FP.dcmp (FP.dmul (own_dd t) (4845873199050653696 : UInt64)) (FP.l2d t)) .l) = (0 : Int32) := by
  rw [own_d2 h.1 h.2]; exact dcmpV_self (Jvm.Free.Fl.l2d_fin t).noNaN .l
theorem own_n1 (t : Int64) : Jvm.Free.Fl.NoNaN64 (FP.dmul (FP.l2d t) (4368491638549381120 : UInt64)) := Jvm.Free.Fl.dmul_out (Jvm.Free.Fl.l2d_fin t) (by unfold Jvm.Free.Fl.Fin64; decide)
theorem own_n2 {t : Int64} (h : 0 ≤ t.toInt ∧ t.toInt < 9007199254740992) : Jvm.Free.Fl.NoNaN64 (FP.dmul (own_dd t) (4845873199050653696 : UInt64)) := by
  rw [own_d2 h.1 h.2]; exact (Jvm.Free.Fl.l2d_fin t).noNaN
theorem own_k0 (w : Int64) : ¬ (0 : Int32) < (cmpValue (FP.dcmp FP.dconst0 (own_nd w)) .g) := own_g0 (own_top w)
theorem own_k1 (w : Int64) : (cmpValue (FP.dcmp (own_nd w) FP.dconst1) .g) < (0 : Int32) := own_g1 (own_top w)
theorem own_k2 (w : Int64) : (cmpValue (FP.dcmp (FP.dmul (own_nd w) (4845873199050653696 : UInt64)) (FP.l2d ((((own_nl w).toUInt64 >>> ((11 : Int32) &&& 0x3f).toInt64.toUInt64).toInt64)))) .l) = (0 : Int32) := own_g2 (own_top w)
theorem own_k3 (w : Int64) : Jvm.Free.Fl.NoNaN64 (FP.dmul (own_nd w) (4845873199050653696 : UInt64)) := own_n2 (own_top w)
theorem d1_0 : decode prog_15_method_1_code 0 = .ok (.aload_n 0, 1) := by decide +kernel
theorem d1_1 : decode prog_15_method_1_code 1 = .ok (.invokespecial 1, 3) := by decide +kernel
theorem d1_4 : decode prog_15_method_1_code 4 = .ok (.aload_n 0, 1) := by decide +kernel
theorem d1_5 : decode prog_15_method_1_code 5 = .ok (.lload_n 1, 1) := by decide +kernel
theorem d1_6 : decode prog_15_method_1_code 6 = .ok (.putfield 7, 3) := by decide +kernel
theorem d1_9 : decode prog_15_method_1_code 9 = .ok (.return_, 1) := by decide +kernel
theorem pn_1 : plainName "com/example/sitebound/sitebound/model/RandomStream" = true := by first | (simp [plainName, overriddenIn]; done) | decide +kernel
theorem ef_1 (m : MethodId) (pr0 : Addr) (pl1 : Int64) : entryFrame m #[(.ref pr0), (.long pl1)] 3 = mkF m 0 #[.val (.ref pr0), .val (.long pl1), .second] [] := by first | (simp [entryFrame, mkF, argsToLocals, Value.category]; done) | rfl
def Q1 (Z : State) (pr0 : Addr) (pl1 : Int64) (u_state_pr0 : Value) (h0 : Heap) (n0 : Nat) (v : Option Value) (h : Heap) (L : List Loc) : Prop := v = none ∧ Fr n0 L ∧ Keep h0 h [pr0] ∧ Exa Z h pr0 "com/example/sitebound/sitebound/model/RandomStream" ∧ Fld Z h pr0 "com/example/sitebound/sitebound/model/RandomStream" "state" "J" (.long pl1)
set_option maxRecDepth 65536 in
set_option maxHeartbeats 40000000 in
theorem rm1 (l : Launch) (Z : State) (a0 : Array Value) (hw : ∀ d ∈ tables_1, d.before a0 Z = true) (ws : List Jvm.Cond) (pr0 : Addr) (pl1 : Int64) (u_state_pr0 : Value) (h0 : Heap) (n0 : Nat) (Z0 : n0 ≤ h0.size) (O0 : Old Z n0 h0) (E_pr0 : Exa Z h0 pr0 "com/example/sitebound/sitebound/model/RandomStream") (F_state_pr0 : Fld Z h0 pr0 "com/example/sitebound/sitebound/model/RandomStream" "state" "J" u_state_pr0) (g_pr0 : n0 ≤ pr0) :
    MetFree l (⟨"com/example/sitebound/sitebound/model/RandomStream", "<init>", "(J)V"⟩ : MethodName) (head1 (Jvm.Cond.code (⟨"com/example/sitebound/sitebound/model/RandomStream", "<init>", "(J)V"⟩ : MethodName) prog_15_method_1_code 3 none :: ws) ({ frames := 1, cells := 0, slots := 0, locals := 12 } : Room)) (fun a U => a = #[(.ref pr0), (.long pl1)] ∧ Z.Warmed39 U.vm ∧ U.heap = h0) (fun _ _ _ _ _ => True) (fun _ U o U' => ∃ v L, o = .returned v ∧ Q1 Z pr0 pl1 u_state_pr0 h0 n0 v U'.heap L ∧ FrameEnd U o U' L ({ frames := 1, cells := 0, slots := 0, locals := 12 } : Room).cells ({ frames := 1, cells := 0, slots := 0, locals := 12 } : Room).slots) := by
  refine MetFree.of_bodySF (plainFor_of_name pn_1) hisR ?_
  intro p e s m args below meth c s₁ Bd hml0 hP hK
  obtain ⟨rfl, hZ, hh⟩ := hP
  have hx := Bd.exec
  have hby := Bd.bytes
  have hml : c.maxLocals = 3 := hml0
  have hown : s.vm.findClass "com/example/sitebound/sitebound/model/RandomStream" = some m.cls := findClass_of_methodNamed Bd.named
  have hnm := (name_of_methodNamed Bd.named Bd.method).1
  have X0 : Stand p l e ({ frames := 1, cells := 0, slots := 0, locals := 12 } : Room) s m #[(.ref pr0), (.long pl1)] below meth c s₁ [] 0 0 := Stand.of_body Bd
  have e0 : s₁.heap = h0 := by rw [← hh, Bd.state]; rfl
  have N0 := Fr.nil n0
  have pre0 : ∀ t, Steps p.tables e below (s₁.setTop (mkF m 0 #[.val (.ref pr0), .val (.long pl1), .second] [])) t → Steps p.tables e below (s₁.setTop (entryFrame m #[(.ref pr0), (.long pl1)] 3)) t := fun t k => castTop (ef_1 m pr0 pl1) k
  obtain ⟨T1, X1, e1, st1⟩ := initO X0 hx hZ hown (hw _ (List.mem_of_getElem? (i := 6) rfl)) (hw _ (List.mem_of_getElem? (i := 7) rfl)) (hw _ (List.mem_of_getElem? (i := 8) rfl)) e0 (g := (mkF m 1 #[.val (.ref pr0), .val (.long pl1), .second] [(.ref pr0)])) rfl (by rw [hml]; rfl) rfl (hb hby d1_1) (by decide) (W := 0) (by show 2 * 0 + _ ≤ _; exact Nat.le_of_eq rfl) (by decide)
  obtain ⟨T2, h2, X2, e2, W2, st2⟩ := putF X1 hx hZ hown (host := "") (Or.inl (hw _ (List.mem_of_getElem? (i := 9) rfl))) Via.refl e1 F_state_pr0 E_pr0 (Or.inl (hw _ (List.mem_of_getElem? (i := 10) rfl))) (hw _ (List.mem_of_getElem? (i := 1) rfl)) (ty := .long) (by decide) rfl rfl (g := (mkF m 6 #[.val (.ref pr0), .val (.long pl1), .second] [(.long pl1), (.ref pr0)])) rfl rfl (hb hby d1_6)
  have Fw2 := F_state_pr0.same W2
  have N2 := Fr.snoc X2 N0 g_pr0
  have k3 : Keep h0 h2 [pr0] := (Keep.refl h0 [pr0]).wr W2 (Or.inl (List.mem_of_getElem? (i := 0) rfl))
  have f4 := E_pr0.wr W2
  obtain ⟨fs, hr, hrun, hended, hW, hsame⟩ := X2.leave (v := none) (fun _ => rfl) (by first | exact BodyLoose.notSynchronized Bd | exact Body.notSynchronized Bd)
  refine ⟨_, _, pre0 _ ?_, hrun, hended, _, _, rfl, ?_, ⟨_, rfl⟩, hW, hsame.mono (by decide) (by decide)⟩
  · show Steps p.tables e below (s₁.setTop (mkF m 0 #[.val (.ref pr0), .val (.long pl1), .second] [])) _
    refine XS.aloadN X0.here hx rfl (hb hby d1_0) rfl rfl ?_
    show Steps p.tables e below (s₁.setTop (mkF m 1 #[.val (.ref pr0), .val (.long pl1), .second] [(.ref pr0)])) _
    refine st1 _ ?_
    show Steps p.tables e below (T1.setTop (mkF m 4 #[.val (.ref pr0), .val (.long pl1), .second] [])) _
    refine XS.aloadN X1.here hx rfl (hb hby d1_4) rfl rfl ?_
    show Steps p.tables e below (T1.setTop (mkF m 5 #[.val (.ref pr0), .val (.long pl1), .second] [(.ref pr0)])) _
    refine XS.lloadN X1.here hx rfl (hb hby d1_5) rfl ?_
    show Steps p.tables e below (T1.setTop (mkF m 6 #[.val (.ref pr0), .val (.long pl1), .second] [(.long pl1), (.ref pr0)])) _
    refine st2 _ ?_
    show Steps p.tables e below (T2.setTop (mkF m 9 #[.val (.ref pr0), .val (.long pl1), .second] [])) _
    exact X2.returnOut hx Bd.returns (hb hby d1_9) hr
  · show Q1 Z pr0 pl1 u_state_pr0 h0 n0 _ T2.heap _
    rw [e2]
    exact ⟨rfl, N2, k3, f4, Fw2⟩
theorem d4_0 : decode prog_15_method_2_code 0 = .ok (.aload_n 0, 1) := by decide +kernel
theorem d4_1 : decode prog_15_method_2_code 1 = .ok (.dup, 1) := by decide +kernel
theorem d4_2 : decode prog_15_method_2_code 2 = .ok (.getfield 7, 3) := by decide +kernel
theorem d4_5 : decode prog_15_method_2_code 5 = .ok (.ldc2_w 13, 3) := by decide +kernel
theorem d4_8 : decode prog_15_method_2_code 8 = .ok (.ladd, 1) := by decide +kernel
theorem d4_9 : decode prog_15_method_2_code 9 = .ok (.putfield 7, 3) := by decide +kernel
theorem d4_12 : decode prog_15_method_2_code 12 = .ok (.aload_n 0, 1) := by decide +kernel
theorem d4_13 : decode prog_15_method_2_code 13 = .ok (.getfield 7, 3) := by decide +kernel
theorem d4_16 : decode prog_15_method_2_code 16 = .ok (.aload_n 0, 1) := by decide +kernel
theorem d4_17 : decode prog_15_method_2_code 17 = .ok (.getfield 7, 3) := by decide +kernel
theorem d4_20 : decode prog_15_method_2_code 20 = .ok (.bipush 30, 2) := by decide +kernel
theorem d4_22 : decode prog_15_method_2_code 22 = .ok (.lushr, 1) := by decide +kernel
theorem d4_23 : decode prog_15_method_2_code 23 = .ok (.lxor, 1) := by decide +kernel
theorem d4_24 : decode prog_15_method_2_code 24 = .ok (.ldc2_w 15, 3) := by decide +kernel
theorem d4_27 : decode prog_15_method_2_code 27 = .ok (.lmul, 1) := by decide +kernel
theorem d4_28 : decode prog_15_method_2_code 28 = .ok (.lstore_n 1, 1) := by decide +kernel
theorem d4_29 : decode prog_15_method_2_code 29 = .ok (.lload_n 1, 1) := by decide +kernel
theorem d4_30 : decode prog_15_method_2_code 30 = .ok (.lload_n 1, 1) := by decide +kernel
theorem d4_31 : decode prog_15_method_2_code 31 = .ok (.bipush 27, 2) := by decide +kernel
theorem d4_33 : decode prog_15_method_2_code 33 = .ok (.lushr, 1) := by decide +kernel
theorem d4_34 : decode prog_15_method_2_code 34 = .ok (.lxor, 1) := by decide +kernel
theorem d4_35 : decode prog_15_method_2_code 35 = .ok (.ldc2_w 17, 3) := by decide +kernel
theorem d4_38 : decode prog_15_method_2_code 38 = .ok (.lmul, 1) := by decide +kernel
theorem d4_39 : decode prog_15_method_2_code 39 = .ok (.lstore_n 1, 1) := by decide +kernel
theorem d4_40 : decode prog_15_method_2_code 40 = .ok (.lload_n 1, 1) := by decide +kernel
theorem d4_41 : decode prog_15_method_2_code 41 = .ok (.lload_n 1, 1) := by decide +kernel
theorem d4_42 : decode prog_15_method_2_code 42 = .ok (.bipush 31, 2) := by decide +kernel
theorem d4_44 : decode prog_15_method_2_code 44 = .ok (.lushr, 1) := by decide +kernel
theorem d4_45 : decode prog_15_method_2_code 45 = .ok (.lxor, 1) := by decide +kernel
theorem d4_46 : decode prog_15_method_2_code 46 = .ok (.lreturn, 1) := by decide +kernel
theorem pn_4 : plainName "com/example/sitebound/sitebound/model/RandomStream" = true := by first | (simp [plainName, overriddenIn]; done) | decide +kernel
theorem ef_4 (m : MethodId) (pr0 : Addr) : entryFrame m #[(.ref pr0)] 3 = mkF m 0 #[.val (.ref pr0), .unset, .unset] [] := by first | (simp [entryFrame, mkF, argsToLocals, Value.category]; done) | rfl
def Q4 (Z : State) (pr0 : Addr) (w_state_pr0 : Int64) (h0 : Heap) (n0 : Nat) (v : Option Value) (h : Heap) (L : List Loc) : Prop := v = some (.long (own_nl w_state_pr0)) ∧ Fr n0 L ∧ Keep h0 h [pr0] ∧ Exa Z h pr0 "com/example/sitebound/sitebound/model/RandomStream" ∧ Fld Z h pr0 "com/example/sitebound/sitebound/model/RandomStream" "state" "J" (.long (w_state_pr0 + (-7046029254386353131 : Int64)))
set_option maxRecDepth 65536 in
set_option maxHeartbeats 40000000 in
theorem rm4 (l : Launch) (Z : State) (a0 : Array Value) (hw : ∀ d ∈ tables_1, d.before a0 Z = true) (ws : List Jvm.Cond) (pr0 : Addr) (w_state_pr0 : Int64) (h0 : Heap) (n0 : Nat) (Z0 : n0 ≤ h0.size) (O0 : Old Z n0 h0) (F_state_pr0 : Fld Z h0 pr0 "com/example/sitebound/sitebound/model/RandomStream" "state" "J" (.long w_state_pr0)) (E_pr0 : Exa Z h0 pr0 "com/example/sitebound/sitebound/model/RandomStream") (g_pr0 : n0 ≤ pr0) :
    MetFree l (⟨"com/example/sitebound/sitebound/model/RandomStream", "nextLong", "()J"⟩ : MethodName) (head1 (Jvm.Cond.code (⟨"com/example/sitebound/sitebound/model/RandomStream", "nextLong", "()J"⟩ : MethodName) prog_15_method_2_code 3 (some .long) :: ws) ({ frames := 0, cells := 0, slots := 0, locals := 0 } : Room)) (fun a U => a = #[(.ref pr0)] ∧ Z.Warmed39 U.vm ∧ U.heap = h0) (fun _ _ _ _ _ => True) (fun _ U o U' => ∃ v L, o = .returned v ∧ Q4 Z pr0 w_state_pr0 h0 n0 v U'.heap L ∧ FrameEnd U o U' L ({ frames := 0, cells := 0, slots := 0, locals := 0 } : Room).cells ({ frames := 0, cells := 0, slots := 0, locals := 0 } : Room).slots) := by
  refine MetFree.of_bodySF (plainFor_of_name pn_4) hisR ?_
  intro p e s m args below meth c s₁ Bd hml0 hP hK
  obtain ⟨rfl, hZ, hh⟩ := hP
  have hx := Bd.exec
  have hby := Bd.bytes
  have hml : c.maxLocals = 3 := hml0
  have hown : s.vm.findClass "com/example/sitebound/sitebound/model/RandomStream" = some m.cls := findClass_of_methodNamed Bd.named
  have hnm := (name_of_methodNamed Bd.named Bd.method).1
  have X0 : Stand p l e ({ frames := 0, cells := 0, slots := 0, locals := 0 } : Room) s m #[(.ref pr0)] below meth c s₁ [] 0 0 := Stand.of_body Bd
  have e0 : s₁.heap = h0 := by rw [← hh, Bd.state]; rfl
  have N0 := Fr.nil n0
  have pre0 : ∀ t, Steps p.tables e below (s₁.setTop (mkF m 0 #[.val (.ref pr0), .unset, .unset] [])) t → Steps p.tables e below (s₁.setTop (entryFrame m #[(.ref pr0)] 3)) t := fun t k => castTop (ef_4 m pr0) k
  obtain ⟨T1, X1, e1, st1⟩ := getF X0 hx hZ hown (host := "") (Or.inl (hw _ (List.mem_of_getElem? (i := 9) rfl))) Via.refl e0 F_state_pr0 (g := (mkF m 2 #[.val (.ref pr0), .unset, .unset] [(.ref pr0), (.ref pr0)])) rfl rfl (hb hby d4_2)
  obtain ⟨T2, h2, X2, e2, W2, st2⟩ := putF X1 hx hZ hown (host := "") (Or.inl (hw _ (List.mem_of_getElem? (i := 9) rfl))) Via.refl e1 F_state_pr0 E_pr0 (Or.inl (hw _ (List.mem_of_getElem? (i := 10) rfl))) (hw _ (List.mem_of_getElem? (i := 1) rfl)) (ty := .long) (by decide) rfl rfl (g := (mkF m 9 #[.val (.ref pr0), .unset, .unset] [(.long (w_state_pr0 + (-7046029254386353131 : Int64))), (.ref pr0)])) rfl rfl (hb hby d4_9)
  have Fw2 := F_state_pr0.same W2
  have N2 := Fr.snoc X2 N0 g_pr0
  obtain ⟨T3, X3, e3, st3⟩ := getF X2 hx hZ hown (host := "") (Or.inl (hw _ (List.mem_of_getElem? (i := 9) rfl))) Via.refl e2 Fw2 (g := (mkF m 13 #[.val (.ref pr0), .unset, .unset] [(.ref pr0)])) rfl rfl (hb hby d4_13)
  obtain ⟨T4, X4, e4, st4⟩ := getF X3 hx hZ hown (host := "") (Or.inl (hw _ (List.mem_of_getElem? (i := 9) rfl))) Via.refl e3 Fw2 (g := (mkF m 17 #[.val (.ref pr0), .unset, .unset] [(.ref pr0), (.long (w_state_pr0 + (-7046029254386353131 : Int64)))])) rfl rfl (hb hby d4_17)
  have k5 : Keep h0 h2 [pr0] := (Keep.refl h0 [pr0]).wr W2 (Or.inl (List.mem_of_getElem? (i := 0) rfl))
  have f6 := E_pr0.wr W2
  obtain ⟨fs, hr, hrun, hended, hW, hsame⟩ := X4.leave (v := some (.long (own_nl w_state_pr0))) (fun h => by rw [Bd.returns] at h; cases h) (by first | exact BodyLoose.notSynchronized Bd | exact Body.notSynchronized Bd)
  refine ⟨_, _, pre0 _ ?_, hrun, hended, _, _, rfl, ?_, ⟨_, rfl⟩, hW, hsame.mono (by decide) (by decide)⟩
  · show Steps p.tables e below (s₁.setTop (mkF m 0 #[.val (.ref pr0), .unset, .unset] [])) _
    refine XS.aloadN X0.here hx rfl (hb hby d4_0) rfl rfl ?_
    show Steps p.tables e below (s₁.setTop (mkF m 1 #[.val (.ref pr0), .unset, .unset] [(.ref pr0)])) _
    refine XS.dup X0.here hx rfl (hb hby d4_1) rfl rfl ?_
    show Steps p.tables e below (s₁.setTop (mkF m 2 #[.val (.ref pr0), .unset, .unset] [(.ref pr0), (.ref pr0)])) _
    refine st1 _ ?_
    show Steps p.tables e below (T1.setTop (mkF m 5 #[.val (.ref pr0), .unset, .unset] [(.long w_state_pr0), (.ref pr0)])) _
    refine X1.ldc2Long hx hown (mvT hZ (hw _ (List.mem_of_getElem? (i := 21) rfl))) (g := (mkF m 5 #[.val (.ref pr0), .unset, .unset] [(.long w_state_pr0), (.ref pr0)])) rfl (hb hby d4_5) _ ?_
    show Steps p.tables e below (T1.setTop (mkF m 8 #[.val (.ref pr0), .unset, .unset] [(.long (-7046029254386353131 : Int64)), (.long w_state_pr0), (.ref pr0)])) _
    refine XS.ladd X1.here hx rfl (hb hby d4_8) rfl ?_
    show Steps p.tables e below (T1.setTop (mkF m 9 #[.val (.ref pr0), .unset, .unset] [(.long (w_state_pr0 + (-7046029254386353131 : Int64))), (.ref pr0)])) _
    refine st2 _ ?_
    show Steps p.tables e below (T2.setTop (mkF m 12 #[.val (.ref pr0), .unset, .unset] [])) _
    refine XS.aloadN X2.here hx rfl (hb hby d4_12) rfl rfl ?_
    show Steps p.tables e below (T2.setTop (mkF m 13 #[.val (.ref pr0), .unset, .unset] [(.ref pr0)])) _
    refine st3 _ ?_
    show Steps p.tables e below (T3.setTop (mkF m 16 #[.val (.ref pr0), .unset, .unset] [(.long (w_state_pr0 + (-7046029254386353131 : Int64)))])) _
    refine XS.aloadN X3.here hx rfl (hb hby d4_16) rfl rfl ?_
    show Steps p.tables e below (T3.setTop (mkF m 17 #[.val (.ref pr0), .unset, .unset] [(.ref pr0), (.long (w_state_pr0 + (-7046029254386353131 : Int64)))])) _
    refine st4 _ ?_
    show Steps p.tables e below (T4.setTop (mkF m 20 #[.val (.ref pr0), .unset, .unset] [(.long (w_state_pr0 + (-7046029254386353131 : Int64))), (.long (w_state_pr0 + (-7046029254386353131 : Int64)))])) _
    refine XS.bipush X4.here hx rfl (hb hby d4_20) ?_
    show Steps p.tables e below (T4.setTop (mkF m 22 #[.val (.ref pr0), .unset, .unset] [(.int (30 : Int32)), (.long (w_state_pr0 + (-7046029254386353131 : Int64))), (.long (w_state_pr0 + (-7046029254386353131 : Int64)))])) _
    refine XS.lushr X4.here hx rfl (hb hby d4_22) rfl ?_
    show Steps p.tables e below (T4.setTop (mkF m 23 #[.val (.ref pr0), .unset, .unset] [(.long (((w_state_pr0 + (-7046029254386353131 : Int64)).toUInt64 >>> ((30 : Int32) &&& 0x3f).toInt64.toUInt64).toInt64)), (.long (w_state_pr0 + (-7046029254386353131 : Int64)))])) _
    refine XS.lxor X4.here hx rfl (hb hby d4_23) rfl ?_
    show Steps p.tables e below (T4.setTop (mkF m 24 #[.val (.ref pr0), .unset, .unset] [(.long ((w_state_pr0 + (-7046029254386353131 : Int64)) ^^^ (((w_state_pr0 + (-7046029254386353131 : Int64)).toUInt64 >>> ((30 : Int32) &&& 0x3f).toInt64.toUInt64).toInt64)))])) _
    refine X4.ldc2Long hx hown (mvT hZ (hw _ (List.mem_of_getElem? (i := 22) rfl))) (g := (mkF m 24 #[.val (.ref pr0), .unset, .unset] [(.long ((w_state_pr0 + (-7046029254386353131 : Int64)) ^^^ (((w_state_pr0 + (-7046029254386353131 : Int64)).toUInt64 >>> ((30 : Int32) &&& 0x3f).toInt64.toUInt64).toInt64)))])) rfl (hb hby d4_24) _ ?_
    show Steps p.tables e below (T4.setTop (mkF m 27 #[.val (.ref pr0), .unset, .unset] [(.long (-4658895280553007687 : Int64)), (.long ((w_state_pr0 + (-7046029254386353131 : Int64)) ^^^ (((w_state_pr0 + (-7046029254386353131 : Int64)).toUInt64 >>> ((30 : Int32) &&& 0x3f).toInt64.toUInt64).toInt64)))])) _
    refine XS.lmul X4.here hx rfl (hb hby d4_27) rfl ?_
    show Steps p.tables e below (T4.setTop (mkF m 28 #[.val (.ref pr0), .unset, .unset] [(.long (((w_state_pr0 + (-7046029254386353131 : Int64)) ^^^ (((w_state_pr0 + (-7046029254386353131 : Int64)).toUInt64 >>> ((30 : Int32) &&& 0x3f).toInt64.toUInt64).toInt64)) * (-4658895280553007687 : Int64)))])) _
    refine XS.lstoreN X4.here hx rfl (hb hby d4_28) rfl (l' := #[.val (.ref pr0), .val (.long (((w_state_pr0 + (-7046029254386353131 : Int64)) ^^^ (((w_state_pr0 + (-7046029254386353131 : Int64)).toUInt64 >>> ((30 : Int32) &&& 0x3f).toInt64.toUInt64).toInt64)) * (-4658895280553007687 : Int64))), .second]) rfl ?_
    show Steps p.tables e below (T4.setTop (mkF m 29 #[.val (.ref pr0), .val (.long (own_s1 w_state_pr0)), .second] [])) _
    refine XS.lloadN X4.here hx rfl (hb hby d4_29) rfl ?_
    show Steps p.tables e below (T4.setTop (mkF m 30 #[.val (.ref pr0), .val (.long (own_s1 w_state_pr0)), .second] [(.long (own_s1 w_state_pr0))])) _
    refine XS.lloadN X4.here hx rfl (hb hby d4_30) rfl ?_
    show Steps p.tables e below (T4.setTop (mkF m 31 #[.val (.ref pr0), .val (.long (own_s1 w_state_pr0)), .second] [(.long (own_s1 w_state_pr0)), (.long (own_s1 w_state_pr0))])) _
    refine XS.bipush X4.here hx rfl (hb hby d4_31) ?_
    show Steps p.tables e below (T4.setTop (mkF m 33 #[.val (.ref pr0), .val (.long (own_s1 w_state_pr0)), .second] [(.int (27 : Int32)), (.long (own_s1 w_state_pr0)), (.long (own_s1 w_state_pr0))])) _
    refine XS.lushr X4.here hx rfl (hb hby d4_33) rfl ?_
    show Steps p.tables e below (T4.setTop (mkF m 34 #[.val (.ref pr0), .val (.long (own_s1 w_state_pr0)), .second] [(.long (((own_s1 w_state_pr0).toUInt64 >>> ((27 : Int32) &&& 0x3f).toInt64.toUInt64).toInt64)), (.long (own_s1 w_state_pr0))])) _
    refine XS.lxor X4.here hx rfl (hb hby d4_34) rfl ?_
    show Steps p.tables e below (T4.setTop (mkF m 35 #[.val (.ref pr0), .val (.long (own_s1 w_state_pr0)), .second] [(.long ((own_s1 w_state_pr0) ^^^ (((own_s1 w_state_pr0).toUInt64 >>> ((27 : Int32) &&& 0x3f).toInt64.toUInt64).toInt64)))])) _
    refine X4.ldc2Long hx hown (mvT hZ (hw _ (List.mem_of_getElem? (i := 23) rfl))) (g := (mkF m 35 #[.val (.ref pr0), .val (.long (own_s1 w_state_pr0)), .second] [(.long ((own_s1 w_state_pr0) ^^^ (((own_s1 w_state_pr0).toUInt64 >>> ((27 : Int32) &&& 0x3f).toInt64.toUInt64).toInt64)))])) rfl (hb hby d4_35) _ ?_
    show Steps p.tables e below (T4.setTop (mkF m 38 #[.val (.ref pr0), .val (.long (own_s1 w_state_pr0)), .second] [(.long (-7723592293110705685 : Int64)), (.long ((own_s1 w_state_pr0) ^^^ (((own_s1 w_state_pr0).toUInt64 >>> ((27 : Int32) &&& 0x3f).toInt64.toUInt64).toInt64)))])) _
    refine XS.lmul X4.here hx rfl (hb hby d4_38) rfl ?_
    show Steps p.tables e below (T4.setTop (mkF m 39 #[.val (.ref pr0), .val (.long (own_s1 w_state_pr0)), .second] [(.long (((own_s1 w_state_pr0) ^^^ (((own_s1 w_state_pr0).toUInt64 >>> ((27 : Int32) &&& 0x3f).toInt64.toUInt64).toInt64)) * (-7723592293110705685 : Int64)))])) _
    refine XS.lstoreN X4.here hx rfl (hb hby d4_39) rfl (l' := #[.val (.ref pr0), .val (.long (((own_s1 w_state_pr0) ^^^ (((own_s1 w_state_pr0).toUInt64 >>> ((27 : Int32) &&& 0x3f).toInt64.toUInt64).toInt64)) * (-7723592293110705685 : Int64))), .second]) rfl ?_
    show Steps p.tables e below (T4.setTop (mkF m 40 #[.val (.ref pr0), .val (.long (own_s2 w_state_pr0)), .second] [])) _
    refine XS.lloadN X4.here hx rfl (hb hby d4_40) rfl ?_
    show Steps p.tables e below (T4.setTop (mkF m 41 #[.val (.ref pr0), .val (.long (own_s2 w_state_pr0)), .second] [(.long (own_s2 w_state_pr0))])) _
    refine XS.lloadN X4.here hx rfl (hb hby d4_41) rfl ?_
    show Steps p.tables e below (T4.setTop (mkF m 42 #[.val (.ref pr0), .val (.long (own_s2 w_state_pr0)), .second] [(.long (own_s2 w_state_pr0)), (.long (own_s2 w_state_pr0))])) _
    refine XS.bipush X4.here hx rfl (hb hby d4_42) ?_
    show Steps p.tables e below (T4.setTop (mkF m 44 #[.val (.ref pr0), .val (.long (own_s2 w_state_pr0)), .second] [(.int (31 : Int32)), (.long (own_s2 w_state_pr0)), (.long (own_s2 w_state_pr0))])) _
    refine XS.lushr X4.here hx rfl (hb hby d4_44) rfl ?_
    show Steps p.tables e below (T4.setTop (mkF m 45 #[.val (.ref pr0), .val (.long (own_s2 w_state_pr0)), .second] [(.long (((own_s2 w_state_pr0).toUInt64 >>> ((31 : Int32) &&& 0x3f).toInt64.toUInt64).toInt64)), (.long (own_s2 w_state_pr0))])) _
    refine XS.lxor X4.here hx rfl (hb hby d4_45) rfl ?_
    show Steps p.tables e below (T4.setTop (mkF m 46 #[.val (.ref pr0), .val (.long (own_s2 w_state_pr0)), .second] [(.long (own_nl w_state_pr0))])) _
    jvm_step X4.here [X4.here.top, hx, (hb hby d4_46), X4.method', Bd.returns, narrow]
    first | (intro acts; rw [hr _ acts rfl rfl rfl]) | rw [hr _ _ rfl rfl rfl]
    exact Steps.refl _
  · show Q4 Z pr0 w_state_pr0 h0 n0 _ T4.heap _
    rw [e4]
    exact ⟨rfl, N2, k5, f6, Fw2⟩
theorem pd_3 : parseMethodDescriptor "()J" = some ⟨[], some .long⟩ := by decide +kernel
theorem d3_0 : decode prog_15_method_3_code 0 = .ok (.aload_n 0, 1) := by decide +kernel
theorem d3_1 : decode prog_15_method_3_code 1 = .ok (.invokevirtual 19, 3) := by decide +kernel
theorem d3_4 : decode prog_15_method_3_code 4 = .ok (.bipush 11, 2) := by decide +kernel
theorem d3_6 : decode prog_15_method_3_code 6 = .ok (.lushr, 1) := by decide +kernel
theorem d3_7 : decode prog_15_method_3_code 7 = .ok (.l2d, 1) := by decide +kernel
theorem d3_8 : decode prog_15_method_3_code 8 = .ok (.ldc2_w 23, 3) := by decide +kernel
theorem d3_11 : decode prog_15_method_3_code 11 = .ok (.dmul, 1) := by decide +kernel
theorem d3_12 : decode prog_15_method_3_code 12 = .ok (.dreturn, 1) := by decide +kernel
theorem pn_3 : plainName "com/example/sitebound/sitebound/model/RandomStream" = true := by first | (simp [plainName, overriddenIn]; done) | decide +kernel
theorem ef_3 (m : MethodId) (pr0 : Addr) : entryFrame m #[(.ref pr0)] 1 = mkF m 0 #[.val (.ref pr0)] [] := by first | (simp [entryFrame, mkF, argsToLocals, Value.category]; done) | rfl
def Q3 (Z : State) (pr0 : Addr) (w_state_pr0 : Int64) (h0 : Heap) (n0 : Nat) (v : Option Value) (h : Heap) (L : List Loc) : Prop := v = some (.double (own_nd w_state_pr0)) ∧ Fr n0 L ∧ Keep h0 h [pr0] ∧ Exa Z h pr0 "com/example/sitebound/sitebound/model/RandomStream" ∧ Fld Z h pr0 "com/example/sitebound/sitebound/model/RandomStream" "state" "J" (.long (w_state_pr0 + (-7046029254386353131 : Int64)))
set_option maxRecDepth 65536 in
set_option maxHeartbeats 40000000 in
theorem rm3 (l : Launch) (Z : State) (a0 : Array Value) (hw : ∀ d ∈ tables_1, d.before a0 Z = true) (ws : List Jvm.Cond) (pr0 : Addr) (w_state_pr0 : Int64) (h0 : Heap) (n0 : Nat) (Z0 : n0 ≤ h0.size) (O0 : Old Z n0 h0) (E_pr0 : Exa Z h0 pr0 "com/example/sitebound/sitebound/model/RandomStream") (F_state_pr0 : Fld Z h0 pr0 "com/example/sitebound/sitebound/model/RandomStream" "state" "J" (.long w_state_pr0)) (g_pr0 : n0 ≤ pr0) :
    MetFree l (⟨"com/example/sitebound/sitebound/model/RandomStream", "nextDouble", "()D"⟩ : MethodName) (head1 (Jvm.Cond.code (⟨"com/example/sitebound/sitebound/model/RandomStream", "nextDouble", "()D"⟩ : MethodName) prog_15_method_3_code 1 (some .double) :: ws) ({ frames := 1, cells := 0, slots := 0, locals := 14 } : Room)) (fun a U => a = #[(.ref pr0)] ∧ Z.Warmed39 U.vm ∧ U.heap = h0) (fun _ _ _ _ _ => True) (fun _ U o U' => ∃ v L, o = .returned v ∧ Q3 Z pr0 w_state_pr0 h0 n0 v U'.heap L ∧ FrameEnd U o U' L ({ frames := 1, cells := 0, slots := 0, locals := 14 } : Room).cells ({ frames := 1, cells := 0, slots := 0, locals := 14 } : Room).slots) := by
  refine MetFree.of_bodySF (plainFor_of_name pn_3) hisR ?_
  intro p e s m args below meth c s₁ Bd hml0 hP hK
  obtain ⟨rfl, hZ, hh⟩ := hP
  have hx := Bd.exec
  have hby := Bd.bytes
  have hml : c.maxLocals = 1 := hml0
  have hown : s.vm.findClass "com/example/sitebound/sitebound/model/RandomStream" = some m.cls := findClass_of_methodNamed Bd.named
  have hnm := (name_of_methodNamed Bd.named Bd.method).1
  have X0 : Stand p l e ({ frames := 1, cells := 0, slots := 0, locals := 14 } : Room) s m #[(.ref pr0)] below meth c s₁ [] 0 0 := Stand.of_body Bd
  have e0 : s₁.heap = h0 := by rw [← hh, Bd.state]; rfl
  have N0 := Fr.nil n0
  have pre0 : ∀ t, Steps p.tables e below (s₁.setTop (mkF m 0 #[.val (.ref pr0)] [])) t → Steps p.tables e below (s₁.setTop (entryFrame m #[(.ref pr0)] 1)) t := fun t k => castTop (ef_3 m pr0) k
  obtain ⟨cq1, kq1, q1a, q1b, q1c⟩ := isOf hZ e0 E_pr0
  obtain ⟨_, _, ⟨T1, L1, k1, n1⟩, -, X1, ⟨Lc1, hQ1, l1, y1, z1⟩, st1⟩ := X0.virtualBack hx (y := (⟨"com/example/sitebound/sitebound/model/RandomStream", "nextLong", "()J"⟩ : MethodName)) (z := (⟨"com/example/sitebound/sitebound/model/RandomStream", "nextLong", "()J"⟩ : MethodName)) hown (mvT hZ (hw _ (List.mem_of_getElem? (i := 16) rfl))) (mvT hZ (hw _ (List.mem_of_getElem? (i := 17) rfl))) (notFace_of_selects (args := #[]) (mvT hZ (hw _ (List.mem_of_getElem? (i := 19) rfl)))) (mvT hZ (hw _ (List.mem_of_getElem? (i := 19) rfl))) (mvT hZ (hw _ (List.mem_of_getElem? (i := 18) rfl))) (by decide) (backOf (W := 0) (rm4 l Z a0 hw [] pr0 w_state_pr0 h0 n0 Z0 O0 F_state_pr0 E_pr0 g_pr0) hZ (hw _ (List.mem_of_getElem? (i := 20) rfl)) (hw _ (List.mem_of_getElem? (i := 2) rfl)) (by decide) (by decide)) q1a q1c (g := (mkF m 1 #[.val (.ref pr0)] [(.ref pr0)])) rfl (by rw [hml]; rfl) (Steps.refl _) (argsL := []) (rest := []) (lenOf pd_3 rfl) rfl (by show 2 * 0 + _ ≤ _; exact Nat.le_of_eq rfl) (hb hby d3_1) (fun _ _ => ⟨rfl, e0, (by decide : 0 + 0 ≤ _), (by decide : 0 + 0 ≤ _)⟩)
  dsimp only [Pt.U, Pt.locs, Pt.cells, Pt.slots] at X1 l1 y1 z1 st1 hQ1
  subst l1 y1 z1
  obtain ⟨rfl, N1q, K1, qf1_0, qf1_1⟩ := hQ1
  have N1 := Fr.app N0 N1q
  have k2 : Keep h0 T1.heap [pr0] := (Keep.refl h0 [pr0]).trans K1 (allS (Or.inl (List.mem_of_getElem? (i := 0) rfl)) all0)
  obtain ⟨fs, hr, hrun, hended, hW, hsame⟩ := X1.leave (v := some (.double (own_nd w_state_pr0))) (fun h => by rw [Bd.returns] at h; cases h) (by first | exact BodyLoose.notSynchronized Bd | exact Body.notSynchronized Bd)
  refine ⟨_, _, pre0 _ ?_, hrun, hended, _, _, rfl, ?_, ⟨_, rfl⟩, hW, hsame.mono (by decide) (by decide)⟩
  · show Steps p.tables e below (s₁.setTop (mkF m 0 #[.val (.ref pr0)] [])) _
    refine XS.aloadN X0.here hx rfl (hb hby d3_0) rfl rfl ?_
    show Steps p.tables e below (s₁.setTop (mkF m 1 #[.val (.ref pr0)] [(.ref pr0)])) _
    refine st1.trans ?_
    show Steps p.tables e below (T1.setTop (mkF m 4 #[.val (.ref pr0)] [(.long (own_nl w_state_pr0))])) _
    refine XS.bipush X1.here hx rfl (hb hby d3_4) ?_
    show Steps p.tables e below (T1.setTop (mkF m 6 #[.val (.ref pr0)] [(.int (11 : Int32)), (.long (own_nl w_state_pr0))])) _
    refine XS.lushr X1.here hx rfl (hb hby d3_6) rfl ?_
    show Steps p.tables e below (T1.setTop (mkF m 7 #[.val (.ref pr0)] [(.long (((own_nl w_state_pr0).toUInt64 >>> ((11 : Int32) &&& 0x3f).toInt64.toUInt64).toInt64))])) _
    refine XS.l2dS X1.here hx rfl (hb hby d3_7) rfl rfl ?_
    show Steps p.tables e below (T1.setTop (mkF m 8 #[.val (.ref pr0)] [(.double (FP.l2d (((own_nl w_state_pr0).toUInt64 >>> ((11 : Int32) &&& 0x3f).toInt64.toUInt64).toInt64)))])) _
    refine X1.ldc2DoubleC hx hown (mvT hZ (hw _ (List.mem_of_getElem? (i := 24) rfl))) (g := (mkF m 8 #[.val (.ref pr0)] [(.double (FP.l2d (((own_nl w_state_pr0).toUInt64 >>> ((11 : Int32) &&& 0x3f).toInt64.toUInt64).toInt64)))])) rfl (hb hby d3_8) _ ?_
    show Steps p.tables e below (T1.setTop (mkF m 11 #[.val (.ref pr0)] [(.double (4368491638549381120 : UInt64)), (.double (FP.l2d (((own_nl w_state_pr0).toUInt64 >>> ((11 : Int32) &&& 0x3f).toInt64.toUInt64).toInt64)))])) _
    refine XS.dmulS X1.here hx rfl (hb hby d3_11) rfl (own_n1 _) rfl ?_
    show Steps p.tables e below (T1.setTop (mkF m 12 #[.val (.ref pr0)] [(.double (own_nd w_state_pr0))])) _
    jvm_step X1.here [X1.here.top, hx, (hb hby d3_12), X1.method', Bd.returns, narrow]
    first | (intro acts; rw [hr _ acts rfl rfl rfl]) | rw [hr _ _ rfl rfl rfl]
    exact Steps.refl _
  · show Q3 Z pr0 w_state_pr0 h0 n0 _ T1.heap _
    exact ⟨rfl, N1, k2, qf1_0, qf1_1⟩
theorem pd_0 : parseMethodDescriptor "(J)V" = some ⟨[.long], none⟩ := by decide +kernel
theorem pd_2 : parseMethodDescriptor "()D" = some ⟨[], some .double⟩ := by decide +kernel
theorem pn_0 : plainName "com/example/sitebound/sitebound/model/RandomStreamNextDoublePinLaw" = true := by first | (simp [plainName, overriddenIn]; done) | decide +kernel
theorem ef_0 (m : MethodId) (pl1 : Int64) : entryFrame m #[(.long pl1)] maxLocals = mkF m 0 #[.val (.long pl1), .second, .unset, .unset, .unset, .unset, .unset, .unset, .unset, .unset, .unset] [] := by first | (simp [entryFrame, mkF, argsToLocals, Value.category, maxLocals]; done) | rfl
def Q0 (v : Option Value) (L : List Loc) (n0 : Nat) : Prop := v = some (.int (1 : Int32)) ∧ Fr n0 L
set_option maxRecDepth 65536 in
set_option maxHeartbeats 40000000 in
theorem rm0_o (l : Launch) (Z : State) (a0 : Array Value) (hw : ∀ d ∈ tables_1, d.before a0 Z = true) (ws : List Jvm.Cond) (pl1 : Int64) (h0 : Heap) (n0 : Nat) (Z0 : n0 ≤ h0.size) (O0 : Old Z n0 h0) :
    MetFree l x (head1 (Jvm.Cond.code x code maxLocals ret :: ws) room_1) (fun a U => a = #[(.long pl1)] ∧ Z.Warmed39 U.vm ∧ U.heap = h0) (fun _ _ _ _ _ => True) (fun _ U o U' => ∃ v L, o = .returned v ∧ Q0 v L n0 ∧ FrameEnd U o U' L room_1.cells room_1.slots) := by
  refine MetFree.of_bodySF (plainFor_of_name pn_0) hisR ?_
  intro p e s m args below meth c s₁ Bd hml0 hP hK
  obtain ⟨rfl, hZ, hh⟩ := hP
  have hx := Bd.exec
  have hby := Bd.bytes
  have hml : c.maxLocals = 11 := hml0
  have hown : s.vm.findClass "com/example/sitebound/sitebound/model/RandomStreamNextDoublePinLaw" = some m.cls := findClass_of_methodNamed Bd.named
  have hnm := (name_of_methodNamed Bd.named Bd.method).1
  have X0 : Stand p l e room_1 s m #[(.long pl1)] below meth c s₁ [] 0 0 := Stand.of_body Bd
  have e0 : s₁.heap = h0 := by rw [← hh, Bd.state]; rfl
  have N0 := Fr.nil n0
  have pre0 : ∀ t, Steps p.tables e below (s₁.setTop (mkF m 0 #[.val (.long pl1), .second, .unset, .unset, .unset, .unset, .unset, .unset, .unset, .unset, .unset] [])) t → Steps p.tables e below (s₁.setTop (entryFrame m #[(.long pl1)] maxLocals)) t := fun t k => castTop (ef_0 m pl1) k
  obtain ⟨T1, h1, X1, e1, E1, A1, D1, -, st1⟩ := newO X0 hx hZ hown (hw _ (List.mem_of_getElem? (i := 0) rfl)) (hw _ (List.mem_of_getElem? (i := 1) rfl)) (hw _ (List.mem_of_getElem? (i := 2) rfl)) e0 (g := (mkF m 0 #[.val (.long pl1), .second, .unset, .unset, .unset, .unset, .unset, .unset, .unset, .unset, .unset] [])) rfl (hb hby at_0) (by decide) (by decide)
  obtain ⟨b1, g1⟩ : ∃ z, z = h0.size := ⟨_, rfl⟩
  rw [← g1] at A1 D1 st1
  have F_state_b1 : Fld Z h1 b1 "com/example/sitebound/sitebound/model/RandomStream" "state" "J" (.long (0 : Int64)) := D1 (Or.inl (hw _ (List.mem_of_getElem? (i := 10) rfl))) (ty := .long) (by decide)
  have g_b1 : n0 ≤ b1 := Nat.le_trans Z0 (Nat.le_of_eq g1.symm)
  have z3 := Nat.le_trans Z0 E1.1
  have o4 := O0.ext E1
  obtain ⟨_, _, ⟨T2, L2, k2, n2⟩, -, X2, ⟨Lc2, hQ2, l2, y2, z2⟩, st2⟩ := X1.specialBack hx (y := (⟨"com/example/sitebound/sitebound/model/RandomStream", "<init>", "(J)V"⟩ : MethodName)) rfl hown (mvT hZ (hw _ (List.mem_of_getElem? (i := 3) rfl))) (mvT hZ (hw _ (List.mem_of_getElem? (i := 4) rfl))) (mvT hZ (hw _ (List.mem_of_getElem? (i := 5) rfl))) (by decide) (backOf (W := 1) (rm1 l Z a0 hw [] b1 pl1 (.long (0 : Int64)) h1 n0 z3 o4 A1 F_state_b1 g_b1) hZ (hw _ (List.mem_of_getElem? (i := 5) rfl)) (hw _ (List.mem_of_getElem? (i := 2) rfl)) (by decide) (by decide)) (g := (mkF m 5 #[.val (.long pl1), .second, .unset, .unset, .unset, .unset, .unset, .unset, .unset, .unset, .unset] [(.long pl1), (.ref b1), (.ref b1)])) rfl (by rw [hml]; rfl) (Steps.refl _) (a := b1) (argsL := [(.long pl1)]) (rest := [(.ref b1)]) (lenOf pd_0 rfl) rfl (by show 2 * 0 + _ ≤ _; exact Nat.le_of_eq rfl) (hb hby at_5) (fun _ _ => ⟨rfl, e1, (by decide : 1 + 0 ≤ _), (by decide : 1 + 0 ≤ _)⟩)
  dsimp only [Pt.U, Pt.locs, Pt.cells, Pt.slots] at X2 l2 y2 z2 st2 hQ2
  subst l2 y2 z2
  obtain ⟨rfl, N2q, K2, qf2_0, qf2_1⟩ := hQ2
  have N2 := Fr.app N0 N2q
  obtain ⟨T5, h5, X5, e5, E5, A5, D5, -, st5⟩ := newO X2 hx hZ hown (hw _ (List.mem_of_getElem? (i := 0) rfl)) (hw _ (List.mem_of_getElem? (i := 1) rfl)) (hw _ (List.mem_of_getElem? (i := 2) rfl)) rfl (g := (mkF m 9 #[.val (.long pl1), .second, .val (.ref b1), .unset, .unset, .unset, .unset, .unset, .unset, .unset, .unset] [])) rfl (hb hby at_9) (by decide) (by decide)
  obtain ⟨b5, g5⟩ : ∃ z, z = T2.heap.size := ⟨_, rfl⟩
  rw [← g5] at A5 D5 st5
  have F_state_b5 : Fld Z h5 b5 "com/example/sitebound/sitebound/model/RandomStream" "state" "J" (.long (0 : Int64)) := D5 (Or.inl (hw _ (List.mem_of_getElem? (i := 10) rfl))) (ty := .long) (by decide)
  have z6 := Nat.le_trans z3 K2.1
  have g_b5 : n0 ≤ b5 := Nat.le_trans z6 (Nat.le_of_eq g5.symm)
  have z8 := Nat.le_trans z6 E5.1
  have o9 := o4.keep K2 (allS g_b1 all0)
  have o10 := o9.ext E5
  obtain ⟨_, _, ⟨T7, L7, k7, n7⟩, -, X7, ⟨Lc7, hQ7, l7, y7, z7⟩, st7⟩ := X5.specialBack hx (y := (⟨"com/example/sitebound/sitebound/model/RandomStream", "<init>", "(J)V"⟩ : MethodName)) rfl hown (mvT hZ (hw _ (List.mem_of_getElem? (i := 3) rfl))) (mvT hZ (hw _ (List.mem_of_getElem? (i := 4) rfl))) (mvT hZ (hw _ (List.mem_of_getElem? (i := 5) rfl))) (by decide) (backOf (W := 1) (rm1 l Z a0 hw [] b5 pl1 (.long (0 : Int64)) h5 n0 z8 o10 A5 F_state_b5 g_b5) hZ (hw _ (List.mem_of_getElem? (i := 5) rfl)) (hw _ (List.mem_of_getElem? (i := 2) rfl)) (by decide) (by decide)) (g := (mkF m 14 #[.val (.long pl1), .second, .val (.ref b1), .unset, .unset, .unset, .unset, .unset, .unset, .unset, .unset] [(.long pl1), (.ref b5), (.ref b5)])) rfl (by rw [hml]; rfl) (Steps.refl _) (a := b5) (argsL := [(.long pl1)]) (rest := [(.ref b5)]) (lenOf pd_0 rfl) rfl (by show 2 * 0 + _ ≤ _; exact Nat.le_of_eq rfl) (hb hby at_14) (fun _ _ => ⟨rfl, e5, (by decide : 2 + 0 ≤ _), (by decide : 2 + 0 ≤ _)⟩)
  dsimp only [Pt.U, Pt.locs, Pt.cells, Pt.slots] at X7 l7 y7 z7 st7 hQ7
  subst l7 y7 z7
  obtain ⟨rfl, N7q, K7, qf7_0, qf7_1⟩ := hQ7
  have N7 := Fr.app N2 N7q
  have f11 := qf2_0.ext E5
  have f12 := f11.keep K7
  have f13 := qf2_1.ext E5
  have f14 := f13.keep K7 (ninS (Nat.ne_of_lt (Nat.lt_of_lt_of_le qf2_1.lt (Nat.le_of_eq g5.symm))) nin0)
  have z16 := Nat.le_trans z8 K7.1
  have o17 := o10.keep K7 (allS g_b5 all0)
  obtain ⟨cq15, kq15, q15a, q15b, q15c⟩ := isOf hZ rfl f12
  obtain ⟨_, _, ⟨T15, L15, k15, n15⟩, -, X15, ⟨Lc15, hQ15, l15, y15, z15⟩, st15⟩ := X7.virtualBack hx (y := (⟨"com/example/sitebound/sitebound/model/RandomStream", "nextDouble", "()D"⟩ : MethodName)) (z := (⟨"com/example/sitebound/sitebound/model/RandomStream", "nextDouble", "()D"⟩ : MethodName)) hown (mvT hZ (hw _ (List.mem_of_getElem? (i := 11) rfl))) (mvT hZ (hw _ (List.mem_of_getElem? (i := 12) rfl))) (notFace_of_selects (args := #[]) (mvT hZ (hw _ (List.mem_of_getElem? (i := 14) rfl)))) (mvT hZ (hw _ (List.mem_of_getElem? (i := 14) rfl))) (mvT hZ (hw _ (List.mem_of_getElem? (i := 13) rfl))) (by decide) (backOf (W := 0) (rm3 l Z a0 hw [] b1 pl1 T7.heap n0 z16 o17 f12 f14 g_b1) hZ (hw _ (List.mem_of_getElem? (i := 15) rfl)) (hw _ (List.mem_of_getElem? (i := 2) rfl)) (by decide) (by decide)) q15a q15c (g := (mkF m 19 #[.val (.long pl1), .second, .val (.ref b1), .val (.ref b5), .unset, .unset, .unset, .unset, .unset, .unset, .unset] [(.ref b1)])) rfl (by rw [hml]; rfl) (Steps.refl _) (argsL := []) (rest := []) (lenOf pd_2 rfl) rfl (by show 2 * 0 + _ ≤ _; exact Nat.le_of_eq rfl) (hb hby at_19) (fun _ _ => ⟨rfl, rfl, (by decide : 2 + 0 ≤ _), (by decide : 2 + 0 ≤ _)⟩)
  dsimp only [Pt.U, Pt.locs, Pt.cells, Pt.slots] at X15 l15 y15 z15 st15 hQ15
  subst l15 y15 z15
  obtain ⟨rfl, N15q, K15, qf15_0, qf15_1⟩ := hQ15
  have N15 := Fr.app N7 N15q
  have f18 := qf7_1.keep K15 (ninS (Ne.symm (Nat.ne_of_lt (Nat.lt_of_lt_of_le qf2_1.lt (Nat.le_of_eq g5.symm)))) nin0)
  have f19 := qf7_0.keep K15
  have z21 := Nat.le_trans z16 K15.1
  have o22 := o17.keep K15 (allS g_b1 all0)
  obtain ⟨cq20, kq20, q20a, q20b, q20c⟩ := isOf hZ rfl f19
  obtain ⟨_, _, ⟨T20, L20, k20, n20⟩, -, X20, ⟨Lc20, hQ20, l20, y20, z20⟩, st20⟩ := X15.virtualBack hx (y := (⟨"com/example/sitebound/sitebound/model/RandomStream", "nextLong", "()J"⟩ : MethodName)) (z := (⟨"com/example/sitebound/sitebound/model/RandomStream", "nextLong", "()J"⟩ : MethodName)) hown (mvT hZ (hw _ (List.mem_of_getElem? (i := 25) rfl))) (mvT hZ (hw _ (List.mem_of_getElem? (i := 17) rfl))) (notFace_of_selects (args := #[]) (mvT hZ (hw _ (List.mem_of_getElem? (i := 19) rfl)))) (mvT hZ (hw _ (List.mem_of_getElem? (i := 19) rfl))) (mvT hZ (hw _ (List.mem_of_getElem? (i := 18) rfl))) (by decide) (backOf (W := 0) (rm4 l Z a0 hw [] b5 pl1 T15.heap n0 z21 o22 f18 f19 g_b5) hZ (hw _ (List.mem_of_getElem? (i := 20) rfl)) (hw _ (List.mem_of_getElem? (i := 2) rfl)) (by decide) (by decide)) q20a q20c (g := (mkF m 25 #[.val (.long pl1), .second, .val (.ref b1), .val (.ref b5), .val (.double (own_nd pl1)), .second, .unset, .unset, .unset, .unset, .unset] [(.ref b5)])) rfl (by rw [hml]; rfl) (Steps.refl _) (argsL := []) (rest := []) (lenOf pd_3 rfl) rfl (by show 2 * 0 + _ ≤ _; exact Nat.le_of_eq rfl) (hb hby at_25) (fun _ _ => ⟨rfl, rfl, (by decide : 2 + 0 ≤ _), (by decide : 2 + 0 ≤ _)⟩)
  dsimp only [Pt.U, Pt.locs, Pt.cells, Pt.slots] at X20 l20 y20 z20 st20 hQ20
  subst l20 y20 z20
  obtain ⟨rfl, N20q, K20, qf20_0, qf20_1⟩ := hQ20
  have N20 := Fr.app N15 N20q
  have f23 := qf15_1.keep K20 (ninS (Nat.ne_of_lt (Nat.lt_of_lt_of_le qf2_1.lt (Nat.le_of_eq g5.symm))) nin0)
  have f24 := qf15_0.keep K20
  have z26 := Nat.le_trans z21 K20.1
  have o27 := o22.keep K20 (allS g_b5 all0)
  obtain ⟨cq25, kq25, q25a, q25b, q25c⟩ := isOf hZ rfl f24
  obtain ⟨_, _, ⟨T25, L25, k25, n25⟩, -, X25, ⟨Lc25, hQ25, l25, y25, z25⟩, st25⟩ := X20.virtualBack hx (y := (⟨"com/example/sitebound/sitebound/model/RandomStream", "nextLong", "()J"⟩ : MethodName)) (z := (⟨"com/example/sitebound/sitebound/model/RandomStream", "nextLong", "()J"⟩ : MethodName)) hown (mvT hZ (hw _ (List.mem_of_getElem? (i := 25) rfl))) (mvT hZ (hw _ (List.mem_of_getElem? (i := 17) rfl))) (notFace_of_selects (args := #[]) (mvT hZ (hw _ (List.mem_of_getElem? (i := 19) rfl)))) (mvT hZ (hw _ (List.mem_of_getElem? (i := 19) rfl))) (mvT hZ (hw _ (List.mem_of_getElem? (i := 18) rfl))) (by decide) (backOf (W := 0) (rm4 l Z a0 hw [] b1 (pl1 + (-7046029254386353131 : Int64)) T20.heap n0 z26 o27 f23 f24 g_b1) hZ (hw _ (List.mem_of_getElem? (i := 20) rfl)) (hw _ (List.mem_of_getElem? (i := 2) rfl)) (by decide) (by decide)) q25a q25c (g := (mkF m 75 #[.val (.long pl1), .second, .val (.ref b1), .val (.ref b5), .val (.double (own_nd pl1)), .second, .val (.long (((own_nl pl1).toUInt64 >>> ((11 : Int32) &&& 0x3f).toInt64.toUInt64).toInt64)), .second, .val (.int (1 : Int32)), .val (.int (1 : Int32)), .unset] [(.ref b1)])) rfl (by rw [hml]; rfl) (Steps.refl _) (argsL := []) (rest := []) (lenOf pd_3 rfl) rfl (by show 2 * 0 + _ ≤ _; exact Nat.le_of_eq rfl) (hb hby at_75) (fun _ _ => ⟨rfl, rfl, (by decide : 2 + 0 ≤ _), (by decide : 2 + 0 ≤ _)⟩)
  dsimp only [Pt.U, Pt.locs, Pt.cells, Pt.slots] at X25 l25 y25 z25 st25 hQ25
  subst l25 y25 z25
  obtain ⟨rfl, N25q, K25, qf25_0, qf25_1⟩ := hQ25
  have N25 := Fr.app N20 N25q
  have f28 := qf20_1.keep K25 (ninS (Ne.symm (Nat.ne_of_lt (Nat.lt_of_lt_of_le qf2_1.lt (Nat.le_of_eq g5.symm)))) nin0)
  have f29 := qf20_0.keep K25
  have z31 := Nat.le_trans z26 K25.1
  have o32 := o27.keep K25 (allS g_b1 all0)
  obtain ⟨cq30, kq30, q30a, q30b, q30c⟩ := isOf hZ rfl f29
  obtain ⟨_, _, ⟨T30, L30, k30, n30⟩, -, X30, ⟨Lc30, hQ30, l30, y30, z30⟩, st30⟩ := X25.virtualBack hx (y := (⟨"com/example/sitebound/sitebound/model/RandomStream", "nextLong", "()J"⟩ : MethodName)) (z := (⟨"com/example/sitebound/sitebound/model/RandomStream", "nextLong", "()J"⟩ : MethodName)) hown (mvT hZ (hw _ (List.mem_of_getElem? (i := 25) rfl))) (mvT hZ (hw _ (List.mem_of_getElem? (i := 17) rfl))) (notFace_of_selects (args := #[]) (mvT hZ (hw _ (List.mem_of_getElem? (i := 19) rfl)))) (mvT hZ (hw _ (List.mem_of_getElem? (i := 19) rfl))) (mvT hZ (hw _ (List.mem_of_getElem? (i := 18) rfl))) (by decide) (backOf (W := 2) (rm4 l Z a0 hw [] b5 (pl1 + (-7046029254386353131 : Int64)) T25.heap n0 z31 o32 f28 f29 g_b5) hZ (hw _ (List.mem_of_getElem? (i := 20) rfl)) (hw _ (List.mem_of_getElem? (i := 2) rfl)) (by decide) (by decide)) q30a q30c (g := (mkF m 79 #[.val (.long pl1), .second, .val (.ref b1), .val (.ref b5), .val (.double (own_nd pl1)), .second, .val (.long (((own_nl pl1).toUInt64 >>> ((11 : Int32) &&& 0x3f).toInt64.toUInt64).toInt64)), .second, .val (.int (1 : Int32)), .val (.int (1 : Int32)), .unset] [(.ref b5), (.long (own_nl (pl1 + (-7046029254386353131 : Int64))))])) rfl (by rw [hml]; rfl) (Steps.refl _) (argsL := []) (rest := [(.long (own_nl (pl1 + (-7046029254386353131 : Int64))))]) (lenOf pd_3 rfl) rfl (by show 2 * 0 + _ ≤ _; exact Nat.le_of_eq rfl) (hb hby at_79) (fun _ _ => ⟨rfl, rfl, (by decide : 2 + 0 ≤ _), (by decide : 2 + 0 ≤ _)⟩)
  dsimp only [Pt.U, Pt.locs, Pt.cells, Pt.slots] at X30 l30 y30 z30 st30 hQ30
  subst l30 y30 z30
  obtain ⟨rfl, N30q, K30, qf30_0, qf30_1⟩ := hQ30
  have N30 := Fr.app N25 N30q
  obtain ⟨fs, hr, hrun, hended, hW, hsame⟩ := X30.leave (v := some (.int (1 : Int32))) (fun h => by rw [Bd.returns] at h; cases h) (by first | exact BodyLoose.notSynchronized Bd | exact Body.notSynchronized Bd)
  refine ⟨_, _, pre0 _ ?_, hrun, hended, _, _, rfl, ?_, ⟨_, rfl⟩, hW, hsame.mono (by decide) (by decide)⟩
  · show Steps p.tables e below (s₁.setTop (mkF m 0 #[.val (.long pl1), .second, .unset, .unset, .unset, .unset, .unset, .unset, .unset, .unset, .unset] [])) _
    refine st1 _ ?_
    show Steps p.tables e below (T1.setTop (mkF m 3 #[.val (.long pl1), .second, .unset, .unset, .unset, .unset, .unset, .unset, .unset, .unset, .unset] [(.ref b1)])) _
    refine XS.dup X1.here hx rfl (hb hby at_3) rfl rfl ?_
    show Steps p.tables e below (T1.setTop (mkF m 4 #[.val (.long pl1), .second, .unset, .unset, .unset, .unset, .unset, .unset, .unset, .unset, .unset] [(.ref b1), (.ref b1)])) _
    refine XS.lloadN X1.here hx rfl (hb hby at_4) rfl ?_
    show Steps p.tables e below (T1.setTop (mkF m 5 #[.val (.long pl1), .second, .unset, .unset, .unset, .unset, .unset, .unset, .unset, .unset, .unset] [(.long pl1), (.ref b1), (.ref b1)])) _
    refine st2.trans ?_
    show Steps p.tables e below (T2.setTop (mkF m 8 #[.val (.long pl1), .second, .unset, .unset, .unset, .unset, .unset, .unset, .unset, .unset, .unset] [(.ref b1)])) _
    refine XS.astoreN X2.here hx rfl (hb hby at_8) rfl rfl (l' := #[.val (.long pl1), .second, .val (.ref b1), .unset, .unset, .unset, .unset, .unset, .unset, .unset, .unset]) rfl ?_
    show Steps p.tables e below (T2.setTop (mkF m 9 #[.val (.long pl1), .second, .val (.ref b1), .unset, .unset, .unset, .unset, .unset, .unset, .unset, .unset] [])) _
    refine st5 _ ?_
    show Steps p.tables e below (T5.setTop (mkF m 12 #[.val (.long pl1), .second, .val (.ref b1), .unset, .unset, .unset, .unset, .unset, .unset, .unset, .unset] [(.ref b5)])) _
    refine XS.dup X5.here hx rfl (hb hby at_12) rfl rfl ?_
    show Steps p.tables e below (T5.setTop (mkF m 13 #[.val (.long pl1), .second, .val (.ref b1), .unset, .unset, .unset, .unset, .unset, .unset, .unset, .unset] [(.ref b5), (.ref b5)])) _
    refine XS.lloadN X5.here hx rfl (hb hby at_13) rfl ?_
    show Steps p.tables e below (T5.setTop (mkF m 14 #[.val (.long pl1), .second, .val (.ref b1), .unset, .unset, .unset, .unset, .unset, .unset, .unset, .unset] [(.long pl1), (.ref b5), (.ref b5)])) _
    refine st7.trans ?_
    show Steps p.tables e below (T7.setTop (mkF m 17 #[.val (.long pl1), .second, .val (.ref b1), .unset, .unset, .unset, .unset, .unset, .unset, .unset, .unset] [(.ref b5)])) _
    refine XS.astoreN X7.here hx rfl (hb hby at_17) rfl rfl (l' := #[.val (.long pl1), .second, .val (.ref b1), .val (.ref b5), .unset, .unset, .unset, .unset, .unset, .unset, .unset]) rfl ?_
    show Steps p.tables e below (T7.setTop (mkF m 18 #[.val (.long pl1), .second, .val (.ref b1), .val (.ref b5), .unset, .unset, .unset, .unset, .unset, .unset, .unset] [])) _
    refine XS.aloadN X7.here hx rfl (hb hby at_18) rfl rfl ?_
    show Steps p.tables e below (T7.setTop (mkF m 19 #[.val (.long pl1), .second, .val (.ref b1), .val (.ref b5), .unset, .unset, .unset, .unset, .unset, .unset, .unset] [(.ref b1)])) _
    refine st15.trans ?_
    show Steps p.tables e below (T15.setTop (mkF m 22 #[.val (.long pl1), .second, .val (.ref b1), .val (.ref b5), .unset, .unset, .unset, .unset, .unset, .unset, .unset] [(.double (own_nd pl1))])) _
    refine XS.dstore X15.here hx rfl (hb hby at_22) rfl (l' := #[.val (.long pl1), .second, .val (.ref b1), .val (.ref b5), .val (.double (own_nd pl1)), .second, .unset, .unset, .unset, .unset, .unset]) rfl ?_
    show Steps p.tables e below (T15.setTop (mkF m 24 #[.val (.long pl1), .second, .val (.ref b1), .val (.ref b5), .val (.double (own_nd pl1)), .second, .unset, .unset, .unset, .unset, .unset] [])) _
    refine XS.aloadN X15.here hx rfl (hb hby at_24) rfl rfl ?_
    show Steps p.tables e below (T15.setTop (mkF m 25 #[.val (.long pl1), .second, .val (.ref b1), .val (.ref b5), .val (.double (own_nd pl1)), .second, .unset, .unset, .unset, .unset, .unset] [(.ref b5)])) _
    refine st20.trans ?_
    show Steps p.tables e below (T20.setTop (mkF m 28 #[.val (.long pl1), .second, .val (.ref b1), .val (.ref b5), .val (.double (own_nd pl1)), .second, .unset, .unset, .unset, .unset, .unset] [(.long (own_nl pl1))])) _
    refine XS.bipush X20.here hx rfl (hb hby at_28) ?_
    show Steps p.tables e below (T20.setTop (mkF m 30 #[.val (.long pl1), .second, .val (.ref b1), .val (.ref b5), .val (.double (own_nd pl1)), .second, .unset, .unset, .unset, .unset, .unset] [(.int (11 : Int32)), (.long (own_nl pl1))])) _
    refine XS.lushr X20.here hx rfl (hb hby at_30) rfl ?_
    show Steps p.tables e below (T20.setTop (mkF m 31 #[.val (.long pl1), .second, .val (.ref b1), .val (.ref b5), .val (.double (own_nd pl1)), .second, .unset, .unset, .unset, .unset, .unset] [(.long (((own_nl pl1).toUInt64 >>> ((11 : Int32) &&& 0x3f).toInt64.toUInt64).toInt64))])) _
    refine XS.lstore X20.here hx rfl (hb hby at_31) rfl (l' := #[.val (.long pl1), .second, .val (.ref b1), .val (.ref b5), .val (.double (own_nd pl1)), .second, .val (.long (((own_nl pl1).toUInt64 >>> ((11 : Int32) &&& 0x3f).toInt64.toUInt64).toInt64)), .second, .unset, .unset, .unset]) rfl ?_
    show Steps p.tables e below (T20.setTop (mkF m 33 #[.val (.long pl1), .second, .val (.ref b1), .val (.ref b5), .val (.double (own_nd pl1)), .second, .val (.long (((own_nl pl1).toUInt64 >>> ((11 : Int32) &&& 0x3f).toInt64.toUInt64).toInt64)), .second, .unset, .unset, .unset] [])) _
    refine XS.dconst0 X20.here hx rfl (hb hby at_33) rfl ?_
    show Steps p.tables e below (T20.setTop (mkF m 34 #[.val (.long pl1), .second, .val (.ref b1), .val (.ref b5), .val (.double (own_nd pl1)), .second, .val (.long (((own_nl pl1).toUInt64 >>> ((11 : Int32) &&& 0x3f).toInt64.toUInt64).toInt64)), .second, .unset, .unset, .unset] [(.double FP.dconst0)])) _
    refine XS.dload X20.here hx rfl (hb hby at_34) rfl ?_
    show Steps p.tables e below (T20.setTop (mkF m 36 #[.val (.long pl1), .second, .val (.ref b1), .val (.ref b5), .val (.double (own_nd pl1)), .second, .val (.long (((own_nl pl1).toUInt64 >>> ((11 : Int32) &&& 0x3f).toInt64.toUInt64).toInt64)), .second, .unset, .unset, .unset] [(.double (own_nd pl1)), (.double FP.dconst0)])) _
    refine XS.dcmpS X20.here hx rfl (hb hby at_36) rfl rfl ?_
    show Steps p.tables e below (T20.setTop (mkF m 37 #[.val (.long pl1), .second, .val (.ref b1), .val (.ref b5), .val (.double (own_nd pl1)), .second, .val (.long (((own_nl pl1).toUInt64 >>> ((11 : Int32) &&& 0x3f).toInt64.toUInt64).toInt64)), .second, .unset, .unset, .unset] [(.int (cmpValue (FP.dcmp FP.dconst0 (own_nd pl1)) .g))])) _
    refine XS.ifNo X20.here hx rfl (hb hby at_37) rfl ((if0 _ _).trans (flt (own_k0 _)).2.2.1) ?_
    show Steps p.tables e below (T20.setTop (mkF m 40 #[.val (.long pl1), .second, .val (.ref b1), .val (.ref b5), .val (.double (own_nd pl1)), .second, .val (.long (((own_nl pl1).toUInt64 >>> ((11 : Int32) &&& 0x3f).toInt64.toUInt64).toInt64)), .second, .unset, .unset, .unset] [])) _
    refine XS.dload X20.here hx rfl (hb hby at_40) rfl ?_
    show Steps p.tables e below (T20.setTop (mkF m 42 #[.val (.long pl1), .second, .val (.ref b1), .val (.ref b5), .val (.double (own_nd pl1)), .second, .val (.long (((own_nl pl1).toUInt64 >>> ((11 : Int32) &&& 0x3f).toInt64.toUInt64).toInt64)), .second, .unset, .unset, .unset] [(.double (own_nd pl1))])) _
    refine XS.dconst1 X20.here hx rfl (hb hby at_42) rfl ?_
    show Steps p.tables e below (T20.setTop (mkF m 43 #[.val (.long pl1), .second, .val (.ref b1), .val (.ref b5), .val (.double (own_nd pl1)), .second, .val (.long (((own_nl pl1).toUInt64 >>> ((11 : Int32) &&& 0x3f).toInt64.toUInt64).toInt64)), .second, .unset, .unset, .unset] [(.double FP.dconst1), (.double (own_nd pl1))])) _
    refine XS.dcmpS X20.here hx rfl (hb hby at_43) rfl rfl ?_
    show Steps p.tables e below (T20.setTop (mkF m 44 #[.val (.long pl1), .second, .val (.ref b1), .val (.ref b5), .val (.double (own_nd pl1)), .second, .val (.long (((own_nl pl1).toUInt64 >>> ((11 : Int32) &&& 0x3f).toInt64.toUInt64).toInt64)), .second, .unset, .unset, .unset] [(.int (cmpValue (FP.dcmp (own_nd pl1) FP.dconst1) .g))])) _
    refine XS.ifNo X20.here hx rfl (hb hby at_44) rfl ((if0 _ _).trans (tlt (own_k1 _)).2.1) ?_
    show Steps p.tables e below (T20.setTop (mkF m 47 #[.val (.long pl1), .second, .val (.ref b1), .val (.ref b5), .val (.double (own_nd pl1)), .second, .val (.long (((own_nl pl1).toUInt64 >>> ((11 : Int32) &&& 0x3f).toInt64.toUInt64).toInt64)), .second, .unset, .unset, .unset] [])) _
    refine XS.iconst X20.here hx rfl (hb hby at_47) ?_
    show Steps p.tables e below (T20.setTop (mkF m 48 #[.val (.long pl1), .second, .val (.ref b1), .val (.ref b5), .val (.double (own_nd pl1)), .second, .val (.long (((own_nl pl1).toUInt64 >>> ((11 : Int32) &&& 0x3f).toInt64.toUInt64).toInt64)), .second, .unset, .unset, .unset] [(.int (1 : Int32))])) _
    refine XS.goto X20.here hx rfl (pc0 := 48) (pc' := 52) rfl (hb hby at_48) (by decide) (by decide) ?_
    show Steps p.tables e below (T20.setTop (mkF m 52 #[.val (.long pl1), .second, .val (.ref b1), .val (.ref b5), .val (.double (own_nd pl1)), .second, .val (.long (((own_nl pl1).toUInt64 >>> ((11 : Int32) &&& 0x3f).toInt64.toUInt64).toInt64)), .second, .unset, .unset, .unset] [(.int (1 : Int32))])) _
    refine XS.istore X20.here hx rfl (hb hby at_52) rfl (l' := #[.val (.long pl1), .second, .val (.ref b1), .val (.ref b5), .val (.double (own_nd pl1)), .second, .val (.long (((own_nl pl1).toUInt64 >>> ((11 : Int32) &&& 0x3f).toInt64.toUInt64).toInt64)), .second, .val (.int (1 : Int32)), .unset, .unset]) rfl ?_
    show Steps p.tables e below (T20.setTop (mkF m 54 #[.val (.long pl1), .second, .val (.ref b1), .val (.ref b5), .val (.double (own_nd pl1)), .second, .val (.long (((own_nl pl1).toUInt64 >>> ((11 : Int32) &&& 0x3f).toInt64.toUInt64).toInt64)), .second, .val (.int (1 : Int32)), .unset, .unset] [])) _
    refine XS.dload X20.here hx rfl (hb hby at_54) rfl ?_
    show Steps p.tables e below (T20.setTop (mkF m 56 #[.val (.long pl1), .second, .val (.ref b1), .val (.ref b5), .val (.double (own_nd pl1)), .second, .val (.long (((own_nl pl1).toUInt64 >>> ((11 : Int32) &&& 0x3f).toInt64.toUInt64).toInt64)), .second, .val (.int (1 : Int32)), .unset, .unset] [(.double (own_nd pl1))])) _
    refine X20.ldc2DoubleC hx hown (mvT hZ (hw _ (List.mem_of_getElem? (i := 26) rfl))) (g := (mkF m 56 #[.val (.long pl1), .second, .val (.ref b1), .val (.ref b5), .val (.double (own_nd pl1)), .second, .val (.long (((own_nl pl1).toUInt64 >>> ((11 : Int32) &&& 0x3f).toInt64.toUInt64).toInt64)), .second, .val (.int (1 : Int32)), .unset, .unset] [(.double (own_nd pl1))])) rfl (hb hby at_56) _ ?_
    show Steps p.tables e below (T20.setTop (mkF m 59 #[.val (.long pl1), .second, .val (.ref b1), .val (.ref b5), .val (.double (own_nd pl1)), .second, .val (.long (((own_nl pl1).toUInt64 >>> ((11 : Int32) &&& 0x3f).toInt64.toUInt64).toInt64)), .second, .val (.int (1 : Int32)), .unset, .unset] [(.double (4845873199050653696 : UInt64)), (.double (own_nd pl1))])) _
    refine XS.dmulS X20.here hx rfl (hb hby at_59) rfl (own_k3 _) rfl ?_
    show Steps p.tables e below (T20.setTop (mkF m 60 #[.val (.long pl1), .second, .val (.ref b1), .val (.ref b5), .val (.double (own_nd pl1)), .second, .val (.long (((own_nl pl1).toUInt64 >>> ((11 : Int32) &&& 0x3f).toInt64.toUInt64).toInt64)), .second, .val (.int (1 : Int32)), .unset, .unset] [(.double (FP.dmul (own_nd pl1) (4845873199050653696 : UInt64)))])) _
    refine XS.lload X20.here hx rfl (hb hby at_60) rfl ?_
    show Steps p.tables e below (T20.setTop (mkF m 62 #[.val (.long pl1), .second, .val (.ref b1), .val (.ref b5), .val (.double (own_nd pl1)), .second, .val (.long (((own_nl pl1).toUInt64 >>> ((11 : Int32) &&& 0x3f).toInt64.toUInt64).toInt64)), .second, .val (.int (1 : Int32)), .unset, .unset] [(.long (((own_nl pl1).toUInt64 >>> ((11 : Int32) &&& 0x3f).toInt64.toUInt64).toInt64)), (.double (FP.dmul (own_nd pl1) (4845873199050653696 : UInt64)))])) _
    refine XS.l2dS X20.here hx rfl (hb hby at_62) rfl rfl ?_
    show Steps p.tables e below (T20.setTop (mkF m 63 #[.val (.long pl1), .second, .val (.ref b1), .val (.ref b5), .val (.double (own_nd pl1)), .second, .val (.long (((own_nl pl1).toUInt64 >>> ((11 : Int32) &&& 0x3f).toInt64.toUInt64).toInt64)), .second, .val (.int (1 : Int32)), .unset, .unset] [(.double (FP.l2d (((own_nl pl1).toUInt64 >>> ((11 : Int32) &&& 0x3f).toInt64.toUInt64).toInt64))), (.double (FP.dmul (own_nd pl1) (4845873199050653696 : UInt64)))])) _
    refine XS.dcmpS X20.here hx rfl (hb hby at_63) rfl rfl ?_
    show Steps p.tables e below (T20.setTop (mkF m 64 #[.val (.long pl1), .second, .val (.ref b1), .val (.ref b5), .val (.double (own_nd pl1)), .second, .val (.long (((own_nl pl1).toUInt64 >>> ((11 : Int32) &&& 0x3f).toInt64.toUInt64).toInt64)), .second, .val (.int (1 : Int32)), .unset, .unset] [(.int (cmpValue (FP.dcmp (FP.dmul (own_nd pl1) (4845873199050653696 : UInt64)) (FP.l2d (((own_nl pl1).toUInt64 >>> ((11 : Int32) &&& 0x3f).toInt64.toUInt64).toInt64))) .l))])) _
    refine XS.ifNo X20.here hx rfl (hb hby at_64) rfl ((if0 _ _).trans (teq (own_k2 _)).2) ?_
    show Steps p.tables e below (T20.setTop (mkF m 67 #[.val (.long pl1), .second, .val (.ref b1), .val (.ref b5), .val (.double (own_nd pl1)), .second, .val (.long (((own_nl pl1).toUInt64 >>> ((11 : Int32) &&& 0x3f).toInt64.toUInt64).toInt64)), .second, .val (.int (1 : Int32)), .unset, .unset] [])) _
    refine XS.iconst X20.here hx rfl (hb hby at_67) ?_
    show Steps p.tables e below (T20.setTop (mkF m 68 #[.val (.long pl1), .second, .val (.ref b1), .val (.ref b5), .val (.double (own_nd pl1)), .second, .val (.long (((own_nl pl1).toUInt64 >>> ((11 : Int32) &&& 0x3f).toInt64.toUInt64).toInt64)), .second, .val (.int (1 : Int32)), .unset, .unset] [(.int (1 : Int32))])) _
    refine XS.goto X20.here hx rfl (pc0 := 68) (pc' := 72) rfl (hb hby at_68) (by decide) (by decide) ?_
    show Steps p.tables e below (T20.setTop (mkF m 72 #[.val (.long pl1), .second, .val (.ref b1), .val (.ref b5), .val (.double (own_nd pl1)), .second, .val (.long (((own_nl pl1).toUInt64 >>> ((11 : Int32) &&& 0x3f).toInt64.toUInt64).toInt64)), .second, .val (.int (1 : Int32)), .unset, .unset] [(.int (1 : Int32))])) _
    refine XS.istore X20.here hx rfl (hb hby at_72) rfl (l' := #[.val (.long pl1), .second, .val (.ref b1), .val (.ref b5), .val (.double (own_nd pl1)), .second, .val (.long (((own_nl pl1).toUInt64 >>> ((11 : Int32) &&& 0x3f).toInt64.toUInt64).toInt64)), .second, .val (.int (1 : Int32)), .val (.int (1 : Int32)), .unset]) rfl ?_
    show Steps p.tables e below (T20.setTop (mkF m 74 #[.val (.long pl1), .second, .val (.ref b1), .val (.ref b5), .val (.double (own_nd pl1)), .second, .val (.long (((own_nl pl1).toUInt64 >>> ((11 : Int32) &&& 0x3f).toInt64.toUInt64).toInt64)), .second, .val (.int (1 : Int32)), .val (.int (1 : Int32)), .unset] [])) _
    refine XS.aloadN X20.here hx rfl (hb hby at_74) rfl rfl ?_
    show Steps p.tables e below (T20.setTop (mkF m 75 #[.val (.long pl1), .second, .val (.ref b1), .val (.ref b5), .val (.double (own_nd pl1)), .second, .val (.long (((own_nl pl1).toUInt64 >>> ((11 : Int32) &&& 0x3f).toInt64.toUInt64).toInt64)), .second, .val (.int (1 : Int32)), .val (.int (1 : Int32)), .unset] [(.ref b1)])) _
    refine st25.trans ?_
    show Steps p.tables e below (T25.setTop (mkF m 78 #[.val (.long pl1), .second, .val (.ref b1), .val (.ref b5), .val (.double (own_nd pl1)), .second, .val (.long (((own_nl pl1).toUInt64 >>> ((11 : Int32) &&& 0x3f).toInt64.toUInt64).toInt64)), .second, .val (.int (1 : Int32)), .val (.int (1 : Int32)), .unset] [(.long (own_nl (pl1 + (-7046029254386353131 : Int64))))])) _
    refine XS.aloadN X25.here hx rfl (hb hby at_78) rfl rfl ?_
    show Steps p.tables e below (T25.setTop (mkF m 79 #[.val (.long pl1), .second, .val (.ref b1), .val (.ref b5), .val (.double (own_nd pl1)), .second, .val (.long (((own_nl pl1).toUInt64 >>> ((11 : Int32) &&& 0x3f).toInt64.toUInt64).toInt64)), .second, .val (.int (1 : Int32)), .val (.int (1 : Int32)), .unset] [(.ref b5), (.long (own_nl (pl1 + (-7046029254386353131 : Int64))))])) _
    refine st30.trans ?_
    show Steps p.tables e below (T30.setTop (mkF m 82 #[.val (.long pl1), .second, .val (.ref b1), .val (.ref b5), .val (.double (own_nd pl1)), .second, .val (.long (((own_nl pl1).toUInt64 >>> ((11 : Int32) &&& 0x3f).toInt64.toUInt64).toInt64)), .second, .val (.int (1 : Int32)), .val (.int (1 : Int32)), .unset] [(.long (own_nl (pl1 + (-7046029254386353131 : Int64)))), (.long (own_nl (pl1 + (-7046029254386353131 : Int64))))])) _
    refine XS.lcmp X30.here hx rfl (hb hby at_82) rfl ?_
    show Steps p.tables e below (T30.setTop (mkF m 83 #[.val (.long pl1), .second, .val (.ref b1), .val (.ref b5), .val (.double (own_nd pl1)), .second, .val (.long (((own_nl pl1).toUInt64 >>> ((11 : Int32) &&& 0x3f).toInt64.toUInt64).toInt64)), .second, .val (.int (1 : Int32)), .val (.int (1 : Int32)), .unset] [(.int (lcmpW (own_nl (pl1 + (-7046029254386353131 : Int64))) (own_nl (pl1 + (-7046029254386353131 : Int64)))))])) _
    refine XS.ifNo X30.here hx rfl (hb hby at_83) rfl ((if0 _ _).trans (teq ((lw_eq _ _).mpr rfl)).2) ?_
    show Steps p.tables e below (T30.setTop (mkF m 86 #[.val (.long pl1), .second, .val (.ref b1), .val (.ref b5), .val (.double (own_nd pl1)), .second, .val (.long (((own_nl pl1).toUInt64 >>> ((11 : Int32) &&& 0x3f).toInt64.toUInt64).toInt64)), .second, .val (.int (1 : Int32)), .val (.int (1 : Int32)), .unset] [])) _
    refine XS.iconst X30.here hx rfl (hb hby at_86) ?_
    show Steps p.tables e below (T30.setTop (mkF m 87 #[.val (.long pl1), .second, .val (.ref b1), .val (.ref b5), .val (.double (own_nd pl1)), .second, .val (.long (((own_nl pl1).toUInt64 >>> ((11 : Int32) &&& 0x3f).toInt64.toUInt64).toInt64)), .second, .val (.int (1 : Int32)), .val (.int (1 : Int32)), .unset] [(.int (1 : Int32))])) _
    refine XS.goto X30.here hx rfl (pc0 := 87) (pc' := 91) rfl (hb hby at_87) (by decide) (by decide) ?_
    show Steps p.tables e below (T30.setTop (mkF m 91 #[.val (.long pl1), .second, .val (.ref b1), .val (.ref b5), .val (.double (own_nd pl1)), .second, .val (.long (((own_nl pl1).toUInt64 >>> ((11 : Int32) &&& 0x3f).toInt64.toUInt64).toInt64)), .second, .val (.int (1 : Int32)), .val (.int (1 : Int32)), .unset] [(.int (1 : Int32))])) _
    refine XS.istore X30.here hx rfl (hb hby at_91) rfl (l' := #[.val (.long pl1), .second, .val (.ref b1), .val (.ref b5), .val (.double (own_nd pl1)), .second, .val (.long (((own_nl pl1).toUInt64 >>> ((11 : Int32) &&& 0x3f).toInt64.toUInt64).toInt64)), .second, .val (.int (1 : Int32)), .val (.int (1 : Int32)), .val (.int (1 : Int32))]) rfl ?_
    show Steps p.tables e below (T30.setTop (mkF m 93 #[.val (.long pl1), .second, .val (.ref b1), .val (.ref b5), .val (.double (own_nd pl1)), .second, .val (.long (((own_nl pl1).toUInt64 >>> ((11 : Int32) &&& 0x3f).toInt64.toUInt64).toInt64)), .second, .val (.int (1 : Int32)), .val (.int (1 : Int32)), .val (.int (1 : Int32))] [])) _
    refine XS.iload X30.here hx rfl (hb hby at_93) rfl ?_
    show Steps p.tables e below (T30.setTop (mkF m 95 #[.val (.long pl1), .second, .val (.ref b1), .val (.ref b5), .val (.double (own_nd pl1)), .second, .val (.long (((own_nl pl1).toUInt64 >>> ((11 : Int32) &&& 0x3f).toInt64.toUInt64).toInt64)), .second, .val (.int (1 : Int32)), .val (.int (1 : Int32)), .val (.int (1 : Int32))] [(.int (1 : Int32))])) _
    refine XS.ifNo X30.here hx rfl (hb hby at_95) rfl ((if0 _ _).trans (feq (by decide : ¬ ((1 : Int32) = (0 : Int32)))).1) ?_
    show Steps p.tables e below (T30.setTop (mkF m 98 #[.val (.long pl1), .second, .val (.ref b1), .val (.ref b5), .val (.double (own_nd pl1)), .second, .val (.long (((own_nl pl1).toUInt64 >>> ((11 : Int32) &&& 0x3f).toInt64.toUInt64).toInt64)), .second, .val (.int (1 : Int32)), .val (.int (1 : Int32)), .val (.int (1 : Int32))] [])) _
    refine XS.iload X30.here hx rfl (hb hby at_98) rfl ?_
    show Steps p.tables e below (T30.setTop (mkF m 100 #[.val (.long pl1), .second, .val (.ref b1), .val (.ref b5), .val (.double (own_nd pl1)), .second, .val (.long (((own_nl pl1).toUInt64 >>> ((11 : Int32) &&& 0x3f).toInt64.toUInt64).toInt64)), .second, .val (.int (1 : Int32)), .val (.int (1 : Int32)), .val (.int (1 : Int32))] [(.int (1 : Int32))])) _
    refine XS.ifNo X30.here hx rfl (hb hby at_100) rfl ((if0 _ _).trans (feq (by decide : ¬ ((1 : Int32) = (0 : Int32)))).1) ?_
    show Steps p.tables e below (T30.setTop (mkF m 103 #[.val (.long pl1), .second, .val (.ref b1), .val (.ref b5), .val (.double (own_nd pl1)), .second, .val (.long (((own_nl pl1).toUInt64 >>> ((11 : Int32) &&& 0x3f).toInt64.toUInt64).toInt64)), .second, .val (.int (1 : Int32)), .val (.int (1 : Int32)), .val (.int (1 : Int32))] [])) _
    refine XS.iload X30.here hx rfl (hb hby at_103) rfl ?_
    show Steps p.tables e below (T30.setTop (mkF m 105 #[.val (.long pl1), .second, .val (.ref b1), .val (.ref b5), .val (.double (own_nd pl1)), .second, .val (.long (((own_nl pl1).toUInt64 >>> ((11 : Int32) &&& 0x3f).toInt64.toUInt64).toInt64)), .second, .val (.int (1 : Int32)), .val (.int (1 : Int32)), .val (.int (1 : Int32))] [(.int (1 : Int32))])) _
    refine XS.ifNo X30.here hx rfl (hb hby at_105) rfl ((if0 _ _).trans (feq (by decide : ¬ ((1 : Int32) = (0 : Int32)))).1) ?_
    show Steps p.tables e below (T30.setTop (mkF m 108 #[.val (.long pl1), .second, .val (.ref b1), .val (.ref b5), .val (.double (own_nd pl1)), .second, .val (.long (((own_nl pl1).toUInt64 >>> ((11 : Int32) &&& 0x3f).toInt64.toUInt64).toInt64)), .second, .val (.int (1 : Int32)), .val (.int (1 : Int32)), .val (.int (1 : Int32))] [])) _
    refine XS.iconst X30.here hx rfl (hb hby at_108) ?_
    show Steps p.tables e below (T30.setTop (mkF m 109 #[.val (.long pl1), .second, .val (.ref b1), .val (.ref b5), .val (.double (own_nd pl1)), .second, .val (.long (((own_nl pl1).toUInt64 >>> ((11 : Int32) &&& 0x3f).toInt64.toUInt64).toInt64)), .second, .val (.int (1 : Int32)), .val (.int (1 : Int32)), .val (.int (1 : Int32))] [(.int (1 : Int32))])) _
    refine XS.goto X30.here hx rfl (pc0 := 109) (pc' := 113) rfl (hb hby at_109) (by decide) (by decide) ?_
    show Steps p.tables e below (T30.setTop (mkF m 113 #[.val (.long pl1), .second, .val (.ref b1), .val (.ref b5), .val (.double (own_nd pl1)), .second, .val (.long (((own_nl pl1).toUInt64 >>> ((11 : Int32) &&& 0x3f).toInt64.toUInt64).toInt64)), .second, .val (.int (1 : Int32)), .val (.int (1 : Int32)), .val (.int (1 : Int32))] [(.int (1 : Int32))])) _
    exact retN X30 hx (t := .boolean) Bd.returns (by simp) (hb hby at_113) hr
  · exact ⟨rfl, N30⟩
set_option maxRecDepth 65536 in
set_option maxHeartbeats 40000000 in
theorem rm0 (l : Launch) (Z : State) (a0 : Array Value) (hw : ∀ d ∈ tables_1, d.before a0 Z = true) (ws : List Jvm.Cond) (pl1 : Int64) (h0 : Heap) (n0 : Nat) (Z0 : n0 ≤ h0.size) (O0 : Old Z n0 h0) :
    MetFree l x (head1 (Jvm.Cond.code x code maxLocals ret :: ws) room_1) (fun a U => a = #[(.long pl1)] ∧ Z.Warmed39 U.vm ∧ U.heap = h0) (fun _ _ _ _ _ => True) (fun _ U o U' => ∃ v L, o = .returned v ∧ Q0 v L n0 ∧ FrameEnd U o U' L room_1.cells room_1.slots) := by
  exact rm0_o l Z a0 hw ws pl1 h0 n0 Z0 O0  
set_option maxRecDepth 65536 in
set_option maxHeartbeats 40000000 in
theorem comes_1 {Post : Tables → Env → Array Value → State → Outcome → State → Prop} (hpost : ∀ tb e args s v u, (limb_1_1.after args s (.returned v) u = true ∧ limb_1_2.after args s (.returned v) u = true ∧ True) → FrameEnd s (.returned v) u (Jvm.fieldLocs frame_1_writes args s ++ Jvm.arrayLocs frame_1_arrays args s ++ Jvm.staticLocs frame_1_statics s) 16 128 → Post tb e args s (.returned v) u) :
    ArmFor flags0 classFile x code maxLocals ret World_1 tables_1 room_1 Calls_1 rest_1 Pre_1 Post := by
  intro l hfl _ _ p e ha hc hk s m args below hf hA hF happ hP
  obtain ⟨hcalls, hrest, hpre⟩ := hP
  obtain ⟨-, -, -, hnamed, -, -, -, hat⟩ := (Spec.applies_iff hf).mp happ
  obtain ⟨hg, hn⟩ := and_e (Cond.before_iff.mp (show (Jvm.Cond.and given_1 narrow_1).before args s = true from hpre))
  obtain ⟨g1, g2⟩ := and_e hg
  obtain ⟨w0, rfl⟩ : ∃ w0 : Value, args = #[w0] := by
    have hs : args.size = 1 := by simpa [Cond.value, given_1] using g1
    obtain ⟨L⟩ := args
    match L, hs with
    | [w0], _ => exact ⟨w0, rfl⟩
  have hw := fun d (hd : d ∈ tables_1) => atoms_spec (ws := Jvm.Cond.code x code maxLocals ret :: tables_1) hat d (List.mem_cons_of_mem _ hd)
  have hfit : Fit s := fun {y c} hc i hi => by
    obtain ⟨ha, rfl⟩ := Array.getElem?_eq_some_iff.mp hc
    have q := List.all_eq_true.mp ((Array.all_eq_true_iff_forall_mem.mp hF) _ (Array.getElem_mem ha)) i (List.mem_range.mpr hi)
    simpa [Array.getElem?_eq_getElem hi] using q
  obtain ⟨i0, ei0⟩ := isL_v g2
  obtain rfl : w0 = (.long i0) := Option.some.inj ei0
  obtain ⟨n, o, h1, h2, h3, _, L, rfl, ⟨rfl, N⟩, hq⟩ := rm0 l s _ hw tables_1 i0  s.heap s.heap.size (Nat.le_refl _) (Old.start s)  p e ha hc hk s m _ below hf ((Spec.applies_iff_loose hf).mp happ).1 ⟨rfl, State.Warmed39.refl s, rfl⟩ trivial
  refine ⟨n, _, h1, h2, h3, hpost _ _ _ _ _ _ ⟨Cond.after_iff.mpr rfl, Cond.after_iff.mpr (eq_i res_at (Term.int_eval (1)) rfl), trivial⟩ ⟨hq.1, hq.2.1, (hq.2.2.sift fun y hy => Or.inr (N y hy)).mono (by decide) (by decide)⟩⟩
theorem main_1_1 : Claimed_1_1 := comes_1 fun _ _ _ _ _ _ h hF => ⟨h.1, hF⟩
theorem main_1_2 : Claimed_1_2 := comes_1 fun _ _ _ _ _ _ h hF => ⟨h.2.1, hF⟩
end Jvm.Pilot.@@N@@
namespace Jvm.Pilot.@@N@@
open Jvm Jvm.ClassFile Sem Op Lib Jvm.Free Jvm.Stand Jvm.Pilot.@@N@@.Jvm.D
/-! MADE BY PROGRAM (witnessworld.py) out of the Statement's table words and the real class files: 9 classes; the members and pool entries that the words name. The judged class is class 1, her method 1. -/
namespace start1
open Jvm.ClassFile
def u (s : String) : CpInfo := .utf8 (stringToUtf16 s)
/-- a pool by its gaps: so many unusable entries, then the entry; so many at the end -/
def gap : Nat → List CpInfo → List CpInfo
  | 0, r => r
  | n + 1, r => .unusable :: gap n r
def poolList (es : List (Nat × CpInfo)) (last : Nat) : List CpInfo := es.foldr (fun e r => gap e.1 (e.2 :: r)) (gap last [])
def pool (es : List (Nat × CpInfo)) (last : Nat) : Array CpInfo := ⟨poolList es last⟩
def fileOf (pool : Array CpInfo) (this : Nat) (attrs : Array Attribute := #[]) (ms : Array MethodInfo := #[]) (fl : Nat := 33) (sup : Nat := 0) (ifs : Array Nat := #[]) (fds : Array FieldInfo := #[]) : ClassFile where
  minorVersion := 0
  majorVersion := 65
  constantPool := pool
  accessFlags := fl
  thisClass := this
  superClass := sup
  interfaces := ifs
  fields := fds
  methods := ms
  attributes := attrs
def plain (name : String) (sup : Option ClassId) : Class where
  name := name
  kind := .ordinary
  loader := none
  accessFlags := 33
  super := sup
  interfaces := #[]
  cf := none
  fields := #[]
  methods := #[]
  instanceTypes := #[]
  staticTypes := #[]
  resolved := #[]
  callSites := []
  init := .initialized
  statics := none
  mirror := none

def pool0 : Array CpInfo := pool [(5, u "<init>"), (0, u "()V"), (1, .class_ 10), (1, u "java/lang/Object")] 113

def k0c0 : Code := { maxStack := 0, maxLocals := 1, code := object_method_1_code, exceptionTable := #[], attributes := #[] }
def k0m0 : Method := { name := "<init>", desc := "()V", sig := { parameters := [], returnType := none }, accessFlags := 1, code := some k0c0 }
/-- java/lang/Object -/
def k0 : Class := { plain "java/lang/Object" none with
  accessFlags := 33
  interfaces := #[]
  cf := some (fileOf pool0 8 #[] #[{ accessFlags := 1, nameIndex := 5, descriptorIndex := 6, attributes := #[] }] 33 0 #[] #[])
  fields := #[]
  methods := #[k0m0]
  instanceTypes := #[]
  staticTypes := #[]
  resolved := Array.replicate 124 none
  statics := none }

def pool1 : Array CpInfo := pool [(2, .class_ 4), (1, u "java/lang/Object"), (0, u "<init>"), (0, u "()V"), (0, .class_ 8), (0, u "com/example/sitebound/sitebound/model/RandomStream"), (0, .methodref 7 10), (0, .nameAndType 5 11), (0, u "(J)V"), (0, .methodref 7 13), (0, .nameAndType 14 15), (0, u "nextDouble"), (0, u "()D"), (0, .methodref 7 17), (0, .nameAndType 18 19), (0, u "nextLong"), (0, u "()J"), (0, .double 4845873199050653696), (1, .class_ 23), (0, u "com/example/sitebound/sitebound/model/RandomStreamNextDoublePinLaw"), (2, u "law"), (0, u "(J)Z")] 3

def k1m0 : Method := { name := "<init>", desc := "()V", sig := { parameters := [], returnType := none }, accessFlags := 1, code := none }
def k1c1 : Code := { maxStack := 4, maxLocals := 11, code := code, exceptionTable := #[], attributes := #[] }
def k1m1 : Method := { name := "law", desc := "(J)Z", sig := { parameters := [.long], returnType := some .boolean }, accessFlags := 9, code := some k1c1 }
/-- com/example/sitebound/sitebound/model/RandomStreamNextDoublePinLaw -/
def k1 : Class := { plain "com/example/sitebound/sitebound/model/RandomStreamNextDoublePinLaw" (some 0) with
  accessFlags := 49
  interfaces := #[]
  cf := some (fileOf pool1 22 #[] #[{ accessFlags := 1, nameIndex := 5, descriptorIndex := 6, attributes := #[] }, { accessFlags := 9, nameIndex := 26, descriptorIndex := 27, attributes := #[] }] 49 2 #[] #[])
  fields := #[]
  methods := #[k1m0, k1m1]
  instanceTypes := #[]
  staticTypes := #[]
  resolved := Array.replicate 31 none
  statics := none }

def pool2 : Array CpInfo := pool [(1, .methodref 2 3), (0, .class_ 4), (0, .nameAndType 5 6), (0, u "java/lang/Object"), (0, u "<init>"), (0, u "()V"), (0, .fieldref 8 9), (0, .class_ 10), (0, .nameAndType 11 12), (0, u "com/example/sitebound/sitebound/model/RandomStream"), (0, u "state"), (0, u "J"), (0, .long 11400714819323198485), (1, .long 13787848793156543929), (1, .long 10723151780598845931), (1, .methodref 8 20), (0, .nameAndType 21 22), (0, u "nextLong"), (0, u "()J"), (0, .double 4368491638549381120), (3, u "nextDouble"), (0, u "()D"), (0, u "GAMMA"), (1, u "(J)V")] 6

def k2c0 : Code := { maxStack := 3, maxLocals := 3, code := prog_15_method_1_code, exceptionTable := #[], attributes := #[] }
def k2m0 : Method := { name := "<init>", desc := "(J)V", sig := { parameters := [.long], returnType := none }, accessFlags := 1, code := some k2c0 }
def k2c1 : Code := { maxStack := 5, maxLocals := 3, code := prog_15_method_2_code, exceptionTable := #[], attributes := #[] }
def k2m1 : Method := { name := "nextLong", desc := "()J", sig := { parameters := [], returnType := some .long }, accessFlags := 1, code := some k2c1 }
def k2c2 : Code := { maxStack := 4, maxLocals := 1, code := prog_15_method_3_code, exceptionTable := #[], attributes := #[] }
def k2m2 : Method := { name := "nextDouble", desc := "()D", sig := { parameters := [], returnType := some .double }, accessFlags := 1, code := some k2c2 }
/-- com/example/sitebound/sitebound/model/RandomStream -/
def k2 : Class := { plain "com/example/sitebound/sitebound/model/RandomStream" (some 0) with
  accessFlags := 49
  interfaces := #[]
  cf := some (fileOf pool2 8 #[] #[{ accessFlags := 1, nameIndex := 5, descriptorIndex := 31, attributes := #[] }, { accessFlags := 1, nameIndex := 21, descriptorIndex := 22, attributes := #[] }, { accessFlags := 1, nameIndex := 27, descriptorIndex := 28, attributes := #[] }] 49 2 #[] #[{ accessFlags := 26, nameIndex := 29, descriptorIndex := 12, attributes := #[] }, { accessFlags := 2, nameIndex := 11, descriptorIndex := 12, attributes := #[] }])
  fields := #[{ name := "GAMMA", type := .long, accessFlags := 26, slot := 0, constantValue := 0 }, { name := "state", type := .long, accessFlags := 2, slot := 0, constantValue := 0 }]
  methods := #[k2m0, k2m1, k2m2]
  instanceTypes := #[.long]
  staticTypes := #[.long]
  resolved := Array.replicate 38 none
  statics := none }

def pool3 : Array CpInfo := pool [(1, u "java/lang/Cloneable"), (0, .class_ 1), (0, u "java/lang/Object"), (0, .class_ 3)] 3

/-- java/lang/Cloneable -/
def k3 : Class := { plain "java/lang/Cloneable" (some 0) with
  accessFlags := 1537
  interfaces := #[]
  cf := some (fileOf pool3 2 #[] #[] 1537 4 #[] #[])
  fields := #[]
  methods := #[]
  instanceTypes := #[]
  staticTypes := #[]
  resolved := Array.replicate 8 none
  statics := none }

def pool4 : Array CpInfo := pool [(1, u "java/io/Serializable"), (0, .class_ 1), (0, u "java/lang/Object"), (0, .class_ 3)] 3

/-- java/io/Serializable -/
def k4 : Class := { plain "java/io/Serializable" (some 0) with
  accessFlags := 1537
  interfaces := #[]
  cf := some (fileOf pool4 2 #[] #[] 1537 4 #[] #[])
  fields := #[]
  methods := #[]
  instanceTypes := #[]
  staticTypes := #[]
  resolved := Array.replicate 8 none
  statics := none }

/-- the primitive byte -/
def k5 : Class := { plain "byte" none with kind := .primitive 'B', accessFlags := 0x411 }
/-- [B -/
def k6 : Class := { plain "[B" (some 0) with kind := .array 5 .byte, interfaces := #[3, 4], accessFlags := 1041 }

/-- the primitive int -/
def k7 : Class := { plain "int" none with kind := .primitive 'I', accessFlags := 0x411 }
/-- [I -/
def k8 : Class := { plain "[I" (some 0) with kind := .array 7 .int, interfaces := #[3, 4], accessFlags := 1041 }

def heap : Heap := #[]
def classes : Array Class := #[k0, k1, k2, k3, k4, k5, k6, k7, k8]
def interned : List (Array UInt16 × Addr) := []
def slotsUsed : Nat := 0
def theMethod : MethodId := ⟨1, 1⟩
def args0 : Array Value := #[.long 5]
def aboutOver (below : List Frame) : State where
  vm := { classes := classes, interned := interned.toArray }
  heap := heap
  slotsUsed := slotsUsed
  threads := #[{ frames := .invoking theMethod args0 :: below }]
def below0 : List Frame := [.native { method := ⟨0, 0⟩, args := #[] }]
def about1 : State := aboutOver below0
def p0 : Program := .bare "" "" ""
def e0 : Env := launch0.env 0 0 0
theorem w_frames : about1.frames = Frame.invoking theMethod args0 :: below0 := rfl
set_option maxRecDepth 65536 in
theorem w_args : argsFit about1.vm theMethod args0 = true := by decide +kernel
set_option maxRecDepth 65536 in
theorem w_heap : heapFits about1 = true := by decide +kernel
set_option maxRecDepth 65536 in
theorem w_runnable : about1.curStatus? = some .runnable := by decide +kernel
set_option maxRecDepth 65536 in
theorem w_alone : about1.alone = true := by decide +kernel
set_option maxRecDepth 65536 in
theorem w_named : about1.methodNamed? x = some theMethod := by decide +kernel
set_option maxRecDepth 65536 in
theorem w_hears : about1.hears theMethod below0 = true := by decide +kernel
set_option maxRecDepth 65536 in
theorem w_ripe : about1.ripe theMethod args0 below0 = true := by decide +kernel
theorem w_running : about1.status = .running := rfl
set_option maxRecDepth 65536 in
theorem w_room : about1.hasRoom e0.platform room_1 = true :=
  launch0.hasRoom_least _ room_1 (by decide +kernel) (by decide +kernel) (by decide +kernel) (by decide +kernel) (by decide +kernel) (by decide +kernel)
theorem allAtoms_all (ts : List Jvm.Cond) (a : Array Jvm.Value) (st : Jvm.State) : (allAtoms ts).before a st = ts.all (fun c => c.before a st) := by
  induction ts with
  | nil => rfl
  | cons c t ih =>
    show (Jvm.Cond.and c (allAtoms t)).before a st = _
    rw [Jvm.Cond.before_and, ih, List.all_cons]
def words1 : List Jvm.Cond := Jvm.Cond.code x code maxLocals ret :: tables_1
/-- a 'code' word, met by the world's own term for the bytes: nothing is compared byte by byte -/
theorem code_word {y : MethodName} {bytes : ByteArray} {mx : Nat} {rt : Option FieldType} {a : Array Value} {s : State} {m : MethodId} {meth : Method} {c : Code} (h1 : s.methodNamed? y = some m) (h2 : s.vm.method? m = some meth) (h3 : meth.code = some c) (h4 : c.code = bytes)
    (h5 : (c.maxLocals == mx && c.exceptionTable.isEmpty && decide (c.maxStack ≤ mostOperands) && decide (meth.sig.returnType = rt) && !meth.locks && decide (parseMethodDescriptor y.desc = some meth.sig)) = true) : (Jvm.Cond.code y bytes mx rt).before a s = true := by
  simp only [Bool.and_eq_true, beq_iff_eq, Bool.not_eq_true', decide_eq_true_eq] at h5
  obtain ⟨⟨⟨⟨⟨g1, g2⟩, g3⟩, g4⟩, g5⟩, g6⟩ := h5
  simp [Cond.before, Cond.holds, Cond.value, h1, h2, h3, h4, g1, g2, g3, g4, g5, g6]
def isCode : Jvm.Cond → Bool
  | .code _ _ _ _ => true
  | _ => false
theorem all_split {L : List Jvm.Cond} {P : Jvm.Cond → Bool} (h1 : L.all (fun c => isCode c || P c) = true) (h2 : ∀ c ∈ L.filter isCode, P c = true) : L.all P = true := by
  refine List.all_eq_true.mpr fun c hc => ?_
  have h := List.all_eq_true.mp h1 c hc
  rcases Bool.eq_false_or_eq_true (isCode c) with hi | hi
  · exact h2 c (List.mem_filter.mpr ⟨hc, hi⟩)
  · simpa [hi] using h
set_option maxRecDepth 65536 in
theorem w_c0 : (Jvm.Cond.code x code maxLocals ret).before args0 about1 = true := code_word (m := ⟨1, 1⟩) (meth := k1m1) (c := k1c1) (by decide +kernel) rfl rfl rfl (by decide +kernel)
set_option maxRecDepth 65536 in
theorem w_c1 : (Jvm.Cond.code ({ cls := "com/example/sitebound/sitebound/model/RandomStream", name := "<init>", desc := "(J)V" } : Jvm.MethodName) prog_15_method_1_code (3 : Nat) (Option.none : Option Jvm.ClassFile.FieldType)).before args0 about1 = true := code_word (m := ⟨2, 0⟩) (meth := k2m0) (c := k2c0) (by decide +kernel) rfl rfl rfl (by decide +kernel)
set_option maxRecDepth 65536 in
theorem w_c2 : (Jvm.Cond.code ({ cls := "java/lang/Object", name := "<init>", desc := "()V" } : Jvm.MethodName) object_method_1_code (1 : Nat) (Option.none : Option Jvm.ClassFile.FieldType)).before args0 about1 = true := code_word (m := ⟨0, 0⟩) (meth := k0m0) (c := k0c0) (by decide +kernel) rfl rfl rfl (by decide +kernel)
set_option maxRecDepth 65536 in
theorem w_c3 : (Jvm.Cond.code ({ cls := "com/example/sitebound/sitebound/model/RandomStream", name := "nextDouble", desc := "()D" } : Jvm.MethodName) prog_15_method_3_code (1 : Nat) (Option.some Jvm.ClassFile.FieldType.double)).before args0 about1 = true := code_word (m := ⟨2, 2⟩) (meth := k2m2) (c := k2c2) (by decide +kernel) rfl rfl rfl (by decide +kernel)
set_option maxRecDepth 65536 in
theorem w_c4 : (Jvm.Cond.code ({ cls := "com/example/sitebound/sitebound/model/RandomStream", name := "nextLong", desc := "()J" } : Jvm.MethodName) prog_15_method_2_code (3 : Nat) (Option.some Jvm.ClassFile.FieldType.long)).before args0 about1 = true := code_word (m := ⟨2, 1⟩) (meth := k2m1) (c := k2c1) (by decide +kernel) rfl rfl rfl (by decide +kernel)
def codes1 : List Jvm.Cond := [Jvm.Cond.code x code maxLocals ret, Jvm.Cond.code ({ cls := "com/example/sitebound/sitebound/model/RandomStream", name := "<init>", desc := "(J)V" } : Jvm.MethodName) prog_15_method_1_code (3 : Nat) (Option.none : Option Jvm.ClassFile.FieldType), Jvm.Cond.code ({ cls := "java/lang/Object", name := "<init>", desc := "()V" } : Jvm.MethodName) object_method_1_code (1 : Nat) (Option.none : Option Jvm.ClassFile.FieldType), Jvm.Cond.code ({ cls := "com/example/sitebound/sitebound/model/RandomStream", name := "nextDouble", desc := "()D" } : Jvm.MethodName) prog_15_method_3_code (1 : Nat) (Option.some Jvm.ClassFile.FieldType.double), Jvm.Cond.code ({ cls := "com/example/sitebound/sitebound/model/RandomStream", name := "nextLong", desc := "()J" } : Jvm.MethodName) prog_15_method_2_code (3 : Nat) (Option.some Jvm.ClassFile.FieldType.long)]
set_option maxRecDepth 65536 in
theorem codes_eq : words1.filter isCode = codes1 := rfl
theorem w_codes : ∀ c ∈ words1.filter isCode, c.before args0 about1 = true := by
  rw [codes_eq]
  intro c hc
  simp only [codes1, List.mem_cons, List.not_mem_nil, or_false] at hc
  rcases hc with rfl | rfl | rfl | rfl | rfl
  · exact w_c0
  · exact w_c1
  · exact w_c2
  · exact w_c3
  · exact w_c4
set_option maxRecDepth 65536 in
theorem w_t1 : (words1.take 24).all (fun c => isCode c || c.before args0 about1) = true := by decide +kernel
set_option maxRecDepth 65536 in
theorem w_t2 : (words1.drop 24).all (fun c => isCode c || c.before args0 about1) = true := by decide +kernel
theorem w_tables : (allAtoms (Jvm.Cond.code x code maxLocals ret :: tables_1)).before args0 about1 = true := by
  rw [allAtoms_all]
  show words1.all (fun c => c.before args0 about1) = true
  refine all_split ?_ w_codes
  rw [← List.take_append_drop 24 words1, List.all_append, w_t1, w_t2]
  rfl
set_option maxRecDepth 65536 in
theorem w_case : (Jvm.Cond.and given_1 narrow_1).before args0 about1 = true := by decide +kernel
theorem w_applies : (headSpec (Jvm.Cond.code x code maxLocals ret :: tables_1) room_1).applies x e0.platform about1 = true :=
  (Spec.applies_iff w_frames).mpr ⟨w_running, w_runnable, w_alone, w_named, w_hears, w_ripe, w_room, w_tables⟩
theorem atStart : AtStart classFile x code maxLocals ret World_1 tables_1 room_1 Calls_1 rest_1 Pre_1 launch0 p0 e0 about1 theMethod args0 below0 :=
  ⟨lists_1, trivial, launch0.admits_env _ _ _, launch0.least_env, fairChoices_fair.cas, fairChoices_fair.clock, w_frames, w_args, w_heap, w_applies, trivial, trivial, w_case⟩
end start1
theorem witness_1 : WitnessClaimed_1 := ⟨start1.p0, start1.e0, start1.about1, start1.theMethod, start1.args0, start1.below0, start1.atStart⟩
end Jvm.Pilot.@@N@@
